import JvmDerived
import JvmDerived.Pilot.@@N@@Statement
import JvmDerived.Pilot.@@N@@Code
set_option linter.unusedVariables false
set_option linter.unusedSimpArgs false
namespace Jvm.RoadKit
open Sem ClassFile Op Lib Jvm.Stand Jvm.Free Jvm.LawKit
section New
variable {p : Program} {l : Launch} {e : Env} {R : Room} {s : State} {m : MethodId} {args : Array Value} {below : List Frame} {meth : Method} {c : Code} {T : State} {locs : List Loc} {cells slots : Nat}
theorem retI (X : Stand p l e R s m args below meth c T locs cells slots) (hx : p.tables.exec = Jvm.exec) {pc : Nat} {Ls : Array Slot} {z : Int32} {rest : List Value} (hret : meth.sig.returnType = some .int) (hd : decode c.code pc = .ok (.ireturn, 1)) {fs : List Frame}
    (hl : ∀ (f : JFrame) (acts : List Action), f.method = m → f.locked = none → f.entered = [] → (doReturn e (T.setTop f) acts (some (.int z))).1 = T.setFrames fs) : Steps p.tables e below (T.setTop (mkF m pc Ls (.int z :: rest))) (T.setFrames fs) := by
  have hm' : T.vm.method? m = some meth := X.method'
  have hn : narrow .int (.int z) = .int z := rfl
  show Steps p.tables e below (T.setTop { method := m, pc := pc, locals := Ls, stack := _ :: rest, locked := none }) _
  jvm_step X.here [X.here.top, hx, hd, hm', hret, hn]
  first | (intro acts; rw [hl _ acts rfl rfl rfl]) | rw [hl _ _ rfl rfl rfl]
  exact Steps.refl _
end New
end Jvm.RoadKit
namespace Jvm.Pilot.@@N@@
open Jvm Jvm.ClassFile Sem Op Lib Jvm.Free Jvm.Stand Jvm.LawKit Jvm.RoadKit Bundle Jvm.Pilot.@@N@@.Jvm.D
/-- from u the invocation ends, and what it returns and leaves is as Q says -/
def Ends (p : Program) (e : Env) (below : List Frame) (s : State) (kc ks : Nat) (Q : Option Value → Heap → List Loc → Prop) (u : State) : Prop :=
  ∃ s₂ o, Steps p.tables e below u s₂ ∧ s₂.status = .running ∧ Ended s₂ below o ∧ ∃ v L, o = .returned v ∧ Q v s₂.heap L ∧ FrameEnd s o s₂ L kc ks
theorem Ends.via {p : Program} {e : Env} {below : List Frame} {s : State} {kc ks : Nat} {Q : Option Value → Heap → List Loc → Prop} {A B : State} (h : ∀ t, Steps p.tables e below A t → Steps p.tables e below B t) (k : Ends p e below s kc ks Q A) : Ends p e below s kc ks Q B := by
  obtain ⟨s₂, o, h1, r⟩ := k
  exact ⟨s₂, o, h _ h1, r⟩
theorem Ends.ret {p : Program} {l : Launch} {e : Env} {R : Room} {s : State} {m : MethodId} {args : Array Value} {below : List Frame} {meth : Method} {c : Code} {T : State} {locs : List Loc} {cells slots kc ks : Nat} {Q : Option Value → Heap → List Loc → Prop} {u : State}
    (X : Stand p l e R s m args below meth c T locs cells slots) {v : Option Value} (hv : meth.sig.returnType = none → v = none) (hlocks : meth.locks = false)
    (hst : ∀ fs, (∀ (f : JFrame) (acts : List Action), f.method = m → f.locked = none → f.entered = [] → (doReturn e (T.setTop f) acts v).1 = T.setFrames fs) → Steps p.tables e below u (T.setFrames fs))
    (hQ : Q v T.heap locs) (h1 : cells ≤ kc) (h2 : slots ≤ ks) : Ends p e below s kc ks Q u := by
  obtain ⟨fs, hr, hrun, hended, hW, hsame⟩ := X.leave (v := v) hv hlocks
  exact ⟨_, _, hst fs hr, hrun, hended, _, _, rfl, hQ, ⟨_, rfl⟩, hW, hsame.mono h1 h2⟩

theorem own_pd0 : parseMethodDescriptor "(IIII)V" = some ⟨[.int, .int, .int, .int], none⟩ := by decide +kernel
theorem own_pd1 : parseMethodDescriptor "()I" = some ⟨[], some .int⟩ := by decide +kernel
theorem d1_0 : decode prog_12_method_1_code 0 = .ok (.aload_n 0, 1) := by decide +kernel
theorem d1_1 : decode prog_12_method_1_code 1 = .ok (.invokespecial 3, 3) := by decide +kernel
theorem d1_4 : decode prog_12_method_1_code 4 = .ok (.aload_n 0, 1) := by decide +kernel
theorem d1_5 : decode prog_12_method_1_code 5 = .ok (.iload_n 1, 1) := by decide +kernel
theorem d1_6 : decode prog_12_method_1_code 6 = .ok (.putfield 9, 3) := by decide +kernel
theorem d1_9 : decode prog_12_method_1_code 9 = .ok (.aload_n 0, 1) := by decide +kernel
theorem d1_10 : decode prog_12_method_1_code 10 = .ok (.iload_n 2, 1) := by decide +kernel
theorem d1_11 : decode prog_12_method_1_code 11 = .ok (.putfield 13, 3) := by decide +kernel
theorem d1_14 : decode prog_12_method_1_code 14 = .ok (.aload_n 0, 1) := by decide +kernel
theorem d1_15 : decode prog_12_method_1_code 15 = .ok (.iload_n 3, 1) := by decide +kernel
theorem d1_16 : decode prog_12_method_1_code 16 = .ok (.putfield 16, 3) := by decide +kernel
theorem d1_19 : decode prog_12_method_1_code 19 = .ok (.aload_n 0, 1) := by decide +kernel
theorem d1_20 : decode prog_12_method_1_code 20 = .ok (.iload 4, 2) := by decide +kernel
theorem d1_22 : decode prog_12_method_1_code 22 = .ok (.putfield 19, 3) := by decide +kernel
theorem d1_25 : decode prog_12_method_1_code 25 = .ok (.return_, 1) := by decide +kernel
theorem pn_1 : plainName "com/example/okno/okno/Insets" = true := by first | (simp [plainName, overriddenIn]; done) | decide +kernel
theorem ef_1 (m : MethodId) (a0 : Addr) (p1 : Int32) (p2 : Int32) (p3 : Int32) (p4 : Int32) : entryFrame m #[(.ref a0), (.int p1), (.int p2), (.int p3), (.int p4)] 5 = mkF m 0 #[.val (.ref a0), .val (.int p1), .val (.int p2), .val (.int p3), .val (.int p4)] [] := by first | (simp [entryFrame, mkF, argsToLocals, Value.category]; done) | rfl
abbrev ROOM1 : Room := { frames := 1, cells := 0, slots := 0, locals := 12 }
def Q1 (Z : State) (a0 : Addr) (p1 : Int32) (p2 : Int32) (p3 : Int32) (p4 : Int32)  (u_left : Value) (u_top : Value) (u_right : Value) (u_bottom : Value) (h0 : Heap) (n0 : Nat) (v : Option Value) (h : Heap) (L : List Loc) : Prop := v = none ∧ Fr n0 L ∧ Keep h0 h [a0] ∧ Exa Z h a0 "com/example/okno/okno/Insets" ∧ Fld Z h a0 "com/example/okno/okno/Insets" "left" "I" (.int p1) ∧ Fld Z h a0 "com/example/okno/okno/Insets" "top" "I" (.int p2) ∧ Fld Z h a0 "com/example/okno/okno/Insets" "right" "I" (.int p3) ∧ Fld Z h a0 "com/example/okno/okno/Insets" "bottom" "I" (.int p4)
set_option maxRecDepth 65536 in
set_option maxHeartbeats 40000000 in
theorem rm1 (l : Launch) (Z : State) (a0 : Array Value) (hw : ∀ d ∈ tables_1, d.before a0 Z = true) (ws : List Jvm.Cond) (a0 : Addr) (p1 : Int32) (p2 : Int32) (p3 : Int32) (p4 : Int32)  (u_left : Value) (u_top : Value) (u_right : Value) (u_bottom : Value) (h0 : Heap) (n0 : Nat) (Z0 : n0 ≤ h0.size)  (g_a0 : n0 ≤ a0) (E_a0 : Exa Z h0 a0 "com/example/okno/okno/Insets") (F_left : Fld Z h0 a0 "com/example/okno/okno/Insets" "left" "I" u_left) (F_top : Fld Z h0 a0 "com/example/okno/okno/Insets" "top" "I" u_top) (F_right : Fld Z h0 a0 "com/example/okno/okno/Insets" "right" "I" u_right) (F_bottom : Fld Z h0 a0 "com/example/okno/okno/Insets" "bottom" "I" u_bottom) :
    MetFree l (⟨"com/example/okno/okno/Insets", "<init>", "(IIII)V"⟩ : MethodName) (head1 (Jvm.Cond.code (⟨"com/example/okno/okno/Insets", "<init>", "(IIII)V"⟩ : MethodName) prog_12_method_1_code 5 none :: ws) ROOM1) (fun a U => a = #[(.ref a0), (.int p1), (.int p2), (.int p3), (.int p4)] ∧ Z.Warmed39 U.vm ∧ U.heap = h0) (fun _ _ _ _ _ => True) (fun _ U o U' => ∃ v L, o = .returned v ∧ Q1 Z a0 p1 p2 p3 p4  u_left u_top u_right u_bottom h0 n0 v U'.heap L ∧ FrameEnd U o U' L ROOM1.cells ROOM1.slots) := by
  refine MetFree.of_bodySF (plainFor_of_name pn_1) hisR ?_
  intro p e s m args below meth c s₁ Bd hml0 hP hK
  obtain ⟨rfl, hZ, hh⟩ := hP
  have hx := Bd.exec
  have hby := Bd.bytes
  have hml : c.maxLocals = 5 := hml0
  have hown : s.vm.findClass "com/example/okno/okno/Insets" = some m.cls := findClass_of_methodNamed Bd.named
  have hnm := (name_of_methodNamed Bd.named Bd.method).1
  have X0 : Stand p l e ROOM1 s m #[(.ref a0), (.int p1), (.int p2), (.int p3), (.int p4)] below meth c s₁ [] 0 0 := Stand.of_body Bd
  have e0 : s₁.heap = h0 := by rw [← hh, Bd.state]; rfl
  have N0 := Fr.nil n0
  refine Ends.via (A := s₁.setTop (mkF m 0 #[.val (.ref a0), .val (.int p1), .val (.int p2), .val (.int p3), .val (.int p4)] [])) (kc := ROOM1.cells) (ks := ROOM1.slots) (Q := (Q1 Z a0 p1 p2 p3 p4  u_left u_top u_right u_bottom h0 n0)) (fun t k => castTop (ef_1 m a0 p1 p2 p3 p4) k) ?_
  show Ends p e below s ROOM1.cells ROOM1.slots (Q1 Z a0 p1 p2 p3 p4  u_left u_top u_right u_bottom h0 n0) (s₁.setTop (mkF m 0 #[.val (.ref a0), .val (.int p1), .val (.int p2), .val (.int p3), .val (.int p4)] []))
  refine Ends.via (fun _ k => XS.aloadN X0.here hx rfl (hb hby d1_0) rfl rfl k) ?_
  show Ends p e below s ROOM1.cells ROOM1.slots (Q1 Z a0 p1 p2 p3 p4  u_left u_top u_right u_bottom h0 n0) (s₁.setTop (mkF m 1 #[.val (.ref a0), .val (.int p1), .val (.int p2), .val (.int p3), .val (.int p4)] [(.ref a0)]))
  obtain ⟨T15, X15, e15, st15⟩ := initO X0 hx hZ hown (hw _ (List.mem_of_getElem? (i := 6) rfl)) (hw _ (List.mem_of_getElem? (i := 7) rfl)) (hw _ (List.mem_of_getElem? (i := 8) rfl)) e0 (g := (mkF m 1 #[.val (.ref a0), .val (.int p1), .val (.int p2), .val (.int p3), .val (.int p4)] [(.ref a0)])) rfl (by rw [hml]; rfl) rfl (hb hby d1_1) (by decide) (W := 0) (by show 2 * 0 + _ ≤ _; exact Nat.le_of_eq rfl) (by decide)
  refine Ends.via st15 ?_
  show Ends p e below s ROOM1.cells ROOM1.slots (Q1 Z a0 p1 p2 p3 p4  u_left u_top u_right u_bottom h0 n0) (T15.setTop (mkF m 4 #[.val (.ref a0), .val (.int p1), .val (.int p2), .val (.int p3), .val (.int p4)] []))
  refine Ends.via (fun _ k => XS.aloadN X15.here hx rfl (hb hby d1_4) rfl rfl k) ?_
  show Ends p e below s ROOM1.cells ROOM1.slots (Q1 Z a0 p1 p2 p3 p4  u_left u_top u_right u_bottom h0 n0) (T15.setTop (mkF m 5 #[.val (.ref a0), .val (.int p1), .val (.int p2), .val (.int p3), .val (.int p4)] [(.ref a0)]))
  refine Ends.via (fun _ k => XS.iloadN X15.here hx rfl (hb hby d1_5) rfl k) ?_
  show Ends p e below s ROOM1.cells ROOM1.slots (Q1 Z a0 p1 p2 p3 p4  u_left u_top u_right u_bottom h0 n0) (T15.setTop (mkF m 6 #[.val (.ref a0), .val (.int p1), .val (.int p2), .val (.int p3), .val (.int p4)] [(.int p1), (.ref a0)]))
  obtain ⟨T16, h16, X16, e16, W16, st16⟩ := putF X15 hx hZ hown (host := "") (Or.inl (hw _ (List.mem_of_getElem? (i := 9) rfl))) Via.refl e15 F_left E_a0 (Or.inr ⟨(hw _ (List.mem_of_getElem? (i := 10) rfl)), rfl, hnm⟩) (hw _ (List.mem_of_getElem? (i := 1) rfl)) (ty := .int) (by decide) rfl rfl (g := (mkF m 6 #[.val (.ref a0), .val (.int p1), .val (.int p2), .val (.int p3), .val (.int p4)] [(.int p1), (.ref a0)])) rfl rfl (hb hby d1_6)
  have f16_0 := E_a0.wr W16
  have f16_1 := F_left.same W16
  have f16_2 := F_top.other W16 (Or.inr (slot_ne (Or.inr (hw _ (List.mem_of_getElem? (i := 12) rfl))) (Or.inr (hw _ (List.mem_of_getElem? (i := 10) rfl))) (by decide) (t := .int) (t' := .int) (by decide) (by decide)))
  have f16_3 := F_right.other W16 (Or.inr (slot_ne (Or.inr (hw _ (List.mem_of_getElem? (i := 14) rfl))) (Or.inr (hw _ (List.mem_of_getElem? (i := 10) rfl))) (by decide) (t := .int) (t' := .int) (by decide) (by decide)))
  have f16_4 := F_bottom.other W16 (Or.inr (slot_ne (Or.inr (hw _ (List.mem_of_getElem? (i := 16) rfl))) (Or.inr (hw _ (List.mem_of_getElem? (i := 10) rfl))) (by decide) (t := .int) (t' := .int) (by decide) (by decide)))
  have Z16 : n0 ≤ h16.size := Nat.le_trans Z0 (Keep.of_wr W16).1
  have K16 := Keep.wr (Keep.refl h0 [a0]) W16 (Or.inl (List.mem_of_getElem? (i := 0) rfl))
  have N16 := Fr.snoc X16 N0 g_a0
  refine Ends.via st16 ?_
  show Ends p e below s ROOM1.cells ROOM1.slots (Q1 Z a0 p1 p2 p3 p4  u_left u_top u_right u_bottom h0 n0) (T16.setTop (mkF m 9 #[.val (.ref a0), .val (.int p1), .val (.int p2), .val (.int p3), .val (.int p4)] []))
  refine Ends.via (fun _ k => XS.aloadN X16.here hx rfl (hb hby d1_9) rfl rfl k) ?_
  show Ends p e below s ROOM1.cells ROOM1.slots (Q1 Z a0 p1 p2 p3 p4  u_left u_top u_right u_bottom h0 n0) (T16.setTop (mkF m 10 #[.val (.ref a0), .val (.int p1), .val (.int p2), .val (.int p3), .val (.int p4)] [(.ref a0)]))
  refine Ends.via (fun _ k => XS.iloadN X16.here hx rfl (hb hby d1_10) rfl k) ?_
  show Ends p e below s ROOM1.cells ROOM1.slots (Q1 Z a0 p1 p2 p3 p4  u_left u_top u_right u_bottom h0 n0) (T16.setTop (mkF m 11 #[.val (.ref a0), .val (.int p1), .val (.int p2), .val (.int p3), .val (.int p4)] [(.int p2), (.ref a0)]))
  obtain ⟨T17, h17, X17, e17, W17, st17⟩ := putF X16 hx hZ hown (host := "") (Or.inl (hw _ (List.mem_of_getElem? (i := 11) rfl))) Via.refl e16 f16_2 f16_0 (Or.inr ⟨(hw _ (List.mem_of_getElem? (i := 12) rfl)), rfl, hnm⟩) (hw _ (List.mem_of_getElem? (i := 1) rfl)) (ty := .int) (by decide) rfl rfl (g := (mkF m 11 #[.val (.ref a0), .val (.int p1), .val (.int p2), .val (.int p3), .val (.int p4)] [(.int p2), (.ref a0)])) rfl rfl (hb hby d1_11)
  have f17_0 := f16_0.wr W17
  have f17_1 := f16_1.other W17 (Or.inr (slot_ne (Or.inr (hw _ (List.mem_of_getElem? (i := 10) rfl))) (Or.inr (hw _ (List.mem_of_getElem? (i := 12) rfl))) (by decide) (t := .int) (t' := .int) (by decide) (by decide)))
  have f17_2 := f16_2.same W17
  have f17_3 := f16_3.other W17 (Or.inr (slot_ne (Or.inr (hw _ (List.mem_of_getElem? (i := 14) rfl))) (Or.inr (hw _ (List.mem_of_getElem? (i := 12) rfl))) (by decide) (t := .int) (t' := .int) (by decide) (by decide)))
  have f17_4 := f16_4.other W17 (Or.inr (slot_ne (Or.inr (hw _ (List.mem_of_getElem? (i := 16) rfl))) (Or.inr (hw _ (List.mem_of_getElem? (i := 12) rfl))) (by decide) (t := .int) (t' := .int) (by decide) (by decide)))
  have Z17 : n0 ≤ h17.size := Nat.le_trans Z16 (Keep.of_wr W17).1
  have K17 := Keep.wr K16 W17 (Or.inl (List.mem_of_getElem? (i := 0) rfl))
  have N17 := Fr.snoc X17 N16 g_a0
  refine Ends.via st17 ?_
  show Ends p e below s ROOM1.cells ROOM1.slots (Q1 Z a0 p1 p2 p3 p4  u_left u_top u_right u_bottom h0 n0) (T17.setTop (mkF m 14 #[.val (.ref a0), .val (.int p1), .val (.int p2), .val (.int p3), .val (.int p4)] []))
  refine Ends.via (fun _ k => XS.aloadN X17.here hx rfl (hb hby d1_14) rfl rfl k) ?_
  show Ends p e below s ROOM1.cells ROOM1.slots (Q1 Z a0 p1 p2 p3 p4  u_left u_top u_right u_bottom h0 n0) (T17.setTop (mkF m 15 #[.val (.ref a0), .val (.int p1), .val (.int p2), .val (.int p3), .val (.int p4)] [(.ref a0)]))
  refine Ends.via (fun _ k => XS.iloadN X17.here hx rfl (hb hby d1_15) rfl k) ?_
  show Ends p e below s ROOM1.cells ROOM1.slots (Q1 Z a0 p1 p2 p3 p4  u_left u_top u_right u_bottom h0 n0) (T17.setTop (mkF m 16 #[.val (.ref a0), .val (.int p1), .val (.int p2), .val (.int p3), .val (.int p4)] [(.int p3), (.ref a0)]))
  obtain ⟨T18, h18, X18, e18, W18, st18⟩ := putF X17 hx hZ hown (host := "") (Or.inl (hw _ (List.mem_of_getElem? (i := 13) rfl))) Via.refl e17 f17_3 f17_0 (Or.inr ⟨(hw _ (List.mem_of_getElem? (i := 14) rfl)), rfl, hnm⟩) (hw _ (List.mem_of_getElem? (i := 1) rfl)) (ty := .int) (by decide) rfl rfl (g := (mkF m 16 #[.val (.ref a0), .val (.int p1), .val (.int p2), .val (.int p3), .val (.int p4)] [(.int p3), (.ref a0)])) rfl rfl (hb hby d1_16)
  have f18_0 := f17_0.wr W18
  have f18_1 := f17_1.other W18 (Or.inr (slot_ne (Or.inr (hw _ (List.mem_of_getElem? (i := 10) rfl))) (Or.inr (hw _ (List.mem_of_getElem? (i := 14) rfl))) (by decide) (t := .int) (t' := .int) (by decide) (by decide)))
  have f18_2 := f17_2.other W18 (Or.inr (slot_ne (Or.inr (hw _ (List.mem_of_getElem? (i := 12) rfl))) (Or.inr (hw _ (List.mem_of_getElem? (i := 14) rfl))) (by decide) (t := .int) (t' := .int) (by decide) (by decide)))
  have f18_3 := f17_3.same W18
  have f18_4 := f17_4.other W18 (Or.inr (slot_ne (Or.inr (hw _ (List.mem_of_getElem? (i := 16) rfl))) (Or.inr (hw _ (List.mem_of_getElem? (i := 14) rfl))) (by decide) (t := .int) (t' := .int) (by decide) (by decide)))
  have Z18 : n0 ≤ h18.size := Nat.le_trans Z17 (Keep.of_wr W18).1
  have K18 := Keep.wr K17 W18 (Or.inl (List.mem_of_getElem? (i := 0) rfl))
  have N18 := Fr.snoc X18 N17 g_a0
  refine Ends.via st18 ?_
  show Ends p e below s ROOM1.cells ROOM1.slots (Q1 Z a0 p1 p2 p3 p4  u_left u_top u_right u_bottom h0 n0) (T18.setTop (mkF m 19 #[.val (.ref a0), .val (.int p1), .val (.int p2), .val (.int p3), .val (.int p4)] []))
  refine Ends.via (fun _ k => XS.aloadN X18.here hx rfl (hb hby d1_19) rfl rfl k) ?_
  show Ends p e below s ROOM1.cells ROOM1.slots (Q1 Z a0 p1 p2 p3 p4  u_left u_top u_right u_bottom h0 n0) (T18.setTop (mkF m 20 #[.val (.ref a0), .val (.int p1), .val (.int p2), .val (.int p3), .val (.int p4)] [(.ref a0)]))
  refine Ends.via (fun _ k => XS.iload X18.here hx rfl (hb hby d1_20) rfl k) ?_
  show Ends p e below s ROOM1.cells ROOM1.slots (Q1 Z a0 p1 p2 p3 p4  u_left u_top u_right u_bottom h0 n0) (T18.setTop (mkF m 22 #[.val (.ref a0), .val (.int p1), .val (.int p2), .val (.int p3), .val (.int p4)] [(.int p4), (.ref a0)]))
  obtain ⟨T19, h19, X19, e19, W19, st19⟩ := putF X18 hx hZ hown (host := "") (Or.inl (hw _ (List.mem_of_getElem? (i := 15) rfl))) Via.refl e18 f18_4 f18_0 (Or.inr ⟨(hw _ (List.mem_of_getElem? (i := 16) rfl)), rfl, hnm⟩) (hw _ (List.mem_of_getElem? (i := 1) rfl)) (ty := .int) (by decide) rfl rfl (g := (mkF m 22 #[.val (.ref a0), .val (.int p1), .val (.int p2), .val (.int p3), .val (.int p4)] [(.int p4), (.ref a0)])) rfl rfl (hb hby d1_22)
  have f19_0 := f18_0.wr W19
  have f19_1 := f18_1.other W19 (Or.inr (slot_ne (Or.inr (hw _ (List.mem_of_getElem? (i := 10) rfl))) (Or.inr (hw _ (List.mem_of_getElem? (i := 16) rfl))) (by decide) (t := .int) (t' := .int) (by decide) (by decide)))
  have f19_2 := f18_2.other W19 (Or.inr (slot_ne (Or.inr (hw _ (List.mem_of_getElem? (i := 12) rfl))) (Or.inr (hw _ (List.mem_of_getElem? (i := 16) rfl))) (by decide) (t := .int) (t' := .int) (by decide) (by decide)))
  have f19_3 := f18_3.other W19 (Or.inr (slot_ne (Or.inr (hw _ (List.mem_of_getElem? (i := 14) rfl))) (Or.inr (hw _ (List.mem_of_getElem? (i := 16) rfl))) (by decide) (t := .int) (t' := .int) (by decide) (by decide)))
  have f19_4 := f18_4.same W19
  have Z19 : n0 ≤ h19.size := Nat.le_trans Z18 (Keep.of_wr W19).1
  have K19 := Keep.wr K18 W19 (Or.inl (List.mem_of_getElem? (i := 0) rfl))
  have N19 := Fr.snoc X19 N18 g_a0
  refine Ends.via st19 ?_
  show Ends p e below s ROOM1.cells ROOM1.slots (Q1 Z a0 p1 p2 p3 p4  u_left u_top u_right u_bottom h0 n0) (T19.setTop (mkF m 25 #[.val (.ref a0), .val (.int p1), .val (.int p2), .val (.int p3), .val (.int p4)] []))
  refine Ends.ret X19 (v := none) (fun _ => rfl) Bd.notSynchronized (fun fs hr => X19.returnOut hx Bd.returns (hb hby d1_25) hr) ?_ (by decide) (by decide)
  rw [e19]
  exact ⟨rfl, N19, K19, f19_0, f19_1, f19_2, f19_3, f19_4⟩
theorem d3_0 : decode prog_12_method_8_code 0 = .ok (.aload_n 0, 1) := by decide +kernel
theorem d3_1 : decode prog_12_method_8_code 1 = .ok (.getfield 9, 3) := by decide +kernel
theorem d3_4 : decode prog_12_method_8_code 4 = .ok (.ifCond .eq 7, 3) := by decide +kernel
theorem d3_7 : decode prog_12_method_8_code 7 = .ok (.iconst 1, 1) := by decide +kernel
theorem d3_8 : decode prog_12_method_8_code 8 = .ok (.goto 4, 3) := by decide +kernel
theorem d3_11 : decode prog_12_method_8_code 11 = .ok (.iconst 0, 1) := by decide +kernel
theorem d3_12 : decode prog_12_method_8_code 12 = .ok (.aload_n 0, 1) := by decide +kernel
theorem d3_13 : decode prog_12_method_8_code 13 = .ok (.getfield 13, 3) := by decide +kernel
theorem d3_16 : decode prog_12_method_8_code 16 = .ok (.ifCond .eq 7, 3) := by decide +kernel
theorem d3_19 : decode prog_12_method_8_code 19 = .ok (.iconst 2, 1) := by decide +kernel
theorem d3_20 : decode prog_12_method_8_code 20 = .ok (.goto 4, 3) := by decide +kernel
theorem d3_23 : decode prog_12_method_8_code 23 = .ok (.iconst 0, 1) := by decide +kernel
theorem d3_24 : decode prog_12_method_8_code 24 = .ok (.ior, 1) := by decide +kernel
theorem d3_25 : decode prog_12_method_8_code 25 = .ok (.aload_n 0, 1) := by decide +kernel
theorem d3_26 : decode prog_12_method_8_code 26 = .ok (.getfield 16, 3) := by decide +kernel
theorem d3_29 : decode prog_12_method_8_code 29 = .ok (.ifCond .eq 7, 3) := by decide +kernel
theorem d3_32 : decode prog_12_method_8_code 32 = .ok (.iconst 4, 1) := by decide +kernel
theorem d3_33 : decode prog_12_method_8_code 33 = .ok (.goto 4, 3) := by decide +kernel
theorem d3_36 : decode prog_12_method_8_code 36 = .ok (.iconst 0, 1) := by decide +kernel
theorem d3_37 : decode prog_12_method_8_code 37 = .ok (.ior, 1) := by decide +kernel
theorem d3_38 : decode prog_12_method_8_code 38 = .ok (.aload_n 0, 1) := by decide +kernel
theorem d3_39 : decode prog_12_method_8_code 39 = .ok (.getfield 19, 3) := by decide +kernel
theorem d3_42 : decode prog_12_method_8_code 42 = .ok (.ifCond .eq 8, 3) := by decide +kernel
theorem d3_45 : decode prog_12_method_8_code 45 = .ok (.bipush 8, 2) := by decide +kernel
theorem d3_47 : decode prog_12_method_8_code 47 = .ok (.goto 4, 3) := by decide +kernel
theorem d3_50 : decode prog_12_method_8_code 50 = .ok (.iconst 0, 1) := by decide +kernel
theorem d3_51 : decode prog_12_method_8_code 51 = .ok (.ior, 1) := by decide +kernel
theorem d3_52 : decode prog_12_method_8_code 52 = .ok (.ireturn, 1) := by decide +kernel
theorem pn_3 : plainName "com/example/okno/okno/Insets" = true := by first | (simp [plainName, overriddenIn]; done) | decide +kernel
theorem ef_3 (m : MethodId) (a0 : Addr) : entryFrame m #[(.ref a0)] 1 = mkF m 0 #[.val (.ref a0)] [] := by first | (simp [entryFrame, mkF, argsToLocals, Value.category]; done) | rfl
def fn3 (w_left : Int32) (w_top : Int32) (w_right : Int32) (w_bottom : Int32) : Int32 := (let v23 : Int32 := (if w_left = (0 : Int32) then (0 : Int32) else (1 : Int32)); (let v27 : Int32 := (if w_top = (0 : Int32) then (0 : Int32) else (2 : Int32)); (let v31 : Int32 := (if w_right = (0 : Int32) then (0 : Int32) else (4 : Int32)); (let v35 : Int32 := (if w_bottom = (0 : Int32) then (0 : Int32) else (8 : Int32)); (((v23 ||| v27) ||| v31) ||| v35)))))
abbrev ROOM3 : Room := { frames := 0, cells := 0, slots := 0, locals := 0 }
def Q3 (Z : State) (a0 : Addr)  (w_left : Int32) (w_top : Int32) (w_right : Int32) (w_bottom : Int32) (h0 : Heap) (n0 : Nat) (v : Option Value) (h : Heap) (L : List Loc) : Prop := v = some (.int (fn3 w_left w_top w_right w_bottom)) ∧ Fr n0 L ∧ h = h0
set_option maxRecDepth 65536 in
set_option maxHeartbeats 40000000 in
theorem rm3 (l : Launch) (Z : State) (a0 : Array Value) (hw : ∀ d ∈ tables_1, d.before a0 Z = true) (ws : List Jvm.Cond) (a0 : Addr)  (w_left : Int32) (w_top : Int32) (w_right : Int32) (w_bottom : Int32) (h0 : Heap) (n0 : Nat) (Z0 : n0 ≤ h0.size)  (F_left : Fld Z h0 a0 "com/example/okno/okno/Insets" "left" "I" (.int w_left)) (F_top : Fld Z h0 a0 "com/example/okno/okno/Insets" "top" "I" (.int w_top)) (F_right : Fld Z h0 a0 "com/example/okno/okno/Insets" "right" "I" (.int w_right)) (F_bottom : Fld Z h0 a0 "com/example/okno/okno/Insets" "bottom" "I" (.int w_bottom)) :
    MetFree l (⟨"com/example/okno/okno/Insets", "sides", "()I"⟩ : MethodName) (head1 (Jvm.Cond.code (⟨"com/example/okno/okno/Insets", "sides", "()I"⟩ : MethodName) prog_12_method_8_code 1 (some .int) :: ws) ROOM3) (fun a U => a = #[(.ref a0)] ∧ Z.Warmed39 U.vm ∧ U.heap = h0) (fun _ _ _ _ _ => True) (fun _ U o U' => ∃ v L, o = .returned v ∧ Q3 Z a0  w_left w_top w_right w_bottom h0 n0 v U'.heap L ∧ FrameEnd U o U' L ROOM3.cells ROOM3.slots) := by
  refine MetFree.of_bodySF (plainFor_of_name pn_3) hisR ?_
  intro p e s m args below meth c s₁ Bd hml0 hP hK
  obtain ⟨rfl, hZ, hh⟩ := hP
  have hx := Bd.exec
  have hby := Bd.bytes
  have hml : c.maxLocals = 1 := hml0
  have hown : s.vm.findClass "com/example/okno/okno/Insets" = some m.cls := findClass_of_methodNamed Bd.named
  have hnm := (name_of_methodNamed Bd.named Bd.method).1
  have X0 : Stand p l e ROOM3 s m #[(.ref a0)] below meth c s₁ [] 0 0 := Stand.of_body Bd
  have e0 : s₁.heap = h0 := by rw [← hh, Bd.state]; rfl
  have N0 := Fr.nil n0
  refine Ends.via (A := s₁.setTop (mkF m 0 #[.val (.ref a0)] [])) (kc := ROOM3.cells) (ks := ROOM3.slots) (Q := (Q3 Z a0  w_left w_top w_right w_bottom h0 n0)) (fun t k => castTop (ef_3 m a0) k) ?_
  show Ends p e below s ROOM3.cells ROOM3.slots (Q3 Z a0  w_left w_top w_right w_bottom h0 n0) (s₁.setTop (mkF m 0 #[.val (.ref a0)] []))
  refine Ends.via (fun _ k => XS.aloadN X0.here hx rfl (hb hby d3_0) rfl rfl k) ?_
  show Ends p e below s ROOM3.cells ROOM3.slots (Q3 Z a0  w_left w_top w_right w_bottom h0 n0) (s₁.setTop (mkF m 1 #[.val (.ref a0)] [(.ref a0)]))
  obtain ⟨T21, X21, e21, st21⟩ := getF X0 hx hZ hown (host := "") (Or.inl (hw _ (List.mem_of_getElem? (i := 9) rfl))) Via.refl e0 F_left (g := (mkF m 1 #[.val (.ref a0)] [(.ref a0)])) rfl rfl (hb hby d3_1)
  refine Ends.via st21 ?_
  show Ends p e below s ROOM3.cells ROOM3.slots (Q3 Z a0  w_left w_top w_right w_bottom h0 n0) (T21.setTop (mkF m 4 #[.val (.ref a0)] [(.int w_left)]))
  have J24 : ∀ (Tj24 : State) (Lj24 : List Loc) (Xj24 : Stand p l e ROOM3 s m #[(.ref a0)] below meth c Tj24 Lj24 0 0) (ej24 : Tj24.heap = h0) (Nj24 : Fr n0 Lj24) (v23 : Int32), (if w_left = (0 : Int32) then (0 : Int32) else (1 : Int32)) = v23 → Ends p e below s ROOM3.cells ROOM3.slots (Q3 Z a0  w_left w_top w_right w_bottom h0 n0) (Tj24.setTop (mkF m 12 #[.val (.ref a0)] [(.int v23)])) := by
    intro Tj24 Lj24 Xj24 ej24 Nj24 v23 hv23
    refine Ends.via (fun _ k => XS.aloadN Xj24.here hx rfl (hb hby d3_12) rfl rfl k) ?_
    show Ends p e below s ROOM3.cells ROOM3.slots (Q3 Z a0  w_left w_top w_right w_bottom h0 n0) (Tj24.setTop (mkF m 13 #[.val (.ref a0)] [(.ref a0), (.int v23)]))
    obtain ⟨T25, X25, e25, st25⟩ := getF Xj24 hx hZ hown (host := "") (Or.inl (hw _ (List.mem_of_getElem? (i := 11) rfl))) Via.refl ej24 F_top (g := (mkF m 13 #[.val (.ref a0)] [(.ref a0), (.int v23)])) rfl rfl (hb hby d3_13)
    refine Ends.via st25 ?_
    show Ends p e below s ROOM3.cells ROOM3.slots (Q3 Z a0  w_left w_top w_right w_bottom h0 n0) (T25.setTop (mkF m 16 #[.val (.ref a0)] [(.int w_top), (.int v23)]))
    have J28 : ∀ (Tj28 : State) (Lj28 : List Loc) (Xj28 : Stand p l e ROOM3 s m #[(.ref a0)] below meth c Tj28 Lj28 0 0) (ej28 : Tj28.heap = h0) (Nj28 : Fr n0 Lj28) (v27 : Int32), (if w_top = (0 : Int32) then (0 : Int32) else (2 : Int32)) = v27 → Ends p e below s ROOM3.cells ROOM3.slots (Q3 Z a0  w_left w_top w_right w_bottom h0 n0) (Tj28.setTop (mkF m 24 #[.val (.ref a0)] [(.int v27), (.int v23)])) := by
      intro Tj28 Lj28 Xj28 ej28 Nj28 v27 hv27
      refine Ends.via (fun _ k => XS.ior Xj28.here hx rfl (hb hby d3_24) rfl k) ?_
      show Ends p e below s ROOM3.cells ROOM3.slots (Q3 Z a0  w_left w_top w_right w_bottom h0 n0) (Tj28.setTop (mkF m 25 #[.val (.ref a0)] [(.int (v23 ||| v27))]))
      refine Ends.via (fun _ k => XS.aloadN Xj28.here hx rfl (hb hby d3_25) rfl rfl k) ?_
      show Ends p e below s ROOM3.cells ROOM3.slots (Q3 Z a0  w_left w_top w_right w_bottom h0 n0) (Tj28.setTop (mkF m 26 #[.val (.ref a0)] [(.ref a0), (.int (v23 ||| v27))]))
      obtain ⟨T29, X29, e29, st29⟩ := getF Xj28 hx hZ hown (host := "") (Or.inl (hw _ (List.mem_of_getElem? (i := 13) rfl))) Via.refl ej28 F_right (g := (mkF m 26 #[.val (.ref a0)] [(.ref a0), (.int (v23 ||| v27))])) rfl rfl (hb hby d3_26)
      refine Ends.via st29 ?_
      show Ends p e below s ROOM3.cells ROOM3.slots (Q3 Z a0  w_left w_top w_right w_bottom h0 n0) (T29.setTop (mkF m 29 #[.val (.ref a0)] [(.int w_right), (.int (v23 ||| v27))]))
      have J32 : ∀ (Tj32 : State) (Lj32 : List Loc) (Xj32 : Stand p l e ROOM3 s m #[(.ref a0)] below meth c Tj32 Lj32 0 0) (ej32 : Tj32.heap = h0) (Nj32 : Fr n0 Lj32) (v31 : Int32), (if w_right = (0 : Int32) then (0 : Int32) else (4 : Int32)) = v31 → Ends p e below s ROOM3.cells ROOM3.slots (Q3 Z a0  w_left w_top w_right w_bottom h0 n0) (Tj32.setTop (mkF m 37 #[.val (.ref a0)] [(.int v31), (.int (v23 ||| v27))])) := by
        intro Tj32 Lj32 Xj32 ej32 Nj32 v31 hv31
        refine Ends.via (fun _ k => XS.ior Xj32.here hx rfl (hb hby d3_37) rfl k) ?_
        show Ends p e below s ROOM3.cells ROOM3.slots (Q3 Z a0  w_left w_top w_right w_bottom h0 n0) (Tj32.setTop (mkF m 38 #[.val (.ref a0)] [(.int ((v23 ||| v27) ||| v31))]))
        refine Ends.via (fun _ k => XS.aloadN Xj32.here hx rfl (hb hby d3_38) rfl rfl k) ?_
        show Ends p e below s ROOM3.cells ROOM3.slots (Q3 Z a0  w_left w_top w_right w_bottom h0 n0) (Tj32.setTop (mkF m 39 #[.val (.ref a0)] [(.ref a0), (.int ((v23 ||| v27) ||| v31))]))
        obtain ⟨T33, X33, e33, st33⟩ := getF Xj32 hx hZ hown (host := "") (Or.inl (hw _ (List.mem_of_getElem? (i := 15) rfl))) Via.refl ej32 F_bottom (g := (mkF m 39 #[.val (.ref a0)] [(.ref a0), (.int ((v23 ||| v27) ||| v31))])) rfl rfl (hb hby d3_39)
        refine Ends.via st33 ?_
        show Ends p e below s ROOM3.cells ROOM3.slots (Q3 Z a0  w_left w_top w_right w_bottom h0 n0) (T33.setTop (mkF m 42 #[.val (.ref a0)] [(.int w_bottom), (.int ((v23 ||| v27) ||| v31))]))
        have J36 : ∀ (Tj36 : State) (Lj36 : List Loc) (Xj36 : Stand p l e ROOM3 s m #[(.ref a0)] below meth c Tj36 Lj36 0 0) (ej36 : Tj36.heap = h0) (Nj36 : Fr n0 Lj36) (v35 : Int32), (if w_bottom = (0 : Int32) then (0 : Int32) else (8 : Int32)) = v35 → Ends p e below s ROOM3.cells ROOM3.slots (Q3 Z a0  w_left w_top w_right w_bottom h0 n0) (Tj36.setTop (mkF m 51 #[.val (.ref a0)] [(.int v35), (.int ((v23 ||| v27) ||| v31))])) := by
          intro Tj36 Lj36 Xj36 ej36 Nj36 v35 hv35
          refine Ends.via (fun _ k => XS.ior Xj36.here hx rfl (hb hby d3_51) rfl k) ?_
          show Ends p e below s ROOM3.cells ROOM3.slots (Q3 Z a0  w_left w_top w_right w_bottom h0 n0) (Tj36.setTop (mkF m 52 #[.val (.ref a0)] [(.int (((v23 ||| v27) ||| v31) ||| v35))]))
          refine Ends.ret Xj36 (v := some (.int (((v23 ||| v27) ||| v31) ||| v35))) (fun h => by rw [Bd.returns] at h; cases h) Bd.notSynchronized (fun fs hr => retI Xj36 hx Bd.returns (hb hby d3_52) hr) ?_ (by decide) (by decide)
          have hfn : fn3 w_left w_top w_right w_bottom = (((v23 ||| v27) ||| v31) ||| v35) := by subst hv35; subst hv31; subst hv27; subst hv23; simp only [fn3]
          exact ⟨by rw [hfn], Nj36, ej36⟩
        by_cases hc37 : w_bottom = (0 : Int32)
        · refine Ends.via (fun _ k => XS.ifYes X33.here hx rfl (pc0 := 42) (pc' := 50) rfl (hb hby d3_42) rfl ((if0 _ _).trans (teq hc37).1) (by decide) (by decide) k) ?_
          show Ends p e below s ROOM3.cells ROOM3.slots (Q3 Z a0  w_left w_top w_right w_bottom h0 n0) (T33.setTop (mkF m 50 #[.val (.ref a0)] [(.int ((v23 ||| v27) ||| v31))]))
          refine Ends.via (fun _ k => XS.iconst X33.here hx rfl (hb hby d3_50) k) ?_
          show Ends p e below s ROOM3.cells ROOM3.slots (Q3 Z a0  w_left w_top w_right w_bottom h0 n0) (T33.setTop (mkF m 51 #[.val (.ref a0)] [(.int (0 : Int32)), (.int ((v23 ||| v27) ||| v31))]))
          exact J36 T33 _ X33 e33 Nj32 (0 : Int32) (by first | rfl | simp only [if_pos hc37])
        · refine Ends.via (fun _ k => XS.ifNo X33.here hx rfl (hb hby d3_42) rfl ((if0 _ _).trans (feq hc37).1) k) ?_
          show Ends p e below s ROOM3.cells ROOM3.slots (Q3 Z a0  w_left w_top w_right w_bottom h0 n0) (T33.setTop (mkF m 45 #[.val (.ref a0)] [(.int ((v23 ||| v27) ||| v31))]))
          refine Ends.via (fun _ k => XS.bipush X33.here hx rfl (hb hby d3_45) k) ?_
          show Ends p e below s ROOM3.cells ROOM3.slots (Q3 Z a0  w_left w_top w_right w_bottom h0 n0) (T33.setTop (mkF m 47 #[.val (.ref a0)] [(.int (8 : Int32)), (.int ((v23 ||| v27) ||| v31))]))
          refine Ends.via (fun _ k => XS.goto X33.here hx rfl (pc0 := 47) (pc' := 51) rfl (hb hby d3_47) (by decide) (by decide) k) ?_
          show Ends p e below s ROOM3.cells ROOM3.slots (Q3 Z a0  w_left w_top w_right w_bottom h0 n0) (T33.setTop (mkF m 51 #[.val (.ref a0)] [(.int (8 : Int32)), (.int ((v23 ||| v27) ||| v31))]))
          exact J36 T33 _ X33 e33 Nj32 (8 : Int32) (by first | rfl | simp only [if_neg hc37])
      by_cases hc38 : w_right = (0 : Int32)
      · refine Ends.via (fun _ k => XS.ifYes X29.here hx rfl (pc0 := 29) (pc' := 36) rfl (hb hby d3_29) rfl ((if0 _ _).trans (teq hc38).1) (by decide) (by decide) k) ?_
        show Ends p e below s ROOM3.cells ROOM3.slots (Q3 Z a0  w_left w_top w_right w_bottom h0 n0) (T29.setTop (mkF m 36 #[.val (.ref a0)] [(.int (v23 ||| v27))]))
        refine Ends.via (fun _ k => XS.iconst X29.here hx rfl (hb hby d3_36) k) ?_
        show Ends p e below s ROOM3.cells ROOM3.slots (Q3 Z a0  w_left w_top w_right w_bottom h0 n0) (T29.setTop (mkF m 37 #[.val (.ref a0)] [(.int (0 : Int32)), (.int (v23 ||| v27))]))
        exact J32 T29 _ X29 e29 Nj28 (0 : Int32) (by first | rfl | simp only [if_pos hc38])
      · refine Ends.via (fun _ k => XS.ifNo X29.here hx rfl (hb hby d3_29) rfl ((if0 _ _).trans (feq hc38).1) k) ?_
        show Ends p e below s ROOM3.cells ROOM3.slots (Q3 Z a0  w_left w_top w_right w_bottom h0 n0) (T29.setTop (mkF m 32 #[.val (.ref a0)] [(.int (v23 ||| v27))]))
        refine Ends.via (fun _ k => XS.iconst X29.here hx rfl (hb hby d3_32) k) ?_
        show Ends p e below s ROOM3.cells ROOM3.slots (Q3 Z a0  w_left w_top w_right w_bottom h0 n0) (T29.setTop (mkF m 33 #[.val (.ref a0)] [(.int (4 : Int32)), (.int (v23 ||| v27))]))
        refine Ends.via (fun _ k => XS.goto X29.here hx rfl (pc0 := 33) (pc' := 37) rfl (hb hby d3_33) (by decide) (by decide) k) ?_
        show Ends p e below s ROOM3.cells ROOM3.slots (Q3 Z a0  w_left w_top w_right w_bottom h0 n0) (T29.setTop (mkF m 37 #[.val (.ref a0)] [(.int (4 : Int32)), (.int (v23 ||| v27))]))
        exact J32 T29 _ X29 e29 Nj28 (4 : Int32) (by first | rfl | simp only [if_neg hc38])
    by_cases hc39 : w_top = (0 : Int32)
    · refine Ends.via (fun _ k => XS.ifYes X25.here hx rfl (pc0 := 16) (pc' := 23) rfl (hb hby d3_16) rfl ((if0 _ _).trans (teq hc39).1) (by decide) (by decide) k) ?_
      show Ends p e below s ROOM3.cells ROOM3.slots (Q3 Z a0  w_left w_top w_right w_bottom h0 n0) (T25.setTop (mkF m 23 #[.val (.ref a0)] [(.int v23)]))
      refine Ends.via (fun _ k => XS.iconst X25.here hx rfl (hb hby d3_23) k) ?_
      show Ends p e below s ROOM3.cells ROOM3.slots (Q3 Z a0  w_left w_top w_right w_bottom h0 n0) (T25.setTop (mkF m 24 #[.val (.ref a0)] [(.int (0 : Int32)), (.int v23)]))
      exact J28 T25 _ X25 e25 Nj24 (0 : Int32) (by first | rfl | simp only [if_pos hc39])
    · refine Ends.via (fun _ k => XS.ifNo X25.here hx rfl (hb hby d3_16) rfl ((if0 _ _).trans (feq hc39).1) k) ?_
      show Ends p e below s ROOM3.cells ROOM3.slots (Q3 Z a0  w_left w_top w_right w_bottom h0 n0) (T25.setTop (mkF m 19 #[.val (.ref a0)] [(.int v23)]))
      refine Ends.via (fun _ k => XS.iconst X25.here hx rfl (hb hby d3_19) k) ?_
      show Ends p e below s ROOM3.cells ROOM3.slots (Q3 Z a0  w_left w_top w_right w_bottom h0 n0) (T25.setTop (mkF m 20 #[.val (.ref a0)] [(.int (2 : Int32)), (.int v23)]))
      refine Ends.via (fun _ k => XS.goto X25.here hx rfl (pc0 := 20) (pc' := 24) rfl (hb hby d3_20) (by decide) (by decide) k) ?_
      show Ends p e below s ROOM3.cells ROOM3.slots (Q3 Z a0  w_left w_top w_right w_bottom h0 n0) (T25.setTop (mkF m 24 #[.val (.ref a0)] [(.int (2 : Int32)), (.int v23)]))
      exact J28 T25 _ X25 e25 Nj24 (2 : Int32) (by first | rfl | simp only [if_neg hc39])
  by_cases hc40 : w_left = (0 : Int32)
  · refine Ends.via (fun _ k => XS.ifYes X21.here hx rfl (pc0 := 4) (pc' := 11) rfl (hb hby d3_4) rfl ((if0 _ _).trans (teq hc40).1) (by decide) (by decide) k) ?_
    show Ends p e below s ROOM3.cells ROOM3.slots (Q3 Z a0  w_left w_top w_right w_bottom h0 n0) (T21.setTop (mkF m 11 #[.val (.ref a0)] []))
    refine Ends.via (fun _ k => XS.iconst X21.here hx rfl (hb hby d3_11) k) ?_
    show Ends p e below s ROOM3.cells ROOM3.slots (Q3 Z a0  w_left w_top w_right w_bottom h0 n0) (T21.setTop (mkF m 12 #[.val (.ref a0)] [(.int (0 : Int32))]))
    exact J24 T21 _ X21 e21 N0 (0 : Int32) (by first | rfl | simp only [if_pos hc40])
  · refine Ends.via (fun _ k => XS.ifNo X21.here hx rfl (hb hby d3_4) rfl ((if0 _ _).trans (feq hc40).1) k) ?_
    show Ends p e below s ROOM3.cells ROOM3.slots (Q3 Z a0  w_left w_top w_right w_bottom h0 n0) (T21.setTop (mkF m 7 #[.val (.ref a0)] []))
    refine Ends.via (fun _ k => XS.iconst X21.here hx rfl (hb hby d3_7) k) ?_
    show Ends p e below s ROOM3.cells ROOM3.slots (Q3 Z a0  w_left w_top w_right w_bottom h0 n0) (T21.setTop (mkF m 8 #[.val (.ref a0)] [(.int (1 : Int32))]))
    refine Ends.via (fun _ k => XS.goto X21.here hx rfl (pc0 := 8) (pc' := 12) rfl (hb hby d3_8) (by decide) (by decide) k) ?_
    show Ends p e below s ROOM3.cells ROOM3.slots (Q3 Z a0  w_left w_top w_right w_bottom h0 n0) (T21.setTop (mkF m 12 #[.val (.ref a0)] [(.int (1 : Int32))]))
    exact J24 T21 _ X21 e21 N0 (1 : Int32) (by first | rfl | simp only [if_neg hc40])
theorem own_sides (a b c d s : Int32) (h : fn3 a b c d = s) : (s &&& (-16 : Int32)) = 0 ∧ ((s &&& (1 : Int32)) = 0 ↔ a = 0) ∧ ((s &&& (2 : Int32)) = 0 ↔ b = 0) ∧ ((s &&& (4 : Int32)) = 0 ↔ c = 0) ∧ ((s &&& (8 : Int32)) = 0 ↔ d = 0) := by
  subst h
  simp only [fn3]
  by_cases ha : a = 0 <;> by_cases hb : b = 0 <;> by_cases hc : c = 0 <;> by_cases hd : d = 0 <;> simp only [ha, hb, hc, hd, if_true, if_false] <;> decide
theorem own_pair (P Q : Prop) [Decidable P] [Decidable Q] (x y z : Int32) (h1 : (if P then (0 : Int32) else (1 : Int32)) = x) (h2 : (if Q then (0 : Int32) else (1 : Int32)) = y) (h3 : (if x = y then (1 : Int32) else (0 : Int32)) = z) (h : P ↔ Q) (hz : z = 0) : False := by
  have e : x = y := by
    rw [← h1, ← h2]
    by_cases p : P
    · rw [if_pos p, if_pos (h.mp p)]
    · rw [if_neg p, if_neg (fun q => p (h.mpr q))]
  rw [if_pos e] at h3
  subst h3; exact absurd hz (by decide)
theorem own_leaf1 (p0 : Int32) (p1 : Int32) (p2 : Int32) (p3 : Int32) (p4 : Int32) (v2 : Int32) (v5 : Int32) (v8 : Int32) (v11 : Int32) (v41 : Int32) (v43 : Int32) (v46 : Int32) (v49 : Int32) (v52 : Int32) (v55 : Int32) (v58 : Int32) (v61 : Int32) (v64 : Int32) (v67 : Int32) (v70 : Int32) (v73 : Int32) (v76 : Int32) (v79 : Int32) (hv2 : (if (p4 &&& (1 : Int32)) = (0 : Int32) then (0 : Int32) else p0) = v2) (hv5 : (if (p4 &&& (2 : Int32)) = (0 : Int32) then (0 : Int32) else p1) = v5) (hv8 : (if (p4 &&& (4 : Int32)) = (0 : Int32) then (0 : Int32) else p2) = v8) (hv11 : (if (p4 &&& (8 : Int32)) = (0 : Int32) then (0 : Int32) else p3) = v11) (hv41 : (fn3 v2 v5 v8 v11) = v41) (hv43 : (if (v41 &&& (-16 : Int32)) = (0 : Int32) then (1 : Int32) else (0 : Int32)) = v43) (hv46 : (if (v41 &&& (1 : Int32)) = (0 : Int32) then (0 : Int32) else (1 : Int32)) = v46) (hv49 : (if v2 = (0 : Int32) then (0 : Int32) else (1 : Int32)) = v49) (hv52 : (if v46 = v49 then (1 : Int32) else (0 : Int32)) = v52) (hv55 : (if (v41 &&& (2 : Int32)) = (0 : Int32) then (0 : Int32) else (1 : Int32)) = v55) (hv58 : (if v5 = (0 : Int32) then (0 : Int32) else (1 : Int32)) = v58) (hv61 : (if v55 = v58 then (1 : Int32) else (0 : Int32)) = v61) (hv64 : (if (v41 &&& (4 : Int32)) = (0 : Int32) then (0 : Int32) else (1 : Int32)) = v64) (hv67 : (if v8 = (0 : Int32) then (0 : Int32) else (1 : Int32)) = v67) (hv70 : (if v64 = v67 then (1 : Int32) else (0 : Int32)) = v70) (hv73 : (if (v41 &&& (8 : Int32)) = (0 : Int32) then (0 : Int32) else (1 : Int32)) = v73) (hv76 : (if v11 = (0 : Int32) then (0 : Int32) else (1 : Int32)) = v76) (hv79 : (if v73 = v76 then (1 : Int32) else (0 : Int32)) = v79) (hc81 : v43 = (0 : Int32)) : False := by
    rw [if_pos (own_sides v2 v5 v8 v11 v41 hv41).1] at hv43
    subst hv43; exact absurd hc81 (by decide)
theorem own_leaf2 (p0 : Int32) (p1 : Int32) (p2 : Int32) (p3 : Int32) (p4 : Int32) (v2 : Int32) (v5 : Int32) (v8 : Int32) (v11 : Int32) (v41 : Int32) (v43 : Int32) (v46 : Int32) (v49 : Int32) (v52 : Int32) (v55 : Int32) (v58 : Int32) (v61 : Int32) (v64 : Int32) (v67 : Int32) (v70 : Int32) (v73 : Int32) (v76 : Int32) (v79 : Int32) (hv2 : (if (p4 &&& (1 : Int32)) = (0 : Int32) then (0 : Int32) else p0) = v2) (hv5 : (if (p4 &&& (2 : Int32)) = (0 : Int32) then (0 : Int32) else p1) = v5) (hv8 : (if (p4 &&& (4 : Int32)) = (0 : Int32) then (0 : Int32) else p2) = v8) (hv11 : (if (p4 &&& (8 : Int32)) = (0 : Int32) then (0 : Int32) else p3) = v11) (hv41 : (fn3 v2 v5 v8 v11) = v41) (hv43 : (if (v41 &&& (-16 : Int32)) = (0 : Int32) then (1 : Int32) else (0 : Int32)) = v43) (hv46 : (if (v41 &&& (1 : Int32)) = (0 : Int32) then (0 : Int32) else (1 : Int32)) = v46) (hv49 : (if v2 = (0 : Int32) then (0 : Int32) else (1 : Int32)) = v49) (hv52 : (if v46 = v49 then (1 : Int32) else (0 : Int32)) = v52) (hv55 : (if (v41 &&& (2 : Int32)) = (0 : Int32) then (0 : Int32) else (1 : Int32)) = v55) (hv58 : (if v5 = (0 : Int32) then (0 : Int32) else (1 : Int32)) = v58) (hv61 : (if v55 = v58 then (1 : Int32) else (0 : Int32)) = v61) (hv64 : (if (v41 &&& (4 : Int32)) = (0 : Int32) then (0 : Int32) else (1 : Int32)) = v64) (hv67 : (if v8 = (0 : Int32) then (0 : Int32) else (1 : Int32)) = v67) (hv70 : (if v64 = v67 then (1 : Int32) else (0 : Int32)) = v70) (hv73 : (if (v41 &&& (8 : Int32)) = (0 : Int32) then (0 : Int32) else (1 : Int32)) = v73) (hv76 : (if v11 = (0 : Int32) then (0 : Int32) else (1 : Int32)) = v76) (hv79 : (if v73 = v76 then (1 : Int32) else (0 : Int32)) = v79) (hc81 : ¬ (v43 = (0 : Int32))) (hc82 : v52 = (0 : Int32)) : False := by
    exact own_pair _ _ v46 v49 v52 hv46 hv49 hv52 (own_sides v2 v5 v8 v11 v41 hv41).2.1 hc82
theorem own_leaf3 (p0 : Int32) (p1 : Int32) (p2 : Int32) (p3 : Int32) (p4 : Int32) (v2 : Int32) (v5 : Int32) (v8 : Int32) (v11 : Int32) (v41 : Int32) (v43 : Int32) (v46 : Int32) (v49 : Int32) (v52 : Int32) (v55 : Int32) (v58 : Int32) (v61 : Int32) (v64 : Int32) (v67 : Int32) (v70 : Int32) (v73 : Int32) (v76 : Int32) (v79 : Int32) (hv2 : (if (p4 &&& (1 : Int32)) = (0 : Int32) then (0 : Int32) else p0) = v2) (hv5 : (if (p4 &&& (2 : Int32)) = (0 : Int32) then (0 : Int32) else p1) = v5) (hv8 : (if (p4 &&& (4 : Int32)) = (0 : Int32) then (0 : Int32) else p2) = v8) (hv11 : (if (p4 &&& (8 : Int32)) = (0 : Int32) then (0 : Int32) else p3) = v11) (hv41 : (fn3 v2 v5 v8 v11) = v41) (hv43 : (if (v41 &&& (-16 : Int32)) = (0 : Int32) then (1 : Int32) else (0 : Int32)) = v43) (hv46 : (if (v41 &&& (1 : Int32)) = (0 : Int32) then (0 : Int32) else (1 : Int32)) = v46) (hv49 : (if v2 = (0 : Int32) then (0 : Int32) else (1 : Int32)) = v49) (hv52 : (if v46 = v49 then (1 : Int32) else (0 : Int32)) = v52) (hv55 : (if (v41 &&& (2 : Int32)) = (0 : Int32) then (0 : Int32) else (1 : Int32)) = v55) (hv58 : (if v5 = (0 : Int32) then (0 : Int32) else (1 : Int32)) = v58) (hv61 : (if v55 = v58 then (1 : Int32) else (0 : Int32)) = v61) (hv64 : (if (v41 &&& (4 : Int32)) = (0 : Int32) then (0 : Int32) else (1 : Int32)) = v64) (hv67 : (if v8 = (0 : Int32) then (0 : Int32) else (1 : Int32)) = v67) (hv70 : (if v64 = v67 then (1 : Int32) else (0 : Int32)) = v70) (hv73 : (if (v41 &&& (8 : Int32)) = (0 : Int32) then (0 : Int32) else (1 : Int32)) = v73) (hv76 : (if v11 = (0 : Int32) then (0 : Int32) else (1 : Int32)) = v76) (hv79 : (if v73 = v76 then (1 : Int32) else (0 : Int32)) = v79) (hc81 : ¬ (v43 = (0 : Int32))) (hc82 : ¬ (v52 = (0 : Int32))) (hc83 : v61 = (0 : Int32)) : False := by
    exact own_pair _ _ v55 v58 v61 hv55 hv58 hv61 (own_sides v2 v5 v8 v11 v41 hv41).2.2.1 hc83
theorem own_leaf4 (p0 : Int32) (p1 : Int32) (p2 : Int32) (p3 : Int32) (p4 : Int32) (v2 : Int32) (v5 : Int32) (v8 : Int32) (v11 : Int32) (v41 : Int32) (v43 : Int32) (v46 : Int32) (v49 : Int32) (v52 : Int32) (v55 : Int32) (v58 : Int32) (v61 : Int32) (v64 : Int32) (v67 : Int32) (v70 : Int32) (v73 : Int32) (v76 : Int32) (v79 : Int32) (hv2 : (if (p4 &&& (1 : Int32)) = (0 : Int32) then (0 : Int32) else p0) = v2) (hv5 : (if (p4 &&& (2 : Int32)) = (0 : Int32) then (0 : Int32) else p1) = v5) (hv8 : (if (p4 &&& (4 : Int32)) = (0 : Int32) then (0 : Int32) else p2) = v8) (hv11 : (if (p4 &&& (8 : Int32)) = (0 : Int32) then (0 : Int32) else p3) = v11) (hv41 : (fn3 v2 v5 v8 v11) = v41) (hv43 : (if (v41 &&& (-16 : Int32)) = (0 : Int32) then (1 : Int32) else (0 : Int32)) = v43) (hv46 : (if (v41 &&& (1 : Int32)) = (0 : Int32) then (0 : Int32) else (1 : Int32)) = v46) (hv49 : (if v2 = (0 : Int32) then (0 : Int32) else (1 : Int32)) = v49) (hv52 : (if v46 = v49 then (1 : Int32) else (0 : Int32)) = v52) (hv55 : (if (v41 &&& (2 : Int32)) = (0 : Int32) then (0 : Int32) else (1 : Int32)) = v55) (hv58 : (if v5 = (0 : Int32) then (0 : Int32) else (1 : Int32)) = v58) (hv61 : (if v55 = v58 then (1 : Int32) else (0 : Int32)) = v61) (hv64 : (if (v41 &&& (4 : Int32)) = (0 : Int32) then (0 : Int32) else (1 : Int32)) = v64) (hv67 : (if v8 = (0 : Int32) then (0 : Int32) else (1 : Int32)) = v67) (hv70 : (if v64 = v67 then (1 : Int32) else (0 : Int32)) = v70) (hv73 : (if (v41 &&& (8 : Int32)) = (0 : Int32) then (0 : Int32) else (1 : Int32)) = v73) (hv76 : (if v11 = (0 : Int32) then (0 : Int32) else (1 : Int32)) = v76) (hv79 : (if v73 = v76 then (1 : Int32) else (0 : Int32)) = v79) (hc81 : ¬ (v43 = (0 : Int32))) (hc82 : ¬ (v52 = (0 : Int32))) (hc83 : ¬ (v61 = (0 : Int32))) (hc84 : v70 = (0 : Int32)) : False := by
    exact own_pair _ _ v64 v67 v70 hv64 hv67 hv70 (own_sides v2 v5 v8 v11 v41 hv41).2.2.2.1 hc84
theorem own_leaf5 (p0 : Int32) (p1 : Int32) (p2 : Int32) (p3 : Int32) (p4 : Int32) (v2 : Int32) (v5 : Int32) (v8 : Int32) (v11 : Int32) (v41 : Int32) (v43 : Int32) (v46 : Int32) (v49 : Int32) (v52 : Int32) (v55 : Int32) (v58 : Int32) (v61 : Int32) (v64 : Int32) (v67 : Int32) (v70 : Int32) (v73 : Int32) (v76 : Int32) (v79 : Int32) (hv2 : (if (p4 &&& (1 : Int32)) = (0 : Int32) then (0 : Int32) else p0) = v2) (hv5 : (if (p4 &&& (2 : Int32)) = (0 : Int32) then (0 : Int32) else p1) = v5) (hv8 : (if (p4 &&& (4 : Int32)) = (0 : Int32) then (0 : Int32) else p2) = v8) (hv11 : (if (p4 &&& (8 : Int32)) = (0 : Int32) then (0 : Int32) else p3) = v11) (hv41 : (fn3 v2 v5 v8 v11) = v41) (hv43 : (if (v41 &&& (-16 : Int32)) = (0 : Int32) then (1 : Int32) else (0 : Int32)) = v43) (hv46 : (if (v41 &&& (1 : Int32)) = (0 : Int32) then (0 : Int32) else (1 : Int32)) = v46) (hv49 : (if v2 = (0 : Int32) then (0 : Int32) else (1 : Int32)) = v49) (hv52 : (if v46 = v49 then (1 : Int32) else (0 : Int32)) = v52) (hv55 : (if (v41 &&& (2 : Int32)) = (0 : Int32) then (0 : Int32) else (1 : Int32)) = v55) (hv58 : (if v5 = (0 : Int32) then (0 : Int32) else (1 : Int32)) = v58) (hv61 : (if v55 = v58 then (1 : Int32) else (0 : Int32)) = v61) (hv64 : (if (v41 &&& (4 : Int32)) = (0 : Int32) then (0 : Int32) else (1 : Int32)) = v64) (hv67 : (if v8 = (0 : Int32) then (0 : Int32) else (1 : Int32)) = v67) (hv70 : (if v64 = v67 then (1 : Int32) else (0 : Int32)) = v70) (hv73 : (if (v41 &&& (8 : Int32)) = (0 : Int32) then (0 : Int32) else (1 : Int32)) = v73) (hv76 : (if v11 = (0 : Int32) then (0 : Int32) else (1 : Int32)) = v76) (hv79 : (if v73 = v76 then (1 : Int32) else (0 : Int32)) = v79) (hc81 : ¬ (v43 = (0 : Int32))) (hc82 : ¬ (v52 = (0 : Int32))) (hc83 : ¬ (v61 = (0 : Int32))) (hc84 : ¬ (v70 = (0 : Int32))) (hc85 : v79 = (0 : Int32)) : False := by
    exact own_pair _ _ v73 v76 v79 hv73 hv76 hv79 (own_sides v2 v5 v8 v11 v41 hv41).2.2.2.2 hc85
theorem pn_0 : plainName "com/example/okno/okno/InsetsSidesPinLaw" = true := by first | (simp [plainName, overriddenIn]; done) | decide +kernel
theorem ef_0 (m : MethodId) (p0 : Int32) (p1 : Int32) (p2 : Int32) (p3 : Int32) (p4 : Int32) : entryFrame m #[(.int p0), (.int p1), (.int p2), (.int p3), (.int p4)] maxLocals = mkF m 0 #[.val (.int p0), .val (.int p1), .val (.int p2), .val (.int p3), .val (.int p4), .unset, .unset, .unset, .unset, .unset, .unset, .unset, .unset, .unset, .unset, .unset] [] := by first | (simp [entryFrame, mkF, argsToLocals, Value.category, maxLocals]; done) | rfl
def Q0 (Z : State) (p0 : Int32) (p1 : Int32) (p2 : Int32) (p3 : Int32) (p4 : Int32)  (h0 : Heap) (n0 : Nat) (v : Option Value) (h : Heap) (L : List Loc) : Prop := v = some (.int 1) ∧ Fr n0 L
set_option maxRecDepth 65536 in
set_option maxHeartbeats 40000000 in
theorem rm0 (l : Launch) (Z : State) (a0 : Array Value) (hw : ∀ d ∈ tables_1, d.before a0 Z = true) (ws : List Jvm.Cond) (p0 : Int32) (p1 : Int32) (p2 : Int32) (p3 : Int32) (p4 : Int32)  (h0 : Heap) (n0 : Nat) (Z0 : n0 ≤ h0.size)  :
    MetFree l x (head1 (Jvm.Cond.code x code maxLocals ret :: ws) room_1) (fun a U => a = #[(.int p0), (.int p1), (.int p2), (.int p3), (.int p4)] ∧ Z.Warmed39 U.vm ∧ U.heap = h0) (fun _ _ _ _ _ => True) (fun _ U o U' => ∃ v L, o = .returned v ∧ Q0 Z p0 p1 p2 p3 p4  h0 n0 v U'.heap L ∧ FrameEnd U o U' L 16 128) := by
  refine MetFree.of_bodySF (plainFor_of_name pn_0) hisR ?_
  intro p e s m args below meth c s₁ Bd hml0 hP hK
  obtain ⟨rfl, hZ, hh⟩ := hP
  have hx := Bd.exec
  have hby := Bd.bytes
  have hml : c.maxLocals = 16 := hml0
  have hown : s.vm.findClass "com/example/okno/okno/InsetsSidesPinLaw" = some m.cls := findClass_of_methodNamed Bd.named
  have hnm := (name_of_methodNamed Bd.named Bd.method).1
  have X0 : Stand p l e room_1 s m #[(.int p0), (.int p1), (.int p2), (.int p3), (.int p4)] below meth c s₁ [] 0 0 := Stand.of_body Bd
  have e0 : s₁.heap = h0 := by rw [← hh, Bd.state]; rfl
  have N0 := Fr.nil n0
  refine Ends.via (A := s₁.setTop (mkF m 0 #[.val (.int p0), .val (.int p1), .val (.int p2), .val (.int p3), .val (.int p4), .unset, .unset, .unset, .unset, .unset, .unset, .unset, .unset, .unset, .unset, .unset] [])) (kc := 16) (ks := 128) (Q := (Q0 Z p0 p1 p2 p3 p4  h0 n0)) (fun t k => castTop (ef_0 m p0 p1 p2 p3 p4) k) ?_
  show Ends p e below s 16 128 (Q0 Z p0 p1 p2 p3 p4  h0 n0) (s₁.setTop (mkF m 0 #[.val (.int p0), .val (.int p1), .val (.int p2), .val (.int p3), .val (.int p4), .unset, .unset, .unset, .unset, .unset, .unset, .unset, .unset, .unset, .unset, .unset] []))
  refine Ends.via (fun _ k => XS.iload X0.here hx rfl (hb hby at_0) rfl k) ?_
  show Ends p e below s 16 128 (Q0 Z p0 p1 p2 p3 p4  h0 n0) (s₁.setTop (mkF m 2 #[.val (.int p0), .val (.int p1), .val (.int p2), .val (.int p3), .val (.int p4), .unset, .unset, .unset, .unset, .unset, .unset, .unset, .unset, .unset, .unset, .unset] [(.int p4)]))
  refine Ends.via (fun _ k => XS.iconst X0.here hx rfl (hb hby at_2) k) ?_
  show Ends p e below s 16 128 (Q0 Z p0 p1 p2 p3 p4  h0 n0) (s₁.setTop (mkF m 3 #[.val (.int p0), .val (.int p1), .val (.int p2), .val (.int p3), .val (.int p4), .unset, .unset, .unset, .unset, .unset, .unset, .unset, .unset, .unset, .unset, .unset] [(.int (1 : Int32)), (.int p4)]))
  refine Ends.via (fun _ k => XS.iand X0.here hx rfl (hb hby at_3) rfl k) ?_
  show Ends p e below s 16 128 (Q0 Z p0 p1 p2 p3 p4  h0 n0) (s₁.setTop (mkF m 4 #[.val (.int p0), .val (.int p1), .val (.int p2), .val (.int p3), .val (.int p4), .unset, .unset, .unset, .unset, .unset, .unset, .unset, .unset, .unset, .unset, .unset] [(.int (p4 &&& (1 : Int32)))]))
  have J3 : ∀ (Tj3 : State) (Lj3 : List Loc) (Xj3 : Stand p l e room_1 s m #[(.int p0), (.int p1), (.int p2), (.int p3), (.int p4)] below meth c Tj3 Lj3 0 0) (ej3 : Tj3.heap = h0) (Nj3 : Fr n0 Lj3) (v2 : Int32), (if (p4 &&& (1 : Int32)) = (0 : Int32) then (0 : Int32) else p0) = v2 → Ends p e below s 16 128 (Q0 Z p0 p1 p2 p3 p4  h0 n0) (Tj3.setTop (mkF m 12 #[.val (.int p0), .val (.int p1), .val (.int p2), .val (.int p3), .val (.int p4), .unset, .unset, .unset, .unset, .unset, .unset, .unset, .unset, .unset, .unset, .unset] [(.int v2)])) := by
    intro Tj3 Lj3 Xj3 ej3 Nj3 v2 hv2
    refine Ends.via (fun _ k => XS.istore Xj3.here hx rfl (hb hby at_12) rfl (l' := #[.val (.int p0), .val (.int p1), .val (.int p2), .val (.int p3), .val (.int p4), .val (.int v2), .unset, .unset, .unset, .unset, .unset, .unset, .unset, .unset, .unset, .unset]) rfl k) ?_
    show Ends p e below s 16 128 (Q0 Z p0 p1 p2 p3 p4  h0 n0) (Tj3.setTop (mkF m 14 #[.val (.int p0), .val (.int p1), .val (.int p2), .val (.int p3), .val (.int p4), .val (.int v2), .unset, .unset, .unset, .unset, .unset, .unset, .unset, .unset, .unset, .unset] []))
    refine Ends.via (fun _ k => XS.iload Xj3.here hx rfl (hb hby at_14) rfl k) ?_
    show Ends p e below s 16 128 (Q0 Z p0 p1 p2 p3 p4  h0 n0) (Tj3.setTop (mkF m 16 #[.val (.int p0), .val (.int p1), .val (.int p2), .val (.int p3), .val (.int p4), .val (.int v2), .unset, .unset, .unset, .unset, .unset, .unset, .unset, .unset, .unset, .unset] [(.int p4)]))
    refine Ends.via (fun _ k => XS.iconst Xj3.here hx rfl (hb hby at_16) k) ?_
    show Ends p e below s 16 128 (Q0 Z p0 p1 p2 p3 p4  h0 n0) (Tj3.setTop (mkF m 17 #[.val (.int p0), .val (.int p1), .val (.int p2), .val (.int p3), .val (.int p4), .val (.int v2), .unset, .unset, .unset, .unset, .unset, .unset, .unset, .unset, .unset, .unset] [(.int (2 : Int32)), (.int p4)]))
    refine Ends.via (fun _ k => XS.iand Xj3.here hx rfl (hb hby at_17) rfl k) ?_
    show Ends p e below s 16 128 (Q0 Z p0 p1 p2 p3 p4  h0 n0) (Tj3.setTop (mkF m 18 #[.val (.int p0), .val (.int p1), .val (.int p2), .val (.int p3), .val (.int p4), .val (.int v2), .unset, .unset, .unset, .unset, .unset, .unset, .unset, .unset, .unset, .unset] [(.int (p4 &&& (2 : Int32)))]))
    have J6 : ∀ (Tj6 : State) (Lj6 : List Loc) (Xj6 : Stand p l e room_1 s m #[(.int p0), (.int p1), (.int p2), (.int p3), (.int p4)] below meth c Tj6 Lj6 0 0) (ej6 : Tj6.heap = h0) (Nj6 : Fr n0 Lj6) (v5 : Int32), (if (p4 &&& (2 : Int32)) = (0 : Int32) then (0 : Int32) else p1) = v5 → Ends p e below s 16 128 (Q0 Z p0 p1 p2 p3 p4  h0 n0) (Tj6.setTop (mkF m 26 #[.val (.int p0), .val (.int p1), .val (.int p2), .val (.int p3), .val (.int p4), .val (.int v2), .unset, .unset, .unset, .unset, .unset, .unset, .unset, .unset, .unset, .unset] [(.int v5)])) := by
      intro Tj6 Lj6 Xj6 ej6 Nj6 v5 hv5
      refine Ends.via (fun _ k => XS.istore Xj6.here hx rfl (hb hby at_26) rfl (l' := #[.val (.int p0), .val (.int p1), .val (.int p2), .val (.int p3), .val (.int p4), .val (.int v2), .val (.int v5), .unset, .unset, .unset, .unset, .unset, .unset, .unset, .unset, .unset]) rfl k) ?_
      show Ends p e below s 16 128 (Q0 Z p0 p1 p2 p3 p4  h0 n0) (Tj6.setTop (mkF m 28 #[.val (.int p0), .val (.int p1), .val (.int p2), .val (.int p3), .val (.int p4), .val (.int v2), .val (.int v5), .unset, .unset, .unset, .unset, .unset, .unset, .unset, .unset, .unset] []))
      refine Ends.via (fun _ k => XS.iload Xj6.here hx rfl (hb hby at_28) rfl k) ?_
      show Ends p e below s 16 128 (Q0 Z p0 p1 p2 p3 p4  h0 n0) (Tj6.setTop (mkF m 30 #[.val (.int p0), .val (.int p1), .val (.int p2), .val (.int p3), .val (.int p4), .val (.int v2), .val (.int v5), .unset, .unset, .unset, .unset, .unset, .unset, .unset, .unset, .unset] [(.int p4)]))
      refine Ends.via (fun _ k => XS.iconst Xj6.here hx rfl (hb hby at_30) k) ?_
      show Ends p e below s 16 128 (Q0 Z p0 p1 p2 p3 p4  h0 n0) (Tj6.setTop (mkF m 31 #[.val (.int p0), .val (.int p1), .val (.int p2), .val (.int p3), .val (.int p4), .val (.int v2), .val (.int v5), .unset, .unset, .unset, .unset, .unset, .unset, .unset, .unset, .unset] [(.int (4 : Int32)), (.int p4)]))
      refine Ends.via (fun _ k => XS.iand Xj6.here hx rfl (hb hby at_31) rfl k) ?_
      show Ends p e below s 16 128 (Q0 Z p0 p1 p2 p3 p4  h0 n0) (Tj6.setTop (mkF m 32 #[.val (.int p0), .val (.int p1), .val (.int p2), .val (.int p3), .val (.int p4), .val (.int v2), .val (.int v5), .unset, .unset, .unset, .unset, .unset, .unset, .unset, .unset, .unset] [(.int (p4 &&& (4 : Int32)))]))
      have J9 : ∀ (Tj9 : State) (Lj9 : List Loc) (Xj9 : Stand p l e room_1 s m #[(.int p0), (.int p1), (.int p2), (.int p3), (.int p4)] below meth c Tj9 Lj9 0 0) (ej9 : Tj9.heap = h0) (Nj9 : Fr n0 Lj9) (v8 : Int32), (if (p4 &&& (4 : Int32)) = (0 : Int32) then (0 : Int32) else p2) = v8 → Ends p e below s 16 128 (Q0 Z p0 p1 p2 p3 p4  h0 n0) (Tj9.setTop (mkF m 40 #[.val (.int p0), .val (.int p1), .val (.int p2), .val (.int p3), .val (.int p4), .val (.int v2), .val (.int v5), .unset, .unset, .unset, .unset, .unset, .unset, .unset, .unset, .unset] [(.int v8)])) := by
        intro Tj9 Lj9 Xj9 ej9 Nj9 v8 hv8
        refine Ends.via (fun _ k => XS.istore Xj9.here hx rfl (hb hby at_40) rfl (l' := #[.val (.int p0), .val (.int p1), .val (.int p2), .val (.int p3), .val (.int p4), .val (.int v2), .val (.int v5), .val (.int v8), .unset, .unset, .unset, .unset, .unset, .unset, .unset, .unset]) rfl k) ?_
        show Ends p e below s 16 128 (Q0 Z p0 p1 p2 p3 p4  h0 n0) (Tj9.setTop (mkF m 42 #[.val (.int p0), .val (.int p1), .val (.int p2), .val (.int p3), .val (.int p4), .val (.int v2), .val (.int v5), .val (.int v8), .unset, .unset, .unset, .unset, .unset, .unset, .unset, .unset] []))
        refine Ends.via (fun _ k => XS.iload Xj9.here hx rfl (hb hby at_42) rfl k) ?_
        show Ends p e below s 16 128 (Q0 Z p0 p1 p2 p3 p4  h0 n0) (Tj9.setTop (mkF m 44 #[.val (.int p0), .val (.int p1), .val (.int p2), .val (.int p3), .val (.int p4), .val (.int v2), .val (.int v5), .val (.int v8), .unset, .unset, .unset, .unset, .unset, .unset, .unset, .unset] [(.int p4)]))
        refine Ends.via (fun _ k => XS.bipush Xj9.here hx rfl (hb hby at_44) k) ?_
        show Ends p e below s 16 128 (Q0 Z p0 p1 p2 p3 p4  h0 n0) (Tj9.setTop (mkF m 46 #[.val (.int p0), .val (.int p1), .val (.int p2), .val (.int p3), .val (.int p4), .val (.int v2), .val (.int v5), .val (.int v8), .unset, .unset, .unset, .unset, .unset, .unset, .unset, .unset] [(.int (8 : Int32)), (.int p4)]))
        refine Ends.via (fun _ k => XS.iand Xj9.here hx rfl (hb hby at_46) rfl k) ?_
        show Ends p e below s 16 128 (Q0 Z p0 p1 p2 p3 p4  h0 n0) (Tj9.setTop (mkF m 47 #[.val (.int p0), .val (.int p1), .val (.int p2), .val (.int p3), .val (.int p4), .val (.int v2), .val (.int v5), .val (.int v8), .unset, .unset, .unset, .unset, .unset, .unset, .unset, .unset] [(.int (p4 &&& (8 : Int32)))]))
        have J12 : ∀ (Tj12 : State) (Lj12 : List Loc) (Xj12 : Stand p l e room_1 s m #[(.int p0), (.int p1), (.int p2), (.int p3), (.int p4)] below meth c Tj12 Lj12 0 0) (ej12 : Tj12.heap = h0) (Nj12 : Fr n0 Lj12) (v11 : Int32), (if (p4 &&& (8 : Int32)) = (0 : Int32) then (0 : Int32) else p3) = v11 → Ends p e below s 16 128 (Q0 Z p0 p1 p2 p3 p4  h0 n0) (Tj12.setTop (mkF m 55 #[.val (.int p0), .val (.int p1), .val (.int p2), .val (.int p3), .val (.int p4), .val (.int v2), .val (.int v5), .val (.int v8), .unset, .unset, .unset, .unset, .unset, .unset, .unset, .unset] [(.int v11)])) := by
          intro Tj12 Lj12 Xj12 ej12 Nj12 v11 hv11
          refine Ends.via (fun _ k => XS.istore Xj12.here hx rfl (hb hby at_55) rfl (l' := #[.val (.int p0), .val (.int p1), .val (.int p2), .val (.int p3), .val (.int p4), .val (.int v2), .val (.int v5), .val (.int v8), .val (.int v11), .unset, .unset, .unset, .unset, .unset, .unset, .unset]) rfl k) ?_
          show Ends p e below s 16 128 (Q0 Z p0 p1 p2 p3 p4  h0 n0) (Tj12.setTop (mkF m 57 #[.val (.int p0), .val (.int p1), .val (.int p2), .val (.int p3), .val (.int p4), .val (.int v2), .val (.int v5), .val (.int v8), .val (.int v11), .unset, .unset, .unset, .unset, .unset, .unset, .unset] []))
          obtain ⟨T13, h13, X13, e13, E13, A13, D13, -, st13⟩ := newO Xj12 hx hZ hown (hw _ (List.mem_of_getElem? (i := 0) rfl)) (hw _ (List.mem_of_getElem? (i := 1) rfl)) (hw _ (List.mem_of_getElem? (i := 2) rfl)) ej12 (g := (mkF m 57 #[.val (.int p0), .val (.int p1), .val (.int p2), .val (.int p3), .val (.int p4), .val (.int v2), .val (.int v5), .val (.int v8), .val (.int v11), .unset, .unset, .unset, .unset, .unset, .unset, .unset] [])) rfl (hb hby at_57) (by decide) (by decide)
          obtain ⟨b13, g13⟩ : ∃ z, z = h0.size := ⟨_, rfl⟩
          rw [← g13] at A13 D13 st13
          have g_b13 : n0 ≤ b13 := Nat.le_trans Z0 (Nat.le_of_eq g13.symm)
          have Z13 : n0 ≤ h13.size := Nat.le_trans Z0 E13.1
          have F13_left : Fld Z h13 b13 "com/example/okno/okno/Insets" "left" "I" (.int (0 : Int32)) := D13 (Or.inr (hw _ (List.mem_of_getElem? (i := 10) rfl))) (ty := .int) (by decide)
          have F13_top : Fld Z h13 b13 "com/example/okno/okno/Insets" "top" "I" (.int (0 : Int32)) := D13 (Or.inr (hw _ (List.mem_of_getElem? (i := 12) rfl))) (ty := .int) (by decide)
          have F13_right : Fld Z h13 b13 "com/example/okno/okno/Insets" "right" "I" (.int (0 : Int32)) := D13 (Or.inr (hw _ (List.mem_of_getElem? (i := 14) rfl))) (ty := .int) (by decide)
          have F13_bottom : Fld Z h13 b13 "com/example/okno/okno/Insets" "bottom" "I" (.int (0 : Int32)) := D13 (Or.inr (hw _ (List.mem_of_getElem? (i := 16) rfl))) (ty := .int) (by decide)
          refine Ends.via st13 ?_
          show Ends p e below s 16 128 (Q0 Z p0 p1 p2 p3 p4  h0 n0) (T13.setTop (mkF m 60 #[.val (.int p0), .val (.int p1), .val (.int p2), .val (.int p3), .val (.int p4), .val (.int v2), .val (.int v5), .val (.int v8), .val (.int v11), .unset, .unset, .unset, .unset, .unset, .unset, .unset] [(.ref b13)]))
          refine Ends.via (fun _ k => XS.dup X13.here hx rfl (hb hby at_60) rfl rfl k) ?_
          show Ends p e below s 16 128 (Q0 Z p0 p1 p2 p3 p4  h0 n0) (T13.setTop (mkF m 61 #[.val (.int p0), .val (.int p1), .val (.int p2), .val (.int p3), .val (.int p4), .val (.int v2), .val (.int v5), .val (.int v8), .val (.int v11), .unset, .unset, .unset, .unset, .unset, .unset, .unset] [(.ref b13), (.ref b13)]))
          refine Ends.via (fun _ k => XS.iload X13.here hx rfl (hb hby at_61) rfl k) ?_
          show Ends p e below s 16 128 (Q0 Z p0 p1 p2 p3 p4  h0 n0) (T13.setTop (mkF m 63 #[.val (.int p0), .val (.int p1), .val (.int p2), .val (.int p3), .val (.int p4), .val (.int v2), .val (.int v5), .val (.int v8), .val (.int v11), .unset, .unset, .unset, .unset, .unset, .unset, .unset] [(.int v2), (.ref b13), (.ref b13)]))
          refine Ends.via (fun _ k => XS.iload X13.here hx rfl (hb hby at_63) rfl k) ?_
          show Ends p e below s 16 128 (Q0 Z p0 p1 p2 p3 p4  h0 n0) (T13.setTop (mkF m 65 #[.val (.int p0), .val (.int p1), .val (.int p2), .val (.int p3), .val (.int p4), .val (.int v2), .val (.int v5), .val (.int v8), .val (.int v11), .unset, .unset, .unset, .unset, .unset, .unset, .unset] [(.int v5), (.int v2), (.ref b13), (.ref b13)]))
          refine Ends.via (fun _ k => XS.iload X13.here hx rfl (hb hby at_65) rfl k) ?_
          show Ends p e below s 16 128 (Q0 Z p0 p1 p2 p3 p4  h0 n0) (T13.setTop (mkF m 67 #[.val (.int p0), .val (.int p1), .val (.int p2), .val (.int p3), .val (.int p4), .val (.int v2), .val (.int v5), .val (.int v8), .val (.int v11), .unset, .unset, .unset, .unset, .unset, .unset, .unset] [(.int v8), (.int v5), (.int v2), (.ref b13), (.ref b13)]))
          refine Ends.via (fun _ k => XS.iload X13.here hx rfl (hb hby at_67) rfl k) ?_
          show Ends p e below s 16 128 (Q0 Z p0 p1 p2 p3 p4  h0 n0) (T13.setTop (mkF m 69 #[.val (.int p0), .val (.int p1), .val (.int p2), .val (.int p3), .val (.int p4), .val (.int v2), .val (.int v5), .val (.int v8), .val (.int v11), .unset, .unset, .unset, .unset, .unset, .unset, .unset] [(.int v11), (.int v8), (.int v5), (.int v2), (.ref b13), (.ref b13)]))
          obtain ⟨_, _, ⟨T14, L14, k14, n14⟩, -, X14, ⟨Lc14, hQ14, l14, y14, z14⟩, st14⟩ := X13.specialBack hx (y := (⟨"com/example/okno/okno/Insets", "<init>", "(IIII)V"⟩ : MethodName)) rfl hown (mvT hZ (hw _ (List.mem_of_getElem? (i := 3) rfl))) (mvT hZ (hw _ (List.mem_of_getElem? (i := 4) rfl))) (mvT hZ (hw _ (List.mem_of_getElem? (i := 5) rfl))) (by decide) (backOf (W := 1) (rm1 l Z a0 hw [] b13 v2 v5 v8 v11 (.int (0 : Int32)) (.int (0 : Int32)) (.int (0 : Int32)) (.int (0 : Int32)) h13 n0 Z13 g_b13 A13 F13_left F13_top F13_right F13_bottom) hZ (hw _ (List.mem_of_getElem? (i := 5) rfl)) (hw _ (List.mem_of_getElem? (i := 2) rfl)) (by decide) (by decide)) (g := (mkF m 69 #[.val (.int p0), .val (.int p1), .val (.int p2), .val (.int p3), .val (.int p4), .val (.int v2), .val (.int v5), .val (.int v8), .val (.int v11), .unset, .unset, .unset, .unset, .unset, .unset, .unset] [(.int v11), (.int v8), (.int v5), (.int v2), (.ref b13), (.ref b13)])) rfl (by rw [hml]; rfl) (Steps.refl _) (a := b13) (argsL := [(.int v2), (.int v5), (.int v8), (.int v11)]) (rest := [(.ref b13)]) (lenOf own_pd0 rfl) rfl (by show 2 * 0 + _ ≤ _; exact Nat.le_of_eq rfl) (hb hby at_69) (fun _ _ => ⟨rfl, e13, (by decide : 1 + 0 ≤ _), (by decide : 4 + 0 ≤ _)⟩)
          dsimp only [Pt.U, Pt.locs, Pt.cells, Pt.slots] at X14 l14 y14 z14 st14 hQ14
          subst l14 y14 z14
          obtain ⟨rfl, Nq14, Kq14, Eq14, Fq14_0, Fq14_1, Fq14_2, Fq14_3⟩ := hQ14
          have N14 := Fr.app Nj12 Nq14
          have Z14 : n0 ≤ T14.heap.size := Nat.le_trans Z13 Kq14.1
          refine Ends.via (fun _ k => st14.trans k) ?_
          show Ends p e below s 16 128 (Q0 Z p0 p1 p2 p3 p4  h0 n0) (T14.setTop (mkF m 72 #[.val (.int p0), .val (.int p1), .val (.int p2), .val (.int p3), .val (.int p4), .val (.int v2), .val (.int v5), .val (.int v8), .val (.int v11), .unset, .unset, .unset, .unset, .unset, .unset, .unset] [(.ref b13)]))
          refine Ends.via (fun _ k => XS.astore X14.here hx rfl (hb hby at_72) rfl rfl (l' := #[.val (.int p0), .val (.int p1), .val (.int p2), .val (.int p3), .val (.int p4), .val (.int v2), .val (.int v5), .val (.int v8), .val (.int v11), .val (.ref b13), .unset, .unset, .unset, .unset, .unset, .unset]) rfl k) ?_
          show Ends p e below s 16 128 (Q0 Z p0 p1 p2 p3 p4  h0 n0) (T14.setTop (mkF m 74 #[.val (.int p0), .val (.int p1), .val (.int p2), .val (.int p3), .val (.int p4), .val (.int v2), .val (.int v5), .val (.int v8), .val (.int v11), .val (.ref b13), .unset, .unset, .unset, .unset, .unset, .unset] []))
          refine Ends.via (fun _ k => XS.aload X14.here hx rfl (hb hby at_74) rfl rfl k) ?_
          show Ends p e below s 16 128 (Q0 Z p0 p1 p2 p3 p4  h0 n0) (T14.setTop (mkF m 76 #[.val (.int p0), .val (.int p1), .val (.int p2), .val (.int p3), .val (.int p4), .val (.int v2), .val (.int v5), .val (.int v8), .val (.int v11), .val (.ref b13), .unset, .unset, .unset, .unset, .unset, .unset] [(.ref b13)]))
          obtain ⟨cq20, kq20, qa20, qb20, qc20⟩ := isOf hZ rfl Eq14
          obtain ⟨_, _, ⟨T20, L20, k20, n20⟩, -, X20, ⟨Lc20, hQ20, l20, y20, z20⟩, st20⟩ := X14.virtualBack hx (y := (⟨"com/example/okno/okno/Insets", "sides", "()I"⟩ : MethodName)) (z := (⟨"com/example/okno/okno/Insets", "sides", "()I"⟩ : MethodName)) hown (mvT hZ (hw _ (List.mem_of_getElem? (i := 17) rfl))) (mvT hZ (hw _ (List.mem_of_getElem? (i := 18) rfl))) (notFace_of_selects (args := #[]) (mvT hZ (hw _ (List.mem_of_getElem? (i := 20) rfl)))) (mvT hZ (hw _ (List.mem_of_getElem? (i := 20) rfl))) (mvT hZ (hw _ (List.mem_of_getElem? (i := 19) rfl))) (by decide) (backOf (W := 0) (rm3 l Z a0 hw [] b13  v2 v5 v8 v11 T14.heap n0 Z14 Fq14_0 Fq14_1 Fq14_2 Fq14_3) hZ (hw _ (List.mem_of_getElem? (i := 21) rfl)) (hw _ (List.mem_of_getElem? (i := 2) rfl)) (by decide) (by decide)) qa20 qc20 (g := (mkF m 76 #[.val (.int p0), .val (.int p1), .val (.int p2), .val (.int p3), .val (.int p4), .val (.int v2), .val (.int v5), .val (.int v8), .val (.int v11), .val (.ref b13), .unset, .unset, .unset, .unset, .unset, .unset] [(.ref b13)])) rfl (by rw [hml]; rfl) (Steps.refl _) (argsL := []) (rest := []) (lenOf own_pd1 rfl) rfl (by show 2 * 0 + _ ≤ _; exact Nat.le_of_eq rfl) (hb hby at_76) (fun _ _ => ⟨rfl, rfl, (by decide : 1 + 0 ≤ _), (by decide : 4 + 0 ≤ _)⟩)
          dsimp only [Pt.U, Pt.locs, Pt.cells, Pt.slots] at X20 l20 y20 z20 st20 hQ20
          subst l20 y20 z20
          obtain ⟨rfl, Nq20, e20⟩ := hQ20
          have N20 := Fr.app N14 Nq20
          refine Ends.via (fun _ k => st20.trans k) ?_
          show Ends p e below s 16 128 (Q0 Z p0 p1 p2 p3 p4  h0 n0) (T20.setTop (mkF m 79 #[.val (.int p0), .val (.int p1), .val (.int p2), .val (.int p3), .val (.int p4), .val (.int v2), .val (.int v5), .val (.int v8), .val (.int v11), .val (.ref b13), .unset, .unset, .unset, .unset, .unset, .unset] [(.int (fn3 v2 v5 v8 v11))]))
          refine Ends.via (fun _ k => XS.istore X20.here hx rfl (hb hby at_79) rfl (l' := #[.val (.int p0), .val (.int p1), .val (.int p2), .val (.int p3), .val (.int p4), .val (.int v2), .val (.int v5), .val (.int v8), .val (.int v11), .val (.ref b13), .val (.int (fn3 v2 v5 v8 v11)), .unset, .unset, .unset, .unset, .unset]) rfl k) ?_
          show Ends p e below s 16 128 (Q0 Z p0 p1 p2 p3 p4  h0 n0) (T20.setTop (mkF m 81 #[.val (.int p0), .val (.int p1), .val (.int p2), .val (.int p3), .val (.int p4), .val (.int v2), .val (.int v5), .val (.int v8), .val (.int v11), .val (.ref b13), .val (.int (fn3 v2 v5 v8 v11)), .unset, .unset, .unset, .unset, .unset] []))
          generalize hv41 : (fn3 v2 v5 v8 v11) = v41
          refine Ends.via (fun _ k => XS.iload X20.here hx rfl (hb hby at_81) rfl k) ?_
          show Ends p e below s 16 128 (Q0 Z p0 p1 p2 p3 p4  h0 n0) (T20.setTop (mkF m 83 #[.val (.int p0), .val (.int p1), .val (.int p2), .val (.int p3), .val (.int p4), .val (.int v2), .val (.int v5), .val (.int v8), .val (.int v11), .val (.ref b13), .val (.int v41), .unset, .unset, .unset, .unset, .unset] [(.int v41)]))
          refine Ends.via (fun _ k => XS.bipush X20.here hx rfl (hb hby at_83) k) ?_
          show Ends p e below s 16 128 (Q0 Z p0 p1 p2 p3 p4  h0 n0) (T20.setTop (mkF m 85 #[.val (.int p0), .val (.int p1), .val (.int p2), .val (.int p3), .val (.int p4), .val (.int v2), .val (.int v5), .val (.int v8), .val (.int v11), .val (.ref b13), .val (.int v41), .unset, .unset, .unset, .unset, .unset] [(.int (-16 : Int32)), (.int v41)]))
          refine Ends.via (fun _ k => XS.iand X20.here hx rfl (hb hby at_85) rfl k) ?_
          show Ends p e below s 16 128 (Q0 Z p0 p1 p2 p3 p4  h0 n0) (T20.setTop (mkF m 86 #[.val (.int p0), .val (.int p1), .val (.int p2), .val (.int p3), .val (.int p4), .val (.int v2), .val (.int v5), .val (.int v8), .val (.int v11), .val (.ref b13), .val (.int v41), .unset, .unset, .unset, .unset, .unset] [(.int (v41 &&& (-16 : Int32)))]))
          have J44 : ∀ (Tj44 : State) (Lj44 : List Loc) (Xj44 : Stand p l e room_1 s m #[(.int p0), (.int p1), (.int p2), (.int p3), (.int p4)] below meth c Tj44 Lj44 1 4) (ej44 : Tj44.heap = T14.heap) (Nj44 : Fr n0 Lj44) (v43 : Int32), (if (v41 &&& (-16 : Int32)) = (0 : Int32) then (1 : Int32) else (0 : Int32)) = v43 → Ends p e below s 16 128 (Q0 Z p0 p1 p2 p3 p4  h0 n0) (Tj44.setTop (mkF m 94 #[.val (.int p0), .val (.int p1), .val (.int p2), .val (.int p3), .val (.int p4), .val (.int v2), .val (.int v5), .val (.int v8), .val (.int v11), .val (.ref b13), .val (.int v41), .unset, .unset, .unset, .unset, .unset] [(.int v43)])) := by
            intro Tj44 Lj44 Xj44 ej44 Nj44 v43 hv43
            refine Ends.via (fun _ k => XS.istore Xj44.here hx rfl (hb hby at_94) rfl (l' := #[.val (.int p0), .val (.int p1), .val (.int p2), .val (.int p3), .val (.int p4), .val (.int v2), .val (.int v5), .val (.int v8), .val (.int v11), .val (.ref b13), .val (.int v41), .val (.int v43), .unset, .unset, .unset, .unset]) rfl k) ?_
            show Ends p e below s 16 128 (Q0 Z p0 p1 p2 p3 p4  h0 n0) (Tj44.setTop (mkF m 96 #[.val (.int p0), .val (.int p1), .val (.int p2), .val (.int p3), .val (.int p4), .val (.int v2), .val (.int v5), .val (.int v8), .val (.int v11), .val (.ref b13), .val (.int v41), .val (.int v43), .unset, .unset, .unset, .unset] []))
            refine Ends.via (fun _ k => XS.iload Xj44.here hx rfl (hb hby at_96) rfl k) ?_
            show Ends p e below s 16 128 (Q0 Z p0 p1 p2 p3 p4  h0 n0) (Tj44.setTop (mkF m 98 #[.val (.int p0), .val (.int p1), .val (.int p2), .val (.int p3), .val (.int p4), .val (.int v2), .val (.int v5), .val (.int v8), .val (.int v11), .val (.ref b13), .val (.int v41), .val (.int v43), .unset, .unset, .unset, .unset] [(.int v41)]))
            refine Ends.via (fun _ k => XS.iconst Xj44.here hx rfl (hb hby at_98) k) ?_
            show Ends p e below s 16 128 (Q0 Z p0 p1 p2 p3 p4  h0 n0) (Tj44.setTop (mkF m 99 #[.val (.int p0), .val (.int p1), .val (.int p2), .val (.int p3), .val (.int p4), .val (.int v2), .val (.int v5), .val (.int v8), .val (.int v11), .val (.ref b13), .val (.int v41), .val (.int v43), .unset, .unset, .unset, .unset] [(.int (1 : Int32)), (.int v41)]))
            refine Ends.via (fun _ k => XS.iand Xj44.here hx rfl (hb hby at_99) rfl k) ?_
            show Ends p e below s 16 128 (Q0 Z p0 p1 p2 p3 p4  h0 n0) (Tj44.setTop (mkF m 100 #[.val (.int p0), .val (.int p1), .val (.int p2), .val (.int p3), .val (.int p4), .val (.int v2), .val (.int v5), .val (.int v8), .val (.int v11), .val (.ref b13), .val (.int v41), .val (.int v43), .unset, .unset, .unset, .unset] [(.int (v41 &&& (1 : Int32)))]))
            have J47 : ∀ (Tj47 : State) (Lj47 : List Loc) (Xj47 : Stand p l e room_1 s m #[(.int p0), (.int p1), (.int p2), (.int p3), (.int p4)] below meth c Tj47 Lj47 1 4) (ej47 : Tj47.heap = T14.heap) (Nj47 : Fr n0 Lj47) (v46 : Int32), (if (v41 &&& (1 : Int32)) = (0 : Int32) then (0 : Int32) else (1 : Int32)) = v46 → Ends p e below s 16 128 (Q0 Z p0 p1 p2 p3 p4  h0 n0) (Tj47.setTop (mkF m 108 #[.val (.int p0), .val (.int p1), .val (.int p2), .val (.int p3), .val (.int p4), .val (.int v2), .val (.int v5), .val (.int v8), .val (.int v11), .val (.ref b13), .val (.int v41), .val (.int v43), .unset, .unset, .unset, .unset] [(.int v46)])) := by
              intro Tj47 Lj47 Xj47 ej47 Nj47 v46 hv46
              refine Ends.via (fun _ k => XS.iload Xj47.here hx rfl (hb hby at_108) rfl k) ?_
              show Ends p e below s 16 128 (Q0 Z p0 p1 p2 p3 p4  h0 n0) (Tj47.setTop (mkF m 110 #[.val (.int p0), .val (.int p1), .val (.int p2), .val (.int p3), .val (.int p4), .val (.int v2), .val (.int v5), .val (.int v8), .val (.int v11), .val (.ref b13), .val (.int v41), .val (.int v43), .unset, .unset, .unset, .unset] [(.int v2), (.int v46)]))
              have J50 : ∀ (Tj50 : State) (Lj50 : List Loc) (Xj50 : Stand p l e room_1 s m #[(.int p0), (.int p1), (.int p2), (.int p3), (.int p4)] below meth c Tj50 Lj50 1 4) (ej50 : Tj50.heap = T14.heap) (Nj50 : Fr n0 Lj50) (v49 : Int32), (if v2 = (0 : Int32) then (0 : Int32) else (1 : Int32)) = v49 → Ends p e below s 16 128 (Q0 Z p0 p1 p2 p3 p4  h0 n0) (Tj50.setTop (mkF m 118 #[.val (.int p0), .val (.int p1), .val (.int p2), .val (.int p3), .val (.int p4), .val (.int v2), .val (.int v5), .val (.int v8), .val (.int v11), .val (.ref b13), .val (.int v41), .val (.int v43), .unset, .unset, .unset, .unset] [(.int v49), (.int v46)])) := by
                intro Tj50 Lj50 Xj50 ej50 Nj50 v49 hv49
                have J53 : ∀ (Tj53 : State) (Lj53 : List Loc) (Xj53 : Stand p l e room_1 s m #[(.int p0), (.int p1), (.int p2), (.int p3), (.int p4)] below meth c Tj53 Lj53 1 4) (ej53 : Tj53.heap = T14.heap) (Nj53 : Fr n0 Lj53) (v52 : Int32), (if v46 = v49 then (1 : Int32) else (0 : Int32)) = v52 → Ends p e below s 16 128 (Q0 Z p0 p1 p2 p3 p4  h0 n0) (Tj53.setTop (mkF m 126 #[.val (.int p0), .val (.int p1), .val (.int p2), .val (.int p3), .val (.int p4), .val (.int v2), .val (.int v5), .val (.int v8), .val (.int v11), .val (.ref b13), .val (.int v41), .val (.int v43), .unset, .unset, .unset, .unset] [(.int v52)])) := by
                  intro Tj53 Lj53 Xj53 ej53 Nj53 v52 hv52
                  refine Ends.via (fun _ k => XS.istore Xj53.here hx rfl (hb hby at_126) rfl (l' := #[.val (.int p0), .val (.int p1), .val (.int p2), .val (.int p3), .val (.int p4), .val (.int v2), .val (.int v5), .val (.int v8), .val (.int v11), .val (.ref b13), .val (.int v41), .val (.int v43), .val (.int v52), .unset, .unset, .unset]) rfl k) ?_
                  show Ends p e below s 16 128 (Q0 Z p0 p1 p2 p3 p4  h0 n0) (Tj53.setTop (mkF m 128 #[.val (.int p0), .val (.int p1), .val (.int p2), .val (.int p3), .val (.int p4), .val (.int v2), .val (.int v5), .val (.int v8), .val (.int v11), .val (.ref b13), .val (.int v41), .val (.int v43), .val (.int v52), .unset, .unset, .unset] []))
                  refine Ends.via (fun _ k => XS.iload Xj53.here hx rfl (hb hby at_128) rfl k) ?_
                  show Ends p e below s 16 128 (Q0 Z p0 p1 p2 p3 p4  h0 n0) (Tj53.setTop (mkF m 130 #[.val (.int p0), .val (.int p1), .val (.int p2), .val (.int p3), .val (.int p4), .val (.int v2), .val (.int v5), .val (.int v8), .val (.int v11), .val (.ref b13), .val (.int v41), .val (.int v43), .val (.int v52), .unset, .unset, .unset] [(.int v41)]))
                  refine Ends.via (fun _ k => XS.iconst Xj53.here hx rfl (hb hby at_130) k) ?_
                  show Ends p e below s 16 128 (Q0 Z p0 p1 p2 p3 p4  h0 n0) (Tj53.setTop (mkF m 131 #[.val (.int p0), .val (.int p1), .val (.int p2), .val (.int p3), .val (.int p4), .val (.int v2), .val (.int v5), .val (.int v8), .val (.int v11), .val (.ref b13), .val (.int v41), .val (.int v43), .val (.int v52), .unset, .unset, .unset] [(.int (2 : Int32)), (.int v41)]))
                  refine Ends.via (fun _ k => XS.iand Xj53.here hx rfl (hb hby at_131) rfl k) ?_
                  show Ends p e below s 16 128 (Q0 Z p0 p1 p2 p3 p4  h0 n0) (Tj53.setTop (mkF m 132 #[.val (.int p0), .val (.int p1), .val (.int p2), .val (.int p3), .val (.int p4), .val (.int v2), .val (.int v5), .val (.int v8), .val (.int v11), .val (.ref b13), .val (.int v41), .val (.int v43), .val (.int v52), .unset, .unset, .unset] [(.int (v41 &&& (2 : Int32)))]))
                  have J56 : ∀ (Tj56 : State) (Lj56 : List Loc) (Xj56 : Stand p l e room_1 s m #[(.int p0), (.int p1), (.int p2), (.int p3), (.int p4)] below meth c Tj56 Lj56 1 4) (ej56 : Tj56.heap = T14.heap) (Nj56 : Fr n0 Lj56) (v55 : Int32), (if (v41 &&& (2 : Int32)) = (0 : Int32) then (0 : Int32) else (1 : Int32)) = v55 → Ends p e below s 16 128 (Q0 Z p0 p1 p2 p3 p4  h0 n0) (Tj56.setTop (mkF m 140 #[.val (.int p0), .val (.int p1), .val (.int p2), .val (.int p3), .val (.int p4), .val (.int v2), .val (.int v5), .val (.int v8), .val (.int v11), .val (.ref b13), .val (.int v41), .val (.int v43), .val (.int v52), .unset, .unset, .unset] [(.int v55)])) := by
                    intro Tj56 Lj56 Xj56 ej56 Nj56 v55 hv55
                    refine Ends.via (fun _ k => XS.iload Xj56.here hx rfl (hb hby at_140) rfl k) ?_
                    show Ends p e below s 16 128 (Q0 Z p0 p1 p2 p3 p4  h0 n0) (Tj56.setTop (mkF m 142 #[.val (.int p0), .val (.int p1), .val (.int p2), .val (.int p3), .val (.int p4), .val (.int v2), .val (.int v5), .val (.int v8), .val (.int v11), .val (.ref b13), .val (.int v41), .val (.int v43), .val (.int v52), .unset, .unset, .unset] [(.int v5), (.int v55)]))
                    have J59 : ∀ (Tj59 : State) (Lj59 : List Loc) (Xj59 : Stand p l e room_1 s m #[(.int p0), (.int p1), (.int p2), (.int p3), (.int p4)] below meth c Tj59 Lj59 1 4) (ej59 : Tj59.heap = T14.heap) (Nj59 : Fr n0 Lj59) (v58 : Int32), (if v5 = (0 : Int32) then (0 : Int32) else (1 : Int32)) = v58 → Ends p e below s 16 128 (Q0 Z p0 p1 p2 p3 p4  h0 n0) (Tj59.setTop (mkF m 150 #[.val (.int p0), .val (.int p1), .val (.int p2), .val (.int p3), .val (.int p4), .val (.int v2), .val (.int v5), .val (.int v8), .val (.int v11), .val (.ref b13), .val (.int v41), .val (.int v43), .val (.int v52), .unset, .unset, .unset] [(.int v58), (.int v55)])) := by
                      intro Tj59 Lj59 Xj59 ej59 Nj59 v58 hv58
                      have J62 : ∀ (Tj62 : State) (Lj62 : List Loc) (Xj62 : Stand p l e room_1 s m #[(.int p0), (.int p1), (.int p2), (.int p3), (.int p4)] below meth c Tj62 Lj62 1 4) (ej62 : Tj62.heap = T14.heap) (Nj62 : Fr n0 Lj62) (v61 : Int32), (if v55 = v58 then (1 : Int32) else (0 : Int32)) = v61 → Ends p e below s 16 128 (Q0 Z p0 p1 p2 p3 p4  h0 n0) (Tj62.setTop (mkF m 158 #[.val (.int p0), .val (.int p1), .val (.int p2), .val (.int p3), .val (.int p4), .val (.int v2), .val (.int v5), .val (.int v8), .val (.int v11), .val (.ref b13), .val (.int v41), .val (.int v43), .val (.int v52), .unset, .unset, .unset] [(.int v61)])) := by
                        intro Tj62 Lj62 Xj62 ej62 Nj62 v61 hv61
                        refine Ends.via (fun _ k => XS.istore Xj62.here hx rfl (hb hby at_158) rfl (l' := #[.val (.int p0), .val (.int p1), .val (.int p2), .val (.int p3), .val (.int p4), .val (.int v2), .val (.int v5), .val (.int v8), .val (.int v11), .val (.ref b13), .val (.int v41), .val (.int v43), .val (.int v52), .val (.int v61), .unset, .unset]) rfl k) ?_
                        show Ends p e below s 16 128 (Q0 Z p0 p1 p2 p3 p4  h0 n0) (Tj62.setTop (mkF m 160 #[.val (.int p0), .val (.int p1), .val (.int p2), .val (.int p3), .val (.int p4), .val (.int v2), .val (.int v5), .val (.int v8), .val (.int v11), .val (.ref b13), .val (.int v41), .val (.int v43), .val (.int v52), .val (.int v61), .unset, .unset] []))
                        refine Ends.via (fun _ k => XS.iload Xj62.here hx rfl (hb hby at_160) rfl k) ?_
                        show Ends p e below s 16 128 (Q0 Z p0 p1 p2 p3 p4  h0 n0) (Tj62.setTop (mkF m 162 #[.val (.int p0), .val (.int p1), .val (.int p2), .val (.int p3), .val (.int p4), .val (.int v2), .val (.int v5), .val (.int v8), .val (.int v11), .val (.ref b13), .val (.int v41), .val (.int v43), .val (.int v52), .val (.int v61), .unset, .unset] [(.int v41)]))
                        refine Ends.via (fun _ k => XS.iconst Xj62.here hx rfl (hb hby at_162) k) ?_
                        show Ends p e below s 16 128 (Q0 Z p0 p1 p2 p3 p4  h0 n0) (Tj62.setTop (mkF m 163 #[.val (.int p0), .val (.int p1), .val (.int p2), .val (.int p3), .val (.int p4), .val (.int v2), .val (.int v5), .val (.int v8), .val (.int v11), .val (.ref b13), .val (.int v41), .val (.int v43), .val (.int v52), .val (.int v61), .unset, .unset] [(.int (4 : Int32)), (.int v41)]))
                        refine Ends.via (fun _ k => XS.iand Xj62.here hx rfl (hb hby at_163) rfl k) ?_
                        show Ends p e below s 16 128 (Q0 Z p0 p1 p2 p3 p4  h0 n0) (Tj62.setTop (mkF m 164 #[.val (.int p0), .val (.int p1), .val (.int p2), .val (.int p3), .val (.int p4), .val (.int v2), .val (.int v5), .val (.int v8), .val (.int v11), .val (.ref b13), .val (.int v41), .val (.int v43), .val (.int v52), .val (.int v61), .unset, .unset] [(.int (v41 &&& (4 : Int32)))]))
                        have J65 : ∀ (Tj65 : State) (Lj65 : List Loc) (Xj65 : Stand p l e room_1 s m #[(.int p0), (.int p1), (.int p2), (.int p3), (.int p4)] below meth c Tj65 Lj65 1 4) (ej65 : Tj65.heap = T14.heap) (Nj65 : Fr n0 Lj65) (v64 : Int32), (if (v41 &&& (4 : Int32)) = (0 : Int32) then (0 : Int32) else (1 : Int32)) = v64 → Ends p e below s 16 128 (Q0 Z p0 p1 p2 p3 p4  h0 n0) (Tj65.setTop (mkF m 172 #[.val (.int p0), .val (.int p1), .val (.int p2), .val (.int p3), .val (.int p4), .val (.int v2), .val (.int v5), .val (.int v8), .val (.int v11), .val (.ref b13), .val (.int v41), .val (.int v43), .val (.int v52), .val (.int v61), .unset, .unset] [(.int v64)])) := by
                          intro Tj65 Lj65 Xj65 ej65 Nj65 v64 hv64
                          refine Ends.via (fun _ k => XS.iload Xj65.here hx rfl (hb hby at_172) rfl k) ?_
                          show Ends p e below s 16 128 (Q0 Z p0 p1 p2 p3 p4  h0 n0) (Tj65.setTop (mkF m 174 #[.val (.int p0), .val (.int p1), .val (.int p2), .val (.int p3), .val (.int p4), .val (.int v2), .val (.int v5), .val (.int v8), .val (.int v11), .val (.ref b13), .val (.int v41), .val (.int v43), .val (.int v52), .val (.int v61), .unset, .unset] [(.int v8), (.int v64)]))
                          have J68 : ∀ (Tj68 : State) (Lj68 : List Loc) (Xj68 : Stand p l e room_1 s m #[(.int p0), (.int p1), (.int p2), (.int p3), (.int p4)] below meth c Tj68 Lj68 1 4) (ej68 : Tj68.heap = T14.heap) (Nj68 : Fr n0 Lj68) (v67 : Int32), (if v8 = (0 : Int32) then (0 : Int32) else (1 : Int32)) = v67 → Ends p e below s 16 128 (Q0 Z p0 p1 p2 p3 p4  h0 n0) (Tj68.setTop (mkF m 182 #[.val (.int p0), .val (.int p1), .val (.int p2), .val (.int p3), .val (.int p4), .val (.int v2), .val (.int v5), .val (.int v8), .val (.int v11), .val (.ref b13), .val (.int v41), .val (.int v43), .val (.int v52), .val (.int v61), .unset, .unset] [(.int v67), (.int v64)])) := by
                            intro Tj68 Lj68 Xj68 ej68 Nj68 v67 hv67
                            have J71 : ∀ (Tj71 : State) (Lj71 : List Loc) (Xj71 : Stand p l e room_1 s m #[(.int p0), (.int p1), (.int p2), (.int p3), (.int p4)] below meth c Tj71 Lj71 1 4) (ej71 : Tj71.heap = T14.heap) (Nj71 : Fr n0 Lj71) (v70 : Int32), (if v64 = v67 then (1 : Int32) else (0 : Int32)) = v70 → Ends p e below s 16 128 (Q0 Z p0 p1 p2 p3 p4  h0 n0) (Tj71.setTop (mkF m 190 #[.val (.int p0), .val (.int p1), .val (.int p2), .val (.int p3), .val (.int p4), .val (.int v2), .val (.int v5), .val (.int v8), .val (.int v11), .val (.ref b13), .val (.int v41), .val (.int v43), .val (.int v52), .val (.int v61), .unset, .unset] [(.int v70)])) := by
                              intro Tj71 Lj71 Xj71 ej71 Nj71 v70 hv70
                              refine Ends.via (fun _ k => XS.istore Xj71.here hx rfl (hb hby at_190) rfl (l' := #[.val (.int p0), .val (.int p1), .val (.int p2), .val (.int p3), .val (.int p4), .val (.int v2), .val (.int v5), .val (.int v8), .val (.int v11), .val (.ref b13), .val (.int v41), .val (.int v43), .val (.int v52), .val (.int v61), .val (.int v70), .unset]) rfl k) ?_
                              show Ends p e below s 16 128 (Q0 Z p0 p1 p2 p3 p4  h0 n0) (Tj71.setTop (mkF m 192 #[.val (.int p0), .val (.int p1), .val (.int p2), .val (.int p3), .val (.int p4), .val (.int v2), .val (.int v5), .val (.int v8), .val (.int v11), .val (.ref b13), .val (.int v41), .val (.int v43), .val (.int v52), .val (.int v61), .val (.int v70), .unset] []))
                              refine Ends.via (fun _ k => XS.iload Xj71.here hx rfl (hb hby at_192) rfl k) ?_
                              show Ends p e below s 16 128 (Q0 Z p0 p1 p2 p3 p4  h0 n0) (Tj71.setTop (mkF m 194 #[.val (.int p0), .val (.int p1), .val (.int p2), .val (.int p3), .val (.int p4), .val (.int v2), .val (.int v5), .val (.int v8), .val (.int v11), .val (.ref b13), .val (.int v41), .val (.int v43), .val (.int v52), .val (.int v61), .val (.int v70), .unset] [(.int v41)]))
                              refine Ends.via (fun _ k => XS.bipush Xj71.here hx rfl (hb hby at_194) k) ?_
                              show Ends p e below s 16 128 (Q0 Z p0 p1 p2 p3 p4  h0 n0) (Tj71.setTop (mkF m 196 #[.val (.int p0), .val (.int p1), .val (.int p2), .val (.int p3), .val (.int p4), .val (.int v2), .val (.int v5), .val (.int v8), .val (.int v11), .val (.ref b13), .val (.int v41), .val (.int v43), .val (.int v52), .val (.int v61), .val (.int v70), .unset] [(.int (8 : Int32)), (.int v41)]))
                              refine Ends.via (fun _ k => XS.iand Xj71.here hx rfl (hb hby at_196) rfl k) ?_
                              show Ends p e below s 16 128 (Q0 Z p0 p1 p2 p3 p4  h0 n0) (Tj71.setTop (mkF m 197 #[.val (.int p0), .val (.int p1), .val (.int p2), .val (.int p3), .val (.int p4), .val (.int v2), .val (.int v5), .val (.int v8), .val (.int v11), .val (.ref b13), .val (.int v41), .val (.int v43), .val (.int v52), .val (.int v61), .val (.int v70), .unset] [(.int (v41 &&& (8 : Int32)))]))
                              have J74 : ∀ (Tj74 : State) (Lj74 : List Loc) (Xj74 : Stand p l e room_1 s m #[(.int p0), (.int p1), (.int p2), (.int p3), (.int p4)] below meth c Tj74 Lj74 1 4) (ej74 : Tj74.heap = T14.heap) (Nj74 : Fr n0 Lj74) (v73 : Int32), (if (v41 &&& (8 : Int32)) = (0 : Int32) then (0 : Int32) else (1 : Int32)) = v73 → Ends p e below s 16 128 (Q0 Z p0 p1 p2 p3 p4  h0 n0) (Tj74.setTop (mkF m 205 #[.val (.int p0), .val (.int p1), .val (.int p2), .val (.int p3), .val (.int p4), .val (.int v2), .val (.int v5), .val (.int v8), .val (.int v11), .val (.ref b13), .val (.int v41), .val (.int v43), .val (.int v52), .val (.int v61), .val (.int v70), .unset] [(.int v73)])) := by
                                intro Tj74 Lj74 Xj74 ej74 Nj74 v73 hv73
                                refine Ends.via (fun _ k => XS.iload Xj74.here hx rfl (hb hby at_205) rfl k) ?_
                                show Ends p e below s 16 128 (Q0 Z p0 p1 p2 p3 p4  h0 n0) (Tj74.setTop (mkF m 207 #[.val (.int p0), .val (.int p1), .val (.int p2), .val (.int p3), .val (.int p4), .val (.int v2), .val (.int v5), .val (.int v8), .val (.int v11), .val (.ref b13), .val (.int v41), .val (.int v43), .val (.int v52), .val (.int v61), .val (.int v70), .unset] [(.int v11), (.int v73)]))
                                have J77 : ∀ (Tj77 : State) (Lj77 : List Loc) (Xj77 : Stand p l e room_1 s m #[(.int p0), (.int p1), (.int p2), (.int p3), (.int p4)] below meth c Tj77 Lj77 1 4) (ej77 : Tj77.heap = T14.heap) (Nj77 : Fr n0 Lj77) (v76 : Int32), (if v11 = (0 : Int32) then (0 : Int32) else (1 : Int32)) = v76 → Ends p e below s 16 128 (Q0 Z p0 p1 p2 p3 p4  h0 n0) (Tj77.setTop (mkF m 215 #[.val (.int p0), .val (.int p1), .val (.int p2), .val (.int p3), .val (.int p4), .val (.int v2), .val (.int v5), .val (.int v8), .val (.int v11), .val (.ref b13), .val (.int v41), .val (.int v43), .val (.int v52), .val (.int v61), .val (.int v70), .unset] [(.int v76), (.int v73)])) := by
                                  intro Tj77 Lj77 Xj77 ej77 Nj77 v76 hv76
                                  have J80 : ∀ (Tj80 : State) (Lj80 : List Loc) (Xj80 : Stand p l e room_1 s m #[(.int p0), (.int p1), (.int p2), (.int p3), (.int p4)] below meth c Tj80 Lj80 1 4) (ej80 : Tj80.heap = T14.heap) (Nj80 : Fr n0 Lj80) (v79 : Int32), (if v73 = v76 then (1 : Int32) else (0 : Int32)) = v79 → Ends p e below s 16 128 (Q0 Z p0 p1 p2 p3 p4  h0 n0) (Tj80.setTop (mkF m 223 #[.val (.int p0), .val (.int p1), .val (.int p2), .val (.int p3), .val (.int p4), .val (.int v2), .val (.int v5), .val (.int v8), .val (.int v11), .val (.ref b13), .val (.int v41), .val (.int v43), .val (.int v52), .val (.int v61), .val (.int v70), .unset] [(.int v79)])) := by
                                    intro Tj80 Lj80 Xj80 ej80 Nj80 v79 hv79
                                    refine Ends.via (fun _ k => XS.istore Xj80.here hx rfl (hb hby at_223) rfl (l' := #[.val (.int p0), .val (.int p1), .val (.int p2), .val (.int p3), .val (.int p4), .val (.int v2), .val (.int v5), .val (.int v8), .val (.int v11), .val (.ref b13), .val (.int v41), .val (.int v43), .val (.int v52), .val (.int v61), .val (.int v70), .val (.int v79)]) rfl k) ?_
                                    show Ends p e below s 16 128 (Q0 Z p0 p1 p2 p3 p4  h0 n0) (Tj80.setTop (mkF m 225 #[.val (.int p0), .val (.int p1), .val (.int p2), .val (.int p3), .val (.int p4), .val (.int v2), .val (.int v5), .val (.int v8), .val (.int v11), .val (.ref b13), .val (.int v41), .val (.int v43), .val (.int v52), .val (.int v61), .val (.int v70), .val (.int v79)] []))
                                    refine Ends.via (fun _ k => XS.iload Xj80.here hx rfl (hb hby at_225) rfl k) ?_
                                    show Ends p e below s 16 128 (Q0 Z p0 p1 p2 p3 p4  h0 n0) (Tj80.setTop (mkF m 227 #[.val (.int p0), .val (.int p1), .val (.int p2), .val (.int p3), .val (.int p4), .val (.int v2), .val (.int v5), .val (.int v8), .val (.int v11), .val (.ref b13), .val (.int v41), .val (.int v43), .val (.int v52), .val (.int v61), .val (.int v70), .val (.int v79)] [(.int v43)]))
                                    by_cases hc81 : v43 = (0 : Int32)
                                    · refine Ends.via (fun _ k => XS.ifYes Xj80.here hx rfl (pc0 := 227) (pc' := 254) rfl (hb hby at_227) rfl ((if0 _ _).trans (teq hc81).1) (by decide) (by decide) k) ?_
                                      show Ends p e below s 16 128 (Q0 Z p0 p1 p2 p3 p4  h0 n0) (Tj80.setTop (mkF m 254 #[.val (.int p0), .val (.int p1), .val (.int p2), .val (.int p3), .val (.int p4), .val (.int v2), .val (.int v5), .val (.int v8), .val (.int v11), .val (.ref b13), .val (.int v41), .val (.int v43), .val (.int v52), .val (.int v61), .val (.int v70), .val (.int v79)] []))
                                      refine Ends.via (fun _ k => XS.iconst Xj80.here hx rfl (hb hby at_254) k) ?_
                                      show Ends p e below s 16 128 (Q0 Z p0 p1 p2 p3 p4  h0 n0) (Tj80.setTop (mkF m 255 #[.val (.int p0), .val (.int p1), .val (.int p2), .val (.int p3), .val (.int p4), .val (.int v2), .val (.int v5), .val (.int v8), .val (.int v11), .val (.ref b13), .val (.int v41), .val (.int v43), .val (.int v52), .val (.int v61), .val (.int v70), .val (.int v79)] [(.int (0 : Int32))]))
                                      refine Ends.ret Xj80 (v := some (.int (nar .boolean (0 : Int32)))) (fun h => by rw [Bd.returns] at h; cases h) Bd.notSynchronized (fun fs hr => retN Xj80 hx (t := .boolean) Bd.returns (by simp) (hb hby at_255) hr) ?_ (by decide) (by decide)
                                      exact absurd (own_leaf1 p0 p1 p2 p3 p4 v2 v5 v8 v11 v41 v43 v46 v49 v52 v55 v58 v61 v64 v67 v70 v73 v76 v79 hv2 hv5 hv8 hv11 hv41 hv43 hv46 hv49 hv52 hv55 hv58 hv61 hv64 hv67 hv70 hv73 hv76 hv79 hc81) id
                                    · refine Ends.via (fun _ k => XS.ifNo Xj80.here hx rfl (hb hby at_227) rfl ((if0 _ _).trans (feq hc81).1) k) ?_
                                      show Ends p e below s 16 128 (Q0 Z p0 p1 p2 p3 p4  h0 n0) (Tj80.setTop (mkF m 230 #[.val (.int p0), .val (.int p1), .val (.int p2), .val (.int p3), .val (.int p4), .val (.int v2), .val (.int v5), .val (.int v8), .val (.int v11), .val (.ref b13), .val (.int v41), .val (.int v43), .val (.int v52), .val (.int v61), .val (.int v70), .val (.int v79)] []))
                                      refine Ends.via (fun _ k => XS.iload Xj80.here hx rfl (hb hby at_230) rfl k) ?_
                                      show Ends p e below s 16 128 (Q0 Z p0 p1 p2 p3 p4  h0 n0) (Tj80.setTop (mkF m 232 #[.val (.int p0), .val (.int p1), .val (.int p2), .val (.int p3), .val (.int p4), .val (.int v2), .val (.int v5), .val (.int v8), .val (.int v11), .val (.ref b13), .val (.int v41), .val (.int v43), .val (.int v52), .val (.int v61), .val (.int v70), .val (.int v79)] [(.int v52)]))
                                      by_cases hc82 : v52 = (0 : Int32)
                                      · refine Ends.via (fun _ k => XS.ifYes Xj80.here hx rfl (pc0 := 232) (pc' := 254) rfl (hb hby at_232) rfl ((if0 _ _).trans (teq hc82).1) (by decide) (by decide) k) ?_
                                        show Ends p e below s 16 128 (Q0 Z p0 p1 p2 p3 p4  h0 n0) (Tj80.setTop (mkF m 254 #[.val (.int p0), .val (.int p1), .val (.int p2), .val (.int p3), .val (.int p4), .val (.int v2), .val (.int v5), .val (.int v8), .val (.int v11), .val (.ref b13), .val (.int v41), .val (.int v43), .val (.int v52), .val (.int v61), .val (.int v70), .val (.int v79)] []))
                                        refine Ends.via (fun _ k => XS.iconst Xj80.here hx rfl (hb hby at_254) k) ?_
                                        show Ends p e below s 16 128 (Q0 Z p0 p1 p2 p3 p4  h0 n0) (Tj80.setTop (mkF m 255 #[.val (.int p0), .val (.int p1), .val (.int p2), .val (.int p3), .val (.int p4), .val (.int v2), .val (.int v5), .val (.int v8), .val (.int v11), .val (.ref b13), .val (.int v41), .val (.int v43), .val (.int v52), .val (.int v61), .val (.int v70), .val (.int v79)] [(.int (0 : Int32))]))
                                        refine Ends.ret Xj80 (v := some (.int (nar .boolean (0 : Int32)))) (fun h => by rw [Bd.returns] at h; cases h) Bd.notSynchronized (fun fs hr => retN Xj80 hx (t := .boolean) Bd.returns (by simp) (hb hby at_255) hr) ?_ (by decide) (by decide)
                                        exact absurd (own_leaf2 p0 p1 p2 p3 p4 v2 v5 v8 v11 v41 v43 v46 v49 v52 v55 v58 v61 v64 v67 v70 v73 v76 v79 hv2 hv5 hv8 hv11 hv41 hv43 hv46 hv49 hv52 hv55 hv58 hv61 hv64 hv67 hv70 hv73 hv76 hv79 hc81 hc82) id
                                      · refine Ends.via (fun _ k => XS.ifNo Xj80.here hx rfl (hb hby at_232) rfl ((if0 _ _).trans (feq hc82).1) k) ?_
                                        show Ends p e below s 16 128 (Q0 Z p0 p1 p2 p3 p4  h0 n0) (Tj80.setTop (mkF m 235 #[.val (.int p0), .val (.int p1), .val (.int p2), .val (.int p3), .val (.int p4), .val (.int v2), .val (.int v5), .val (.int v8), .val (.int v11), .val (.ref b13), .val (.int v41), .val (.int v43), .val (.int v52), .val (.int v61), .val (.int v70), .val (.int v79)] []))
                                        refine Ends.via (fun _ k => XS.iload Xj80.here hx rfl (hb hby at_235) rfl k) ?_
                                        show Ends p e below s 16 128 (Q0 Z p0 p1 p2 p3 p4  h0 n0) (Tj80.setTop (mkF m 237 #[.val (.int p0), .val (.int p1), .val (.int p2), .val (.int p3), .val (.int p4), .val (.int v2), .val (.int v5), .val (.int v8), .val (.int v11), .val (.ref b13), .val (.int v41), .val (.int v43), .val (.int v52), .val (.int v61), .val (.int v70), .val (.int v79)] [(.int v61)]))
                                        by_cases hc83 : v61 = (0 : Int32)
                                        · refine Ends.via (fun _ k => XS.ifYes Xj80.here hx rfl (pc0 := 237) (pc' := 254) rfl (hb hby at_237) rfl ((if0 _ _).trans (teq hc83).1) (by decide) (by decide) k) ?_
                                          show Ends p e below s 16 128 (Q0 Z p0 p1 p2 p3 p4  h0 n0) (Tj80.setTop (mkF m 254 #[.val (.int p0), .val (.int p1), .val (.int p2), .val (.int p3), .val (.int p4), .val (.int v2), .val (.int v5), .val (.int v8), .val (.int v11), .val (.ref b13), .val (.int v41), .val (.int v43), .val (.int v52), .val (.int v61), .val (.int v70), .val (.int v79)] []))
                                          refine Ends.via (fun _ k => XS.iconst Xj80.here hx rfl (hb hby at_254) k) ?_
                                          show Ends p e below s 16 128 (Q0 Z p0 p1 p2 p3 p4  h0 n0) (Tj80.setTop (mkF m 255 #[.val (.int p0), .val (.int p1), .val (.int p2), .val (.int p3), .val (.int p4), .val (.int v2), .val (.int v5), .val (.int v8), .val (.int v11), .val (.ref b13), .val (.int v41), .val (.int v43), .val (.int v52), .val (.int v61), .val (.int v70), .val (.int v79)] [(.int (0 : Int32))]))
                                          refine Ends.ret Xj80 (v := some (.int (nar .boolean (0 : Int32)))) (fun h => by rw [Bd.returns] at h; cases h) Bd.notSynchronized (fun fs hr => retN Xj80 hx (t := .boolean) Bd.returns (by simp) (hb hby at_255) hr) ?_ (by decide) (by decide)
                                          exact absurd (own_leaf3 p0 p1 p2 p3 p4 v2 v5 v8 v11 v41 v43 v46 v49 v52 v55 v58 v61 v64 v67 v70 v73 v76 v79 hv2 hv5 hv8 hv11 hv41 hv43 hv46 hv49 hv52 hv55 hv58 hv61 hv64 hv67 hv70 hv73 hv76 hv79 hc81 hc82 hc83) id
                                        · refine Ends.via (fun _ k => XS.ifNo Xj80.here hx rfl (hb hby at_237) rfl ((if0 _ _).trans (feq hc83).1) k) ?_
                                          show Ends p e below s 16 128 (Q0 Z p0 p1 p2 p3 p4  h0 n0) (Tj80.setTop (mkF m 240 #[.val (.int p0), .val (.int p1), .val (.int p2), .val (.int p3), .val (.int p4), .val (.int v2), .val (.int v5), .val (.int v8), .val (.int v11), .val (.ref b13), .val (.int v41), .val (.int v43), .val (.int v52), .val (.int v61), .val (.int v70), .val (.int v79)] []))
                                          refine Ends.via (fun _ k => XS.iload Xj80.here hx rfl (hb hby at_240) rfl k) ?_
                                          show Ends p e below s 16 128 (Q0 Z p0 p1 p2 p3 p4  h0 n0) (Tj80.setTop (mkF m 242 #[.val (.int p0), .val (.int p1), .val (.int p2), .val (.int p3), .val (.int p4), .val (.int v2), .val (.int v5), .val (.int v8), .val (.int v11), .val (.ref b13), .val (.int v41), .val (.int v43), .val (.int v52), .val (.int v61), .val (.int v70), .val (.int v79)] [(.int v70)]))
                                          by_cases hc84 : v70 = (0 : Int32)
                                          · refine Ends.via (fun _ k => XS.ifYes Xj80.here hx rfl (pc0 := 242) (pc' := 254) rfl (hb hby at_242) rfl ((if0 _ _).trans (teq hc84).1) (by decide) (by decide) k) ?_
                                            show Ends p e below s 16 128 (Q0 Z p0 p1 p2 p3 p4  h0 n0) (Tj80.setTop (mkF m 254 #[.val (.int p0), .val (.int p1), .val (.int p2), .val (.int p3), .val (.int p4), .val (.int v2), .val (.int v5), .val (.int v8), .val (.int v11), .val (.ref b13), .val (.int v41), .val (.int v43), .val (.int v52), .val (.int v61), .val (.int v70), .val (.int v79)] []))
                                            refine Ends.via (fun _ k => XS.iconst Xj80.here hx rfl (hb hby at_254) k) ?_
                                            show Ends p e below s 16 128 (Q0 Z p0 p1 p2 p3 p4  h0 n0) (Tj80.setTop (mkF m 255 #[.val (.int p0), .val (.int p1), .val (.int p2), .val (.int p3), .val (.int p4), .val (.int v2), .val (.int v5), .val (.int v8), .val (.int v11), .val (.ref b13), .val (.int v41), .val (.int v43), .val (.int v52), .val (.int v61), .val (.int v70), .val (.int v79)] [(.int (0 : Int32))]))
                                            refine Ends.ret Xj80 (v := some (.int (nar .boolean (0 : Int32)))) (fun h => by rw [Bd.returns] at h; cases h) Bd.notSynchronized (fun fs hr => retN Xj80 hx (t := .boolean) Bd.returns (by simp) (hb hby at_255) hr) ?_ (by decide) (by decide)
                                            exact absurd (own_leaf4 p0 p1 p2 p3 p4 v2 v5 v8 v11 v41 v43 v46 v49 v52 v55 v58 v61 v64 v67 v70 v73 v76 v79 hv2 hv5 hv8 hv11 hv41 hv43 hv46 hv49 hv52 hv55 hv58 hv61 hv64 hv67 hv70 hv73 hv76 hv79 hc81 hc82 hc83 hc84) id
                                          · refine Ends.via (fun _ k => XS.ifNo Xj80.here hx rfl (hb hby at_242) rfl ((if0 _ _).trans (feq hc84).1) k) ?_
                                            show Ends p e below s 16 128 (Q0 Z p0 p1 p2 p3 p4  h0 n0) (Tj80.setTop (mkF m 245 #[.val (.int p0), .val (.int p1), .val (.int p2), .val (.int p3), .val (.int p4), .val (.int v2), .val (.int v5), .val (.int v8), .val (.int v11), .val (.ref b13), .val (.int v41), .val (.int v43), .val (.int v52), .val (.int v61), .val (.int v70), .val (.int v79)] []))
                                            refine Ends.via (fun _ k => XS.iload Xj80.here hx rfl (hb hby at_245) rfl k) ?_
                                            show Ends p e below s 16 128 (Q0 Z p0 p1 p2 p3 p4  h0 n0) (Tj80.setTop (mkF m 247 #[.val (.int p0), .val (.int p1), .val (.int p2), .val (.int p3), .val (.int p4), .val (.int v2), .val (.int v5), .val (.int v8), .val (.int v11), .val (.ref b13), .val (.int v41), .val (.int v43), .val (.int v52), .val (.int v61), .val (.int v70), .val (.int v79)] [(.int v79)]))
                                            by_cases hc85 : v79 = (0 : Int32)
                                            · refine Ends.via (fun _ k => XS.ifYes Xj80.here hx rfl (pc0 := 247) (pc' := 254) rfl (hb hby at_247) rfl ((if0 _ _).trans (teq hc85).1) (by decide) (by decide) k) ?_
                                              show Ends p e below s 16 128 (Q0 Z p0 p1 p2 p3 p4  h0 n0) (Tj80.setTop (mkF m 254 #[.val (.int p0), .val (.int p1), .val (.int p2), .val (.int p3), .val (.int p4), .val (.int v2), .val (.int v5), .val (.int v8), .val (.int v11), .val (.ref b13), .val (.int v41), .val (.int v43), .val (.int v52), .val (.int v61), .val (.int v70), .val (.int v79)] []))
                                              refine Ends.via (fun _ k => XS.iconst Xj80.here hx rfl (hb hby at_254) k) ?_
                                              show Ends p e below s 16 128 (Q0 Z p0 p1 p2 p3 p4  h0 n0) (Tj80.setTop (mkF m 255 #[.val (.int p0), .val (.int p1), .val (.int p2), .val (.int p3), .val (.int p4), .val (.int v2), .val (.int v5), .val (.int v8), .val (.int v11), .val (.ref b13), .val (.int v41), .val (.int v43), .val (.int v52), .val (.int v61), .val (.int v70), .val (.int v79)] [(.int (0 : Int32))]))
                                              refine Ends.ret Xj80 (v := some (.int (nar .boolean (0 : Int32)))) (fun h => by rw [Bd.returns] at h; cases h) Bd.notSynchronized (fun fs hr => retN Xj80 hx (t := .boolean) Bd.returns (by simp) (hb hby at_255) hr) ?_ (by decide) (by decide)
                                              exact absurd (own_leaf5 p0 p1 p2 p3 p4 v2 v5 v8 v11 v41 v43 v46 v49 v52 v55 v58 v61 v64 v67 v70 v73 v76 v79 hv2 hv5 hv8 hv11 hv41 hv43 hv46 hv49 hv52 hv55 hv58 hv61 hv64 hv67 hv70 hv73 hv76 hv79 hc81 hc82 hc83 hc84 hc85) id
                                            · refine Ends.via (fun _ k => XS.ifNo Xj80.here hx rfl (hb hby at_247) rfl ((if0 _ _).trans (feq hc85).1) k) ?_
                                              show Ends p e below s 16 128 (Q0 Z p0 p1 p2 p3 p4  h0 n0) (Tj80.setTop (mkF m 250 #[.val (.int p0), .val (.int p1), .val (.int p2), .val (.int p3), .val (.int p4), .val (.int v2), .val (.int v5), .val (.int v8), .val (.int v11), .val (.ref b13), .val (.int v41), .val (.int v43), .val (.int v52), .val (.int v61), .val (.int v70), .val (.int v79)] []))
                                              refine Ends.via (fun _ k => XS.iconst Xj80.here hx rfl (hb hby at_250) k) ?_
                                              show Ends p e below s 16 128 (Q0 Z p0 p1 p2 p3 p4  h0 n0) (Tj80.setTop (mkF m 251 #[.val (.int p0), .val (.int p1), .val (.int p2), .val (.int p3), .val (.int p4), .val (.int v2), .val (.int v5), .val (.int v8), .val (.int v11), .val (.ref b13), .val (.int v41), .val (.int v43), .val (.int v52), .val (.int v61), .val (.int v70), .val (.int v79)] [(.int (1 : Int32))]))
                                              refine Ends.via (fun _ k => XS.goto Xj80.here hx rfl (pc0 := 251) (pc' := 255) rfl (hb hby at_251) (by decide) (by decide) k) ?_
                                              show Ends p e below s 16 128 (Q0 Z p0 p1 p2 p3 p4  h0 n0) (Tj80.setTop (mkF m 255 #[.val (.int p0), .val (.int p1), .val (.int p2), .val (.int p3), .val (.int p4), .val (.int v2), .val (.int v5), .val (.int v8), .val (.int v11), .val (.ref b13), .val (.int v41), .val (.int v43), .val (.int v52), .val (.int v61), .val (.int v70), .val (.int v79)] [(.int (1 : Int32))]))
                                              refine Ends.ret Xj80 (v := some (.int (nar .boolean (1 : Int32)))) (fun h => by rw [Bd.returns] at h; cases h) Bd.notSynchronized (fun fs hr => retN Xj80 hx (t := .boolean) Bd.returns (by simp) (hb hby at_255) hr) ?_ (by decide) (by decide)
                                              exact ⟨rfl, Nj80⟩
                                  by_cases hc86 : v73 = v76
                                  · refine Ends.via (fun _ k => XS.icmpNo Xj77.here hx rfl (hb hby at_215) rfl (teq hc86).2 k) ?_
                                    show Ends p e below s 16 128 (Q0 Z p0 p1 p2 p3 p4  h0 n0) (Tj77.setTop (mkF m 218 #[.val (.int p0), .val (.int p1), .val (.int p2), .val (.int p3), .val (.int p4), .val (.int v2), .val (.int v5), .val (.int v8), .val (.int v11), .val (.ref b13), .val (.int v41), .val (.int v43), .val (.int v52), .val (.int v61), .val (.int v70), .unset] []))
                                    refine Ends.via (fun _ k => XS.iconst Xj77.here hx rfl (hb hby at_218) k) ?_
                                    show Ends p e below s 16 128 (Q0 Z p0 p1 p2 p3 p4  h0 n0) (Tj77.setTop (mkF m 219 #[.val (.int p0), .val (.int p1), .val (.int p2), .val (.int p3), .val (.int p4), .val (.int v2), .val (.int v5), .val (.int v8), .val (.int v11), .val (.ref b13), .val (.int v41), .val (.int v43), .val (.int v52), .val (.int v61), .val (.int v70), .unset] [(.int (1 : Int32))]))
                                    refine Ends.via (fun _ k => XS.goto Xj77.here hx rfl (pc0 := 219) (pc' := 223) rfl (hb hby at_219) (by decide) (by decide) k) ?_
                                    show Ends p e below s 16 128 (Q0 Z p0 p1 p2 p3 p4  h0 n0) (Tj77.setTop (mkF m 223 #[.val (.int p0), .val (.int p1), .val (.int p2), .val (.int p3), .val (.int p4), .val (.int v2), .val (.int v5), .val (.int v8), .val (.int v11), .val (.ref b13), .val (.int v41), .val (.int v43), .val (.int v52), .val (.int v61), .val (.int v70), .unset] [(.int (1 : Int32))]))
                                    exact J80 Tj77 _ Xj77 ej77 Nj77 (1 : Int32) (by first | rfl | simp only [if_pos hc86])
                                  · refine Ends.via (fun _ k => XS.icmpYes Xj77.here hx rfl (pc0 := 215) (pc' := 222) rfl (hb hby at_215) rfl (feq hc86).2 (by decide) (by decide) k) ?_
                                    show Ends p e below s 16 128 (Q0 Z p0 p1 p2 p3 p4  h0 n0) (Tj77.setTop (mkF m 222 #[.val (.int p0), .val (.int p1), .val (.int p2), .val (.int p3), .val (.int p4), .val (.int v2), .val (.int v5), .val (.int v8), .val (.int v11), .val (.ref b13), .val (.int v41), .val (.int v43), .val (.int v52), .val (.int v61), .val (.int v70), .unset] []))
                                    refine Ends.via (fun _ k => XS.iconst Xj77.here hx rfl (hb hby at_222) k) ?_
                                    show Ends p e below s 16 128 (Q0 Z p0 p1 p2 p3 p4  h0 n0) (Tj77.setTop (mkF m 223 #[.val (.int p0), .val (.int p1), .val (.int p2), .val (.int p3), .val (.int p4), .val (.int v2), .val (.int v5), .val (.int v8), .val (.int v11), .val (.ref b13), .val (.int v41), .val (.int v43), .val (.int v52), .val (.int v61), .val (.int v70), .unset] [(.int (0 : Int32))]))
                                    exact J80 Tj77 _ Xj77 ej77 Nj77 (0 : Int32) (by first | rfl | simp only [if_neg hc86])
                                by_cases hc87 : v11 = (0 : Int32)
                                · refine Ends.via (fun _ k => XS.ifYes Xj74.here hx rfl (pc0 := 207) (pc' := 214) rfl (hb hby at_207) rfl ((if0 _ _).trans (teq hc87).1) (by decide) (by decide) k) ?_
                                  show Ends p e below s 16 128 (Q0 Z p0 p1 p2 p3 p4  h0 n0) (Tj74.setTop (mkF m 214 #[.val (.int p0), .val (.int p1), .val (.int p2), .val (.int p3), .val (.int p4), .val (.int v2), .val (.int v5), .val (.int v8), .val (.int v11), .val (.ref b13), .val (.int v41), .val (.int v43), .val (.int v52), .val (.int v61), .val (.int v70), .unset] [(.int v73)]))
                                  refine Ends.via (fun _ k => XS.iconst Xj74.here hx rfl (hb hby at_214) k) ?_
                                  show Ends p e below s 16 128 (Q0 Z p0 p1 p2 p3 p4  h0 n0) (Tj74.setTop (mkF m 215 #[.val (.int p0), .val (.int p1), .val (.int p2), .val (.int p3), .val (.int p4), .val (.int v2), .val (.int v5), .val (.int v8), .val (.int v11), .val (.ref b13), .val (.int v41), .val (.int v43), .val (.int v52), .val (.int v61), .val (.int v70), .unset] [(.int (0 : Int32)), (.int v73)]))
                                  exact J77 Tj74 _ Xj74 ej74 Nj74 (0 : Int32) (by first | rfl | simp only [if_pos hc87])
                                · refine Ends.via (fun _ k => XS.ifNo Xj74.here hx rfl (hb hby at_207) rfl ((if0 _ _).trans (feq hc87).1) k) ?_
                                  show Ends p e below s 16 128 (Q0 Z p0 p1 p2 p3 p4  h0 n0) (Tj74.setTop (mkF m 210 #[.val (.int p0), .val (.int p1), .val (.int p2), .val (.int p3), .val (.int p4), .val (.int v2), .val (.int v5), .val (.int v8), .val (.int v11), .val (.ref b13), .val (.int v41), .val (.int v43), .val (.int v52), .val (.int v61), .val (.int v70), .unset] [(.int v73)]))
                                  refine Ends.via (fun _ k => XS.iconst Xj74.here hx rfl (hb hby at_210) k) ?_
                                  show Ends p e below s 16 128 (Q0 Z p0 p1 p2 p3 p4  h0 n0) (Tj74.setTop (mkF m 211 #[.val (.int p0), .val (.int p1), .val (.int p2), .val (.int p3), .val (.int p4), .val (.int v2), .val (.int v5), .val (.int v8), .val (.int v11), .val (.ref b13), .val (.int v41), .val (.int v43), .val (.int v52), .val (.int v61), .val (.int v70), .unset] [(.int (1 : Int32)), (.int v73)]))
                                  refine Ends.via (fun _ k => XS.goto Xj74.here hx rfl (pc0 := 211) (pc' := 215) rfl (hb hby at_211) (by decide) (by decide) k) ?_
                                  show Ends p e below s 16 128 (Q0 Z p0 p1 p2 p3 p4  h0 n0) (Tj74.setTop (mkF m 215 #[.val (.int p0), .val (.int p1), .val (.int p2), .val (.int p3), .val (.int p4), .val (.int v2), .val (.int v5), .val (.int v8), .val (.int v11), .val (.ref b13), .val (.int v41), .val (.int v43), .val (.int v52), .val (.int v61), .val (.int v70), .unset] [(.int (1 : Int32)), (.int v73)]))
                                  exact J77 Tj74 _ Xj74 ej74 Nj74 (1 : Int32) (by first | rfl | simp only [if_neg hc87])
                              by_cases hc88 : (v41 &&& (8 : Int32)) = (0 : Int32)
                              · refine Ends.via (fun _ k => XS.ifYes Xj71.here hx rfl (pc0 := 197) (pc' := 204) rfl (hb hby at_197) rfl ((if0 _ _).trans (teq hc88).1) (by decide) (by decide) k) ?_
                                show Ends p e below s 16 128 (Q0 Z p0 p1 p2 p3 p4  h0 n0) (Tj71.setTop (mkF m 204 #[.val (.int p0), .val (.int p1), .val (.int p2), .val (.int p3), .val (.int p4), .val (.int v2), .val (.int v5), .val (.int v8), .val (.int v11), .val (.ref b13), .val (.int v41), .val (.int v43), .val (.int v52), .val (.int v61), .val (.int v70), .unset] []))
                                refine Ends.via (fun _ k => XS.iconst Xj71.here hx rfl (hb hby at_204) k) ?_
                                show Ends p e below s 16 128 (Q0 Z p0 p1 p2 p3 p4  h0 n0) (Tj71.setTop (mkF m 205 #[.val (.int p0), .val (.int p1), .val (.int p2), .val (.int p3), .val (.int p4), .val (.int v2), .val (.int v5), .val (.int v8), .val (.int v11), .val (.ref b13), .val (.int v41), .val (.int v43), .val (.int v52), .val (.int v61), .val (.int v70), .unset] [(.int (0 : Int32))]))
                                exact J74 Tj71 _ Xj71 ej71 Nj71 (0 : Int32) (by first | rfl | simp only [if_pos hc88])
                              · refine Ends.via (fun _ k => XS.ifNo Xj71.here hx rfl (hb hby at_197) rfl ((if0 _ _).trans (feq hc88).1) k) ?_
                                show Ends p e below s 16 128 (Q0 Z p0 p1 p2 p3 p4  h0 n0) (Tj71.setTop (mkF m 200 #[.val (.int p0), .val (.int p1), .val (.int p2), .val (.int p3), .val (.int p4), .val (.int v2), .val (.int v5), .val (.int v8), .val (.int v11), .val (.ref b13), .val (.int v41), .val (.int v43), .val (.int v52), .val (.int v61), .val (.int v70), .unset] []))
                                refine Ends.via (fun _ k => XS.iconst Xj71.here hx rfl (hb hby at_200) k) ?_
                                show Ends p e below s 16 128 (Q0 Z p0 p1 p2 p3 p4  h0 n0) (Tj71.setTop (mkF m 201 #[.val (.int p0), .val (.int p1), .val (.int p2), .val (.int p3), .val (.int p4), .val (.int v2), .val (.int v5), .val (.int v8), .val (.int v11), .val (.ref b13), .val (.int v41), .val (.int v43), .val (.int v52), .val (.int v61), .val (.int v70), .unset] [(.int (1 : Int32))]))
                                refine Ends.via (fun _ k => XS.goto Xj71.here hx rfl (pc0 := 201) (pc' := 205) rfl (hb hby at_201) (by decide) (by decide) k) ?_
                                show Ends p e below s 16 128 (Q0 Z p0 p1 p2 p3 p4  h0 n0) (Tj71.setTop (mkF m 205 #[.val (.int p0), .val (.int p1), .val (.int p2), .val (.int p3), .val (.int p4), .val (.int v2), .val (.int v5), .val (.int v8), .val (.int v11), .val (.ref b13), .val (.int v41), .val (.int v43), .val (.int v52), .val (.int v61), .val (.int v70), .unset] [(.int (1 : Int32))]))
                                exact J74 Tj71 _ Xj71 ej71 Nj71 (1 : Int32) (by first | rfl | simp only [if_neg hc88])
                            by_cases hc89 : v64 = v67
                            · refine Ends.via (fun _ k => XS.icmpNo Xj68.here hx rfl (hb hby at_182) rfl (teq hc89).2 k) ?_
                              show Ends p e below s 16 128 (Q0 Z p0 p1 p2 p3 p4  h0 n0) (Tj68.setTop (mkF m 185 #[.val (.int p0), .val (.int p1), .val (.int p2), .val (.int p3), .val (.int p4), .val (.int v2), .val (.int v5), .val (.int v8), .val (.int v11), .val (.ref b13), .val (.int v41), .val (.int v43), .val (.int v52), .val (.int v61), .unset, .unset] []))
                              refine Ends.via (fun _ k => XS.iconst Xj68.here hx rfl (hb hby at_185) k) ?_
                              show Ends p e below s 16 128 (Q0 Z p0 p1 p2 p3 p4  h0 n0) (Tj68.setTop (mkF m 186 #[.val (.int p0), .val (.int p1), .val (.int p2), .val (.int p3), .val (.int p4), .val (.int v2), .val (.int v5), .val (.int v8), .val (.int v11), .val (.ref b13), .val (.int v41), .val (.int v43), .val (.int v52), .val (.int v61), .unset, .unset] [(.int (1 : Int32))]))
                              refine Ends.via (fun _ k => XS.goto Xj68.here hx rfl (pc0 := 186) (pc' := 190) rfl (hb hby at_186) (by decide) (by decide) k) ?_
                              show Ends p e below s 16 128 (Q0 Z p0 p1 p2 p3 p4  h0 n0) (Tj68.setTop (mkF m 190 #[.val (.int p0), .val (.int p1), .val (.int p2), .val (.int p3), .val (.int p4), .val (.int v2), .val (.int v5), .val (.int v8), .val (.int v11), .val (.ref b13), .val (.int v41), .val (.int v43), .val (.int v52), .val (.int v61), .unset, .unset] [(.int (1 : Int32))]))
                              exact J71 Tj68 _ Xj68 ej68 Nj68 (1 : Int32) (by first | rfl | simp only [if_pos hc89])
                            · refine Ends.via (fun _ k => XS.icmpYes Xj68.here hx rfl (pc0 := 182) (pc' := 189) rfl (hb hby at_182) rfl (feq hc89).2 (by decide) (by decide) k) ?_
                              show Ends p e below s 16 128 (Q0 Z p0 p1 p2 p3 p4  h0 n0) (Tj68.setTop (mkF m 189 #[.val (.int p0), .val (.int p1), .val (.int p2), .val (.int p3), .val (.int p4), .val (.int v2), .val (.int v5), .val (.int v8), .val (.int v11), .val (.ref b13), .val (.int v41), .val (.int v43), .val (.int v52), .val (.int v61), .unset, .unset] []))
                              refine Ends.via (fun _ k => XS.iconst Xj68.here hx rfl (hb hby at_189) k) ?_
                              show Ends p e below s 16 128 (Q0 Z p0 p1 p2 p3 p4  h0 n0) (Tj68.setTop (mkF m 190 #[.val (.int p0), .val (.int p1), .val (.int p2), .val (.int p3), .val (.int p4), .val (.int v2), .val (.int v5), .val (.int v8), .val (.int v11), .val (.ref b13), .val (.int v41), .val (.int v43), .val (.int v52), .val (.int v61), .unset, .unset] [(.int (0 : Int32))]))
                              exact J71 Tj68 _ Xj68 ej68 Nj68 (0 : Int32) (by first | rfl | simp only [if_neg hc89])
                          by_cases hc90 : v8 = (0 : Int32)
                          · refine Ends.via (fun _ k => XS.ifYes Xj65.here hx rfl (pc0 := 174) (pc' := 181) rfl (hb hby at_174) rfl ((if0 _ _).trans (teq hc90).1) (by decide) (by decide) k) ?_
                            show Ends p e below s 16 128 (Q0 Z p0 p1 p2 p3 p4  h0 n0) (Tj65.setTop (mkF m 181 #[.val (.int p0), .val (.int p1), .val (.int p2), .val (.int p3), .val (.int p4), .val (.int v2), .val (.int v5), .val (.int v8), .val (.int v11), .val (.ref b13), .val (.int v41), .val (.int v43), .val (.int v52), .val (.int v61), .unset, .unset] [(.int v64)]))
                            refine Ends.via (fun _ k => XS.iconst Xj65.here hx rfl (hb hby at_181) k) ?_
                            show Ends p e below s 16 128 (Q0 Z p0 p1 p2 p3 p4  h0 n0) (Tj65.setTop (mkF m 182 #[.val (.int p0), .val (.int p1), .val (.int p2), .val (.int p3), .val (.int p4), .val (.int v2), .val (.int v5), .val (.int v8), .val (.int v11), .val (.ref b13), .val (.int v41), .val (.int v43), .val (.int v52), .val (.int v61), .unset, .unset] [(.int (0 : Int32)), (.int v64)]))
                            exact J68 Tj65 _ Xj65 ej65 Nj65 (0 : Int32) (by first | rfl | simp only [if_pos hc90])
                          · refine Ends.via (fun _ k => XS.ifNo Xj65.here hx rfl (hb hby at_174) rfl ((if0 _ _).trans (feq hc90).1) k) ?_
                            show Ends p e below s 16 128 (Q0 Z p0 p1 p2 p3 p4  h0 n0) (Tj65.setTop (mkF m 177 #[.val (.int p0), .val (.int p1), .val (.int p2), .val (.int p3), .val (.int p4), .val (.int v2), .val (.int v5), .val (.int v8), .val (.int v11), .val (.ref b13), .val (.int v41), .val (.int v43), .val (.int v52), .val (.int v61), .unset, .unset] [(.int v64)]))
                            refine Ends.via (fun _ k => XS.iconst Xj65.here hx rfl (hb hby at_177) k) ?_
                            show Ends p e below s 16 128 (Q0 Z p0 p1 p2 p3 p4  h0 n0) (Tj65.setTop (mkF m 178 #[.val (.int p0), .val (.int p1), .val (.int p2), .val (.int p3), .val (.int p4), .val (.int v2), .val (.int v5), .val (.int v8), .val (.int v11), .val (.ref b13), .val (.int v41), .val (.int v43), .val (.int v52), .val (.int v61), .unset, .unset] [(.int (1 : Int32)), (.int v64)]))
                            refine Ends.via (fun _ k => XS.goto Xj65.here hx rfl (pc0 := 178) (pc' := 182) rfl (hb hby at_178) (by decide) (by decide) k) ?_
                            show Ends p e below s 16 128 (Q0 Z p0 p1 p2 p3 p4  h0 n0) (Tj65.setTop (mkF m 182 #[.val (.int p0), .val (.int p1), .val (.int p2), .val (.int p3), .val (.int p4), .val (.int v2), .val (.int v5), .val (.int v8), .val (.int v11), .val (.ref b13), .val (.int v41), .val (.int v43), .val (.int v52), .val (.int v61), .unset, .unset] [(.int (1 : Int32)), (.int v64)]))
                            exact J68 Tj65 _ Xj65 ej65 Nj65 (1 : Int32) (by first | rfl | simp only [if_neg hc90])
                        by_cases hc91 : (v41 &&& (4 : Int32)) = (0 : Int32)
                        · refine Ends.via (fun _ k => XS.ifYes Xj62.here hx rfl (pc0 := 164) (pc' := 171) rfl (hb hby at_164) rfl ((if0 _ _).trans (teq hc91).1) (by decide) (by decide) k) ?_
                          show Ends p e below s 16 128 (Q0 Z p0 p1 p2 p3 p4  h0 n0) (Tj62.setTop (mkF m 171 #[.val (.int p0), .val (.int p1), .val (.int p2), .val (.int p3), .val (.int p4), .val (.int v2), .val (.int v5), .val (.int v8), .val (.int v11), .val (.ref b13), .val (.int v41), .val (.int v43), .val (.int v52), .val (.int v61), .unset, .unset] []))
                          refine Ends.via (fun _ k => XS.iconst Xj62.here hx rfl (hb hby at_171) k) ?_
                          show Ends p e below s 16 128 (Q0 Z p0 p1 p2 p3 p4  h0 n0) (Tj62.setTop (mkF m 172 #[.val (.int p0), .val (.int p1), .val (.int p2), .val (.int p3), .val (.int p4), .val (.int v2), .val (.int v5), .val (.int v8), .val (.int v11), .val (.ref b13), .val (.int v41), .val (.int v43), .val (.int v52), .val (.int v61), .unset, .unset] [(.int (0 : Int32))]))
                          exact J65 Tj62 _ Xj62 ej62 Nj62 (0 : Int32) (by first | rfl | simp only [if_pos hc91])
                        · refine Ends.via (fun _ k => XS.ifNo Xj62.here hx rfl (hb hby at_164) rfl ((if0 _ _).trans (feq hc91).1) k) ?_
                          show Ends p e below s 16 128 (Q0 Z p0 p1 p2 p3 p4  h0 n0) (Tj62.setTop (mkF m 167 #[.val (.int p0), .val (.int p1), .val (.int p2), .val (.int p3), .val (.int p4), .val (.int v2), .val (.int v5), .val (.int v8), .val (.int v11), .val (.ref b13), .val (.int v41), .val (.int v43), .val (.int v52), .val (.int v61), .unset, .unset] []))
                          refine Ends.via (fun _ k => XS.iconst Xj62.here hx rfl (hb hby at_167) k) ?_
                          show Ends p e below s 16 128 (Q0 Z p0 p1 p2 p3 p4  h0 n0) (Tj62.setTop (mkF m 168 #[.val (.int p0), .val (.int p1), .val (.int p2), .val (.int p3), .val (.int p4), .val (.int v2), .val (.int v5), .val (.int v8), .val (.int v11), .val (.ref b13), .val (.int v41), .val (.int v43), .val (.int v52), .val (.int v61), .unset, .unset] [(.int (1 : Int32))]))
                          refine Ends.via (fun _ k => XS.goto Xj62.here hx rfl (pc0 := 168) (pc' := 172) rfl (hb hby at_168) (by decide) (by decide) k) ?_
                          show Ends p e below s 16 128 (Q0 Z p0 p1 p2 p3 p4  h0 n0) (Tj62.setTop (mkF m 172 #[.val (.int p0), .val (.int p1), .val (.int p2), .val (.int p3), .val (.int p4), .val (.int v2), .val (.int v5), .val (.int v8), .val (.int v11), .val (.ref b13), .val (.int v41), .val (.int v43), .val (.int v52), .val (.int v61), .unset, .unset] [(.int (1 : Int32))]))
                          exact J65 Tj62 _ Xj62 ej62 Nj62 (1 : Int32) (by first | rfl | simp only [if_neg hc91])
                      by_cases hc92 : v55 = v58
                      · refine Ends.via (fun _ k => XS.icmpNo Xj59.here hx rfl (hb hby at_150) rfl (teq hc92).2 k) ?_
                        show Ends p e below s 16 128 (Q0 Z p0 p1 p2 p3 p4  h0 n0) (Tj59.setTop (mkF m 153 #[.val (.int p0), .val (.int p1), .val (.int p2), .val (.int p3), .val (.int p4), .val (.int v2), .val (.int v5), .val (.int v8), .val (.int v11), .val (.ref b13), .val (.int v41), .val (.int v43), .val (.int v52), .unset, .unset, .unset] []))
                        refine Ends.via (fun _ k => XS.iconst Xj59.here hx rfl (hb hby at_153) k) ?_
                        show Ends p e below s 16 128 (Q0 Z p0 p1 p2 p3 p4  h0 n0) (Tj59.setTop (mkF m 154 #[.val (.int p0), .val (.int p1), .val (.int p2), .val (.int p3), .val (.int p4), .val (.int v2), .val (.int v5), .val (.int v8), .val (.int v11), .val (.ref b13), .val (.int v41), .val (.int v43), .val (.int v52), .unset, .unset, .unset] [(.int (1 : Int32))]))
                        refine Ends.via (fun _ k => XS.goto Xj59.here hx rfl (pc0 := 154) (pc' := 158) rfl (hb hby at_154) (by decide) (by decide) k) ?_
                        show Ends p e below s 16 128 (Q0 Z p0 p1 p2 p3 p4  h0 n0) (Tj59.setTop (mkF m 158 #[.val (.int p0), .val (.int p1), .val (.int p2), .val (.int p3), .val (.int p4), .val (.int v2), .val (.int v5), .val (.int v8), .val (.int v11), .val (.ref b13), .val (.int v41), .val (.int v43), .val (.int v52), .unset, .unset, .unset] [(.int (1 : Int32))]))
                        exact J62 Tj59 _ Xj59 ej59 Nj59 (1 : Int32) (by first | rfl | simp only [if_pos hc92])
                      · refine Ends.via (fun _ k => XS.icmpYes Xj59.here hx rfl (pc0 := 150) (pc' := 157) rfl (hb hby at_150) rfl (feq hc92).2 (by decide) (by decide) k) ?_
                        show Ends p e below s 16 128 (Q0 Z p0 p1 p2 p3 p4  h0 n0) (Tj59.setTop (mkF m 157 #[.val (.int p0), .val (.int p1), .val (.int p2), .val (.int p3), .val (.int p4), .val (.int v2), .val (.int v5), .val (.int v8), .val (.int v11), .val (.ref b13), .val (.int v41), .val (.int v43), .val (.int v52), .unset, .unset, .unset] []))
                        refine Ends.via (fun _ k => XS.iconst Xj59.here hx rfl (hb hby at_157) k) ?_
                        show Ends p e below s 16 128 (Q0 Z p0 p1 p2 p3 p4  h0 n0) (Tj59.setTop (mkF m 158 #[.val (.int p0), .val (.int p1), .val (.int p2), .val (.int p3), .val (.int p4), .val (.int v2), .val (.int v5), .val (.int v8), .val (.int v11), .val (.ref b13), .val (.int v41), .val (.int v43), .val (.int v52), .unset, .unset, .unset] [(.int (0 : Int32))]))
                        exact J62 Tj59 _ Xj59 ej59 Nj59 (0 : Int32) (by first | rfl | simp only [if_neg hc92])
                    by_cases hc93 : v5 = (0 : Int32)
                    · refine Ends.via (fun _ k => XS.ifYes Xj56.here hx rfl (pc0 := 142) (pc' := 149) rfl (hb hby at_142) rfl ((if0 _ _).trans (teq hc93).1) (by decide) (by decide) k) ?_
                      show Ends p e below s 16 128 (Q0 Z p0 p1 p2 p3 p4  h0 n0) (Tj56.setTop (mkF m 149 #[.val (.int p0), .val (.int p1), .val (.int p2), .val (.int p3), .val (.int p4), .val (.int v2), .val (.int v5), .val (.int v8), .val (.int v11), .val (.ref b13), .val (.int v41), .val (.int v43), .val (.int v52), .unset, .unset, .unset] [(.int v55)]))
                      refine Ends.via (fun _ k => XS.iconst Xj56.here hx rfl (hb hby at_149) k) ?_
                      show Ends p e below s 16 128 (Q0 Z p0 p1 p2 p3 p4  h0 n0) (Tj56.setTop (mkF m 150 #[.val (.int p0), .val (.int p1), .val (.int p2), .val (.int p3), .val (.int p4), .val (.int v2), .val (.int v5), .val (.int v8), .val (.int v11), .val (.ref b13), .val (.int v41), .val (.int v43), .val (.int v52), .unset, .unset, .unset] [(.int (0 : Int32)), (.int v55)]))
                      exact J59 Tj56 _ Xj56 ej56 Nj56 (0 : Int32) (by first | rfl | simp only [if_pos hc93])
                    · refine Ends.via (fun _ k => XS.ifNo Xj56.here hx rfl (hb hby at_142) rfl ((if0 _ _).trans (feq hc93).1) k) ?_
                      show Ends p e below s 16 128 (Q0 Z p0 p1 p2 p3 p4  h0 n0) (Tj56.setTop (mkF m 145 #[.val (.int p0), .val (.int p1), .val (.int p2), .val (.int p3), .val (.int p4), .val (.int v2), .val (.int v5), .val (.int v8), .val (.int v11), .val (.ref b13), .val (.int v41), .val (.int v43), .val (.int v52), .unset, .unset, .unset] [(.int v55)]))
                      refine Ends.via (fun _ k => XS.iconst Xj56.here hx rfl (hb hby at_145) k) ?_
                      show Ends p e below s 16 128 (Q0 Z p0 p1 p2 p3 p4  h0 n0) (Tj56.setTop (mkF m 146 #[.val (.int p0), .val (.int p1), .val (.int p2), .val (.int p3), .val (.int p4), .val (.int v2), .val (.int v5), .val (.int v8), .val (.int v11), .val (.ref b13), .val (.int v41), .val (.int v43), .val (.int v52), .unset, .unset, .unset] [(.int (1 : Int32)), (.int v55)]))
                      refine Ends.via (fun _ k => XS.goto Xj56.here hx rfl (pc0 := 146) (pc' := 150) rfl (hb hby at_146) (by decide) (by decide) k) ?_
                      show Ends p e below s 16 128 (Q0 Z p0 p1 p2 p3 p4  h0 n0) (Tj56.setTop (mkF m 150 #[.val (.int p0), .val (.int p1), .val (.int p2), .val (.int p3), .val (.int p4), .val (.int v2), .val (.int v5), .val (.int v8), .val (.int v11), .val (.ref b13), .val (.int v41), .val (.int v43), .val (.int v52), .unset, .unset, .unset] [(.int (1 : Int32)), (.int v55)]))
                      exact J59 Tj56 _ Xj56 ej56 Nj56 (1 : Int32) (by first | rfl | simp only [if_neg hc93])
                  by_cases hc94 : (v41 &&& (2 : Int32)) = (0 : Int32)
                  · refine Ends.via (fun _ k => XS.ifYes Xj53.here hx rfl (pc0 := 132) (pc' := 139) rfl (hb hby at_132) rfl ((if0 _ _).trans (teq hc94).1) (by decide) (by decide) k) ?_
                    show Ends p e below s 16 128 (Q0 Z p0 p1 p2 p3 p4  h0 n0) (Tj53.setTop (mkF m 139 #[.val (.int p0), .val (.int p1), .val (.int p2), .val (.int p3), .val (.int p4), .val (.int v2), .val (.int v5), .val (.int v8), .val (.int v11), .val (.ref b13), .val (.int v41), .val (.int v43), .val (.int v52), .unset, .unset, .unset] []))
                    refine Ends.via (fun _ k => XS.iconst Xj53.here hx rfl (hb hby at_139) k) ?_
                    show Ends p e below s 16 128 (Q0 Z p0 p1 p2 p3 p4  h0 n0) (Tj53.setTop (mkF m 140 #[.val (.int p0), .val (.int p1), .val (.int p2), .val (.int p3), .val (.int p4), .val (.int v2), .val (.int v5), .val (.int v8), .val (.int v11), .val (.ref b13), .val (.int v41), .val (.int v43), .val (.int v52), .unset, .unset, .unset] [(.int (0 : Int32))]))
                    exact J56 Tj53 _ Xj53 ej53 Nj53 (0 : Int32) (by first | rfl | simp only [if_pos hc94])
                  · refine Ends.via (fun _ k => XS.ifNo Xj53.here hx rfl (hb hby at_132) rfl ((if0 _ _).trans (feq hc94).1) k) ?_
                    show Ends p e below s 16 128 (Q0 Z p0 p1 p2 p3 p4  h0 n0) (Tj53.setTop (mkF m 135 #[.val (.int p0), .val (.int p1), .val (.int p2), .val (.int p3), .val (.int p4), .val (.int v2), .val (.int v5), .val (.int v8), .val (.int v11), .val (.ref b13), .val (.int v41), .val (.int v43), .val (.int v52), .unset, .unset, .unset] []))
                    refine Ends.via (fun _ k => XS.iconst Xj53.here hx rfl (hb hby at_135) k) ?_
                    show Ends p e below s 16 128 (Q0 Z p0 p1 p2 p3 p4  h0 n0) (Tj53.setTop (mkF m 136 #[.val (.int p0), .val (.int p1), .val (.int p2), .val (.int p3), .val (.int p4), .val (.int v2), .val (.int v5), .val (.int v8), .val (.int v11), .val (.ref b13), .val (.int v41), .val (.int v43), .val (.int v52), .unset, .unset, .unset] [(.int (1 : Int32))]))
                    refine Ends.via (fun _ k => XS.goto Xj53.here hx rfl (pc0 := 136) (pc' := 140) rfl (hb hby at_136) (by decide) (by decide) k) ?_
                    show Ends p e below s 16 128 (Q0 Z p0 p1 p2 p3 p4  h0 n0) (Tj53.setTop (mkF m 140 #[.val (.int p0), .val (.int p1), .val (.int p2), .val (.int p3), .val (.int p4), .val (.int v2), .val (.int v5), .val (.int v8), .val (.int v11), .val (.ref b13), .val (.int v41), .val (.int v43), .val (.int v52), .unset, .unset, .unset] [(.int (1 : Int32))]))
                    exact J56 Tj53 _ Xj53 ej53 Nj53 (1 : Int32) (by first | rfl | simp only [if_neg hc94])
                by_cases hc95 : v46 = v49
                · refine Ends.via (fun _ k => XS.icmpNo Xj50.here hx rfl (hb hby at_118) rfl (teq hc95).2 k) ?_
                  show Ends p e below s 16 128 (Q0 Z p0 p1 p2 p3 p4  h0 n0) (Tj50.setTop (mkF m 121 #[.val (.int p0), .val (.int p1), .val (.int p2), .val (.int p3), .val (.int p4), .val (.int v2), .val (.int v5), .val (.int v8), .val (.int v11), .val (.ref b13), .val (.int v41), .val (.int v43), .unset, .unset, .unset, .unset] []))
                  refine Ends.via (fun _ k => XS.iconst Xj50.here hx rfl (hb hby at_121) k) ?_
                  show Ends p e below s 16 128 (Q0 Z p0 p1 p2 p3 p4  h0 n0) (Tj50.setTop (mkF m 122 #[.val (.int p0), .val (.int p1), .val (.int p2), .val (.int p3), .val (.int p4), .val (.int v2), .val (.int v5), .val (.int v8), .val (.int v11), .val (.ref b13), .val (.int v41), .val (.int v43), .unset, .unset, .unset, .unset] [(.int (1 : Int32))]))
                  refine Ends.via (fun _ k => XS.goto Xj50.here hx rfl (pc0 := 122) (pc' := 126) rfl (hb hby at_122) (by decide) (by decide) k) ?_
                  show Ends p e below s 16 128 (Q0 Z p0 p1 p2 p3 p4  h0 n0) (Tj50.setTop (mkF m 126 #[.val (.int p0), .val (.int p1), .val (.int p2), .val (.int p3), .val (.int p4), .val (.int v2), .val (.int v5), .val (.int v8), .val (.int v11), .val (.ref b13), .val (.int v41), .val (.int v43), .unset, .unset, .unset, .unset] [(.int (1 : Int32))]))
                  exact J53 Tj50 _ Xj50 ej50 Nj50 (1 : Int32) (by first | rfl | simp only [if_pos hc95])
                · refine Ends.via (fun _ k => XS.icmpYes Xj50.here hx rfl (pc0 := 118) (pc' := 125) rfl (hb hby at_118) rfl (feq hc95).2 (by decide) (by decide) k) ?_
                  show Ends p e below s 16 128 (Q0 Z p0 p1 p2 p3 p4  h0 n0) (Tj50.setTop (mkF m 125 #[.val (.int p0), .val (.int p1), .val (.int p2), .val (.int p3), .val (.int p4), .val (.int v2), .val (.int v5), .val (.int v8), .val (.int v11), .val (.ref b13), .val (.int v41), .val (.int v43), .unset, .unset, .unset, .unset] []))
                  refine Ends.via (fun _ k => XS.iconst Xj50.here hx rfl (hb hby at_125) k) ?_
                  show Ends p e below s 16 128 (Q0 Z p0 p1 p2 p3 p4  h0 n0) (Tj50.setTop (mkF m 126 #[.val (.int p0), .val (.int p1), .val (.int p2), .val (.int p3), .val (.int p4), .val (.int v2), .val (.int v5), .val (.int v8), .val (.int v11), .val (.ref b13), .val (.int v41), .val (.int v43), .unset, .unset, .unset, .unset] [(.int (0 : Int32))]))
                  exact J53 Tj50 _ Xj50 ej50 Nj50 (0 : Int32) (by first | rfl | simp only [if_neg hc95])
              by_cases hc96 : v2 = (0 : Int32)
              · refine Ends.via (fun _ k => XS.ifYes Xj47.here hx rfl (pc0 := 110) (pc' := 117) rfl (hb hby at_110) rfl ((if0 _ _).trans (teq hc96).1) (by decide) (by decide) k) ?_
                show Ends p e below s 16 128 (Q0 Z p0 p1 p2 p3 p4  h0 n0) (Tj47.setTop (mkF m 117 #[.val (.int p0), .val (.int p1), .val (.int p2), .val (.int p3), .val (.int p4), .val (.int v2), .val (.int v5), .val (.int v8), .val (.int v11), .val (.ref b13), .val (.int v41), .val (.int v43), .unset, .unset, .unset, .unset] [(.int v46)]))
                refine Ends.via (fun _ k => XS.iconst Xj47.here hx rfl (hb hby at_117) k) ?_
                show Ends p e below s 16 128 (Q0 Z p0 p1 p2 p3 p4  h0 n0) (Tj47.setTop (mkF m 118 #[.val (.int p0), .val (.int p1), .val (.int p2), .val (.int p3), .val (.int p4), .val (.int v2), .val (.int v5), .val (.int v8), .val (.int v11), .val (.ref b13), .val (.int v41), .val (.int v43), .unset, .unset, .unset, .unset] [(.int (0 : Int32)), (.int v46)]))
                exact J50 Tj47 _ Xj47 ej47 Nj47 (0 : Int32) (by first | rfl | simp only [if_pos hc96])
              · refine Ends.via (fun _ k => XS.ifNo Xj47.here hx rfl (hb hby at_110) rfl ((if0 _ _).trans (feq hc96).1) k) ?_
                show Ends p e below s 16 128 (Q0 Z p0 p1 p2 p3 p4  h0 n0) (Tj47.setTop (mkF m 113 #[.val (.int p0), .val (.int p1), .val (.int p2), .val (.int p3), .val (.int p4), .val (.int v2), .val (.int v5), .val (.int v8), .val (.int v11), .val (.ref b13), .val (.int v41), .val (.int v43), .unset, .unset, .unset, .unset] [(.int v46)]))
                refine Ends.via (fun _ k => XS.iconst Xj47.here hx rfl (hb hby at_113) k) ?_
                show Ends p e below s 16 128 (Q0 Z p0 p1 p2 p3 p4  h0 n0) (Tj47.setTop (mkF m 114 #[.val (.int p0), .val (.int p1), .val (.int p2), .val (.int p3), .val (.int p4), .val (.int v2), .val (.int v5), .val (.int v8), .val (.int v11), .val (.ref b13), .val (.int v41), .val (.int v43), .unset, .unset, .unset, .unset] [(.int (1 : Int32)), (.int v46)]))
                refine Ends.via (fun _ k => XS.goto Xj47.here hx rfl (pc0 := 114) (pc' := 118) rfl (hb hby at_114) (by decide) (by decide) k) ?_
                show Ends p e below s 16 128 (Q0 Z p0 p1 p2 p3 p4  h0 n0) (Tj47.setTop (mkF m 118 #[.val (.int p0), .val (.int p1), .val (.int p2), .val (.int p3), .val (.int p4), .val (.int v2), .val (.int v5), .val (.int v8), .val (.int v11), .val (.ref b13), .val (.int v41), .val (.int v43), .unset, .unset, .unset, .unset] [(.int (1 : Int32)), (.int v46)]))
                exact J50 Tj47 _ Xj47 ej47 Nj47 (1 : Int32) (by first | rfl | simp only [if_neg hc96])
            by_cases hc97 : (v41 &&& (1 : Int32)) = (0 : Int32)
            · refine Ends.via (fun _ k => XS.ifYes Xj44.here hx rfl (pc0 := 100) (pc' := 107) rfl (hb hby at_100) rfl ((if0 _ _).trans (teq hc97).1) (by decide) (by decide) k) ?_
              show Ends p e below s 16 128 (Q0 Z p0 p1 p2 p3 p4  h0 n0) (Tj44.setTop (mkF m 107 #[.val (.int p0), .val (.int p1), .val (.int p2), .val (.int p3), .val (.int p4), .val (.int v2), .val (.int v5), .val (.int v8), .val (.int v11), .val (.ref b13), .val (.int v41), .val (.int v43), .unset, .unset, .unset, .unset] []))
              refine Ends.via (fun _ k => XS.iconst Xj44.here hx rfl (hb hby at_107) k) ?_
              show Ends p e below s 16 128 (Q0 Z p0 p1 p2 p3 p4  h0 n0) (Tj44.setTop (mkF m 108 #[.val (.int p0), .val (.int p1), .val (.int p2), .val (.int p3), .val (.int p4), .val (.int v2), .val (.int v5), .val (.int v8), .val (.int v11), .val (.ref b13), .val (.int v41), .val (.int v43), .unset, .unset, .unset, .unset] [(.int (0 : Int32))]))
              exact J47 Tj44 _ Xj44 ej44 Nj44 (0 : Int32) (by first | rfl | simp only [if_pos hc97])
            · refine Ends.via (fun _ k => XS.ifNo Xj44.here hx rfl (hb hby at_100) rfl ((if0 _ _).trans (feq hc97).1) k) ?_
              show Ends p e below s 16 128 (Q0 Z p0 p1 p2 p3 p4  h0 n0) (Tj44.setTop (mkF m 103 #[.val (.int p0), .val (.int p1), .val (.int p2), .val (.int p3), .val (.int p4), .val (.int v2), .val (.int v5), .val (.int v8), .val (.int v11), .val (.ref b13), .val (.int v41), .val (.int v43), .unset, .unset, .unset, .unset] []))
              refine Ends.via (fun _ k => XS.iconst Xj44.here hx rfl (hb hby at_103) k) ?_
              show Ends p e below s 16 128 (Q0 Z p0 p1 p2 p3 p4  h0 n0) (Tj44.setTop (mkF m 104 #[.val (.int p0), .val (.int p1), .val (.int p2), .val (.int p3), .val (.int p4), .val (.int v2), .val (.int v5), .val (.int v8), .val (.int v11), .val (.ref b13), .val (.int v41), .val (.int v43), .unset, .unset, .unset, .unset] [(.int (1 : Int32))]))
              refine Ends.via (fun _ k => XS.goto Xj44.here hx rfl (pc0 := 104) (pc' := 108) rfl (hb hby at_104) (by decide) (by decide) k) ?_
              show Ends p e below s 16 128 (Q0 Z p0 p1 p2 p3 p4  h0 n0) (Tj44.setTop (mkF m 108 #[.val (.int p0), .val (.int p1), .val (.int p2), .val (.int p3), .val (.int p4), .val (.int v2), .val (.int v5), .val (.int v8), .val (.int v11), .val (.ref b13), .val (.int v41), .val (.int v43), .unset, .unset, .unset, .unset] [(.int (1 : Int32))]))
              exact J47 Tj44 _ Xj44 ej44 Nj44 (1 : Int32) (by first | rfl | simp only [if_neg hc97])
          by_cases hc98 : (v41 &&& (-16 : Int32)) = (0 : Int32)
          · refine Ends.via (fun _ k => XS.ifNo X20.here hx rfl (hb hby at_86) rfl ((if0 _ _).trans (teq hc98).2) k) ?_
            show Ends p e below s 16 128 (Q0 Z p0 p1 p2 p3 p4  h0 n0) (T20.setTop (mkF m 89 #[.val (.int p0), .val (.int p1), .val (.int p2), .val (.int p3), .val (.int p4), .val (.int v2), .val (.int v5), .val (.int v8), .val (.int v11), .val (.ref b13), .val (.int v41), .unset, .unset, .unset, .unset, .unset] []))
            refine Ends.via (fun _ k => XS.iconst X20.here hx rfl (hb hby at_89) k) ?_
            show Ends p e below s 16 128 (Q0 Z p0 p1 p2 p3 p4  h0 n0) (T20.setTop (mkF m 90 #[.val (.int p0), .val (.int p1), .val (.int p2), .val (.int p3), .val (.int p4), .val (.int v2), .val (.int v5), .val (.int v8), .val (.int v11), .val (.ref b13), .val (.int v41), .unset, .unset, .unset, .unset, .unset] [(.int (1 : Int32))]))
            refine Ends.via (fun _ k => XS.goto X20.here hx rfl (pc0 := 90) (pc' := 94) rfl (hb hby at_90) (by decide) (by decide) k) ?_
            show Ends p e below s 16 128 (Q0 Z p0 p1 p2 p3 p4  h0 n0) (T20.setTop (mkF m 94 #[.val (.int p0), .val (.int p1), .val (.int p2), .val (.int p3), .val (.int p4), .val (.int v2), .val (.int v5), .val (.int v8), .val (.int v11), .val (.ref b13), .val (.int v41), .unset, .unset, .unset, .unset, .unset] [(.int (1 : Int32))]))
            exact J44 T20 _ X20 e20 N20 (1 : Int32) (by first | rfl | simp only [if_pos hc98])
          · refine Ends.via (fun _ k => XS.ifYes X20.here hx rfl (pc0 := 86) (pc' := 93) rfl (hb hby at_86) rfl ((if0 _ _).trans (feq hc98).2) (by decide) (by decide) k) ?_
            show Ends p e below s 16 128 (Q0 Z p0 p1 p2 p3 p4  h0 n0) (T20.setTop (mkF m 93 #[.val (.int p0), .val (.int p1), .val (.int p2), .val (.int p3), .val (.int p4), .val (.int v2), .val (.int v5), .val (.int v8), .val (.int v11), .val (.ref b13), .val (.int v41), .unset, .unset, .unset, .unset, .unset] []))
            refine Ends.via (fun _ k => XS.iconst X20.here hx rfl (hb hby at_93) k) ?_
            show Ends p e below s 16 128 (Q0 Z p0 p1 p2 p3 p4  h0 n0) (T20.setTop (mkF m 94 #[.val (.int p0), .val (.int p1), .val (.int p2), .val (.int p3), .val (.int p4), .val (.int v2), .val (.int v5), .val (.int v8), .val (.int v11), .val (.ref b13), .val (.int v41), .unset, .unset, .unset, .unset, .unset] [(.int (0 : Int32))]))
            exact J44 T20 _ X20 e20 N20 (0 : Int32) (by first | rfl | simp only [if_neg hc98])
        by_cases hc99 : (p4 &&& (8 : Int32)) = (0 : Int32)
        · refine Ends.via (fun _ k => XS.ifYes Xj9.here hx rfl (pc0 := 47) (pc' := 54) rfl (hb hby at_47) rfl ((if0 _ _).trans (teq hc99).1) (by decide) (by decide) k) ?_
          show Ends p e below s 16 128 (Q0 Z p0 p1 p2 p3 p4  h0 n0) (Tj9.setTop (mkF m 54 #[.val (.int p0), .val (.int p1), .val (.int p2), .val (.int p3), .val (.int p4), .val (.int v2), .val (.int v5), .val (.int v8), .unset, .unset, .unset, .unset, .unset, .unset, .unset, .unset] []))
          refine Ends.via (fun _ k => XS.iconst Xj9.here hx rfl (hb hby at_54) k) ?_
          show Ends p e below s 16 128 (Q0 Z p0 p1 p2 p3 p4  h0 n0) (Tj9.setTop (mkF m 55 #[.val (.int p0), .val (.int p1), .val (.int p2), .val (.int p3), .val (.int p4), .val (.int v2), .val (.int v5), .val (.int v8), .unset, .unset, .unset, .unset, .unset, .unset, .unset, .unset] [(.int (0 : Int32))]))
          exact J12 Tj9 _ Xj9 ej9 Nj9 (0 : Int32) (by first | rfl | simp only [if_pos hc99])
        · refine Ends.via (fun _ k => XS.ifNo Xj9.here hx rfl (hb hby at_47) rfl ((if0 _ _).trans (feq hc99).1) k) ?_
          show Ends p e below s 16 128 (Q0 Z p0 p1 p2 p3 p4  h0 n0) (Tj9.setTop (mkF m 50 #[.val (.int p0), .val (.int p1), .val (.int p2), .val (.int p3), .val (.int p4), .val (.int v2), .val (.int v5), .val (.int v8), .unset, .unset, .unset, .unset, .unset, .unset, .unset, .unset] []))
          refine Ends.via (fun _ k => XS.iloadN Xj9.here hx rfl (hb hby at_50) rfl k) ?_
          show Ends p e below s 16 128 (Q0 Z p0 p1 p2 p3 p4  h0 n0) (Tj9.setTop (mkF m 51 #[.val (.int p0), .val (.int p1), .val (.int p2), .val (.int p3), .val (.int p4), .val (.int v2), .val (.int v5), .val (.int v8), .unset, .unset, .unset, .unset, .unset, .unset, .unset, .unset] [(.int p3)]))
          refine Ends.via (fun _ k => XS.goto Xj9.here hx rfl (pc0 := 51) (pc' := 55) rfl (hb hby at_51) (by decide) (by decide) k) ?_
          show Ends p e below s 16 128 (Q0 Z p0 p1 p2 p3 p4  h0 n0) (Tj9.setTop (mkF m 55 #[.val (.int p0), .val (.int p1), .val (.int p2), .val (.int p3), .val (.int p4), .val (.int v2), .val (.int v5), .val (.int v8), .unset, .unset, .unset, .unset, .unset, .unset, .unset, .unset] [(.int p3)]))
          exact J12 Tj9 _ Xj9 ej9 Nj9 p3 (by first | rfl | simp only [if_neg hc99])
      by_cases hc100 : (p4 &&& (4 : Int32)) = (0 : Int32)
      · refine Ends.via (fun _ k => XS.ifYes Xj6.here hx rfl (pc0 := 32) (pc' := 39) rfl (hb hby at_32) rfl ((if0 _ _).trans (teq hc100).1) (by decide) (by decide) k) ?_
        show Ends p e below s 16 128 (Q0 Z p0 p1 p2 p3 p4  h0 n0) (Tj6.setTop (mkF m 39 #[.val (.int p0), .val (.int p1), .val (.int p2), .val (.int p3), .val (.int p4), .val (.int v2), .val (.int v5), .unset, .unset, .unset, .unset, .unset, .unset, .unset, .unset, .unset] []))
        refine Ends.via (fun _ k => XS.iconst Xj6.here hx rfl (hb hby at_39) k) ?_
        show Ends p e below s 16 128 (Q0 Z p0 p1 p2 p3 p4  h0 n0) (Tj6.setTop (mkF m 40 #[.val (.int p0), .val (.int p1), .val (.int p2), .val (.int p3), .val (.int p4), .val (.int v2), .val (.int v5), .unset, .unset, .unset, .unset, .unset, .unset, .unset, .unset, .unset] [(.int (0 : Int32))]))
        exact J9 Tj6 _ Xj6 ej6 Nj6 (0 : Int32) (by first | rfl | simp only [if_pos hc100])
      · refine Ends.via (fun _ k => XS.ifNo Xj6.here hx rfl (hb hby at_32) rfl ((if0 _ _).trans (feq hc100).1) k) ?_
        show Ends p e below s 16 128 (Q0 Z p0 p1 p2 p3 p4  h0 n0) (Tj6.setTop (mkF m 35 #[.val (.int p0), .val (.int p1), .val (.int p2), .val (.int p3), .val (.int p4), .val (.int v2), .val (.int v5), .unset, .unset, .unset, .unset, .unset, .unset, .unset, .unset, .unset] []))
        refine Ends.via (fun _ k => XS.iloadN Xj6.here hx rfl (hb hby at_35) rfl k) ?_
        show Ends p e below s 16 128 (Q0 Z p0 p1 p2 p3 p4  h0 n0) (Tj6.setTop (mkF m 36 #[.val (.int p0), .val (.int p1), .val (.int p2), .val (.int p3), .val (.int p4), .val (.int v2), .val (.int v5), .unset, .unset, .unset, .unset, .unset, .unset, .unset, .unset, .unset] [(.int p2)]))
        refine Ends.via (fun _ k => XS.goto Xj6.here hx rfl (pc0 := 36) (pc' := 40) rfl (hb hby at_36) (by decide) (by decide) k) ?_
        show Ends p e below s 16 128 (Q0 Z p0 p1 p2 p3 p4  h0 n0) (Tj6.setTop (mkF m 40 #[.val (.int p0), .val (.int p1), .val (.int p2), .val (.int p3), .val (.int p4), .val (.int v2), .val (.int v5), .unset, .unset, .unset, .unset, .unset, .unset, .unset, .unset, .unset] [(.int p2)]))
        exact J9 Tj6 _ Xj6 ej6 Nj6 p2 (by first | rfl | simp only [if_neg hc100])
    by_cases hc101 : (p4 &&& (2 : Int32)) = (0 : Int32)
    · refine Ends.via (fun _ k => XS.ifYes Xj3.here hx rfl (pc0 := 18) (pc' := 25) rfl (hb hby at_18) rfl ((if0 _ _).trans (teq hc101).1) (by decide) (by decide) k) ?_
      show Ends p e below s 16 128 (Q0 Z p0 p1 p2 p3 p4  h0 n0) (Tj3.setTop (mkF m 25 #[.val (.int p0), .val (.int p1), .val (.int p2), .val (.int p3), .val (.int p4), .val (.int v2), .unset, .unset, .unset, .unset, .unset, .unset, .unset, .unset, .unset, .unset] []))
      refine Ends.via (fun _ k => XS.iconst Xj3.here hx rfl (hb hby at_25) k) ?_
      show Ends p e below s 16 128 (Q0 Z p0 p1 p2 p3 p4  h0 n0) (Tj3.setTop (mkF m 26 #[.val (.int p0), .val (.int p1), .val (.int p2), .val (.int p3), .val (.int p4), .val (.int v2), .unset, .unset, .unset, .unset, .unset, .unset, .unset, .unset, .unset, .unset] [(.int (0 : Int32))]))
      exact J6 Tj3 _ Xj3 ej3 Nj3 (0 : Int32) (by first | rfl | simp only [if_pos hc101])
    · refine Ends.via (fun _ k => XS.ifNo Xj3.here hx rfl (hb hby at_18) rfl ((if0 _ _).trans (feq hc101).1) k) ?_
      show Ends p e below s 16 128 (Q0 Z p0 p1 p2 p3 p4  h0 n0) (Tj3.setTop (mkF m 21 #[.val (.int p0), .val (.int p1), .val (.int p2), .val (.int p3), .val (.int p4), .val (.int v2), .unset, .unset, .unset, .unset, .unset, .unset, .unset, .unset, .unset, .unset] []))
      refine Ends.via (fun _ k => XS.iloadN Xj3.here hx rfl (hb hby at_21) rfl k) ?_
      show Ends p e below s 16 128 (Q0 Z p0 p1 p2 p3 p4  h0 n0) (Tj3.setTop (mkF m 22 #[.val (.int p0), .val (.int p1), .val (.int p2), .val (.int p3), .val (.int p4), .val (.int v2), .unset, .unset, .unset, .unset, .unset, .unset, .unset, .unset, .unset, .unset] [(.int p1)]))
      refine Ends.via (fun _ k => XS.goto Xj3.here hx rfl (pc0 := 22) (pc' := 26) rfl (hb hby at_22) (by decide) (by decide) k) ?_
      show Ends p e below s 16 128 (Q0 Z p0 p1 p2 p3 p4  h0 n0) (Tj3.setTop (mkF m 26 #[.val (.int p0), .val (.int p1), .val (.int p2), .val (.int p3), .val (.int p4), .val (.int v2), .unset, .unset, .unset, .unset, .unset, .unset, .unset, .unset, .unset, .unset] [(.int p1)]))
      exact J6 Tj3 _ Xj3 ej3 Nj3 p1 (by first | rfl | simp only [if_neg hc101])
  by_cases hc102 : (p4 &&& (1 : Int32)) = (0 : Int32)
  · refine Ends.via (fun _ k => XS.ifYes X0.here hx rfl (pc0 := 4) (pc' := 11) rfl (hb hby at_4) rfl ((if0 _ _).trans (teq hc102).1) (by decide) (by decide) k) ?_
    show Ends p e below s 16 128 (Q0 Z p0 p1 p2 p3 p4  h0 n0) (s₁.setTop (mkF m 11 #[.val (.int p0), .val (.int p1), .val (.int p2), .val (.int p3), .val (.int p4), .unset, .unset, .unset, .unset, .unset, .unset, .unset, .unset, .unset, .unset, .unset] []))
    refine Ends.via (fun _ k => XS.iconst X0.here hx rfl (hb hby at_11) k) ?_
    show Ends p e below s 16 128 (Q0 Z p0 p1 p2 p3 p4  h0 n0) (s₁.setTop (mkF m 12 #[.val (.int p0), .val (.int p1), .val (.int p2), .val (.int p3), .val (.int p4), .unset, .unset, .unset, .unset, .unset, .unset, .unset, .unset, .unset, .unset, .unset] [(.int (0 : Int32))]))
    exact J3 s₁ _ X0 e0 N0 (0 : Int32) (by first | rfl | simp only [if_pos hc102])
  · refine Ends.via (fun _ k => XS.ifNo X0.here hx rfl (hb hby at_4) rfl ((if0 _ _).trans (feq hc102).1) k) ?_
    show Ends p e below s 16 128 (Q0 Z p0 p1 p2 p3 p4  h0 n0) (s₁.setTop (mkF m 7 #[.val (.int p0), .val (.int p1), .val (.int p2), .val (.int p3), .val (.int p4), .unset, .unset, .unset, .unset, .unset, .unset, .unset, .unset, .unset, .unset, .unset] []))
    refine Ends.via (fun _ k => XS.iloadN X0.here hx rfl (hb hby at_7) rfl k) ?_
    show Ends p e below s 16 128 (Q0 Z p0 p1 p2 p3 p4  h0 n0) (s₁.setTop (mkF m 8 #[.val (.int p0), .val (.int p1), .val (.int p2), .val (.int p3), .val (.int p4), .unset, .unset, .unset, .unset, .unset, .unset, .unset, .unset, .unset, .unset, .unset] [(.int p0)]))
    refine Ends.via (fun _ k => XS.goto X0.here hx rfl (pc0 := 8) (pc' := 12) rfl (hb hby at_8) (by decide) (by decide) k) ?_
    show Ends p e below s 16 128 (Q0 Z p0 p1 p2 p3 p4  h0 n0) (s₁.setTop (mkF m 12 #[.val (.int p0), .val (.int p1), .val (.int p2), .val (.int p3), .val (.int p4), .unset, .unset, .unset, .unset, .unset, .unset, .unset, .unset, .unset, .unset, .unset] [(.int p0)]))
    exact J3 s₁ _ X0 e0 N0 p0 (by first | rfl | simp only [if_neg hc102])
set_option maxRecDepth 65536 in
set_option maxHeartbeats 40000000 in
theorem comes_1 {Post : Tables → Env → Array Value → State → Outcome → State → Prop} (hpost : ∀ tb e args s v u, (limb_1_1.after args s (.returned v) u = true ∧ limb_1_2.after args s (.returned v) u = true ∧ True) → FrameEnd s (.returned v) u (Jvm.fieldLocs frame_1_writes args s ++ Jvm.arrayLocs frame_1_arrays args s ++ Jvm.staticLocs frame_1_statics s) 16 128 → Post tb e args s (.returned v) u) :
    ArmFor flags0 classFile x code maxLocals ret World_1 tables_1 room_1 Calls_1 rest_1 Pre_1 Post := by
  intro l hfl _ _ p e ha hc hk s m args below hf hA hF happ hP
  obtain ⟨hcalls, hrest, hpre⟩ := hP
  obtain ⟨-, -, -, hnamed, -, -, -, hat⟩ := (Spec.applies_iff hf).mp happ
  obtain ⟨hg, hn⟩ := and_e (Cond.before_iff.mp (show (Jvm.Cond.and given_1 narrow_1).before args s = true from hpre))
  obtain ⟨hcnt, g0⟩ := and_e hg
  obtain ⟨t0, g1⟩ := and_e g0
  obtain ⟨t1, g2⟩ := and_e g1
  obtain ⟨t2, g3⟩ := and_e g2
  obtain ⟨t3, g4⟩ := and_e g3
  obtain ⟨w0, w1, w2, w3, w4, rfl⟩ : ∃ w0 w1 w2 w3 w4 : Value, args = #[w0, w1, w2, w3, w4] := by
    have hs : args.size = 5 := by simpa [Cond.value, given_1] using hcnt
    obtain ⟨L⟩ := args
    match L, hs with
    | [w0, w1, w2, w3, w4], _ => exact ⟨w0, w1, w2, w3, w4, rfl⟩
  have hw := fun d (hd : d ∈ tables_1) => atoms_spec (ws := Jvm.Cond.code x code maxLocals ret :: tables_1) hat d (List.mem_cons_of_mem _ hd)
  obtain ⟨i0, ei0⟩ := is_v t0
  obtain rfl : w0 = (.int i0) := Option.some.inj ei0
  obtain ⟨i1, ei1⟩ := is_v t1
  obtain rfl : w1 = (.int i1) := Option.some.inj ei1
  obtain ⟨i2, ei2⟩ := is_v t2
  obtain rfl : w2 = (.int i2) := Option.some.inj ei2
  obtain ⟨i3, ei3⟩ := is_v t3
  obtain rfl : w3 = (.int i3) := Option.some.inj ei3
  obtain ⟨i4, ei4⟩ := is_v g4
  obtain rfl : w4 = (.int i4) := Option.some.inj ei4
  obtain ⟨n, o, h1, h2, h3, _, L, rfl, ⟨rfl, N⟩, hq⟩ := rm0 l s _ hw tables_1 i0 i1 i2 i3 i4 s.heap s.heap.size (Nat.le_refl _) p e ha hc hk s m _ below hf ((Spec.applies_iff_loose hf).mp happ).1 ⟨rfl, State.Warmed39.refl s, rfl⟩ trivial
  refine ⟨n, _, h1, h2, h3, hpost _ _ _ _ _ _ ⟨Cond.after_iff.mpr rfl, Cond.after_iff.mpr (eq_i res_at (Term.int_eval (1)) rfl), trivial⟩ ⟨hq.1, hq.2.1, (hq.2.2.sift fun y hy => Or.inr (N y hy)).mono (by decide) (by decide)⟩⟩
theorem main_1_1 : Claimed_1_1 := comes_1 fun _ _ _ _ _ _ h hF => ⟨h.1, hF⟩
theorem main_1_2 : Claimed_1_2 := comes_1 fun _ _ _ _ _ _ h hF => ⟨h.2.1, hF⟩
end Jvm.Pilot.@@N@@
namespace Jvm.Pilot.@@N@@
open Jvm Jvm.ClassFile Sem Op Lib Jvm.Free Jvm.Stand Jvm.Pilot.@@N@@.Jvm.D
/-! MADE BY PROGRAM (witnessworld.py) out of the Statement's table words and the real class files: 9 classes; the members and pool entries that the words name. The judged class is class 1, her method 1. -/
namespace start1
open Jvm.ClassFile
def u (s : String) : CpInfo := .utf8 (stringToUtf16 s)
/-- a pool by its gaps: so many unusable entries, then the entry; so many at the end -/
def gap : Nat → List CpInfo → List CpInfo
  | 0, r => r
  | n + 1, r => .unusable :: gap n r
def poolList (es : List (Nat × CpInfo)) (last : Nat) : List CpInfo := es.foldr (fun e r => gap e.1 (e.2 :: r)) (gap last [])
def pool (es : List (Nat × CpInfo)) (last : Nat) : Array CpInfo := ⟨poolList es last⟩
def fileOf (pool : Array CpInfo) (this : Nat) (attrs : Array Attribute := #[]) (ms : Array MethodInfo := #[]) (fl : Nat := 33) (sup : Nat := 0) (ifs : Array Nat := #[]) (fds : Array FieldInfo := #[]) : ClassFile where
  minorVersion := 0
  majorVersion := 65
  constantPool := pool
  accessFlags := fl
  thisClass := this
  superClass := sup
  interfaces := ifs
  fields := fds
  methods := ms
  attributes := attrs
def plain (name : String) (sup : Option ClassId) : Class where
  name := name
  kind := .ordinary
  loader := none
  accessFlags := 33
  super := sup
  interfaces := #[]
  cf := none
  fields := #[]
  methods := #[]
  instanceTypes := #[]
  staticTypes := #[]
  resolved := #[]
  callSites := []
  init := .initialized
  statics := none
  mirror := none

def pool0 : Array CpInfo := pool [(5, u "<init>"), (0, u "()V"), (1, .class_ 10), (1, u "java/lang/Object")] 113

def k0c0 : Code := { maxStack := 0, maxLocals := 1, code := object_method_1_code, exceptionTable := #[], attributes := #[] }
def k0m0 : Method := { name := "<init>", desc := "()V", sig := { parameters := [], returnType := none }, accessFlags := 1, code := some k0c0 }
/-- java/lang/Object -/
def k0 : Class := { plain "java/lang/Object" none with
  accessFlags := 33
  interfaces := #[]
  cf := some (fileOf pool0 8 #[] #[{ accessFlags := 1, nameIndex := 5, descriptorIndex := 6, attributes := #[] }] 33 0 #[] #[])
  fields := #[]
  methods := #[k0m0]
  instanceTypes := #[]
  staticTypes := #[]
  resolved := Array.replicate 124 none
  statics := none }

def pool1 : Array CpInfo := pool [(2, .class_ 4), (1, u "java/lang/Object"), (0, u "<init>"), (0, u "()V"), (0, .class_ 8), (0, u "com/example/okno/okno/Insets"), (0, .methodref 7 10), (0, .nameAndType 5 11), (0, u "(IIII)V"), (0, .methodref 7 13), (0, .nameAndType 14 15), (0, u "sides"), (0, u "()I"), (0, .class_ 17), (0, u "com/example/okno/okno/InsetsSidesPinLaw"), (2, u "law"), (0, u "(IIIII)Z")] 3

def k1m0 : Method := { name := "<init>", desc := "()V", sig := { parameters := [], returnType := none }, accessFlags := 1, code := none }
def k1c1 : Code := { maxStack := 6, maxLocals := 16, code := code, exceptionTable := #[], attributes := #[] }
def k1m1 : Method := { name := "law", desc := "(IIIII)Z", sig := { parameters := [.int, .int, .int, .int, .int], returnType := some .boolean }, accessFlags := 9, code := some k1c1 }
/-- com/example/okno/okno/InsetsSidesPinLaw -/
def k1 : Class := { plain "com/example/okno/okno/InsetsSidesPinLaw" (some 0) with
  accessFlags := 49
  interfaces := #[]
  cf := some (fileOf pool1 16 #[] #[{ accessFlags := 1, nameIndex := 5, descriptorIndex := 6, attributes := #[] }, { accessFlags := 9, nameIndex := 20, descriptorIndex := 21, attributes := #[] }] 49 2 #[] #[])
  fields := #[]
  methods := #[k1m0, k1m1]
  instanceTypes := #[]
  staticTypes := #[]
  resolved := Array.replicate 25 none
  statics := none }

def pool2 : Array CpInfo := pool [(1, .class_ 2), (0, u "com/example/okno/okno/Insets"), (0, .methodref 4 5), (0, .class_ 6), (0, .nameAndType 7 8), (0, u "java/lang/Object"), (0, u "<init>"), (0, u "()V"), (0, .fieldref 1 10), (0, .nameAndType 11 12), (0, u "left"), (0, u "I"), (0, .fieldref 1 14), (0, .nameAndType 15 12), (0, u "top"), (0, .fieldref 1 17), (0, .nameAndType 18 12), (0, u "right"), (0, .fieldref 1 20), (0, .nameAndType 21 12), (0, u "bottom"), (12, u "(IIII)V"), (2, u "sides"), (0, u "()I"), (10, u "NONE"), (0, u "Lcom/example/okno/okno/Insets;"), (0, u "LEFT"), (2, u "TOP"), (1, u "RIGHT"), (1, u "BOTTOM"), (1, u "ALL_SIDES")] 30

def k2c0 : Code := { maxStack := 2, maxLocals := 5, code := prog_12_method_1_code, exceptionTable := #[], attributes := #[] }
def k2m0 : Method := { name := "<init>", desc := "(IIII)V", sig := { parameters := [.int, .int, .int, .int], returnType := none }, accessFlags := 1, code := some k2c0 }
def k2c1 : Code := { maxStack := 2, maxLocals := 1, code := prog_12_method_8_code, exceptionTable := #[], attributes := #[] }
def k2m1 : Method := { name := "sides", desc := "()I", sig := { parameters := [], returnType := some .int }, accessFlags := 1, code := some k2c1 }
/-- com/example/okno/okno/Insets -/
def k2 : Class := { plain "com/example/okno/okno/Insets" (some 0) with
  accessFlags := 33
  interfaces := #[]
  cf := some (fileOf pool2 1 #[] #[{ accessFlags := 1, nameIndex := 7, descriptorIndex := 34, attributes := #[] }, { accessFlags := 1, nameIndex := 37, descriptorIndex := 38, attributes := #[] }] 33 4 #[] #[{ accessFlags := 25, nameIndex := 51, descriptorIndex := 12, attributes := #[] }, { accessFlags := 25, nameIndex := 54, descriptorIndex := 12, attributes := #[] }, { accessFlags := 25, nameIndex := 56, descriptorIndex := 12, attributes := #[] }, { accessFlags := 25, nameIndex := 58, descriptorIndex := 12, attributes := #[] }, { accessFlags := 25, nameIndex := 60, descriptorIndex := 12, attributes := #[] }, { accessFlags := 25, nameIndex := 49, descriptorIndex := 50, attributes := #[] }, { accessFlags := 18, nameIndex := 11, descriptorIndex := 12, attributes := #[] }, { accessFlags := 18, nameIndex := 15, descriptorIndex := 12, attributes := #[] }, { accessFlags := 18, nameIndex := 18, descriptorIndex := 12, attributes := #[] }, { accessFlags := 18, nameIndex := 21, descriptorIndex := 12, attributes := #[] }])
  fields := #[{ name := "LEFT", type := .int, accessFlags := 25, slot := 0, constantValue := 0 }, { name := "TOP", type := .int, accessFlags := 25, slot := 1, constantValue := 0 }, { name := "RIGHT", type := .int, accessFlags := 25, slot := 2, constantValue := 0 }, { name := "BOTTOM", type := .int, accessFlags := 25, slot := 3, constantValue := 0 }, { name := "ALL_SIDES", type := .int, accessFlags := 25, slot := 4, constantValue := 0 }, { name := "NONE", type := (.object "com/example/okno/okno/Insets"), accessFlags := 25, slot := 5, constantValue := 0 }, { name := "left", type := .int, accessFlags := 18, slot := 0, constantValue := 0 }, { name := "top", type := .int, accessFlags := 18, slot := 1, constantValue := 0 }, { name := "right", type := .int, accessFlags := 18, slot := 2, constantValue := 0 }, { name := "bottom", type := .int, accessFlags := 18, slot := 3, constantValue := 0 }]
  methods := #[k2m0, k2m1]
  instanceTypes := #[.int, .int, .int, .int]
  staticTypes := #[.int, .int, .int, .int, .int, (.object "com/example/okno/okno/Insets")]
  resolved := Array.replicate 91 none
  statics := none }

def pool3 : Array CpInfo := pool [(1, u "java/lang/Cloneable"), (0, .class_ 1), (0, u "java/lang/Object"), (0, .class_ 3)] 3

/-- java/lang/Cloneable -/
def k3 : Class := { plain "java/lang/Cloneable" (some 0) with
  accessFlags := 1537
  interfaces := #[]
  cf := some (fileOf pool3 2 #[] #[] 1537 4 #[] #[])
  fields := #[]
  methods := #[]
  instanceTypes := #[]
  staticTypes := #[]
  resolved := Array.replicate 8 none
  statics := none }

def pool4 : Array CpInfo := pool [(1, u "java/io/Serializable"), (0, .class_ 1), (0, u "java/lang/Object"), (0, .class_ 3)] 3

/-- java/io/Serializable -/
def k4 : Class := { plain "java/io/Serializable" (some 0) with
  accessFlags := 1537
  interfaces := #[]
  cf := some (fileOf pool4 2 #[] #[] 1537 4 #[] #[])
  fields := #[]
  methods := #[]
  instanceTypes := #[]
  staticTypes := #[]
  resolved := Array.replicate 8 none
  statics := none }

/-- the primitive byte -/
def k5 : Class := { plain "byte" none with kind := .primitive 'B', accessFlags := 0x411 }
/-- [B -/
def k6 : Class := { plain "[B" (some 0) with kind := .array 5 .byte, interfaces := #[3, 4], accessFlags := 1041 }

/-- the primitive int -/
def k7 : Class := { plain "int" none with kind := .primitive 'I', accessFlags := 0x411 }
/-- [I -/
def k8 : Class := { plain "[I" (some 0) with kind := .array 7 .int, interfaces := #[3, 4], accessFlags := 1041 }

def heap : Heap := #[]
def classes : Array Class := #[k0, k1, k2, k3, k4, k5, k6, k7, k8]
def interned : List (Array UInt16 × Addr) := []
def slotsUsed : Nat := 0
def theMethod : MethodId := ⟨1, 1⟩
def args0 : Array Value := #[.int 5, .int 5, .int 5, .int 5, .int 5]
def aboutOver (below : List Frame) : State where
  vm := { classes := classes, interned := interned.toArray }
  heap := heap
  slotsUsed := slotsUsed
  threads := #[{ frames := .invoking theMethod args0 :: below }]
def below0 : List Frame := [.native { method := ⟨0, 0⟩, args := #[] }]
def about1 : State := aboutOver below0
def p0 : Program := .bare "" "" ""
def e0 : Env := launch0.env 0 0 0
theorem w_frames : about1.frames = Frame.invoking theMethod args0 :: below0 := rfl
set_option maxRecDepth 65536 in
theorem w_args : argsFit about1.vm theMethod args0 = true := by decide +kernel
set_option maxRecDepth 65536 in
theorem w_heap : heapFits about1 = true := by decide +kernel
set_option maxRecDepth 65536 in
theorem w_runnable : about1.curStatus? = some .runnable := by decide +kernel
set_option maxRecDepth 65536 in
theorem w_alone : about1.alone = true := by decide +kernel
set_option maxRecDepth 65536 in
theorem w_named : about1.methodNamed? x = some theMethod := by decide +kernel
set_option maxRecDepth 65536 in
theorem w_hears : about1.hears theMethod below0 = true := by decide +kernel
set_option maxRecDepth 65536 in
theorem w_ripe : about1.ripe theMethod args0 below0 = true := by decide +kernel
theorem w_running : about1.status = .running := rfl
set_option maxRecDepth 65536 in
theorem w_room : about1.hasRoom e0.platform room_1 = true :=
  launch0.hasRoom_least _ room_1 (by decide +kernel) (by decide +kernel) (by decide +kernel) (by decide +kernel) (by decide +kernel) (by decide +kernel)
theorem allAtoms_all (ts : List Jvm.Cond) (a : Array Jvm.Value) (st : Jvm.State) : (allAtoms ts).before a st = ts.all (fun c => c.before a st) := by
  induction ts with
  | nil => rfl
  | cons c t ih =>
    show (Jvm.Cond.and c (allAtoms t)).before a st = _
    rw [Jvm.Cond.before_and, ih, List.all_cons]
def words1 : List Jvm.Cond := Jvm.Cond.code x code maxLocals ret :: tables_1
/-- a 'code' word, met by the world's own term for the bytes: nothing is compared byte by byte -/
theorem code_word {y : MethodName} {bytes : ByteArray} {mx : Nat} {rt : Option FieldType} {a : Array Value} {s : State} {m : MethodId} {meth : Method} {c : Code} (h1 : s.methodNamed? y = some m) (h2 : s.vm.method? m = some meth) (h3 : meth.code = some c) (h4 : c.code = bytes)
    (h5 : (c.maxLocals == mx && c.exceptionTable.isEmpty && decide (c.maxStack ≤ mostOperands) && decide (meth.sig.returnType = rt) && !meth.locks && decide (parseMethodDescriptor y.desc = some meth.sig)) = true) : (Jvm.Cond.code y bytes mx rt).before a s = true := by
  simp only [Bool.and_eq_true, beq_iff_eq, Bool.not_eq_true', decide_eq_true_eq] at h5
  obtain ⟨⟨⟨⟨⟨g1, g2⟩, g3⟩, g4⟩, g5⟩, g6⟩ := h5
  simp [Cond.before, Cond.holds, Cond.value, h1, h2, h3, h4, g1, g2, g3, g4, g5, g6]
def isCode : Jvm.Cond → Bool
  | .code _ _ _ _ => true
  | _ => false
theorem all_split {L : List Jvm.Cond} {P : Jvm.Cond → Bool} (h1 : L.all (fun c => isCode c || P c) = true) (h2 : ∀ c ∈ L.filter isCode, P c = true) : L.all P = true := by
  refine List.all_eq_true.mpr fun c hc => ?_
  have h := List.all_eq_true.mp h1 c hc
  rcases Bool.eq_false_or_eq_true (isCode c) with hi | hi
  · exact h2 c (List.mem_filter.mpr ⟨hc, hi⟩)
  · simpa [hi] using h
set_option maxRecDepth 65536 in
theorem w_c0 : (Jvm.Cond.code x code maxLocals ret).before args0 about1 = true := code_word (m := ⟨1, 1⟩) (meth := k1m1) (c := k1c1) (by decide +kernel) rfl rfl rfl (by decide +kernel)
set_option maxRecDepth 65536 in
theorem w_c1 : (Jvm.Cond.code ({ cls := "com/example/okno/okno/Insets", name := "<init>", desc := "(IIII)V" } : Jvm.MethodName) prog_12_method_1_code (5 : Nat) (Option.none : Option Jvm.ClassFile.FieldType)).before args0 about1 = true := code_word (m := ⟨2, 0⟩) (meth := k2m0) (c := k2c0) (by decide +kernel) rfl rfl rfl (by decide +kernel)
set_option maxRecDepth 65536 in
theorem w_c2 : (Jvm.Cond.code ({ cls := "java/lang/Object", name := "<init>", desc := "()V" } : Jvm.MethodName) object_method_1_code (1 : Nat) (Option.none : Option Jvm.ClassFile.FieldType)).before args0 about1 = true := code_word (m := ⟨0, 0⟩) (meth := k0m0) (c := k0c0) (by decide +kernel) rfl rfl rfl (by decide +kernel)
set_option maxRecDepth 65536 in
theorem w_c3 : (Jvm.Cond.code ({ cls := "com/example/okno/okno/Insets", name := "sides", desc := "()I" } : Jvm.MethodName) prog_12_method_8_code (1 : Nat) (Option.some Jvm.ClassFile.FieldType.int)).before args0 about1 = true := code_word (m := ⟨2, 1⟩) (meth := k2m1) (c := k2c1) (by decide +kernel) rfl rfl rfl (by decide +kernel)
def codes1 : List Jvm.Cond := [Jvm.Cond.code x code maxLocals ret, Jvm.Cond.code ({ cls := "com/example/okno/okno/Insets", name := "<init>", desc := "(IIII)V" } : Jvm.MethodName) prog_12_method_1_code (5 : Nat) (Option.none : Option Jvm.ClassFile.FieldType), Jvm.Cond.code ({ cls := "java/lang/Object", name := "<init>", desc := "()V" } : Jvm.MethodName) object_method_1_code (1 : Nat) (Option.none : Option Jvm.ClassFile.FieldType), Jvm.Cond.code ({ cls := "com/example/okno/okno/Insets", name := "sides", desc := "()I" } : Jvm.MethodName) prog_12_method_8_code (1 : Nat) (Option.some Jvm.ClassFile.FieldType.int)]
set_option maxRecDepth 65536 in
theorem codes_eq : words1.filter isCode = codes1 := rfl
theorem w_codes : ∀ c ∈ words1.filter isCode, c.before args0 about1 = true := by
  rw [codes_eq]
  intro c hc
  simp only [codes1, List.mem_cons, List.not_mem_nil, or_false] at hc
  rcases hc with rfl | rfl | rfl | rfl
  · exact w_c0
  · exact w_c1
  · exact w_c2
  · exact w_c3
set_option maxRecDepth 65536 in
theorem w_t1 : words1.all (fun c => isCode c || c.before args0 about1) = true := by decide +kernel
theorem w_tables : (allAtoms (Jvm.Cond.code x code maxLocals ret :: tables_1)).before args0 about1 = true := by
  rw [allAtoms_all]
  show words1.all (fun c => c.before args0 about1) = true
  refine all_split ?_ w_codes
  rw [w_t1]
set_option maxRecDepth 65536 in
theorem w_case : (Jvm.Cond.and given_1 narrow_1).before args0 about1 = true := by decide +kernel
theorem w_applies : (headSpec (Jvm.Cond.code x code maxLocals ret :: tables_1) room_1).applies x e0.platform about1 = true :=
  (Spec.applies_iff w_frames).mpr ⟨w_running, w_runnable, w_alone, w_named, w_hears, w_ripe, w_room, w_tables⟩
theorem atStart : AtStart classFile x code maxLocals ret World_1 tables_1 room_1 Calls_1 rest_1 Pre_1 launch0 p0 e0 about1 theMethod args0 below0 :=
  ⟨lists_1, trivial, launch0.admits_env _ _ _, launch0.least_env, fairChoices_fair.cas, fairChoices_fair.clock, w_frames, w_args, w_heap, w_applies, trivial, trivial, w_case⟩
end start1
theorem witness_1 : WitnessClaimed_1 := ⟨start1.p0, start1.e0, start1.about1, start1.theMethod, start1.args0, start1.below0, start1.atStart⟩
end Jvm.Pilot.@@N@@
