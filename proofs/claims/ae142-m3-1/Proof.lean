import JvmDerived
import JvmDerived.Pilot.@@N@@Statement
import JvmDerived.Pilot.@@N@@Code
set_option linter.unusedVariables false
set_option linter.unusedSimpArgs false
namespace Jvm.RoadKit
open Sem ClassFile Op Lib Jvm.Stand Jvm.Free Jvm.LawKit
section New
variable {p : Program} {l : Launch} {e : Env} {R : Room} {s : State} {m : MethodId} {args : Array Value} {below : List Frame} {meth : Method} {c : Code} {T : State} {locs : List Loc} {cells slots : Nat}
theorem retI (X : Stand p l e R s m args below meth c T locs cells slots) (hx : p.tables.exec = Jvm.exec) {pc : Nat} {Ls : Array Slot} {z : Int32} {rest : List Value} (hret : meth.sig.returnType = some .int) (hd : decode c.code pc = .ok (.ireturn, 1)) {fs : List Frame}
    (hl : ∀ (f : JFrame) (acts : List Action), f.method = m → f.locked = none → f.entered = [] → (doReturn e (T.setTop f) acts (some (.int z))).1 = T.setFrames fs) : Steps p.tables e below (T.setTop (mkF m pc Ls (.int z :: rest))) (T.setFrames fs) := by
  have hm' : T.vm.method? m = some meth := X.method'
  have hn : narrow .int (.int z) = .int z := rfl
  show Steps p.tables e below (T.setTop { method := m, pc := pc, locals := Ls, stack := _ :: rest, locked := none }) _
  jvm_step X.here [X.here.top, hx, hd, hm', hret, hn]
  first | (intro acts; rw [hl _ acts rfl rfl rfl]) | rw [hl _ _ rfl rfl rfl]
  exact Steps.refl _
end New
end Jvm.RoadKit
namespace Jvm.Pilot.@@N@@
open Jvm Jvm.ClassFile Sem Op Lib Jvm.Free Jvm.Stand Jvm.LawKit Jvm.RoadKit Bundle Jvm.Pilot.@@N@@.Jvm.D
/-- from u the invocation ends, and what it returns and leaves is as Q says -/
def Ends (p : Program) (e : Env) (below : List Frame) (s : State) (kc ks : Nat) (Q : Option Value → Heap → List Loc → Prop) (u : State) : Prop :=
  ∃ s₂ o, Steps p.tables e below u s₂ ∧ s₂.status = .running ∧ Ended s₂ below o ∧ ∃ v L, o = .returned v ∧ Q v s₂.heap L ∧ FrameEnd s o s₂ L kc ks
theorem Ends.via {p : Program} {e : Env} {below : List Frame} {s : State} {kc ks : Nat} {Q : Option Value → Heap → List Loc → Prop} {A B : State} (h : ∀ t, Steps p.tables e below A t → Steps p.tables e below B t) (k : Ends p e below s kc ks Q A) : Ends p e below s kc ks Q B := by
  obtain ⟨s₂, o, h1, r⟩ := k
  exact ⟨s₂, o, h _ h1, r⟩
theorem Ends.ret {p : Program} {l : Launch} {e : Env} {R : Room} {s : State} {m : MethodId} {args : Array Value} {below : List Frame} {meth : Method} {c : Code} {T : State} {locs : List Loc} {cells slots kc ks : Nat} {Q : Option Value → Heap → List Loc → Prop} {u : State}
    (X : Stand p l e R s m args below meth c T locs cells slots) {v : Option Value} (hv : meth.sig.returnType = none → v = none) (hlocks : meth.locks = false)
    (hst : ∀ fs, (∀ (f : JFrame) (acts : List Action), f.method = m → f.locked = none → f.entered = [] → (doReturn e (T.setTop f) acts v).1 = T.setFrames fs) → Steps p.tables e below u (T.setFrames fs))
    (hQ : Q v T.heap locs) (h1 : cells ≤ kc) (h2 : slots ≤ ks) : Ends p e below s kc ks Q u := by
  obtain ⟨fs, hr, hrun, hended, hW, hsame⟩ := X.leave (v := v) hv hlocks
  exact ⟨_, _, hst fs hr, hrun, hended, _, _, rfl, hQ, ⟨_, rfl⟩, hW, hsame.mono h1 h2⟩

theorem own_pd0 : parseMethodDescriptor "(IIII)V" = some ⟨[.int, .int, .int, .int], none⟩ := by decide +kernel
theorem own_pd1 : parseMethodDescriptor "()I" = some ⟨[], some .int⟩ := by decide +kernel
theorem d1_0 : decode prog_34_method_1_code 0 = .ok (.aload_n 0, 1) := by decide +kernel
theorem d1_1 : decode prog_34_method_1_code 1 = .ok (.invokespecial 1, 3) := by decide +kernel
theorem d1_4 : decode prog_34_method_1_code 4 = .ok (.aload_n 0, 1) := by decide +kernel
theorem d1_5 : decode prog_34_method_1_code 5 = .ok (.iload_n 1, 1) := by decide +kernel
theorem d1_6 : decode prog_34_method_1_code 6 = .ok (.putfield 7, 3) := by decide +kernel
theorem d1_9 : decode prog_34_method_1_code 9 = .ok (.aload_n 0, 1) := by decide +kernel
theorem d1_10 : decode prog_34_method_1_code 10 = .ok (.iload_n 2, 1) := by decide +kernel
theorem d1_11 : decode prog_34_method_1_code 11 = .ok (.putfield 13, 3) := by decide +kernel
theorem d1_14 : decode prog_34_method_1_code 14 = .ok (.aload_n 0, 1) := by decide +kernel
theorem d1_15 : decode prog_34_method_1_code 15 = .ok (.iload_n 3, 1) := by decide +kernel
theorem d1_16 : decode prog_34_method_1_code 16 = .ok (.putfield 16, 3) := by decide +kernel
theorem d1_19 : decode prog_34_method_1_code 19 = .ok (.aload_n 0, 1) := by decide +kernel
theorem d1_20 : decode prog_34_method_1_code 20 = .ok (.iload 4, 2) := by decide +kernel
theorem d1_22 : decode prog_34_method_1_code 22 = .ok (.putfield 19, 3) := by decide +kernel
theorem d1_25 : decode prog_34_method_1_code 25 = .ok (.return_, 1) := by decide +kernel
theorem pn_1 : plainName "com/example/okno/okno/Rect" = true := by first | (simp [plainName, overriddenIn]; done) | decide +kernel
theorem ef_1 (m : MethodId) (a0 : Addr) (p1 : Int32) (p2 : Int32) (p3 : Int32) (p4 : Int32) : entryFrame m #[(.ref a0), (.int p1), (.int p2), (.int p3), (.int p4)] 5 = mkF m 0 #[.val (.ref a0), .val (.int p1), .val (.int p2), .val (.int p3), .val (.int p4)] [] := by first | (simp [entryFrame, mkF, argsToLocals, Value.category]; done) | rfl
abbrev ROOM1 : Room := { frames := 1, cells := 0, slots := 0, locals := 12 }
def Q1 (Z : State) (a0 : Addr) (p1 : Int32) (p2 : Int32) (p3 : Int32) (p4 : Int32)  (u_left : Value) (u_top : Value) (u_right : Value) (u_bottom : Value) (h0 : Heap) (n0 : Nat) (v : Option Value) (h : Heap) (L : List Loc) : Prop := v = none ∧ Fr n0 L ∧ Keep h0 h [a0] ∧ Exa Z h a0 "com/example/okno/okno/Rect" ∧ Fld Z h a0 "com/example/okno/okno/Rect" "left" "I" (.int p1) ∧ Fld Z h a0 "com/example/okno/okno/Rect" "top" "I" (.int p2) ∧ Fld Z h a0 "com/example/okno/okno/Rect" "right" "I" (.int p3) ∧ Fld Z h a0 "com/example/okno/okno/Rect" "bottom" "I" (.int p4)
set_option maxRecDepth 65536 in
set_option maxHeartbeats 40000000 in
theorem rm1 (l : Launch) (Z : State) (a0 : Array Value) (hw : ∀ d ∈ tables_1, d.before a0 Z = true) (ws : List Jvm.Cond) (a0 : Addr) (p1 : Int32) (p2 : Int32) (p3 : Int32) (p4 : Int32)  (u_left : Value) (u_top : Value) (u_right : Value) (u_bottom : Value) (h0 : Heap) (n0 : Nat) (Z0 : n0 ≤ h0.size)  (g_a0 : n0 ≤ a0) (E_a0 : Exa Z h0 a0 "com/example/okno/okno/Rect") (F_left : Fld Z h0 a0 "com/example/okno/okno/Rect" "left" "I" u_left) (F_top : Fld Z h0 a0 "com/example/okno/okno/Rect" "top" "I" u_top) (F_right : Fld Z h0 a0 "com/example/okno/okno/Rect" "right" "I" u_right) (F_bottom : Fld Z h0 a0 "com/example/okno/okno/Rect" "bottom" "I" u_bottom) :
    MetFree l (⟨"com/example/okno/okno/Rect", "<init>", "(IIII)V"⟩ : MethodName) (head1 (Jvm.Cond.code (⟨"com/example/okno/okno/Rect", "<init>", "(IIII)V"⟩ : MethodName) prog_34_method_1_code 5 none :: ws) ROOM1) (fun a U => a = #[(.ref a0), (.int p1), (.int p2), (.int p3), (.int p4)] ∧ Z.Warmed39 U.vm ∧ U.heap = h0) (fun _ _ _ _ _ => True) (fun _ U o U' => ∃ v L, o = .returned v ∧ Q1 Z a0 p1 p2 p3 p4  u_left u_top u_right u_bottom h0 n0 v U'.heap L ∧ FrameEnd U o U' L ROOM1.cells ROOM1.slots) := by
  refine MetFree.of_bodySF (plainFor_of_name pn_1) hisR ?_
  intro p e s m args below meth c s₁ Bd hml0 hP hK
  obtain ⟨rfl, hZ, hh⟩ := hP
  have hx := Bd.exec
  have hby := Bd.bytes
  have hml : c.maxLocals = 5 := hml0
  have hown : s.vm.findClass "com/example/okno/okno/Rect" = some m.cls := findClass_of_methodNamed Bd.named
  have hnm := (name_of_methodNamed Bd.named Bd.method).1
  have X0 : Stand p l e ROOM1 s m #[(.ref a0), (.int p1), (.int p2), (.int p3), (.int p4)] below meth c s₁ [] 0 0 := Stand.of_body Bd
  have e0 : s₁.heap = h0 := by rw [← hh, Bd.state]; rfl
  have N0 := Fr.nil n0
  refine Ends.via (A := s₁.setTop (mkF m 0 #[.val (.ref a0), .val (.int p1), .val (.int p2), .val (.int p3), .val (.int p4)] [])) (kc := ROOM1.cells) (ks := ROOM1.slots) (Q := (Q1 Z a0 p1 p2 p3 p4  u_left u_top u_right u_bottom h0 n0)) (fun t k => castTop (ef_1 m a0 p1 p2 p3 p4) k) ?_
  show Ends p e below s ROOM1.cells ROOM1.slots (Q1 Z a0 p1 p2 p3 p4  u_left u_top u_right u_bottom h0 n0) (s₁.setTop (mkF m 0 #[.val (.ref a0), .val (.int p1), .val (.int p2), .val (.int p3), .val (.int p4)] []))
  refine Ends.via (fun _ k => XS.aloadN X0.here hx rfl (hb hby d1_0) rfl rfl k) ?_
  show Ends p e below s ROOM1.cells ROOM1.slots (Q1 Z a0 p1 p2 p3 p4  u_left u_top u_right u_bottom h0 n0) (s₁.setTop (mkF m 1 #[.val (.ref a0), .val (.int p1), .val (.int p2), .val (.int p3), .val (.int p4)] [(.ref a0)]))
  obtain ⟨T21, X21, e21, st21⟩ := initO X0 hx hZ hown (hw _ (List.mem_of_getElem? (i := 6) rfl)) (hw _ (List.mem_of_getElem? (i := 7) rfl)) (hw _ (List.mem_of_getElem? (i := 8) rfl)) e0 (g := (mkF m 1 #[.val (.ref a0), .val (.int p1), .val (.int p2), .val (.int p3), .val (.int p4)] [(.ref a0)])) rfl (by rw [hml]; rfl) rfl (hb hby d1_1) (by decide) (W := 0) (by show 2 * 0 + _ ≤ _; exact Nat.le_of_eq rfl) (by decide)
  refine Ends.via st21 ?_
  show Ends p e below s ROOM1.cells ROOM1.slots (Q1 Z a0 p1 p2 p3 p4  u_left u_top u_right u_bottom h0 n0) (T21.setTop (mkF m 4 #[.val (.ref a0), .val (.int p1), .val (.int p2), .val (.int p3), .val (.int p4)] []))
  refine Ends.via (fun _ k => XS.aloadN X21.here hx rfl (hb hby d1_4) rfl rfl k) ?_
  show Ends p e below s ROOM1.cells ROOM1.slots (Q1 Z a0 p1 p2 p3 p4  u_left u_top u_right u_bottom h0 n0) (T21.setTop (mkF m 5 #[.val (.ref a0), .val (.int p1), .val (.int p2), .val (.int p3), .val (.int p4)] [(.ref a0)]))
  refine Ends.via (fun _ k => XS.iloadN X21.here hx rfl (hb hby d1_5) rfl k) ?_
  show Ends p e below s ROOM1.cells ROOM1.slots (Q1 Z a0 p1 p2 p3 p4  u_left u_top u_right u_bottom h0 n0) (T21.setTop (mkF m 6 #[.val (.ref a0), .val (.int p1), .val (.int p2), .val (.int p3), .val (.int p4)] [(.int p1), (.ref a0)]))
  obtain ⟨T22, h22, X22, e22, W22, st22⟩ := putF X21 hx hZ hown (host := "") (Or.inl (hw _ (List.mem_of_getElem? (i := 9) rfl))) Via.refl e21 F_left E_a0 (Or.inr ⟨(hw _ (List.mem_of_getElem? (i := 10) rfl)), rfl, hnm⟩) (hw _ (List.mem_of_getElem? (i := 1) rfl)) (ty := .int) (by decide) rfl rfl (g := (mkF m 6 #[.val (.ref a0), .val (.int p1), .val (.int p2), .val (.int p3), .val (.int p4)] [(.int p1), (.ref a0)])) rfl rfl (hb hby d1_6)
  have f22_0 := E_a0.wr W22
  have f22_1 := F_left.same W22
  have f22_2 := F_top.other W22 (Or.inr (slot_ne (Or.inr (hw _ (List.mem_of_getElem? (i := 12) rfl))) (Or.inr (hw _ (List.mem_of_getElem? (i := 10) rfl))) (by decide) (t := .int) (t' := .int) (by decide) (by decide)))
  have f22_3 := F_right.other W22 (Or.inr (slot_ne (Or.inr (hw _ (List.mem_of_getElem? (i := 14) rfl))) (Or.inr (hw _ (List.mem_of_getElem? (i := 10) rfl))) (by decide) (t := .int) (t' := .int) (by decide) (by decide)))
  have f22_4 := F_bottom.other W22 (Or.inr (slot_ne (Or.inr (hw _ (List.mem_of_getElem? (i := 16) rfl))) (Or.inr (hw _ (List.mem_of_getElem? (i := 10) rfl))) (by decide) (t := .int) (t' := .int) (by decide) (by decide)))
  have Z22 : n0 ≤ h22.size := Nat.le_trans Z0 (Keep.of_wr W22).1
  have K22 := Keep.wr (Keep.refl h0 [a0]) W22 (Or.inl (List.mem_of_getElem? (i := 0) rfl))
  have N22 := Fr.snoc X22 N0 g_a0
  refine Ends.via st22 ?_
  show Ends p e below s ROOM1.cells ROOM1.slots (Q1 Z a0 p1 p2 p3 p4  u_left u_top u_right u_bottom h0 n0) (T22.setTop (mkF m 9 #[.val (.ref a0), .val (.int p1), .val (.int p2), .val (.int p3), .val (.int p4)] []))
  refine Ends.via (fun _ k => XS.aloadN X22.here hx rfl (hb hby d1_9) rfl rfl k) ?_
  show Ends p e below s ROOM1.cells ROOM1.slots (Q1 Z a0 p1 p2 p3 p4  u_left u_top u_right u_bottom h0 n0) (T22.setTop (mkF m 10 #[.val (.ref a0), .val (.int p1), .val (.int p2), .val (.int p3), .val (.int p4)] [(.ref a0)]))
  refine Ends.via (fun _ k => XS.iloadN X22.here hx rfl (hb hby d1_10) rfl k) ?_
  show Ends p e below s ROOM1.cells ROOM1.slots (Q1 Z a0 p1 p2 p3 p4  u_left u_top u_right u_bottom h0 n0) (T22.setTop (mkF m 11 #[.val (.ref a0), .val (.int p1), .val (.int p2), .val (.int p3), .val (.int p4)] [(.int p2), (.ref a0)]))
  obtain ⟨T23, h23, X23, e23, W23, st23⟩ := putF X22 hx hZ hown (host := "") (Or.inl (hw _ (List.mem_of_getElem? (i := 11) rfl))) Via.refl e22 f22_2 f22_0 (Or.inr ⟨(hw _ (List.mem_of_getElem? (i := 12) rfl)), rfl, hnm⟩) (hw _ (List.mem_of_getElem? (i := 1) rfl)) (ty := .int) (by decide) rfl rfl (g := (mkF m 11 #[.val (.ref a0), .val (.int p1), .val (.int p2), .val (.int p3), .val (.int p4)] [(.int p2), (.ref a0)])) rfl rfl (hb hby d1_11)
  have f23_0 := f22_0.wr W23
  have f23_1 := f22_1.other W23 (Or.inr (slot_ne (Or.inr (hw _ (List.mem_of_getElem? (i := 10) rfl))) (Or.inr (hw _ (List.mem_of_getElem? (i := 12) rfl))) (by decide) (t := .int) (t' := .int) (by decide) (by decide)))
  have f23_2 := f22_2.same W23
  have f23_3 := f22_3.other W23 (Or.inr (slot_ne (Or.inr (hw _ (List.mem_of_getElem? (i := 14) rfl))) (Or.inr (hw _ (List.mem_of_getElem? (i := 12) rfl))) (by decide) (t := .int) (t' := .int) (by decide) (by decide)))
  have f23_4 := f22_4.other W23 (Or.inr (slot_ne (Or.inr (hw _ (List.mem_of_getElem? (i := 16) rfl))) (Or.inr (hw _ (List.mem_of_getElem? (i := 12) rfl))) (by decide) (t := .int) (t' := .int) (by decide) (by decide)))
  have Z23 : n0 ≤ h23.size := Nat.le_trans Z22 (Keep.of_wr W23).1
  have K23 := Keep.wr K22 W23 (Or.inl (List.mem_of_getElem? (i := 0) rfl))
  have N23 := Fr.snoc X23 N22 g_a0
  refine Ends.via st23 ?_
  show Ends p e below s ROOM1.cells ROOM1.slots (Q1 Z a0 p1 p2 p3 p4  u_left u_top u_right u_bottom h0 n0) (T23.setTop (mkF m 14 #[.val (.ref a0), .val (.int p1), .val (.int p2), .val (.int p3), .val (.int p4)] []))
  refine Ends.via (fun _ k => XS.aloadN X23.here hx rfl (hb hby d1_14) rfl rfl k) ?_
  show Ends p e below s ROOM1.cells ROOM1.slots (Q1 Z a0 p1 p2 p3 p4  u_left u_top u_right u_bottom h0 n0) (T23.setTop (mkF m 15 #[.val (.ref a0), .val (.int p1), .val (.int p2), .val (.int p3), .val (.int p4)] [(.ref a0)]))
  refine Ends.via (fun _ k => XS.iloadN X23.here hx rfl (hb hby d1_15) rfl k) ?_
  show Ends p e below s ROOM1.cells ROOM1.slots (Q1 Z a0 p1 p2 p3 p4  u_left u_top u_right u_bottom h0 n0) (T23.setTop (mkF m 16 #[.val (.ref a0), .val (.int p1), .val (.int p2), .val (.int p3), .val (.int p4)] [(.int p3), (.ref a0)]))
  obtain ⟨T24, h24, X24, e24, W24, st24⟩ := putF X23 hx hZ hown (host := "") (Or.inl (hw _ (List.mem_of_getElem? (i := 13) rfl))) Via.refl e23 f23_3 f23_0 (Or.inr ⟨(hw _ (List.mem_of_getElem? (i := 14) rfl)), rfl, hnm⟩) (hw _ (List.mem_of_getElem? (i := 1) rfl)) (ty := .int) (by decide) rfl rfl (g := (mkF m 16 #[.val (.ref a0), .val (.int p1), .val (.int p2), .val (.int p3), .val (.int p4)] [(.int p3), (.ref a0)])) rfl rfl (hb hby d1_16)
  have f24_0 := f23_0.wr W24
  have f24_1 := f23_1.other W24 (Or.inr (slot_ne (Or.inr (hw _ (List.mem_of_getElem? (i := 10) rfl))) (Or.inr (hw _ (List.mem_of_getElem? (i := 14) rfl))) (by decide) (t := .int) (t' := .int) (by decide) (by decide)))
  have f24_2 := f23_2.other W24 (Or.inr (slot_ne (Or.inr (hw _ (List.mem_of_getElem? (i := 12) rfl))) (Or.inr (hw _ (List.mem_of_getElem? (i := 14) rfl))) (by decide) (t := .int) (t' := .int) (by decide) (by decide)))
  have f24_3 := f23_3.same W24
  have f24_4 := f23_4.other W24 (Or.inr (slot_ne (Or.inr (hw _ (List.mem_of_getElem? (i := 16) rfl))) (Or.inr (hw _ (List.mem_of_getElem? (i := 14) rfl))) (by decide) (t := .int) (t' := .int) (by decide) (by decide)))
  have Z24 : n0 ≤ h24.size := Nat.le_trans Z23 (Keep.of_wr W24).1
  have K24 := Keep.wr K23 W24 (Or.inl (List.mem_of_getElem? (i := 0) rfl))
  have N24 := Fr.snoc X24 N23 g_a0
  refine Ends.via st24 ?_
  show Ends p e below s ROOM1.cells ROOM1.slots (Q1 Z a0 p1 p2 p3 p4  u_left u_top u_right u_bottom h0 n0) (T24.setTop (mkF m 19 #[.val (.ref a0), .val (.int p1), .val (.int p2), .val (.int p3), .val (.int p4)] []))
  refine Ends.via (fun _ k => XS.aloadN X24.here hx rfl (hb hby d1_19) rfl rfl k) ?_
  show Ends p e below s ROOM1.cells ROOM1.slots (Q1 Z a0 p1 p2 p3 p4  u_left u_top u_right u_bottom h0 n0) (T24.setTop (mkF m 20 #[.val (.ref a0), .val (.int p1), .val (.int p2), .val (.int p3), .val (.int p4)] [(.ref a0)]))
  refine Ends.via (fun _ k => XS.iload X24.here hx rfl (hb hby d1_20) rfl k) ?_
  show Ends p e below s ROOM1.cells ROOM1.slots (Q1 Z a0 p1 p2 p3 p4  u_left u_top u_right u_bottom h0 n0) (T24.setTop (mkF m 22 #[.val (.ref a0), .val (.int p1), .val (.int p2), .val (.int p3), .val (.int p4)] [(.int p4), (.ref a0)]))
  obtain ⟨T25, h25, X25, e25, W25, st25⟩ := putF X24 hx hZ hown (host := "") (Or.inl (hw _ (List.mem_of_getElem? (i := 15) rfl))) Via.refl e24 f24_4 f24_0 (Or.inr ⟨(hw _ (List.mem_of_getElem? (i := 16) rfl)), rfl, hnm⟩) (hw _ (List.mem_of_getElem? (i := 1) rfl)) (ty := .int) (by decide) rfl rfl (g := (mkF m 22 #[.val (.ref a0), .val (.int p1), .val (.int p2), .val (.int p3), .val (.int p4)] [(.int p4), (.ref a0)])) rfl rfl (hb hby d1_22)
  have f25_0 := f24_0.wr W25
  have f25_1 := f24_1.other W25 (Or.inr (slot_ne (Or.inr (hw _ (List.mem_of_getElem? (i := 10) rfl))) (Or.inr (hw _ (List.mem_of_getElem? (i := 16) rfl))) (by decide) (t := .int) (t' := .int) (by decide) (by decide)))
  have f25_2 := f24_2.other W25 (Or.inr (slot_ne (Or.inr (hw _ (List.mem_of_getElem? (i := 12) rfl))) (Or.inr (hw _ (List.mem_of_getElem? (i := 16) rfl))) (by decide) (t := .int) (t' := .int) (by decide) (by decide)))
  have f25_3 := f24_3.other W25 (Or.inr (slot_ne (Or.inr (hw _ (List.mem_of_getElem? (i := 14) rfl))) (Or.inr (hw _ (List.mem_of_getElem? (i := 16) rfl))) (by decide) (t := .int) (t' := .int) (by decide) (by decide)))
  have f25_4 := f24_4.same W25
  have Z25 : n0 ≤ h25.size := Nat.le_trans Z24 (Keep.of_wr W25).1
  have K25 := Keep.wr K24 W25 (Or.inl (List.mem_of_getElem? (i := 0) rfl))
  have N25 := Fr.snoc X25 N24 g_a0
  refine Ends.via st25 ?_
  show Ends p e below s ROOM1.cells ROOM1.slots (Q1 Z a0 p1 p2 p3 p4  u_left u_top u_right u_bottom h0 n0) (T25.setTop (mkF m 25 #[.val (.ref a0), .val (.int p1), .val (.int p2), .val (.int p3), .val (.int p4)] []))
  refine Ends.ret X25 (v := none) (fun _ => rfl) Bd.notSynchronized (fun fs hr => X25.returnOut hx Bd.returns (hb hby d1_25) hr) ?_ (by decide) (by decide)
  rw [e25]
  exact ⟨rfl, N25, K25, f25_0, f25_1, f25_2, f25_3, f25_4⟩
theorem d3_0 : decode prog_34_method_19_code 0 = .ok (.aload_n 0, 1) := by decide +kernel
theorem d3_1 : decode prog_34_method_19_code 1 = .ok (.getfield 7, 3) := by decide +kernel
theorem d3_4 : decode prog_34_method_19_code 4 = .ok (.istore_n 1, 1) := by decide +kernel
theorem d3_5 : decode prog_34_method_19_code 5 = .ok (.bipush 31, 2) := by decide +kernel
theorem d3_7 : decode prog_34_method_19_code 7 = .ok (.iload_n 1, 1) := by decide +kernel
theorem d3_8 : decode prog_34_method_19_code 8 = .ok (.imul, 1) := by decide +kernel
theorem d3_9 : decode prog_34_method_19_code 9 = .ok (.aload_n 0, 1) := by decide +kernel
theorem d3_10 : decode prog_34_method_19_code 10 = .ok (.getfield 13, 3) := by decide +kernel
theorem d3_13 : decode prog_34_method_19_code 13 = .ok (.iadd, 1) := by decide +kernel
theorem d3_14 : decode prog_34_method_19_code 14 = .ok (.istore_n 1, 1) := by decide +kernel
theorem d3_15 : decode prog_34_method_19_code 15 = .ok (.bipush 31, 2) := by decide +kernel
theorem d3_17 : decode prog_34_method_19_code 17 = .ok (.iload_n 1, 1) := by decide +kernel
theorem d3_18 : decode prog_34_method_19_code 18 = .ok (.imul, 1) := by decide +kernel
theorem d3_19 : decode prog_34_method_19_code 19 = .ok (.aload_n 0, 1) := by decide +kernel
theorem d3_20 : decode prog_34_method_19_code 20 = .ok (.getfield 16, 3) := by decide +kernel
theorem d3_23 : decode prog_34_method_19_code 23 = .ok (.iadd, 1) := by decide +kernel
theorem d3_24 : decode prog_34_method_19_code 24 = .ok (.istore_n 1, 1) := by decide +kernel
theorem d3_25 : decode prog_34_method_19_code 25 = .ok (.bipush 31, 2) := by decide +kernel
theorem d3_27 : decode prog_34_method_19_code 27 = .ok (.iload_n 1, 1) := by decide +kernel
theorem d3_28 : decode prog_34_method_19_code 28 = .ok (.imul, 1) := by decide +kernel
theorem d3_29 : decode prog_34_method_19_code 29 = .ok (.aload_n 0, 1) := by decide +kernel
theorem d3_30 : decode prog_34_method_19_code 30 = .ok (.getfield 19, 3) := by decide +kernel
theorem d3_33 : decode prog_34_method_19_code 33 = .ok (.iadd, 1) := by decide +kernel
theorem d3_34 : decode prog_34_method_19_code 34 = .ok (.ireturn, 1) := by decide +kernel
theorem pn_3 : plainName "com/example/okno/okno/Rect" = true := by first | (simp [plainName, overriddenIn]; done) | decide +kernel
theorem ef_3 (m : MethodId) (a0 : Addr) : entryFrame m #[(.ref a0)] 2 = mkF m 0 #[.val (.ref a0), .unset] [] := by first | (simp [entryFrame, mkF, argsToLocals, Value.category]; done) | rfl
def fn3 (w_left : Int32) (w_top : Int32) (w_right : Int32) (w_bottom : Int32) : Int32 := (let v33 : Int32 := (((31 : Int32) * w_left) + w_top); (let v35 : Int32 := (((31 : Int32) * v33) + w_right); (((31 : Int32) * v35) + w_bottom)))
abbrev ROOM3 : Room := { frames := 0, cells := 0, slots := 0, locals := 0 }
def Q3 (Z : State) (a0 : Addr)  (w_left : Int32) (w_top : Int32) (w_right : Int32) (w_bottom : Int32) (h0 : Heap) (n0 : Nat) (v : Option Value) (h : Heap) (L : List Loc) : Prop := v = some (.int (fn3 w_left w_top w_right w_bottom)) ∧ Fr n0 L ∧ h = h0
set_option maxRecDepth 65536 in
set_option maxHeartbeats 40000000 in
theorem rm3 (l : Launch) (Z : State) (a0 : Array Value) (hw : ∀ d ∈ tables_1, d.before a0 Z = true) (ws : List Jvm.Cond) (a0 : Addr)  (w_left : Int32) (w_top : Int32) (w_right : Int32) (w_bottom : Int32) (h0 : Heap) (n0 : Nat) (Z0 : n0 ≤ h0.size)  (F_left : Fld Z h0 a0 "com/example/okno/okno/Rect" "left" "I" (.int w_left)) (F_top : Fld Z h0 a0 "com/example/okno/okno/Rect" "top" "I" (.int w_top)) (F_right : Fld Z h0 a0 "com/example/okno/okno/Rect" "right" "I" (.int w_right)) (F_bottom : Fld Z h0 a0 "com/example/okno/okno/Rect" "bottom" "I" (.int w_bottom)) :
    MetFree l (⟨"com/example/okno/okno/Rect", "hashCode", "()I"⟩ : MethodName) (head1 (Jvm.Cond.code (⟨"com/example/okno/okno/Rect", "hashCode", "()I"⟩ : MethodName) prog_34_method_19_code 2 (some .int) :: ws) ROOM3) (fun a U => a = #[(.ref a0)] ∧ Z.Warmed39 U.vm ∧ U.heap = h0) (fun _ _ _ _ _ => True) (fun _ U o U' => ∃ v L, o = .returned v ∧ Q3 Z a0  w_left w_top w_right w_bottom h0 n0 v U'.heap L ∧ FrameEnd U o U' L ROOM3.cells ROOM3.slots) := by
  refine MetFree.of_bodySF (plainFor_of_name pn_3) hisR ?_
  intro p e s m args below meth c s₁ Bd hml0 hP hK
  obtain ⟨rfl, hZ, hh⟩ := hP
  have hx := Bd.exec
  have hby := Bd.bytes
  have hml : c.maxLocals = 2 := hml0
  have hown : s.vm.findClass "com/example/okno/okno/Rect" = some m.cls := findClass_of_methodNamed Bd.named
  have hnm := (name_of_methodNamed Bd.named Bd.method).1
  have X0 : Stand p l e ROOM3 s m #[(.ref a0)] below meth c s₁ [] 0 0 := Stand.of_body Bd
  have e0 : s₁.heap = h0 := by rw [← hh, Bd.state]; rfl
  have N0 := Fr.nil n0
  refine Ends.via (A := s₁.setTop (mkF m 0 #[.val (.ref a0), .unset] [])) (kc := ROOM3.cells) (ks := ROOM3.slots) (Q := (Q3 Z a0  w_left w_top w_right w_bottom h0 n0)) (fun t k => castTop (ef_3 m a0) k) ?_
  show Ends p e below s ROOM3.cells ROOM3.slots (Q3 Z a0  w_left w_top w_right w_bottom h0 n0) (s₁.setTop (mkF m 0 #[.val (.ref a0), .unset] []))
  refine Ends.via (fun _ k => XS.aloadN X0.here hx rfl (hb hby d3_0) rfl rfl k) ?_
  show Ends p e below s ROOM3.cells ROOM3.slots (Q3 Z a0  w_left w_top w_right w_bottom h0 n0) (s₁.setTop (mkF m 1 #[.val (.ref a0), .unset] [(.ref a0)]))
  obtain ⟨T31, X31, e31, st31⟩ := getF X0 hx hZ hown (host := "") (Or.inl (hw _ (List.mem_of_getElem? (i := 9) rfl))) Via.refl e0 F_left (g := (mkF m 1 #[.val (.ref a0), .unset] [(.ref a0)])) rfl rfl (hb hby d3_1)
  refine Ends.via st31 ?_
  show Ends p e below s ROOM3.cells ROOM3.slots (Q3 Z a0  w_left w_top w_right w_bottom h0 n0) (T31.setTop (mkF m 4 #[.val (.ref a0), .unset] [(.int w_left)]))
  refine Ends.via (fun _ k => XS.istoreN X31.here hx rfl (hb hby d3_4) rfl (l' := #[.val (.ref a0), .val (.int w_left)]) rfl k) ?_
  show Ends p e below s ROOM3.cells ROOM3.slots (Q3 Z a0  w_left w_top w_right w_bottom h0 n0) (T31.setTop (mkF m 5 #[.val (.ref a0), .val (.int w_left)] []))
  refine Ends.via (fun _ k => XS.bipush X31.here hx rfl (hb hby d3_5) k) ?_
  show Ends p e below s ROOM3.cells ROOM3.slots (Q3 Z a0  w_left w_top w_right w_bottom h0 n0) (T31.setTop (mkF m 7 #[.val (.ref a0), .val (.int w_left)] [(.int (31 : Int32))]))
  refine Ends.via (fun _ k => XS.iloadN X31.here hx rfl (hb hby d3_7) rfl k) ?_
  show Ends p e below s ROOM3.cells ROOM3.slots (Q3 Z a0  w_left w_top w_right w_bottom h0 n0) (T31.setTop (mkF m 8 #[.val (.ref a0), .val (.int w_left)] [(.int w_left), (.int (31 : Int32))]))
  refine Ends.via (fun _ k => XS.imul X31.here hx rfl (hb hby d3_8) rfl k) ?_
  show Ends p e below s ROOM3.cells ROOM3.slots (Q3 Z a0  w_left w_top w_right w_bottom h0 n0) (T31.setTop (mkF m 9 #[.val (.ref a0), .val (.int w_left)] [(.int ((31 : Int32) * w_left))]))
  refine Ends.via (fun _ k => XS.aloadN X31.here hx rfl (hb hby d3_9) rfl rfl k) ?_
  show Ends p e below s ROOM3.cells ROOM3.slots (Q3 Z a0  w_left w_top w_right w_bottom h0 n0) (T31.setTop (mkF m 10 #[.val (.ref a0), .val (.int w_left)] [(.ref a0), (.int ((31 : Int32) * w_left))]))
  obtain ⟨T32, X32, e32, st32⟩ := getF X31 hx hZ hown (host := "") (Or.inl (hw _ (List.mem_of_getElem? (i := 11) rfl))) Via.refl e31 F_top (g := (mkF m 10 #[.val (.ref a0), .val (.int w_left)] [(.ref a0), (.int ((31 : Int32) * w_left))])) rfl rfl (hb hby d3_10)
  refine Ends.via st32 ?_
  show Ends p e below s ROOM3.cells ROOM3.slots (Q3 Z a0  w_left w_top w_right w_bottom h0 n0) (T32.setTop (mkF m 13 #[.val (.ref a0), .val (.int w_left)] [(.int w_top), (.int ((31 : Int32) * w_left))]))
  refine Ends.via (fun _ k => XS.iadd X32.here hx rfl (hb hby d3_13) rfl k) ?_
  show Ends p e below s ROOM3.cells ROOM3.slots (Q3 Z a0  w_left w_top w_right w_bottom h0 n0) (T32.setTop (mkF m 14 #[.val (.ref a0), .val (.int w_left)] [(.int (((31 : Int32) * w_left) + w_top))]))
  refine Ends.via (fun _ k => XS.istoreN X32.here hx rfl (hb hby d3_14) rfl (l' := #[.val (.ref a0), .val (.int (((31 : Int32) * w_left) + w_top))]) rfl k) ?_
  show Ends p e below s ROOM3.cells ROOM3.slots (Q3 Z a0  w_left w_top w_right w_bottom h0 n0) (T32.setTop (mkF m 15 #[.val (.ref a0), .val (.int (((31 : Int32) * w_left) + w_top))] []))
  generalize hv33 : (((31 : Int32) * w_left) + w_top) = v33
  refine Ends.via (fun _ k => XS.bipush X32.here hx rfl (hb hby d3_15) k) ?_
  show Ends p e below s ROOM3.cells ROOM3.slots (Q3 Z a0  w_left w_top w_right w_bottom h0 n0) (T32.setTop (mkF m 17 #[.val (.ref a0), .val (.int v33)] [(.int (31 : Int32))]))
  refine Ends.via (fun _ k => XS.iloadN X32.here hx rfl (hb hby d3_17) rfl k) ?_
  show Ends p e below s ROOM3.cells ROOM3.slots (Q3 Z a0  w_left w_top w_right w_bottom h0 n0) (T32.setTop (mkF m 18 #[.val (.ref a0), .val (.int v33)] [(.int v33), (.int (31 : Int32))]))
  refine Ends.via (fun _ k => XS.imul X32.here hx rfl (hb hby d3_18) rfl k) ?_
  show Ends p e below s ROOM3.cells ROOM3.slots (Q3 Z a0  w_left w_top w_right w_bottom h0 n0) (T32.setTop (mkF m 19 #[.val (.ref a0), .val (.int v33)] [(.int ((31 : Int32) * v33))]))
  refine Ends.via (fun _ k => XS.aloadN X32.here hx rfl (hb hby d3_19) rfl rfl k) ?_
  show Ends p e below s ROOM3.cells ROOM3.slots (Q3 Z a0  w_left w_top w_right w_bottom h0 n0) (T32.setTop (mkF m 20 #[.val (.ref a0), .val (.int v33)] [(.ref a0), (.int ((31 : Int32) * v33))]))
  obtain ⟨T34, X34, e34, st34⟩ := getF X32 hx hZ hown (host := "") (Or.inl (hw _ (List.mem_of_getElem? (i := 13) rfl))) Via.refl e32 F_right (g := (mkF m 20 #[.val (.ref a0), .val (.int v33)] [(.ref a0), (.int ((31 : Int32) * v33))])) rfl rfl (hb hby d3_20)
  refine Ends.via st34 ?_
  show Ends p e below s ROOM3.cells ROOM3.slots (Q3 Z a0  w_left w_top w_right w_bottom h0 n0) (T34.setTop (mkF m 23 #[.val (.ref a0), .val (.int v33)] [(.int w_right), (.int ((31 : Int32) * v33))]))
  refine Ends.via (fun _ k => XS.iadd X34.here hx rfl (hb hby d3_23) rfl k) ?_
  show Ends p e below s ROOM3.cells ROOM3.slots (Q3 Z a0  w_left w_top w_right w_bottom h0 n0) (T34.setTop (mkF m 24 #[.val (.ref a0), .val (.int v33)] [(.int (((31 : Int32) * v33) + w_right))]))
  refine Ends.via (fun _ k => XS.istoreN X34.here hx rfl (hb hby d3_24) rfl (l' := #[.val (.ref a0), .val (.int (((31 : Int32) * v33) + w_right))]) rfl k) ?_
  show Ends p e below s ROOM3.cells ROOM3.slots (Q3 Z a0  w_left w_top w_right w_bottom h0 n0) (T34.setTop (mkF m 25 #[.val (.ref a0), .val (.int (((31 : Int32) * v33) + w_right))] []))
  generalize hv35 : (((31 : Int32) * v33) + w_right) = v35
  refine Ends.via (fun _ k => XS.bipush X34.here hx rfl (hb hby d3_25) k) ?_
  show Ends p e below s ROOM3.cells ROOM3.slots (Q3 Z a0  w_left w_top w_right w_bottom h0 n0) (T34.setTop (mkF m 27 #[.val (.ref a0), .val (.int v35)] [(.int (31 : Int32))]))
  refine Ends.via (fun _ k => XS.iloadN X34.here hx rfl (hb hby d3_27) rfl k) ?_
  show Ends p e below s ROOM3.cells ROOM3.slots (Q3 Z a0  w_left w_top w_right w_bottom h0 n0) (T34.setTop (mkF m 28 #[.val (.ref a0), .val (.int v35)] [(.int v35), (.int (31 : Int32))]))
  refine Ends.via (fun _ k => XS.imul X34.here hx rfl (hb hby d3_28) rfl k) ?_
  show Ends p e below s ROOM3.cells ROOM3.slots (Q3 Z a0  w_left w_top w_right w_bottom h0 n0) (T34.setTop (mkF m 29 #[.val (.ref a0), .val (.int v35)] [(.int ((31 : Int32) * v35))]))
  refine Ends.via (fun _ k => XS.aloadN X34.here hx rfl (hb hby d3_29) rfl rfl k) ?_
  show Ends p e below s ROOM3.cells ROOM3.slots (Q3 Z a0  w_left w_top w_right w_bottom h0 n0) (T34.setTop (mkF m 30 #[.val (.ref a0), .val (.int v35)] [(.ref a0), (.int ((31 : Int32) * v35))]))
  obtain ⟨T36, X36, e36, st36⟩ := getF X34 hx hZ hown (host := "") (Or.inl (hw _ (List.mem_of_getElem? (i := 15) rfl))) Via.refl e34 F_bottom (g := (mkF m 30 #[.val (.ref a0), .val (.int v35)] [(.ref a0), (.int ((31 : Int32) * v35))])) rfl rfl (hb hby d3_30)
  refine Ends.via st36 ?_
  show Ends p e below s ROOM3.cells ROOM3.slots (Q3 Z a0  w_left w_top w_right w_bottom h0 n0) (T36.setTop (mkF m 33 #[.val (.ref a0), .val (.int v35)] [(.int w_bottom), (.int ((31 : Int32) * v35))]))
  refine Ends.via (fun _ k => XS.iadd X36.here hx rfl (hb hby d3_33) rfl k) ?_
  show Ends p e below s ROOM3.cells ROOM3.slots (Q3 Z a0  w_left w_top w_right w_bottom h0 n0) (T36.setTop (mkF m 34 #[.val (.ref a0), .val (.int v35)] [(.int (((31 : Int32) * v35) + w_bottom))]))
  refine Ends.ret X36 (v := some (.int (((31 : Int32) * v35) + w_bottom))) (fun h => by rw [Bd.returns] at h; cases h) Bd.notSynchronized (fun fs hr => retI X36 hx Bd.returns (hb hby d3_34) hr) ?_ (by decide) (by decide)
  have hfn : fn3 w_left w_top w_right w_bottom = (((31 : Int32) * v35) + w_bottom) := by subst hv35; subst hv33; simp only [fn3]
  exact ⟨by rw [hfn], N0, e36⟩
theorem own_31 {x y : Int32} (h : (31 : Int32) * x = 31 * y) : x = y := by
  have e : ((3186588639 : Int32) * 31) = 1 := by decide
  have h2 := congrArg (fun z => (3186588639 : Int32) * z) h
  simp only [← Int32.mul_assoc, e, Int32.one_mul] at h2
  exact h2
theorem own_cr {x y z : Int32} (h : x + z = y + z) : x = y := by
  have h2 := congrArg (fun w => w - z) h
  simpa using h2
theorem own_cl {x y z : Int32} (h : z + x = z + y) : x = y := own_cr (z := z) (by rw [Int32.add_comm x, Int32.add_comm y]; exact h)
theorem own_w (v1 p4 : Int32) (hv1 : (p4 &&& (3 : Int32)) = v1) : v1 = 0 ∨ v1 = 1 ∨ v1 = 2 ∨ v1 = 3 := by
  have h := c_mask p4 3 2 (by decide) (by decide)
  rw [hv1] at h
  have e0 : (0 : Int32).toInt = 0 := rfl
  have e1 : (1 : Int32).toInt = 1 := rfl
  have e2 : (2 : Int32).toInt = 2 := rfl
  have e3 : (3 : Int32).toInt = 3 := rfl
  simp only [← Int32.toInt_inj, e0, e1, e2, e3]; omega
theorem own_leaf1 (p0 : Int32) (p1 : Int32) (p2 : Int32) (p3 : Int32) (p4 : Int32) (p5 : Int32) (v1 : Int32) (v3 : Int32) (v6 : Int32) (v9 : Int32) (v12 : Int32) (v17 : Int32) (v37 : Int32) (v39 : Int32) (v41 : Int32) (v43 : Int32) (v46 : Int32) (v49 : Int32) (v52 : Int32) (v55 : Int32) (hv1 : (p4 &&& (3 : Int32)) = v1) (hv3 : (if v1 = (0 : Int32) then p5 else p0) = v3) (hv6 : (if v1 = (1 : Int32) then p5 else p1) = v6) (hv9 : (if v1 = (2 : Int32) then p5 else p2) = v9) (hv12 : (if v1 = (3 : Int32) then p5 else p3) = v12) (hv17 : (if v1 = (0 : Int32) then p0 else (if v1 = (1 : Int32) then p1 else (if v1 = (2 : Int32) then p2 else p3))) = v17) (hv37 : (fn3 p0 p1 p2 p3) = v37) (hv39 : (fn3 p0 p1 p2 p3) = v39) (hv41 : (fn3 p0 p1 p2 p3) = v41) (hv43 : (fn3 v3 v6 v9 v12) = v43) (hv46 : (if v37 = v39 then (if v37 = v41 then (1 : Int32) else (0 : Int32)) else (0 : Int32)) = v46) (hv49 : (if v37 = v43 then (1 : Int32) else (0 : Int32)) = v49) (hv52 : (if v17 = p5 then (1 : Int32) else (0 : Int32)) = v52) (hv55 : (if v49 = v52 then (1 : Int32) else (0 : Int32)) = v55) (hc57 : v46 = (0 : Int32)) : False := by
    rw [if_pos (hv37.symm.trans hv39), if_pos (hv37.symm.trans hv41)] at hv46
    subst hv46; exact absurd hc57 (by decide)
theorem own_leaf2 (p0 : Int32) (p1 : Int32) (p2 : Int32) (p3 : Int32) (p4 : Int32) (p5 : Int32) (v1 : Int32) (v3 : Int32) (v6 : Int32) (v9 : Int32) (v12 : Int32) (v17 : Int32) (v37 : Int32) (v39 : Int32) (v41 : Int32) (v43 : Int32) (v46 : Int32) (v49 : Int32) (v52 : Int32) (v55 : Int32) (hv1 : (p4 &&& (3 : Int32)) = v1) (hv3 : (if v1 = (0 : Int32) then p5 else p0) = v3) (hv6 : (if v1 = (1 : Int32) then p5 else p1) = v6) (hv9 : (if v1 = (2 : Int32) then p5 else p2) = v9) (hv12 : (if v1 = (3 : Int32) then p5 else p3) = v12) (hv17 : (if v1 = (0 : Int32) then p0 else (if v1 = (1 : Int32) then p1 else (if v1 = (2 : Int32) then p2 else p3))) = v17) (hv37 : (fn3 p0 p1 p2 p3) = v37) (hv39 : (fn3 p0 p1 p2 p3) = v39) (hv41 : (fn3 p0 p1 p2 p3) = v41) (hv43 : (fn3 v3 v6 v9 v12) = v43) (hv46 : (if v37 = v39 then (if v37 = v41 then (1 : Int32) else (0 : Int32)) else (0 : Int32)) = v46) (hv49 : (if v37 = v43 then (1 : Int32) else (0 : Int32)) = v49) (hv52 : (if v17 = p5 then (1 : Int32) else (0 : Int32)) = v52) (hv55 : (if v49 = v52 then (1 : Int32) else (0 : Int32)) = v55) (hc57 : ¬ (v46 = (0 : Int32))) (hc58 : v55 = (0 : Int32)) : False := by
    have key : v37 = v43 ↔ v17 = p5 := by
      rcases own_w v1 p4 hv1 with rfl | rfl | rfl | rfl
      · obtain rfl : p5 = v3 := hv3
        obtain rfl : p1 = v6 := hv6
        obtain rfl : p2 = v9 := hv9
        obtain rfl : p3 = v12 := hv12
        obtain rfl : p0 = v17 := hv17
        rw [← hv37, ← hv43]
        exact ⟨fun h => own_31 (own_cr (own_31 (own_cr (own_31 (own_cr h))))), fun h => by rw [h]⟩
      · obtain rfl : p0 = v3 := hv3
        obtain rfl : p5 = v6 := hv6
        obtain rfl : p2 = v9 := hv9
        obtain rfl : p3 = v12 := hv12
        obtain rfl : p1 = v17 := hv17
        rw [← hv37, ← hv43]
        exact ⟨fun h => own_cl (own_31 (own_cr (own_31 (own_cr h)))), fun h => by rw [h]⟩
      · obtain rfl : p0 = v3 := hv3
        obtain rfl : p1 = v6 := hv6
        obtain rfl : p5 = v9 := hv9
        obtain rfl : p3 = v12 := hv12
        obtain rfl : p2 = v17 := hv17
        rw [← hv37, ← hv43]
        exact ⟨fun h => own_cl (own_31 (own_cr h)), fun h => by rw [h]⟩
      · obtain rfl : p0 = v3 := hv3
        obtain rfl : p1 = v6 := hv6
        obtain rfl : p2 = v9 := hv9
        obtain rfl : p5 = v12 := hv12
        obtain rfl : p3 = v17 := hv17
        rw [← hv37, ← hv43]
        exact ⟨fun h => own_cl h, fun h => by rw [h]⟩
    have e : v49 = v52 := by
      rw [← hv49, ← hv52]
      by_cases h : v37 = v43
      · rw [if_pos h, if_pos (key.mp h)]
      · rw [if_neg h, if_neg (fun q => h (key.mpr q))]
    rw [if_pos e] at hv55
    subst hv55; exact absurd hc58 (by decide)
theorem pn_0 : plainName "com/example/okno/okno/RectHashCodePinLaw" = true := by first | (simp [plainName, overriddenIn]; done) | decide +kernel
theorem ef_0 (m : MethodId) (p0 : Int32) (p1 : Int32) (p2 : Int32) (p3 : Int32) (p4 : Int32) (p5 : Int32) : entryFrame m #[(.int p0), (.int p1), (.int p2), (.int p3), (.int p4), (.int p5)] maxLocals = mkF m 0 #[.val (.int p0), .val (.int p1), .val (.int p2), .val (.int p3), .val (.int p4), .val (.int p5), .unset, .unset, .unset, .unset, .unset, .unset, .unset, .unset, .unset, .unset, .unset, .unset, .unset, .unset, .unset] [] := by first | (simp [entryFrame, mkF, argsToLocals, Value.category, maxLocals]; done) | rfl
def Q0 (Z : State) (p0 : Int32) (p1 : Int32) (p2 : Int32) (p3 : Int32) (p4 : Int32) (p5 : Int32)  (h0 : Heap) (n0 : Nat) (v : Option Value) (h : Heap) (L : List Loc) : Prop := v = some (.int 1) ∧ Fr n0 L
set_option maxRecDepth 65536 in
set_option maxHeartbeats 40000000 in
theorem rm0 (l : Launch) (Z : State) (a0 : Array Value) (hw : ∀ d ∈ tables_1, d.before a0 Z = true) (ws : List Jvm.Cond) (p0 : Int32) (p1 : Int32) (p2 : Int32) (p3 : Int32) (p4 : Int32) (p5 : Int32)  (h0 : Heap) (n0 : Nat) (Z0 : n0 ≤ h0.size)  :
    MetFree l x (head1 (Jvm.Cond.code x code maxLocals ret :: ws) room_1) (fun a U => a = #[(.int p0), (.int p1), (.int p2), (.int p3), (.int p4), (.int p5)] ∧ Z.Warmed39 U.vm ∧ U.heap = h0) (fun _ _ _ _ _ => True) (fun _ U o U' => ∃ v L, o = .returned v ∧ Q0 Z p0 p1 p2 p3 p4 p5  h0 n0 v U'.heap L ∧ FrameEnd U o U' L 16 128) := by
  refine MetFree.of_bodySF (plainFor_of_name pn_0) hisR ?_
  intro p e s m args below meth c s₁ Bd hml0 hP hK
  obtain ⟨rfl, hZ, hh⟩ := hP
  have hx := Bd.exec
  have hby := Bd.bytes
  have hml : c.maxLocals = 21 := hml0
  have hown : s.vm.findClass "com/example/okno/okno/RectHashCodePinLaw" = some m.cls := findClass_of_methodNamed Bd.named
  have hnm := (name_of_methodNamed Bd.named Bd.method).1
  have X0 : Stand p l e room_1 s m #[(.int p0), (.int p1), (.int p2), (.int p3), (.int p4), (.int p5)] below meth c s₁ [] 0 0 := Stand.of_body Bd
  have e0 : s₁.heap = h0 := by rw [← hh, Bd.state]; rfl
  have N0 := Fr.nil n0
  refine Ends.via (A := s₁.setTop (mkF m 0 #[.val (.int p0), .val (.int p1), .val (.int p2), .val (.int p3), .val (.int p4), .val (.int p5), .unset, .unset, .unset, .unset, .unset, .unset, .unset, .unset, .unset, .unset, .unset, .unset, .unset, .unset, .unset] [])) (kc := 16) (ks := 128) (Q := (Q0 Z p0 p1 p2 p3 p4 p5  h0 n0)) (fun t k => castTop (ef_0 m p0 p1 p2 p3 p4 p5) k) ?_
  show Ends p e below s 16 128 (Q0 Z p0 p1 p2 p3 p4 p5  h0 n0) (s₁.setTop (mkF m 0 #[.val (.int p0), .val (.int p1), .val (.int p2), .val (.int p3), .val (.int p4), .val (.int p5), .unset, .unset, .unset, .unset, .unset, .unset, .unset, .unset, .unset, .unset, .unset, .unset, .unset, .unset, .unset] []))
  refine Ends.via (fun _ k => XS.iload X0.here hx rfl (hb hby at_0) rfl k) ?_
  show Ends p e below s 16 128 (Q0 Z p0 p1 p2 p3 p4 p5  h0 n0) (s₁.setTop (mkF m 2 #[.val (.int p0), .val (.int p1), .val (.int p2), .val (.int p3), .val (.int p4), .val (.int p5), .unset, .unset, .unset, .unset, .unset, .unset, .unset, .unset, .unset, .unset, .unset, .unset, .unset, .unset, .unset] [(.int p4)]))
  refine Ends.via (fun _ k => XS.iconst X0.here hx rfl (hb hby at_2) k) ?_
  show Ends p e below s 16 128 (Q0 Z p0 p1 p2 p3 p4 p5  h0 n0) (s₁.setTop (mkF m 3 #[.val (.int p0), .val (.int p1), .val (.int p2), .val (.int p3), .val (.int p4), .val (.int p5), .unset, .unset, .unset, .unset, .unset, .unset, .unset, .unset, .unset, .unset, .unset, .unset, .unset, .unset, .unset] [(.int (3 : Int32)), (.int p4)]))
  refine Ends.via (fun _ k => XS.iand X0.here hx rfl (hb hby at_3) rfl k) ?_
  show Ends p e below s 16 128 (Q0 Z p0 p1 p2 p3 p4 p5  h0 n0) (s₁.setTop (mkF m 4 #[.val (.int p0), .val (.int p1), .val (.int p2), .val (.int p3), .val (.int p4), .val (.int p5), .unset, .unset, .unset, .unset, .unset, .unset, .unset, .unset, .unset, .unset, .unset, .unset, .unset, .unset, .unset] [(.int (p4 &&& (3 : Int32)))]))
  refine Ends.via (fun _ k => XS.istore X0.here hx rfl (hb hby at_4) rfl (l' := #[.val (.int p0), .val (.int p1), .val (.int p2), .val (.int p3), .val (.int p4), .val (.int p5), .val (.int (p4 &&& (3 : Int32))), .unset, .unset, .unset, .unset, .unset, .unset, .unset, .unset, .unset, .unset, .unset, .unset, .unset, .unset]) rfl k) ?_
  show Ends p e below s 16 128 (Q0 Z p0 p1 p2 p3 p4 p5  h0 n0) (s₁.setTop (mkF m 6 #[.val (.int p0), .val (.int p1), .val (.int p2), .val (.int p3), .val (.int p4), .val (.int p5), .val (.int (p4 &&& (3 : Int32))), .unset, .unset, .unset, .unset, .unset, .unset, .unset, .unset, .unset, .unset, .unset, .unset, .unset, .unset] []))
  generalize hv1 : (p4 &&& (3 : Int32)) = v1
  refine Ends.via (fun _ k => XS.iload X0.here hx rfl (hb hby at_6) rfl k) ?_
  show Ends p e below s 16 128 (Q0 Z p0 p1 p2 p3 p4 p5  h0 n0) (s₁.setTop (mkF m 8 #[.val (.int p0), .val (.int p1), .val (.int p2), .val (.int p3), .val (.int p4), .val (.int p5), .val (.int v1), .unset, .unset, .unset, .unset, .unset, .unset, .unset, .unset, .unset, .unset, .unset, .unset, .unset, .unset] [(.int v1)]))
  have J4 : ∀ (Tj4 : State) (Lj4 : List Loc) (Xj4 : Stand p l e room_1 s m #[(.int p0), (.int p1), (.int p2), (.int p3), (.int p4), (.int p5)] below meth c Tj4 Lj4 0 0) (ej4 : Tj4.heap = h0) (Nj4 : Fr n0 Lj4) (v3 : Int32), (if v1 = (0 : Int32) then p5 else p0) = v3 → Ends p e below s 16 128 (Q0 Z p0 p1 p2 p3 p4 p5  h0 n0) (Tj4.setTop (mkF m 17 #[.val (.int p0), .val (.int p1), .val (.int p2), .val (.int p3), .val (.int p4), .val (.int p5), .val (.int v1), .unset, .unset, .unset, .unset, .unset, .unset, .unset, .unset, .unset, .unset, .unset, .unset, .unset, .unset] [(.int v3)])) := by
    intro Tj4 Lj4 Xj4 ej4 Nj4 v3 hv3
    refine Ends.via (fun _ k => XS.istore Xj4.here hx rfl (hb hby at_17) rfl (l' := #[.val (.int p0), .val (.int p1), .val (.int p2), .val (.int p3), .val (.int p4), .val (.int p5), .val (.int v1), .val (.int v3), .unset, .unset, .unset, .unset, .unset, .unset, .unset, .unset, .unset, .unset, .unset, .unset, .unset]) rfl k) ?_
    show Ends p e below s 16 128 (Q0 Z p0 p1 p2 p3 p4 p5  h0 n0) (Tj4.setTop (mkF m 19 #[.val (.int p0), .val (.int p1), .val (.int p2), .val (.int p3), .val (.int p4), .val (.int p5), .val (.int v1), .val (.int v3), .unset, .unset, .unset, .unset, .unset, .unset, .unset, .unset, .unset, .unset, .unset, .unset, .unset] []))
    refine Ends.via (fun _ k => XS.iload Xj4.here hx rfl (hb hby at_19) rfl k) ?_
    show Ends p e below s 16 128 (Q0 Z p0 p1 p2 p3 p4 p5  h0 n0) (Tj4.setTop (mkF m 21 #[.val (.int p0), .val (.int p1), .val (.int p2), .val (.int p3), .val (.int p4), .val (.int p5), .val (.int v1), .val (.int v3), .unset, .unset, .unset, .unset, .unset, .unset, .unset, .unset, .unset, .unset, .unset, .unset, .unset] [(.int v1)]))
    refine Ends.via (fun _ k => XS.iconst Xj4.here hx rfl (hb hby at_21) k) ?_
    show Ends p e below s 16 128 (Q0 Z p0 p1 p2 p3 p4 p5  h0 n0) (Tj4.setTop (mkF m 22 #[.val (.int p0), .val (.int p1), .val (.int p2), .val (.int p3), .val (.int p4), .val (.int p5), .val (.int v1), .val (.int v3), .unset, .unset, .unset, .unset, .unset, .unset, .unset, .unset, .unset, .unset, .unset, .unset, .unset] [(.int (1 : Int32)), (.int v1)]))
    have J7 : ∀ (Tj7 : State) (Lj7 : List Loc) (Xj7 : Stand p l e room_1 s m #[(.int p0), (.int p1), (.int p2), (.int p3), (.int p4), (.int p5)] below meth c Tj7 Lj7 0 0) (ej7 : Tj7.heap = h0) (Nj7 : Fr n0 Lj7) (v6 : Int32), (if v1 = (1 : Int32) then p5 else p1) = v6 → Ends p e below s 16 128 (Q0 Z p0 p1 p2 p3 p4 p5  h0 n0) (Tj7.setTop (mkF m 31 #[.val (.int p0), .val (.int p1), .val (.int p2), .val (.int p3), .val (.int p4), .val (.int p5), .val (.int v1), .val (.int v3), .unset, .unset, .unset, .unset, .unset, .unset, .unset, .unset, .unset, .unset, .unset, .unset, .unset] [(.int v6)])) := by
      intro Tj7 Lj7 Xj7 ej7 Nj7 v6 hv6
      refine Ends.via (fun _ k => XS.istore Xj7.here hx rfl (hb hby at_31) rfl (l' := #[.val (.int p0), .val (.int p1), .val (.int p2), .val (.int p3), .val (.int p4), .val (.int p5), .val (.int v1), .val (.int v3), .val (.int v6), .unset, .unset, .unset, .unset, .unset, .unset, .unset, .unset, .unset, .unset, .unset, .unset]) rfl k) ?_
      show Ends p e below s 16 128 (Q0 Z p0 p1 p2 p3 p4 p5  h0 n0) (Tj7.setTop (mkF m 33 #[.val (.int p0), .val (.int p1), .val (.int p2), .val (.int p3), .val (.int p4), .val (.int p5), .val (.int v1), .val (.int v3), .val (.int v6), .unset, .unset, .unset, .unset, .unset, .unset, .unset, .unset, .unset, .unset, .unset, .unset] []))
      refine Ends.via (fun _ k => XS.iload Xj7.here hx rfl (hb hby at_33) rfl k) ?_
      show Ends p e below s 16 128 (Q0 Z p0 p1 p2 p3 p4 p5  h0 n0) (Tj7.setTop (mkF m 35 #[.val (.int p0), .val (.int p1), .val (.int p2), .val (.int p3), .val (.int p4), .val (.int p5), .val (.int v1), .val (.int v3), .val (.int v6), .unset, .unset, .unset, .unset, .unset, .unset, .unset, .unset, .unset, .unset, .unset, .unset] [(.int v1)]))
      refine Ends.via (fun _ k => XS.iconst Xj7.here hx rfl (hb hby at_35) k) ?_
      show Ends p e below s 16 128 (Q0 Z p0 p1 p2 p3 p4 p5  h0 n0) (Tj7.setTop (mkF m 36 #[.val (.int p0), .val (.int p1), .val (.int p2), .val (.int p3), .val (.int p4), .val (.int p5), .val (.int v1), .val (.int v3), .val (.int v6), .unset, .unset, .unset, .unset, .unset, .unset, .unset, .unset, .unset, .unset, .unset, .unset] [(.int (2 : Int32)), (.int v1)]))
      have J10 : ∀ (Tj10 : State) (Lj10 : List Loc) (Xj10 : Stand p l e room_1 s m #[(.int p0), (.int p1), (.int p2), (.int p3), (.int p4), (.int p5)] below meth c Tj10 Lj10 0 0) (ej10 : Tj10.heap = h0) (Nj10 : Fr n0 Lj10) (v9 : Int32), (if v1 = (2 : Int32) then p5 else p2) = v9 → Ends p e below s 16 128 (Q0 Z p0 p1 p2 p3 p4 p5  h0 n0) (Tj10.setTop (mkF m 45 #[.val (.int p0), .val (.int p1), .val (.int p2), .val (.int p3), .val (.int p4), .val (.int p5), .val (.int v1), .val (.int v3), .val (.int v6), .unset, .unset, .unset, .unset, .unset, .unset, .unset, .unset, .unset, .unset, .unset, .unset] [(.int v9)])) := by
        intro Tj10 Lj10 Xj10 ej10 Nj10 v9 hv9
        refine Ends.via (fun _ k => XS.istore Xj10.here hx rfl (hb hby at_45) rfl (l' := #[.val (.int p0), .val (.int p1), .val (.int p2), .val (.int p3), .val (.int p4), .val (.int p5), .val (.int v1), .val (.int v3), .val (.int v6), .val (.int v9), .unset, .unset, .unset, .unset, .unset, .unset, .unset, .unset, .unset, .unset, .unset]) rfl k) ?_
        show Ends p e below s 16 128 (Q0 Z p0 p1 p2 p3 p4 p5  h0 n0) (Tj10.setTop (mkF m 47 #[.val (.int p0), .val (.int p1), .val (.int p2), .val (.int p3), .val (.int p4), .val (.int p5), .val (.int v1), .val (.int v3), .val (.int v6), .val (.int v9), .unset, .unset, .unset, .unset, .unset, .unset, .unset, .unset, .unset, .unset, .unset] []))
        refine Ends.via (fun _ k => XS.iload Xj10.here hx rfl (hb hby at_47) rfl k) ?_
        show Ends p e below s 16 128 (Q0 Z p0 p1 p2 p3 p4 p5  h0 n0) (Tj10.setTop (mkF m 49 #[.val (.int p0), .val (.int p1), .val (.int p2), .val (.int p3), .val (.int p4), .val (.int p5), .val (.int v1), .val (.int v3), .val (.int v6), .val (.int v9), .unset, .unset, .unset, .unset, .unset, .unset, .unset, .unset, .unset, .unset, .unset] [(.int v1)]))
        refine Ends.via (fun _ k => XS.iconst Xj10.here hx rfl (hb hby at_49) k) ?_
        show Ends p e below s 16 128 (Q0 Z p0 p1 p2 p3 p4 p5  h0 n0) (Tj10.setTop (mkF m 50 #[.val (.int p0), .val (.int p1), .val (.int p2), .val (.int p3), .val (.int p4), .val (.int p5), .val (.int v1), .val (.int v3), .val (.int v6), .val (.int v9), .unset, .unset, .unset, .unset, .unset, .unset, .unset, .unset, .unset, .unset, .unset] [(.int (3 : Int32)), (.int v1)]))
        have J13 : ∀ (Tj13 : State) (Lj13 : List Loc) (Xj13 : Stand p l e room_1 s m #[(.int p0), (.int p1), (.int p2), (.int p3), (.int p4), (.int p5)] below meth c Tj13 Lj13 0 0) (ej13 : Tj13.heap = h0) (Nj13 : Fr n0 Lj13) (v12 : Int32), (if v1 = (3 : Int32) then p5 else p3) = v12 → Ends p e below s 16 128 (Q0 Z p0 p1 p2 p3 p4 p5  h0 n0) (Tj13.setTop (mkF m 59 #[.val (.int p0), .val (.int p1), .val (.int p2), .val (.int p3), .val (.int p4), .val (.int p5), .val (.int v1), .val (.int v3), .val (.int v6), .val (.int v9), .unset, .unset, .unset, .unset, .unset, .unset, .unset, .unset, .unset, .unset, .unset] [(.int v12)])) := by
          intro Tj13 Lj13 Xj13 ej13 Nj13 v12 hv12
          refine Ends.via (fun _ k => XS.istore Xj13.here hx rfl (hb hby at_59) rfl (l' := #[.val (.int p0), .val (.int p1), .val (.int p2), .val (.int p3), .val (.int p4), .val (.int p5), .val (.int v1), .val (.int v3), .val (.int v6), .val (.int v9), .val (.int v12), .unset, .unset, .unset, .unset, .unset, .unset, .unset, .unset, .unset, .unset]) rfl k) ?_
          show Ends p e below s 16 128 (Q0 Z p0 p1 p2 p3 p4 p5  h0 n0) (Tj13.setTop (mkF m 61 #[.val (.int p0), .val (.int p1), .val (.int p2), .val (.int p3), .val (.int p4), .val (.int p5), .val (.int v1), .val (.int v3), .val (.int v6), .val (.int v9), .val (.int v12), .unset, .unset, .unset, .unset, .unset, .unset, .unset, .unset, .unset, .unset] []))
          refine Ends.via (fun _ k => XS.iload Xj13.here hx rfl (hb hby at_61) rfl k) ?_
          show Ends p e below s 16 128 (Q0 Z p0 p1 p2 p3 p4 p5  h0 n0) (Tj13.setTop (mkF m 63 #[.val (.int p0), .val (.int p1), .val (.int p2), .val (.int p3), .val (.int p4), .val (.int p5), .val (.int v1), .val (.int v3), .val (.int v6), .val (.int v9), .val (.int v12), .unset, .unset, .unset, .unset, .unset, .unset, .unset, .unset, .unset, .unset] [(.int v1)]))
          have J18 : ∀ (Tj18 : State) (Lj18 : List Loc) (Xj18 : Stand p l e room_1 s m #[(.int p0), (.int p1), (.int p2), (.int p3), (.int p4), (.int p5)] below meth c Tj18 Lj18 0 0) (ej18 : Tj18.heap = h0) (Nj18 : Fr n0 Lj18) (v17 : Int32), (if v1 = (0 : Int32) then p0 else (if v1 = (1 : Int32) then p1 else (if v1 = (2 : Int32) then p2 else p3))) = v17 → Ends p e below s 16 128 (Q0 Z p0 p1 p2 p3 p4 p5  h0 n0) (Tj18.setTop (mkF m 91 #[.val (.int p0), .val (.int p1), .val (.int p2), .val (.int p3), .val (.int p4), .val (.int p5), .val (.int v1), .val (.int v3), .val (.int v6), .val (.int v9), .val (.int v12), .unset, .unset, .unset, .unset, .unset, .unset, .unset, .unset, .unset, .unset] [(.int v17)])) := by
            intro Tj18 Lj18 Xj18 ej18 Nj18 v17 hv17
            refine Ends.via (fun _ k => XS.istore Xj18.here hx rfl (hb hby at_91) rfl (l' := #[.val (.int p0), .val (.int p1), .val (.int p2), .val (.int p3), .val (.int p4), .val (.int p5), .val (.int v1), .val (.int v3), .val (.int v6), .val (.int v9), .val (.int v12), .val (.int v17), .unset, .unset, .unset, .unset, .unset, .unset, .unset, .unset, .unset]) rfl k) ?_
            show Ends p e below s 16 128 (Q0 Z p0 p1 p2 p3 p4 p5  h0 n0) (Tj18.setTop (mkF m 93 #[.val (.int p0), .val (.int p1), .val (.int p2), .val (.int p3), .val (.int p4), .val (.int p5), .val (.int v1), .val (.int v3), .val (.int v6), .val (.int v9), .val (.int v12), .val (.int v17), .unset, .unset, .unset, .unset, .unset, .unset, .unset, .unset, .unset] []))
            obtain ⟨T19, h19, X19, e19, E19, A19, D19, -, st19⟩ := newO Xj18 hx hZ hown (hw _ (List.mem_of_getElem? (i := 0) rfl)) (hw _ (List.mem_of_getElem? (i := 1) rfl)) (hw _ (List.mem_of_getElem? (i := 2) rfl)) ej18 (g := (mkF m 93 #[.val (.int p0), .val (.int p1), .val (.int p2), .val (.int p3), .val (.int p4), .val (.int p5), .val (.int v1), .val (.int v3), .val (.int v6), .val (.int v9), .val (.int v12), .val (.int v17), .unset, .unset, .unset, .unset, .unset, .unset, .unset, .unset, .unset] [])) rfl (hb hby at_93) (by decide) (by decide)
            obtain ⟨b19, g19⟩ : ∃ z, z = h0.size := ⟨_, rfl⟩
            rw [← g19] at A19 D19 st19
            have g_b19 : n0 ≤ b19 := Nat.le_trans Z0 (Nat.le_of_eq g19.symm)
            have Z19 : n0 ≤ h19.size := Nat.le_trans Z0 E19.1
            have F19_left : Fld Z h19 b19 "com/example/okno/okno/Rect" "left" "I" (.int (0 : Int32)) := D19 (Or.inr (hw _ (List.mem_of_getElem? (i := 10) rfl))) (ty := .int) (by decide)
            have F19_top : Fld Z h19 b19 "com/example/okno/okno/Rect" "top" "I" (.int (0 : Int32)) := D19 (Or.inr (hw _ (List.mem_of_getElem? (i := 12) rfl))) (ty := .int) (by decide)
            have F19_right : Fld Z h19 b19 "com/example/okno/okno/Rect" "right" "I" (.int (0 : Int32)) := D19 (Or.inr (hw _ (List.mem_of_getElem? (i := 14) rfl))) (ty := .int) (by decide)
            have F19_bottom : Fld Z h19 b19 "com/example/okno/okno/Rect" "bottom" "I" (.int (0 : Int32)) := D19 (Or.inr (hw _ (List.mem_of_getElem? (i := 16) rfl))) (ty := .int) (by decide)
            refine Ends.via st19 ?_
            show Ends p e below s 16 128 (Q0 Z p0 p1 p2 p3 p4 p5  h0 n0) (T19.setTop (mkF m 96 #[.val (.int p0), .val (.int p1), .val (.int p2), .val (.int p3), .val (.int p4), .val (.int p5), .val (.int v1), .val (.int v3), .val (.int v6), .val (.int v9), .val (.int v12), .val (.int v17), .unset, .unset, .unset, .unset, .unset, .unset, .unset, .unset, .unset] [(.ref b19)]))
            refine Ends.via (fun _ k => XS.dup X19.here hx rfl (hb hby at_96) rfl rfl k) ?_
            show Ends p e below s 16 128 (Q0 Z p0 p1 p2 p3 p4 p5  h0 n0) (T19.setTop (mkF m 97 #[.val (.int p0), .val (.int p1), .val (.int p2), .val (.int p3), .val (.int p4), .val (.int p5), .val (.int v1), .val (.int v3), .val (.int v6), .val (.int v9), .val (.int v12), .val (.int v17), .unset, .unset, .unset, .unset, .unset, .unset, .unset, .unset, .unset] [(.ref b19), (.ref b19)]))
            refine Ends.via (fun _ k => XS.iloadN X19.here hx rfl (hb hby at_97) rfl k) ?_
            show Ends p e below s 16 128 (Q0 Z p0 p1 p2 p3 p4 p5  h0 n0) (T19.setTop (mkF m 98 #[.val (.int p0), .val (.int p1), .val (.int p2), .val (.int p3), .val (.int p4), .val (.int p5), .val (.int v1), .val (.int v3), .val (.int v6), .val (.int v9), .val (.int v12), .val (.int v17), .unset, .unset, .unset, .unset, .unset, .unset, .unset, .unset, .unset] [(.int p0), (.ref b19), (.ref b19)]))
            refine Ends.via (fun _ k => XS.iloadN X19.here hx rfl (hb hby at_98) rfl k) ?_
            show Ends p e below s 16 128 (Q0 Z p0 p1 p2 p3 p4 p5  h0 n0) (T19.setTop (mkF m 99 #[.val (.int p0), .val (.int p1), .val (.int p2), .val (.int p3), .val (.int p4), .val (.int p5), .val (.int v1), .val (.int v3), .val (.int v6), .val (.int v9), .val (.int v12), .val (.int v17), .unset, .unset, .unset, .unset, .unset, .unset, .unset, .unset, .unset] [(.int p1), (.int p0), (.ref b19), (.ref b19)]))
            refine Ends.via (fun _ k => XS.iloadN X19.here hx rfl (hb hby at_99) rfl k) ?_
            show Ends p e below s 16 128 (Q0 Z p0 p1 p2 p3 p4 p5  h0 n0) (T19.setTop (mkF m 100 #[.val (.int p0), .val (.int p1), .val (.int p2), .val (.int p3), .val (.int p4), .val (.int p5), .val (.int v1), .val (.int v3), .val (.int v6), .val (.int v9), .val (.int v12), .val (.int v17), .unset, .unset, .unset, .unset, .unset, .unset, .unset, .unset, .unset] [(.int p2), (.int p1), (.int p0), (.ref b19), (.ref b19)]))
            refine Ends.via (fun _ k => XS.iloadN X19.here hx rfl (hb hby at_100) rfl k) ?_
            show Ends p e below s 16 128 (Q0 Z p0 p1 p2 p3 p4 p5  h0 n0) (T19.setTop (mkF m 101 #[.val (.int p0), .val (.int p1), .val (.int p2), .val (.int p3), .val (.int p4), .val (.int p5), .val (.int v1), .val (.int v3), .val (.int v6), .val (.int v9), .val (.int v12), .val (.int v17), .unset, .unset, .unset, .unset, .unset, .unset, .unset, .unset, .unset] [(.int p3), (.int p2), (.int p1), (.int p0), (.ref b19), (.ref b19)]))
            obtain ⟨_, _, ⟨T20, L20, k20, n20⟩, -, X20, ⟨Lc20, hQ20, l20, y20, z20⟩, st20⟩ := X19.specialBack hx (y := (⟨"com/example/okno/okno/Rect", "<init>", "(IIII)V"⟩ : MethodName)) rfl hown (mvT hZ (hw _ (List.mem_of_getElem? (i := 3) rfl))) (mvT hZ (hw _ (List.mem_of_getElem? (i := 4) rfl))) (mvT hZ (hw _ (List.mem_of_getElem? (i := 5) rfl))) (by decide) (backOf (W := 1) (rm1 l Z a0 hw [] b19 p0 p1 p2 p3 (.int (0 : Int32)) (.int (0 : Int32)) (.int (0 : Int32)) (.int (0 : Int32)) h19 n0 Z19 g_b19 A19 F19_left F19_top F19_right F19_bottom) hZ (hw _ (List.mem_of_getElem? (i := 5) rfl)) (hw _ (List.mem_of_getElem? (i := 2) rfl)) (by decide) (by decide)) (g := (mkF m 101 #[.val (.int p0), .val (.int p1), .val (.int p2), .val (.int p3), .val (.int p4), .val (.int p5), .val (.int v1), .val (.int v3), .val (.int v6), .val (.int v9), .val (.int v12), .val (.int v17), .unset, .unset, .unset, .unset, .unset, .unset, .unset, .unset, .unset] [(.int p3), (.int p2), (.int p1), (.int p0), (.ref b19), (.ref b19)])) rfl (by rw [hml]; rfl) (Steps.refl _) (a := b19) (argsL := [(.int p0), (.int p1), (.int p2), (.int p3)]) (rest := [(.ref b19)]) (lenOf own_pd0 rfl) rfl (by show 2 * 0 + _ ≤ _; exact Nat.le_of_eq rfl) (hb hby at_101) (fun _ _ => ⟨rfl, e19, (by decide : 1 + 0 ≤ _), (by decide : 4 + 0 ≤ _)⟩)
            dsimp only [Pt.U, Pt.locs, Pt.cells, Pt.slots] at X20 l20 y20 z20 st20 hQ20
            subst l20 y20 z20
            obtain ⟨rfl, Nq20, Kq20, Eq20, Fq20_0, Fq20_1, Fq20_2, Fq20_3⟩ := hQ20
            have N20 := Fr.app Nj18 Nq20
            have Z20 : n0 ≤ T20.heap.size := Nat.le_trans Z19 Kq20.1
            refine Ends.via (fun _ k => st20.trans k) ?_
            show Ends p e below s 16 128 (Q0 Z p0 p1 p2 p3 p4 p5  h0 n0) (T20.setTop (mkF m 104 #[.val (.int p0), .val (.int p1), .val (.int p2), .val (.int p3), .val (.int p4), .val (.int p5), .val (.int v1), .val (.int v3), .val (.int v6), .val (.int v9), .val (.int v12), .val (.int v17), .unset, .unset, .unset, .unset, .unset, .unset, .unset, .unset, .unset] [(.ref b19)]))
            refine Ends.via (fun _ k => XS.astore X20.here hx rfl (hb hby at_104) rfl rfl (l' := #[.val (.int p0), .val (.int p1), .val (.int p2), .val (.int p3), .val (.int p4), .val (.int p5), .val (.int v1), .val (.int v3), .val (.int v6), .val (.int v9), .val (.int v12), .val (.int v17), .val (.ref b19), .unset, .unset, .unset, .unset, .unset, .unset, .unset, .unset]) rfl k) ?_
            show Ends p e below s 16 128 (Q0 Z p0 p1 p2 p3 p4 p5  h0 n0) (T20.setTop (mkF m 106 #[.val (.int p0), .val (.int p1), .val (.int p2), .val (.int p3), .val (.int p4), .val (.int p5), .val (.int v1), .val (.int v3), .val (.int v6), .val (.int v9), .val (.int v12), .val (.int v17), .val (.ref b19), .unset, .unset, .unset, .unset, .unset, .unset, .unset, .unset] []))
            obtain ⟨T26, h26, X26, e26, E26, A26, D26, -, st26⟩ := newO X20 hx hZ hown (hw _ (List.mem_of_getElem? (i := 0) rfl)) (hw _ (List.mem_of_getElem? (i := 1) rfl)) (hw _ (List.mem_of_getElem? (i := 2) rfl)) rfl (g := (mkF m 106 #[.val (.int p0), .val (.int p1), .val (.int p2), .val (.int p3), .val (.int p4), .val (.int p5), .val (.int v1), .val (.int v3), .val (.int v6), .val (.int v9), .val (.int v12), .val (.int v17), .val (.ref b19), .unset, .unset, .unset, .unset, .unset, .unset, .unset, .unset] [])) rfl (hb hby at_106) (by decide) (by decide)
            obtain ⟨b26, g26⟩ : ∃ z, z = T20.heap.size := ⟨_, rfl⟩
            rw [← g26] at A26 D26 st26
            have g_b26 : n0 ≤ b26 := Nat.le_trans Z20 (Nat.le_of_eq g26.symm)
            have ne_b19_b26 : b19 ≠ b26 := Nat.ne_of_lt (Nat.lt_of_lt_of_le Eq20.lt (Nat.le_of_eq g26.symm))
            have f26_0 := Eq20.ext E26
            have f26_1 := Fq20_0.ext E26
            have f26_2 := Fq20_1.ext E26
            have f26_3 := Fq20_2.ext E26
            have f26_4 := Fq20_3.ext E26
            have Z26 : n0 ≤ h26.size := Nat.le_trans Z20 E26.1
            have F26_left : Fld Z h26 b26 "com/example/okno/okno/Rect" "left" "I" (.int (0 : Int32)) := D26 (Or.inr (hw _ (List.mem_of_getElem? (i := 10) rfl))) (ty := .int) (by decide)
            have F26_top : Fld Z h26 b26 "com/example/okno/okno/Rect" "top" "I" (.int (0 : Int32)) := D26 (Or.inr (hw _ (List.mem_of_getElem? (i := 12) rfl))) (ty := .int) (by decide)
            have F26_right : Fld Z h26 b26 "com/example/okno/okno/Rect" "right" "I" (.int (0 : Int32)) := D26 (Or.inr (hw _ (List.mem_of_getElem? (i := 14) rfl))) (ty := .int) (by decide)
            have F26_bottom : Fld Z h26 b26 "com/example/okno/okno/Rect" "bottom" "I" (.int (0 : Int32)) := D26 (Or.inr (hw _ (List.mem_of_getElem? (i := 16) rfl))) (ty := .int) (by decide)
            refine Ends.via st26 ?_
            show Ends p e below s 16 128 (Q0 Z p0 p1 p2 p3 p4 p5  h0 n0) (T26.setTop (mkF m 109 #[.val (.int p0), .val (.int p1), .val (.int p2), .val (.int p3), .val (.int p4), .val (.int p5), .val (.int v1), .val (.int v3), .val (.int v6), .val (.int v9), .val (.int v12), .val (.int v17), .val (.ref b19), .unset, .unset, .unset, .unset, .unset, .unset, .unset, .unset] [(.ref b26)]))
            refine Ends.via (fun _ k => XS.dup X26.here hx rfl (hb hby at_109) rfl rfl k) ?_
            show Ends p e below s 16 128 (Q0 Z p0 p1 p2 p3 p4 p5  h0 n0) (T26.setTop (mkF m 110 #[.val (.int p0), .val (.int p1), .val (.int p2), .val (.int p3), .val (.int p4), .val (.int p5), .val (.int v1), .val (.int v3), .val (.int v6), .val (.int v9), .val (.int v12), .val (.int v17), .val (.ref b19), .unset, .unset, .unset, .unset, .unset, .unset, .unset, .unset] [(.ref b26), (.ref b26)]))
            refine Ends.via (fun _ k => XS.iloadN X26.here hx rfl (hb hby at_110) rfl k) ?_
            show Ends p e below s 16 128 (Q0 Z p0 p1 p2 p3 p4 p5  h0 n0) (T26.setTop (mkF m 111 #[.val (.int p0), .val (.int p1), .val (.int p2), .val (.int p3), .val (.int p4), .val (.int p5), .val (.int v1), .val (.int v3), .val (.int v6), .val (.int v9), .val (.int v12), .val (.int v17), .val (.ref b19), .unset, .unset, .unset, .unset, .unset, .unset, .unset, .unset] [(.int p0), (.ref b26), (.ref b26)]))
            refine Ends.via (fun _ k => XS.iloadN X26.here hx rfl (hb hby at_111) rfl k) ?_
            show Ends p e below s 16 128 (Q0 Z p0 p1 p2 p3 p4 p5  h0 n0) (T26.setTop (mkF m 112 #[.val (.int p0), .val (.int p1), .val (.int p2), .val (.int p3), .val (.int p4), .val (.int p5), .val (.int v1), .val (.int v3), .val (.int v6), .val (.int v9), .val (.int v12), .val (.int v17), .val (.ref b19), .unset, .unset, .unset, .unset, .unset, .unset, .unset, .unset] [(.int p1), (.int p0), (.ref b26), (.ref b26)]))
            refine Ends.via (fun _ k => XS.iloadN X26.here hx rfl (hb hby at_112) rfl k) ?_
            show Ends p e below s 16 128 (Q0 Z p0 p1 p2 p3 p4 p5  h0 n0) (T26.setTop (mkF m 113 #[.val (.int p0), .val (.int p1), .val (.int p2), .val (.int p3), .val (.int p4), .val (.int p5), .val (.int v1), .val (.int v3), .val (.int v6), .val (.int v9), .val (.int v12), .val (.int v17), .val (.ref b19), .unset, .unset, .unset, .unset, .unset, .unset, .unset, .unset] [(.int p2), (.int p1), (.int p0), (.ref b26), (.ref b26)]))
            refine Ends.via (fun _ k => XS.iloadN X26.here hx rfl (hb hby at_113) rfl k) ?_
            show Ends p e below s 16 128 (Q0 Z p0 p1 p2 p3 p4 p5  h0 n0) (T26.setTop (mkF m 114 #[.val (.int p0), .val (.int p1), .val (.int p2), .val (.int p3), .val (.int p4), .val (.int p5), .val (.int v1), .val (.int v3), .val (.int v6), .val (.int v9), .val (.int v12), .val (.int v17), .val (.ref b19), .unset, .unset, .unset, .unset, .unset, .unset, .unset, .unset] [(.int p3), (.int p2), (.int p1), (.int p0), (.ref b26), (.ref b26)]))
            obtain ⟨_, _, ⟨T27, L27, k27, n27⟩, -, X27, ⟨Lc27, hQ27, l27, y27, z27⟩, st27⟩ := X26.specialBack hx (y := (⟨"com/example/okno/okno/Rect", "<init>", "(IIII)V"⟩ : MethodName)) rfl hown (mvT hZ (hw _ (List.mem_of_getElem? (i := 3) rfl))) (mvT hZ (hw _ (List.mem_of_getElem? (i := 4) rfl))) (mvT hZ (hw _ (List.mem_of_getElem? (i := 5) rfl))) (by decide) (backOf (W := 1) (rm1 l Z a0 hw [] b26 p0 p1 p2 p3 (.int (0 : Int32)) (.int (0 : Int32)) (.int (0 : Int32)) (.int (0 : Int32)) h26 n0 Z26 g_b26 A26 F26_left F26_top F26_right F26_bottom) hZ (hw _ (List.mem_of_getElem? (i := 5) rfl)) (hw _ (List.mem_of_getElem? (i := 2) rfl)) (by decide) (by decide)) (g := (mkF m 114 #[.val (.int p0), .val (.int p1), .val (.int p2), .val (.int p3), .val (.int p4), .val (.int p5), .val (.int v1), .val (.int v3), .val (.int v6), .val (.int v9), .val (.int v12), .val (.int v17), .val (.ref b19), .unset, .unset, .unset, .unset, .unset, .unset, .unset, .unset] [(.int p3), (.int p2), (.int p1), (.int p0), (.ref b26), (.ref b26)])) rfl (by rw [hml]; rfl) (Steps.refl _) (a := b26) (argsL := [(.int p0), (.int p1), (.int p2), (.int p3)]) (rest := [(.ref b26)]) (lenOf own_pd0 rfl) rfl (by show 2 * 0 + _ ≤ _; exact Nat.le_of_eq rfl) (hb hby at_114) (fun _ _ => ⟨rfl, e26, (by decide : 2 + 0 ≤ _), (by decide : 8 + 0 ≤ _)⟩)
            dsimp only [Pt.U, Pt.locs, Pt.cells, Pt.slots] at X27 l27 y27 z27 st27 hQ27
            subst l27 y27 z27
            obtain ⟨rfl, Nq27, Kq27, Eq27, Fq27_0, Fq27_1, Fq27_2, Fq27_3⟩ := hQ27
            have N27 := Fr.app N20 Nq27
            have f27_0 := f26_0.keep Kq27
            have f27_1 := f26_1.keep Kq27 (ninS ne_b19_b26 nin0)
            have f27_2 := f26_2.keep Kq27 (ninS ne_b19_b26 nin0)
            have f27_3 := f26_3.keep Kq27 (ninS ne_b19_b26 nin0)
            have f27_4 := f26_4.keep Kq27 (ninS ne_b19_b26 nin0)
            have Z27 : n0 ≤ T27.heap.size := Nat.le_trans Z26 Kq27.1
            refine Ends.via (fun _ k => st27.trans k) ?_
            show Ends p e below s 16 128 (Q0 Z p0 p1 p2 p3 p4 p5  h0 n0) (T27.setTop (mkF m 117 #[.val (.int p0), .val (.int p1), .val (.int p2), .val (.int p3), .val (.int p4), .val (.int p5), .val (.int v1), .val (.int v3), .val (.int v6), .val (.int v9), .val (.int v12), .val (.int v17), .val (.ref b19), .unset, .unset, .unset, .unset, .unset, .unset, .unset, .unset] [(.ref b26)]))
            refine Ends.via (fun _ k => XS.astore X27.here hx rfl (hb hby at_117) rfl rfl (l' := #[.val (.int p0), .val (.int p1), .val (.int p2), .val (.int p3), .val (.int p4), .val (.int p5), .val (.int v1), .val (.int v3), .val (.int v6), .val (.int v9), .val (.int v12), .val (.int v17), .val (.ref b19), .val (.ref b26), .unset, .unset, .unset, .unset, .unset, .unset, .unset]) rfl k) ?_
            show Ends p e below s 16 128 (Q0 Z p0 p1 p2 p3 p4 p5  h0 n0) (T27.setTop (mkF m 119 #[.val (.int p0), .val (.int p1), .val (.int p2), .val (.int p3), .val (.int p4), .val (.int p5), .val (.int v1), .val (.int v3), .val (.int v6), .val (.int v9), .val (.int v12), .val (.int v17), .val (.ref b19), .val (.ref b26), .unset, .unset, .unset, .unset, .unset, .unset, .unset] []))
            obtain ⟨T28, h28, X28, e28, E28, A28, D28, -, st28⟩ := newO X27 hx hZ hown (hw _ (List.mem_of_getElem? (i := 0) rfl)) (hw _ (List.mem_of_getElem? (i := 1) rfl)) (hw _ (List.mem_of_getElem? (i := 2) rfl)) rfl (g := (mkF m 119 #[.val (.int p0), .val (.int p1), .val (.int p2), .val (.int p3), .val (.int p4), .val (.int p5), .val (.int v1), .val (.int v3), .val (.int v6), .val (.int v9), .val (.int v12), .val (.int v17), .val (.ref b19), .val (.ref b26), .unset, .unset, .unset, .unset, .unset, .unset, .unset] [])) rfl (hb hby at_119) (by decide) (by decide)
            obtain ⟨b28, g28⟩ : ∃ z, z = T27.heap.size := ⟨_, rfl⟩
            rw [← g28] at A28 D28 st28
            have g_b28 : n0 ≤ b28 := Nat.le_trans Z27 (Nat.le_of_eq g28.symm)
            have ne_b19_b28 : b19 ≠ b28 := Nat.ne_of_lt (Nat.lt_of_lt_of_le f27_0.lt (Nat.le_of_eq g28.symm))
            have ne_b26_b28 : b26 ≠ b28 := Nat.ne_of_lt (Nat.lt_of_lt_of_le Eq27.lt (Nat.le_of_eq g28.symm))
            have f28_0 := f27_0.ext E28
            have f28_1 := f27_1.ext E28
            have f28_2 := f27_2.ext E28
            have f28_3 := f27_3.ext E28
            have f28_4 := f27_4.ext E28
            have f28_5 := Eq27.ext E28
            have f28_6 := Fq27_0.ext E28
            have f28_7 := Fq27_1.ext E28
            have f28_8 := Fq27_2.ext E28
            have f28_9 := Fq27_3.ext E28
            have Z28 : n0 ≤ h28.size := Nat.le_trans Z27 E28.1
            have F28_left : Fld Z h28 b28 "com/example/okno/okno/Rect" "left" "I" (.int (0 : Int32)) := D28 (Or.inr (hw _ (List.mem_of_getElem? (i := 10) rfl))) (ty := .int) (by decide)
            have F28_top : Fld Z h28 b28 "com/example/okno/okno/Rect" "top" "I" (.int (0 : Int32)) := D28 (Or.inr (hw _ (List.mem_of_getElem? (i := 12) rfl))) (ty := .int) (by decide)
            have F28_right : Fld Z h28 b28 "com/example/okno/okno/Rect" "right" "I" (.int (0 : Int32)) := D28 (Or.inr (hw _ (List.mem_of_getElem? (i := 14) rfl))) (ty := .int) (by decide)
            have F28_bottom : Fld Z h28 b28 "com/example/okno/okno/Rect" "bottom" "I" (.int (0 : Int32)) := D28 (Or.inr (hw _ (List.mem_of_getElem? (i := 16) rfl))) (ty := .int) (by decide)
            refine Ends.via st28 ?_
            show Ends p e below s 16 128 (Q0 Z p0 p1 p2 p3 p4 p5  h0 n0) (T28.setTop (mkF m 122 #[.val (.int p0), .val (.int p1), .val (.int p2), .val (.int p3), .val (.int p4), .val (.int p5), .val (.int v1), .val (.int v3), .val (.int v6), .val (.int v9), .val (.int v12), .val (.int v17), .val (.ref b19), .val (.ref b26), .unset, .unset, .unset, .unset, .unset, .unset, .unset] [(.ref b28)]))
            refine Ends.via (fun _ k => XS.dup X28.here hx rfl (hb hby at_122) rfl rfl k) ?_
            show Ends p e below s 16 128 (Q0 Z p0 p1 p2 p3 p4 p5  h0 n0) (T28.setTop (mkF m 123 #[.val (.int p0), .val (.int p1), .val (.int p2), .val (.int p3), .val (.int p4), .val (.int p5), .val (.int v1), .val (.int v3), .val (.int v6), .val (.int v9), .val (.int v12), .val (.int v17), .val (.ref b19), .val (.ref b26), .unset, .unset, .unset, .unset, .unset, .unset, .unset] [(.ref b28), (.ref b28)]))
            refine Ends.via (fun _ k => XS.iload X28.here hx rfl (hb hby at_123) rfl k) ?_
            show Ends p e below s 16 128 (Q0 Z p0 p1 p2 p3 p4 p5  h0 n0) (T28.setTop (mkF m 125 #[.val (.int p0), .val (.int p1), .val (.int p2), .val (.int p3), .val (.int p4), .val (.int p5), .val (.int v1), .val (.int v3), .val (.int v6), .val (.int v9), .val (.int v12), .val (.int v17), .val (.ref b19), .val (.ref b26), .unset, .unset, .unset, .unset, .unset, .unset, .unset] [(.int v3), (.ref b28), (.ref b28)]))
            refine Ends.via (fun _ k => XS.iload X28.here hx rfl (hb hby at_125) rfl k) ?_
            show Ends p e below s 16 128 (Q0 Z p0 p1 p2 p3 p4 p5  h0 n0) (T28.setTop (mkF m 127 #[.val (.int p0), .val (.int p1), .val (.int p2), .val (.int p3), .val (.int p4), .val (.int p5), .val (.int v1), .val (.int v3), .val (.int v6), .val (.int v9), .val (.int v12), .val (.int v17), .val (.ref b19), .val (.ref b26), .unset, .unset, .unset, .unset, .unset, .unset, .unset] [(.int v6), (.int v3), (.ref b28), (.ref b28)]))
            refine Ends.via (fun _ k => XS.iload X28.here hx rfl (hb hby at_127) rfl k) ?_
            show Ends p e below s 16 128 (Q0 Z p0 p1 p2 p3 p4 p5  h0 n0) (T28.setTop (mkF m 129 #[.val (.int p0), .val (.int p1), .val (.int p2), .val (.int p3), .val (.int p4), .val (.int p5), .val (.int v1), .val (.int v3), .val (.int v6), .val (.int v9), .val (.int v12), .val (.int v17), .val (.ref b19), .val (.ref b26), .unset, .unset, .unset, .unset, .unset, .unset, .unset] [(.int v9), (.int v6), (.int v3), (.ref b28), (.ref b28)]))
            refine Ends.via (fun _ k => XS.iload X28.here hx rfl (hb hby at_129) rfl k) ?_
            show Ends p e below s 16 128 (Q0 Z p0 p1 p2 p3 p4 p5  h0 n0) (T28.setTop (mkF m 131 #[.val (.int p0), .val (.int p1), .val (.int p2), .val (.int p3), .val (.int p4), .val (.int p5), .val (.int v1), .val (.int v3), .val (.int v6), .val (.int v9), .val (.int v12), .val (.int v17), .val (.ref b19), .val (.ref b26), .unset, .unset, .unset, .unset, .unset, .unset, .unset] [(.int v12), (.int v9), (.int v6), (.int v3), (.ref b28), (.ref b28)]))
            obtain ⟨_, _, ⟨T29, L29, k29, n29⟩, -, X29, ⟨Lc29, hQ29, l29, y29, z29⟩, st29⟩ := X28.specialBack hx (y := (⟨"com/example/okno/okno/Rect", "<init>", "(IIII)V"⟩ : MethodName)) rfl hown (mvT hZ (hw _ (List.mem_of_getElem? (i := 3) rfl))) (mvT hZ (hw _ (List.mem_of_getElem? (i := 4) rfl))) (mvT hZ (hw _ (List.mem_of_getElem? (i := 5) rfl))) (by decide) (backOf (W := 1) (rm1 l Z a0 hw [] b28 v3 v6 v9 v12 (.int (0 : Int32)) (.int (0 : Int32)) (.int (0 : Int32)) (.int (0 : Int32)) h28 n0 Z28 g_b28 A28 F28_left F28_top F28_right F28_bottom) hZ (hw _ (List.mem_of_getElem? (i := 5) rfl)) (hw _ (List.mem_of_getElem? (i := 2) rfl)) (by decide) (by decide)) (g := (mkF m 131 #[.val (.int p0), .val (.int p1), .val (.int p2), .val (.int p3), .val (.int p4), .val (.int p5), .val (.int v1), .val (.int v3), .val (.int v6), .val (.int v9), .val (.int v12), .val (.int v17), .val (.ref b19), .val (.ref b26), .unset, .unset, .unset, .unset, .unset, .unset, .unset] [(.int v12), (.int v9), (.int v6), (.int v3), (.ref b28), (.ref b28)])) rfl (by rw [hml]; rfl) (Steps.refl _) (a := b28) (argsL := [(.int v3), (.int v6), (.int v9), (.int v12)]) (rest := [(.ref b28)]) (lenOf own_pd0 rfl) rfl (by show 2 * 0 + _ ≤ _; exact Nat.le_of_eq rfl) (hb hby at_131) (fun _ _ => ⟨rfl, e28, (by decide : 3 + 0 ≤ _), (by decide : 12 + 0 ≤ _)⟩)
            dsimp only [Pt.U, Pt.locs, Pt.cells, Pt.slots] at X29 l29 y29 z29 st29 hQ29
            subst l29 y29 z29
            obtain ⟨rfl, Nq29, Kq29, Eq29, Fq29_0, Fq29_1, Fq29_2, Fq29_3⟩ := hQ29
            have N29 := Fr.app N27 Nq29
            have f29_0 := f28_0.keep Kq29
            have f29_1 := f28_1.keep Kq29 (ninS ne_b19_b28 nin0)
            have f29_2 := f28_2.keep Kq29 (ninS ne_b19_b28 nin0)
            have f29_3 := f28_3.keep Kq29 (ninS ne_b19_b28 nin0)
            have f29_4 := f28_4.keep Kq29 (ninS ne_b19_b28 nin0)
            have f29_5 := f28_5.keep Kq29
            have f29_6 := f28_6.keep Kq29 (ninS ne_b26_b28 nin0)
            have f29_7 := f28_7.keep Kq29 (ninS ne_b26_b28 nin0)
            have f29_8 := f28_8.keep Kq29 (ninS ne_b26_b28 nin0)
            have f29_9 := f28_9.keep Kq29 (ninS ne_b26_b28 nin0)
            have Z29 : n0 ≤ T29.heap.size := Nat.le_trans Z28 Kq29.1
            refine Ends.via (fun _ k => st29.trans k) ?_
            show Ends p e below s 16 128 (Q0 Z p0 p1 p2 p3 p4 p5  h0 n0) (T29.setTop (mkF m 134 #[.val (.int p0), .val (.int p1), .val (.int p2), .val (.int p3), .val (.int p4), .val (.int p5), .val (.int v1), .val (.int v3), .val (.int v6), .val (.int v9), .val (.int v12), .val (.int v17), .val (.ref b19), .val (.ref b26), .unset, .unset, .unset, .unset, .unset, .unset, .unset] [(.ref b28)]))
            refine Ends.via (fun _ k => XS.astore X29.here hx rfl (hb hby at_134) rfl rfl (l' := #[.val (.int p0), .val (.int p1), .val (.int p2), .val (.int p3), .val (.int p4), .val (.int p5), .val (.int v1), .val (.int v3), .val (.int v6), .val (.int v9), .val (.int v12), .val (.int v17), .val (.ref b19), .val (.ref b26), .val (.ref b28), .unset, .unset, .unset, .unset, .unset, .unset]) rfl k) ?_
            show Ends p e below s 16 128 (Q0 Z p0 p1 p2 p3 p4 p5  h0 n0) (T29.setTop (mkF m 136 #[.val (.int p0), .val (.int p1), .val (.int p2), .val (.int p3), .val (.int p4), .val (.int p5), .val (.int v1), .val (.int v3), .val (.int v6), .val (.int v9), .val (.int v12), .val (.int v17), .val (.ref b19), .val (.ref b26), .val (.ref b28), .unset, .unset, .unset, .unset, .unset, .unset] []))
            refine Ends.via (fun _ k => XS.aload X29.here hx rfl (hb hby at_136) rfl rfl k) ?_
            show Ends p e below s 16 128 (Q0 Z p0 p1 p2 p3 p4 p5  h0 n0) (T29.setTop (mkF m 138 #[.val (.int p0), .val (.int p1), .val (.int p2), .val (.int p3), .val (.int p4), .val (.int p5), .val (.int v1), .val (.int v3), .val (.int v6), .val (.int v9), .val (.int v12), .val (.int v17), .val (.ref b19), .val (.ref b26), .val (.ref b28), .unset, .unset, .unset, .unset, .unset, .unset] [(.ref b19)]))
            obtain ⟨cq30, kq30, qa30, qb30, qc30⟩ := isOf hZ rfl f29_0
            obtain ⟨_, _, ⟨T30, L30, k30, n30⟩, -, X30, ⟨Lc30, hQ30, l30, y30, z30⟩, st30⟩ := X29.virtualBack hx (y := (⟨"com/example/okno/okno/Rect", "hashCode", "()I"⟩ : MethodName)) (z := (⟨"com/example/okno/okno/Rect", "hashCode", "()I"⟩ : MethodName)) hown (mvT hZ (hw _ (List.mem_of_getElem? (i := 17) rfl))) (mvT hZ (hw _ (List.mem_of_getElem? (i := 18) rfl))) (notFace_of_selects (args := #[]) (mvT hZ (hw _ (List.mem_of_getElem? (i := 20) rfl)))) (mvT hZ (hw _ (List.mem_of_getElem? (i := 20) rfl))) (mvT hZ (hw _ (List.mem_of_getElem? (i := 19) rfl))) (by decide) (backOf (W := 0) (rm3 l Z a0 hw [] b19  p0 p1 p2 p3 T29.heap n0 Z29 f29_1 f29_2 f29_3 f29_4) hZ (hw _ (List.mem_of_getElem? (i := 21) rfl)) (hw _ (List.mem_of_getElem? (i := 2) rfl)) (by decide) (by decide)) qa30 qc30 (g := (mkF m 138 #[.val (.int p0), .val (.int p1), .val (.int p2), .val (.int p3), .val (.int p4), .val (.int p5), .val (.int v1), .val (.int v3), .val (.int v6), .val (.int v9), .val (.int v12), .val (.int v17), .val (.ref b19), .val (.ref b26), .val (.ref b28), .unset, .unset, .unset, .unset, .unset, .unset] [(.ref b19)])) rfl (by rw [hml]; rfl) (Steps.refl _) (argsL := []) (rest := []) (lenOf own_pd1 rfl) rfl (by show 2 * 0 + _ ≤ _; exact Nat.le_of_eq rfl) (hb hby at_138) (fun _ _ => ⟨rfl, rfl, (by decide : 3 + 0 ≤ _), (by decide : 12 + 0 ≤ _)⟩)
            dsimp only [Pt.U, Pt.locs, Pt.cells, Pt.slots] at X30 l30 y30 z30 st30 hQ30
            subst l30 y30 z30
            obtain ⟨rfl, Nq30, e30⟩ := hQ30
            have N30 := Fr.app N29 Nq30
            refine Ends.via (fun _ k => st30.trans k) ?_
            show Ends p e below s 16 128 (Q0 Z p0 p1 p2 p3 p4 p5  h0 n0) (T30.setTop (mkF m 141 #[.val (.int p0), .val (.int p1), .val (.int p2), .val (.int p3), .val (.int p4), .val (.int p5), .val (.int v1), .val (.int v3), .val (.int v6), .val (.int v9), .val (.int v12), .val (.int v17), .val (.ref b19), .val (.ref b26), .val (.ref b28), .unset, .unset, .unset, .unset, .unset, .unset] [(.int (fn3 p0 p1 p2 p3))]))
            refine Ends.via (fun _ k => XS.istore X30.here hx rfl (hb hby at_141) rfl (l' := #[.val (.int p0), .val (.int p1), .val (.int p2), .val (.int p3), .val (.int p4), .val (.int p5), .val (.int v1), .val (.int v3), .val (.int v6), .val (.int v9), .val (.int v12), .val (.int v17), .val (.ref b19), .val (.ref b26), .val (.ref b28), .val (.int (fn3 p0 p1 p2 p3)), .unset, .unset, .unset, .unset, .unset]) rfl k) ?_
            show Ends p e below s 16 128 (Q0 Z p0 p1 p2 p3 p4 p5  h0 n0) (T30.setTop (mkF m 143 #[.val (.int p0), .val (.int p1), .val (.int p2), .val (.int p3), .val (.int p4), .val (.int p5), .val (.int v1), .val (.int v3), .val (.int v6), .val (.int v9), .val (.int v12), .val (.int v17), .val (.ref b19), .val (.ref b26), .val (.ref b28), .val (.int (fn3 p0 p1 p2 p3)), .unset, .unset, .unset, .unset, .unset] []))
            generalize hv37 : (fn3 p0 p1 p2 p3) = v37
            refine Ends.via (fun _ k => XS.aload X30.here hx rfl (hb hby at_143) rfl rfl k) ?_
            show Ends p e below s 16 128 (Q0 Z p0 p1 p2 p3 p4 p5  h0 n0) (T30.setTop (mkF m 145 #[.val (.int p0), .val (.int p1), .val (.int p2), .val (.int p3), .val (.int p4), .val (.int p5), .val (.int v1), .val (.int v3), .val (.int v6), .val (.int v9), .val (.int v12), .val (.int v17), .val (.ref b19), .val (.ref b26), .val (.ref b28), .val (.int v37), .unset, .unset, .unset, .unset, .unset] [(.ref b19)]))
            obtain ⟨cq38, kq38, qa38, qb38, qc38⟩ := isOf hZ e30 f29_0
            obtain ⟨_, _, ⟨T38, L38, k38, n38⟩, -, X38, ⟨Lc38, hQ38, l38, y38, z38⟩, st38⟩ := X30.virtualBack hx (y := (⟨"com/example/okno/okno/Rect", "hashCode", "()I"⟩ : MethodName)) (z := (⟨"com/example/okno/okno/Rect", "hashCode", "()I"⟩ : MethodName)) hown (mvT hZ (hw _ (List.mem_of_getElem? (i := 17) rfl))) (mvT hZ (hw _ (List.mem_of_getElem? (i := 18) rfl))) (notFace_of_selects (args := #[]) (mvT hZ (hw _ (List.mem_of_getElem? (i := 20) rfl)))) (mvT hZ (hw _ (List.mem_of_getElem? (i := 20) rfl))) (mvT hZ (hw _ (List.mem_of_getElem? (i := 19) rfl))) (by decide) (backOf (W := 0) (rm3 l Z a0 hw [] b19  p0 p1 p2 p3 T29.heap n0 Z29 f29_1 f29_2 f29_3 f29_4) hZ (hw _ (List.mem_of_getElem? (i := 21) rfl)) (hw _ (List.mem_of_getElem? (i := 2) rfl)) (by decide) (by decide)) qa38 qc38 (g := (mkF m 145 #[.val (.int p0), .val (.int p1), .val (.int p2), .val (.int p3), .val (.int p4), .val (.int p5), .val (.int v1), .val (.int v3), .val (.int v6), .val (.int v9), .val (.int v12), .val (.int v17), .val (.ref b19), .val (.ref b26), .val (.ref b28), .val (.int v37), .unset, .unset, .unset, .unset, .unset] [(.ref b19)])) rfl (by rw [hml]; rfl) (Steps.refl _) (argsL := []) (rest := []) (lenOf own_pd1 rfl) rfl (by show 2 * 0 + _ ≤ _; exact Nat.le_of_eq rfl) (hb hby at_145) (fun _ _ => ⟨rfl, e30, (by decide : 3 + 0 ≤ _), (by decide : 12 + 0 ≤ _)⟩)
            dsimp only [Pt.U, Pt.locs, Pt.cells, Pt.slots] at X38 l38 y38 z38 st38 hQ38
            subst l38 y38 z38
            obtain ⟨rfl, Nq38, e38⟩ := hQ38
            have N38 := Fr.app N30 Nq38
            refine Ends.via (fun _ k => st38.trans k) ?_
            show Ends p e below s 16 128 (Q0 Z p0 p1 p2 p3 p4 p5  h0 n0) (T38.setTop (mkF m 148 #[.val (.int p0), .val (.int p1), .val (.int p2), .val (.int p3), .val (.int p4), .val (.int p5), .val (.int v1), .val (.int v3), .val (.int v6), .val (.int v9), .val (.int v12), .val (.int v17), .val (.ref b19), .val (.ref b26), .val (.ref b28), .val (.int v37), .unset, .unset, .unset, .unset, .unset] [(.int (fn3 p0 p1 p2 p3))]))
            refine Ends.via (fun _ k => XS.istore X38.here hx rfl (hb hby at_148) rfl (l' := #[.val (.int p0), .val (.int p1), .val (.int p2), .val (.int p3), .val (.int p4), .val (.int p5), .val (.int v1), .val (.int v3), .val (.int v6), .val (.int v9), .val (.int v12), .val (.int v17), .val (.ref b19), .val (.ref b26), .val (.ref b28), .val (.int v37), .val (.int (fn3 p0 p1 p2 p3)), .unset, .unset, .unset, .unset]) rfl k) ?_
            show Ends p e below s 16 128 (Q0 Z p0 p1 p2 p3 p4 p5  h0 n0) (T38.setTop (mkF m 150 #[.val (.int p0), .val (.int p1), .val (.int p2), .val (.int p3), .val (.int p4), .val (.int p5), .val (.int v1), .val (.int v3), .val (.int v6), .val (.int v9), .val (.int v12), .val (.int v17), .val (.ref b19), .val (.ref b26), .val (.ref b28), .val (.int v37), .val (.int (fn3 p0 p1 p2 p3)), .unset, .unset, .unset, .unset] []))
            generalize hv39 : (fn3 p0 p1 p2 p3) = v39
            refine Ends.via (fun _ k => XS.aload X38.here hx rfl (hb hby at_150) rfl rfl k) ?_
            show Ends p e below s 16 128 (Q0 Z p0 p1 p2 p3 p4 p5  h0 n0) (T38.setTop (mkF m 152 #[.val (.int p0), .val (.int p1), .val (.int p2), .val (.int p3), .val (.int p4), .val (.int p5), .val (.int v1), .val (.int v3), .val (.int v6), .val (.int v9), .val (.int v12), .val (.int v17), .val (.ref b19), .val (.ref b26), .val (.ref b28), .val (.int v37), .val (.int v39), .unset, .unset, .unset, .unset] [(.ref b26)]))
            obtain ⟨cq40, kq40, qa40, qb40, qc40⟩ := isOf hZ e38 f29_5
            obtain ⟨_, _, ⟨T40, L40, k40, n40⟩, -, X40, ⟨Lc40, hQ40, l40, y40, z40⟩, st40⟩ := X38.virtualBack hx (y := (⟨"com/example/okno/okno/Rect", "hashCode", "()I"⟩ : MethodName)) (z := (⟨"com/example/okno/okno/Rect", "hashCode", "()I"⟩ : MethodName)) hown (mvT hZ (hw _ (List.mem_of_getElem? (i := 17) rfl))) (mvT hZ (hw _ (List.mem_of_getElem? (i := 18) rfl))) (notFace_of_selects (args := #[]) (mvT hZ (hw _ (List.mem_of_getElem? (i := 20) rfl)))) (mvT hZ (hw _ (List.mem_of_getElem? (i := 20) rfl))) (mvT hZ (hw _ (List.mem_of_getElem? (i := 19) rfl))) (by decide) (backOf (W := 0) (rm3 l Z a0 hw [] b26  p0 p1 p2 p3 T29.heap n0 Z29 f29_6 f29_7 f29_8 f29_9) hZ (hw _ (List.mem_of_getElem? (i := 21) rfl)) (hw _ (List.mem_of_getElem? (i := 2) rfl)) (by decide) (by decide)) qa40 qc40 (g := (mkF m 152 #[.val (.int p0), .val (.int p1), .val (.int p2), .val (.int p3), .val (.int p4), .val (.int p5), .val (.int v1), .val (.int v3), .val (.int v6), .val (.int v9), .val (.int v12), .val (.int v17), .val (.ref b19), .val (.ref b26), .val (.ref b28), .val (.int v37), .val (.int v39), .unset, .unset, .unset, .unset] [(.ref b26)])) rfl (by rw [hml]; rfl) (Steps.refl _) (argsL := []) (rest := []) (lenOf own_pd1 rfl) rfl (by show 2 * 0 + _ ≤ _; exact Nat.le_of_eq rfl) (hb hby at_152) (fun _ _ => ⟨rfl, e38, (by decide : 3 + 0 ≤ _), (by decide : 12 + 0 ≤ _)⟩)
            dsimp only [Pt.U, Pt.locs, Pt.cells, Pt.slots] at X40 l40 y40 z40 st40 hQ40
            subst l40 y40 z40
            obtain ⟨rfl, Nq40, e40⟩ := hQ40
            have N40 := Fr.app N38 Nq40
            refine Ends.via (fun _ k => st40.trans k) ?_
            show Ends p e below s 16 128 (Q0 Z p0 p1 p2 p3 p4 p5  h0 n0) (T40.setTop (mkF m 155 #[.val (.int p0), .val (.int p1), .val (.int p2), .val (.int p3), .val (.int p4), .val (.int p5), .val (.int v1), .val (.int v3), .val (.int v6), .val (.int v9), .val (.int v12), .val (.int v17), .val (.ref b19), .val (.ref b26), .val (.ref b28), .val (.int v37), .val (.int v39), .unset, .unset, .unset, .unset] [(.int (fn3 p0 p1 p2 p3))]))
            refine Ends.via (fun _ k => XS.istore X40.here hx rfl (hb hby at_155) rfl (l' := #[.val (.int p0), .val (.int p1), .val (.int p2), .val (.int p3), .val (.int p4), .val (.int p5), .val (.int v1), .val (.int v3), .val (.int v6), .val (.int v9), .val (.int v12), .val (.int v17), .val (.ref b19), .val (.ref b26), .val (.ref b28), .val (.int v37), .val (.int v39), .val (.int (fn3 p0 p1 p2 p3)), .unset, .unset, .unset]) rfl k) ?_
            show Ends p e below s 16 128 (Q0 Z p0 p1 p2 p3 p4 p5  h0 n0) (T40.setTop (mkF m 157 #[.val (.int p0), .val (.int p1), .val (.int p2), .val (.int p3), .val (.int p4), .val (.int p5), .val (.int v1), .val (.int v3), .val (.int v6), .val (.int v9), .val (.int v12), .val (.int v17), .val (.ref b19), .val (.ref b26), .val (.ref b28), .val (.int v37), .val (.int v39), .val (.int (fn3 p0 p1 p2 p3)), .unset, .unset, .unset] []))
            generalize hv41 : (fn3 p0 p1 p2 p3) = v41
            refine Ends.via (fun _ k => XS.aload X40.here hx rfl (hb hby at_157) rfl rfl k) ?_
            show Ends p e below s 16 128 (Q0 Z p0 p1 p2 p3 p4 p5  h0 n0) (T40.setTop (mkF m 159 #[.val (.int p0), .val (.int p1), .val (.int p2), .val (.int p3), .val (.int p4), .val (.int p5), .val (.int v1), .val (.int v3), .val (.int v6), .val (.int v9), .val (.int v12), .val (.int v17), .val (.ref b19), .val (.ref b26), .val (.ref b28), .val (.int v37), .val (.int v39), .val (.int v41), .unset, .unset, .unset] [(.ref b28)]))
            obtain ⟨cq42, kq42, qa42, qb42, qc42⟩ := isOf hZ e40 Eq29
            obtain ⟨_, _, ⟨T42, L42, k42, n42⟩, -, X42, ⟨Lc42, hQ42, l42, y42, z42⟩, st42⟩ := X40.virtualBack hx (y := (⟨"com/example/okno/okno/Rect", "hashCode", "()I"⟩ : MethodName)) (z := (⟨"com/example/okno/okno/Rect", "hashCode", "()I"⟩ : MethodName)) hown (mvT hZ (hw _ (List.mem_of_getElem? (i := 17) rfl))) (mvT hZ (hw _ (List.mem_of_getElem? (i := 18) rfl))) (notFace_of_selects (args := #[]) (mvT hZ (hw _ (List.mem_of_getElem? (i := 20) rfl)))) (mvT hZ (hw _ (List.mem_of_getElem? (i := 20) rfl))) (mvT hZ (hw _ (List.mem_of_getElem? (i := 19) rfl))) (by decide) (backOf (W := 0) (rm3 l Z a0 hw [] b28  v3 v6 v9 v12 T29.heap n0 Z29 Fq29_0 Fq29_1 Fq29_2 Fq29_3) hZ (hw _ (List.mem_of_getElem? (i := 21) rfl)) (hw _ (List.mem_of_getElem? (i := 2) rfl)) (by decide) (by decide)) qa42 qc42 (g := (mkF m 159 #[.val (.int p0), .val (.int p1), .val (.int p2), .val (.int p3), .val (.int p4), .val (.int p5), .val (.int v1), .val (.int v3), .val (.int v6), .val (.int v9), .val (.int v12), .val (.int v17), .val (.ref b19), .val (.ref b26), .val (.ref b28), .val (.int v37), .val (.int v39), .val (.int v41), .unset, .unset, .unset] [(.ref b28)])) rfl (by rw [hml]; rfl) (Steps.refl _) (argsL := []) (rest := []) (lenOf own_pd1 rfl) rfl (by show 2 * 0 + _ ≤ _; exact Nat.le_of_eq rfl) (hb hby at_159) (fun _ _ => ⟨rfl, e40, (by decide : 3 + 0 ≤ _), (by decide : 12 + 0 ≤ _)⟩)
            dsimp only [Pt.U, Pt.locs, Pt.cells, Pt.slots] at X42 l42 y42 z42 st42 hQ42
            subst l42 y42 z42
            obtain ⟨rfl, Nq42, e42⟩ := hQ42
            have N42 := Fr.app N40 Nq42
            refine Ends.via (fun _ k => st42.trans k) ?_
            show Ends p e below s 16 128 (Q0 Z p0 p1 p2 p3 p4 p5  h0 n0) (T42.setTop (mkF m 162 #[.val (.int p0), .val (.int p1), .val (.int p2), .val (.int p3), .val (.int p4), .val (.int p5), .val (.int v1), .val (.int v3), .val (.int v6), .val (.int v9), .val (.int v12), .val (.int v17), .val (.ref b19), .val (.ref b26), .val (.ref b28), .val (.int v37), .val (.int v39), .val (.int v41), .unset, .unset, .unset] [(.int (fn3 v3 v6 v9 v12))]))
            refine Ends.via (fun _ k => XS.istore X42.here hx rfl (hb hby at_162) rfl (l' := #[.val (.int p0), .val (.int p1), .val (.int p2), .val (.int p3), .val (.int p4), .val (.int p5), .val (.int v1), .val (.int v3), .val (.int v6), .val (.int v9), .val (.int v12), .val (.int v17), .val (.ref b19), .val (.ref b26), .val (.ref b28), .val (.int v37), .val (.int v39), .val (.int v41), .val (.int (fn3 v3 v6 v9 v12)), .unset, .unset]) rfl k) ?_
            show Ends p e below s 16 128 (Q0 Z p0 p1 p2 p3 p4 p5  h0 n0) (T42.setTop (mkF m 164 #[.val (.int p0), .val (.int p1), .val (.int p2), .val (.int p3), .val (.int p4), .val (.int p5), .val (.int v1), .val (.int v3), .val (.int v6), .val (.int v9), .val (.int v12), .val (.int v17), .val (.ref b19), .val (.ref b26), .val (.ref b28), .val (.int v37), .val (.int v39), .val (.int v41), .val (.int (fn3 v3 v6 v9 v12)), .unset, .unset] []))
            generalize hv43 : (fn3 v3 v6 v9 v12) = v43
            refine Ends.via (fun _ k => XS.iload X42.here hx rfl (hb hby at_164) rfl k) ?_
            show Ends p e below s 16 128 (Q0 Z p0 p1 p2 p3 p4 p5  h0 n0) (T42.setTop (mkF m 166 #[.val (.int p0), .val (.int p1), .val (.int p2), .val (.int p3), .val (.int p4), .val (.int p5), .val (.int v1), .val (.int v3), .val (.int v6), .val (.int v9), .val (.int v12), .val (.int v17), .val (.ref b19), .val (.ref b26), .val (.ref b28), .val (.int v37), .val (.int v39), .val (.int v41), .val (.int v43), .unset, .unset] [(.int v37)]))
            refine Ends.via (fun _ k => XS.iload X42.here hx rfl (hb hby at_166) rfl k) ?_
            show Ends p e below s 16 128 (Q0 Z p0 p1 p2 p3 p4 p5  h0 n0) (T42.setTop (mkF m 168 #[.val (.int p0), .val (.int p1), .val (.int p2), .val (.int p3), .val (.int p4), .val (.int p5), .val (.int v1), .val (.int v3), .val (.int v6), .val (.int v9), .val (.int v12), .val (.int v17), .val (.ref b19), .val (.ref b26), .val (.ref b28), .val (.int v37), .val (.int v39), .val (.int v41), .val (.int v43), .unset, .unset] [(.int v39), (.int v37)]))
            have J47 : ∀ (Tj47 : State) (Lj47 : List Loc) (Xj47 : Stand p l e room_1 s m #[(.int p0), (.int p1), (.int p2), (.int p3), (.int p4), (.int p5)] below meth c Tj47 Lj47 3 12) (ej47 : Tj47.heap = T29.heap) (Nj47 : Fr n0 Lj47) (v46 : Int32), (if v37 = v39 then (if v37 = v41 then (1 : Int32) else (0 : Int32)) else (0 : Int32)) = v46 → Ends p e below s 16 128 (Q0 Z p0 p1 p2 p3 p4 p5  h0 n0) (Tj47.setTop (mkF m 183 #[.val (.int p0), .val (.int p1), .val (.int p2), .val (.int p3), .val (.int p4), .val (.int p5), .val (.int v1), .val (.int v3), .val (.int v6), .val (.int v9), .val (.int v12), .val (.int v17), .val (.ref b19), .val (.ref b26), .val (.ref b28), .val (.int v37), .val (.int v39), .val (.int v41), .val (.int v43), .unset, .unset] [(.int v46)])) := by
              intro Tj47 Lj47 Xj47 ej47 Nj47 v46 hv46
              refine Ends.via (fun _ k => XS.istore Xj47.here hx rfl (hb hby at_183) rfl (l' := #[.val (.int p0), .val (.int p1), .val (.int p2), .val (.int p3), .val (.int p4), .val (.int p5), .val (.int v1), .val (.int v3), .val (.int v6), .val (.int v9), .val (.int v12), .val (.int v17), .val (.ref b19), .val (.ref b26), .val (.ref b28), .val (.int v37), .val (.int v39), .val (.int v41), .val (.int v43), .val (.int v46), .unset]) rfl k) ?_
              show Ends p e below s 16 128 (Q0 Z p0 p1 p2 p3 p4 p5  h0 n0) (Tj47.setTop (mkF m 185 #[.val (.int p0), .val (.int p1), .val (.int p2), .val (.int p3), .val (.int p4), .val (.int p5), .val (.int v1), .val (.int v3), .val (.int v6), .val (.int v9), .val (.int v12), .val (.int v17), .val (.ref b19), .val (.ref b26), .val (.ref b28), .val (.int v37), .val (.int v39), .val (.int v41), .val (.int v43), .val (.int v46), .unset] []))
              refine Ends.via (fun _ k => XS.iload Xj47.here hx rfl (hb hby at_185) rfl k) ?_
              show Ends p e below s 16 128 (Q0 Z p0 p1 p2 p3 p4 p5  h0 n0) (Tj47.setTop (mkF m 187 #[.val (.int p0), .val (.int p1), .val (.int p2), .val (.int p3), .val (.int p4), .val (.int p5), .val (.int v1), .val (.int v3), .val (.int v6), .val (.int v9), .val (.int v12), .val (.int v17), .val (.ref b19), .val (.ref b26), .val (.ref b28), .val (.int v37), .val (.int v39), .val (.int v41), .val (.int v43), .val (.int v46), .unset] [(.int v37)]))
              refine Ends.via (fun _ k => XS.iload Xj47.here hx rfl (hb hby at_187) rfl k) ?_
              show Ends p e below s 16 128 (Q0 Z p0 p1 p2 p3 p4 p5  h0 n0) (Tj47.setTop (mkF m 189 #[.val (.int p0), .val (.int p1), .val (.int p2), .val (.int p3), .val (.int p4), .val (.int p5), .val (.int v1), .val (.int v3), .val (.int v6), .val (.int v9), .val (.int v12), .val (.int v17), .val (.ref b19), .val (.ref b26), .val (.ref b28), .val (.int v37), .val (.int v39), .val (.int v41), .val (.int v43), .val (.int v46), .unset] [(.int v43), (.int v37)]))
              have J50 : ∀ (Tj50 : State) (Lj50 : List Loc) (Xj50 : Stand p l e room_1 s m #[(.int p0), (.int p1), (.int p2), (.int p3), (.int p4), (.int p5)] below meth c Tj50 Lj50 3 12) (ej50 : Tj50.heap = T29.heap) (Nj50 : Fr n0 Lj50) (v49 : Int32), (if v37 = v43 then (1 : Int32) else (0 : Int32)) = v49 → Ends p e below s 16 128 (Q0 Z p0 p1 p2 p3 p4 p5  h0 n0) (Tj50.setTop (mkF m 197 #[.val (.int p0), .val (.int p1), .val (.int p2), .val (.int p3), .val (.int p4), .val (.int p5), .val (.int v1), .val (.int v3), .val (.int v6), .val (.int v9), .val (.int v12), .val (.int v17), .val (.ref b19), .val (.ref b26), .val (.ref b28), .val (.int v37), .val (.int v39), .val (.int v41), .val (.int v43), .val (.int v46), .unset] [(.int v49)])) := by
                intro Tj50 Lj50 Xj50 ej50 Nj50 v49 hv49
                refine Ends.via (fun _ k => XS.iload Xj50.here hx rfl (hb hby at_197) rfl k) ?_
                show Ends p e below s 16 128 (Q0 Z p0 p1 p2 p3 p4 p5  h0 n0) (Tj50.setTop (mkF m 199 #[.val (.int p0), .val (.int p1), .val (.int p2), .val (.int p3), .val (.int p4), .val (.int p5), .val (.int v1), .val (.int v3), .val (.int v6), .val (.int v9), .val (.int v12), .val (.int v17), .val (.ref b19), .val (.ref b26), .val (.ref b28), .val (.int v37), .val (.int v39), .val (.int v41), .val (.int v43), .val (.int v46), .unset] [(.int v17), (.int v49)]))
                refine Ends.via (fun _ k => XS.iload Xj50.here hx rfl (hb hby at_199) rfl k) ?_
                show Ends p e below s 16 128 (Q0 Z p0 p1 p2 p3 p4 p5  h0 n0) (Tj50.setTop (mkF m 201 #[.val (.int p0), .val (.int p1), .val (.int p2), .val (.int p3), .val (.int p4), .val (.int p5), .val (.int v1), .val (.int v3), .val (.int v6), .val (.int v9), .val (.int v12), .val (.int v17), .val (.ref b19), .val (.ref b26), .val (.ref b28), .val (.int v37), .val (.int v39), .val (.int v41), .val (.int v43), .val (.int v46), .unset] [(.int p5), (.int v17), (.int v49)]))
                have J53 : ∀ (Tj53 : State) (Lj53 : List Loc) (Xj53 : Stand p l e room_1 s m #[(.int p0), (.int p1), (.int p2), (.int p3), (.int p4), (.int p5)] below meth c Tj53 Lj53 3 12) (ej53 : Tj53.heap = T29.heap) (Nj53 : Fr n0 Lj53) (v52 : Int32), (if v17 = p5 then (1 : Int32) else (0 : Int32)) = v52 → Ends p e below s 16 128 (Q0 Z p0 p1 p2 p3 p4 p5  h0 n0) (Tj53.setTop (mkF m 209 #[.val (.int p0), .val (.int p1), .val (.int p2), .val (.int p3), .val (.int p4), .val (.int p5), .val (.int v1), .val (.int v3), .val (.int v6), .val (.int v9), .val (.int v12), .val (.int v17), .val (.ref b19), .val (.ref b26), .val (.ref b28), .val (.int v37), .val (.int v39), .val (.int v41), .val (.int v43), .val (.int v46), .unset] [(.int v52), (.int v49)])) := by
                  intro Tj53 Lj53 Xj53 ej53 Nj53 v52 hv52
                  have J56 : ∀ (Tj56 : State) (Lj56 : List Loc) (Xj56 : Stand p l e room_1 s m #[(.int p0), (.int p1), (.int p2), (.int p3), (.int p4), (.int p5)] below meth c Tj56 Lj56 3 12) (ej56 : Tj56.heap = T29.heap) (Nj56 : Fr n0 Lj56) (v55 : Int32), (if v49 = v52 then (1 : Int32) else (0 : Int32)) = v55 → Ends p e below s 16 128 (Q0 Z p0 p1 p2 p3 p4 p5  h0 n0) (Tj56.setTop (mkF m 217 #[.val (.int p0), .val (.int p1), .val (.int p2), .val (.int p3), .val (.int p4), .val (.int p5), .val (.int v1), .val (.int v3), .val (.int v6), .val (.int v9), .val (.int v12), .val (.int v17), .val (.ref b19), .val (.ref b26), .val (.ref b28), .val (.int v37), .val (.int v39), .val (.int v41), .val (.int v43), .val (.int v46), .unset] [(.int v55)])) := by
                    intro Tj56 Lj56 Xj56 ej56 Nj56 v55 hv55
                    refine Ends.via (fun _ k => XS.istore Xj56.here hx rfl (hb hby at_217) rfl (l' := #[.val (.int p0), .val (.int p1), .val (.int p2), .val (.int p3), .val (.int p4), .val (.int p5), .val (.int v1), .val (.int v3), .val (.int v6), .val (.int v9), .val (.int v12), .val (.int v17), .val (.ref b19), .val (.ref b26), .val (.ref b28), .val (.int v37), .val (.int v39), .val (.int v41), .val (.int v43), .val (.int v46), .val (.int v55)]) rfl k) ?_
                    show Ends p e below s 16 128 (Q0 Z p0 p1 p2 p3 p4 p5  h0 n0) (Tj56.setTop (mkF m 219 #[.val (.int p0), .val (.int p1), .val (.int p2), .val (.int p3), .val (.int p4), .val (.int p5), .val (.int v1), .val (.int v3), .val (.int v6), .val (.int v9), .val (.int v12), .val (.int v17), .val (.ref b19), .val (.ref b26), .val (.ref b28), .val (.int v37), .val (.int v39), .val (.int v41), .val (.int v43), .val (.int v46), .val (.int v55)] []))
                    refine Ends.via (fun _ k => XS.iload Xj56.here hx rfl (hb hby at_219) rfl k) ?_
                    show Ends p e below s 16 128 (Q0 Z p0 p1 p2 p3 p4 p5  h0 n0) (Tj56.setTop (mkF m 221 #[.val (.int p0), .val (.int p1), .val (.int p2), .val (.int p3), .val (.int p4), .val (.int p5), .val (.int v1), .val (.int v3), .val (.int v6), .val (.int v9), .val (.int v12), .val (.int v17), .val (.ref b19), .val (.ref b26), .val (.ref b28), .val (.int v37), .val (.int v39), .val (.int v41), .val (.int v43), .val (.int v46), .val (.int v55)] [(.int v46)]))
                    by_cases hc57 : v46 = (0 : Int32)
                    · refine Ends.via (fun _ k => XS.ifYes Xj56.here hx rfl (pc0 := 221) (pc' := 233) rfl (hb hby at_221) rfl ((if0 _ _).trans (teq hc57).1) (by decide) (by decide) k) ?_
                      show Ends p e below s 16 128 (Q0 Z p0 p1 p2 p3 p4 p5  h0 n0) (Tj56.setTop (mkF m 233 #[.val (.int p0), .val (.int p1), .val (.int p2), .val (.int p3), .val (.int p4), .val (.int p5), .val (.int v1), .val (.int v3), .val (.int v6), .val (.int v9), .val (.int v12), .val (.int v17), .val (.ref b19), .val (.ref b26), .val (.ref b28), .val (.int v37), .val (.int v39), .val (.int v41), .val (.int v43), .val (.int v46), .val (.int v55)] []))
                      refine Ends.via (fun _ k => XS.iconst Xj56.here hx rfl (hb hby at_233) k) ?_
                      show Ends p e below s 16 128 (Q0 Z p0 p1 p2 p3 p4 p5  h0 n0) (Tj56.setTop (mkF m 234 #[.val (.int p0), .val (.int p1), .val (.int p2), .val (.int p3), .val (.int p4), .val (.int p5), .val (.int v1), .val (.int v3), .val (.int v6), .val (.int v9), .val (.int v12), .val (.int v17), .val (.ref b19), .val (.ref b26), .val (.ref b28), .val (.int v37), .val (.int v39), .val (.int v41), .val (.int v43), .val (.int v46), .val (.int v55)] [(.int (0 : Int32))]))
                      refine Ends.ret Xj56 (v := some (.int (nar .boolean (0 : Int32)))) (fun h => by rw [Bd.returns] at h; cases h) Bd.notSynchronized (fun fs hr => retN Xj56 hx (t := .boolean) Bd.returns (by simp) (hb hby at_234) hr) ?_ (by decide) (by decide)
                      exact absurd (own_leaf1 p0 p1 p2 p3 p4 p5 v1 v3 v6 v9 v12 v17 v37 v39 v41 v43 v46 v49 v52 v55 hv1 hv3 hv6 hv9 hv12 hv17 hv37 hv39 hv41 hv43 hv46 hv49 hv52 hv55 hc57) id
                    · refine Ends.via (fun _ k => XS.ifNo Xj56.here hx rfl (hb hby at_221) rfl ((if0 _ _).trans (feq hc57).1) k) ?_
                      show Ends p e below s 16 128 (Q0 Z p0 p1 p2 p3 p4 p5  h0 n0) (Tj56.setTop (mkF m 224 #[.val (.int p0), .val (.int p1), .val (.int p2), .val (.int p3), .val (.int p4), .val (.int p5), .val (.int v1), .val (.int v3), .val (.int v6), .val (.int v9), .val (.int v12), .val (.int v17), .val (.ref b19), .val (.ref b26), .val (.ref b28), .val (.int v37), .val (.int v39), .val (.int v41), .val (.int v43), .val (.int v46), .val (.int v55)] []))
                      refine Ends.via (fun _ k => XS.iload Xj56.here hx rfl (hb hby at_224) rfl k) ?_
                      show Ends p e below s 16 128 (Q0 Z p0 p1 p2 p3 p4 p5  h0 n0) (Tj56.setTop (mkF m 226 #[.val (.int p0), .val (.int p1), .val (.int p2), .val (.int p3), .val (.int p4), .val (.int p5), .val (.int v1), .val (.int v3), .val (.int v6), .val (.int v9), .val (.int v12), .val (.int v17), .val (.ref b19), .val (.ref b26), .val (.ref b28), .val (.int v37), .val (.int v39), .val (.int v41), .val (.int v43), .val (.int v46), .val (.int v55)] [(.int v55)]))
                      by_cases hc58 : v55 = (0 : Int32)
                      · refine Ends.via (fun _ k => XS.ifYes Xj56.here hx rfl (pc0 := 226) (pc' := 233) rfl (hb hby at_226) rfl ((if0 _ _).trans (teq hc58).1) (by decide) (by decide) k) ?_
                        show Ends p e below s 16 128 (Q0 Z p0 p1 p2 p3 p4 p5  h0 n0) (Tj56.setTop (mkF m 233 #[.val (.int p0), .val (.int p1), .val (.int p2), .val (.int p3), .val (.int p4), .val (.int p5), .val (.int v1), .val (.int v3), .val (.int v6), .val (.int v9), .val (.int v12), .val (.int v17), .val (.ref b19), .val (.ref b26), .val (.ref b28), .val (.int v37), .val (.int v39), .val (.int v41), .val (.int v43), .val (.int v46), .val (.int v55)] []))
                        refine Ends.via (fun _ k => XS.iconst Xj56.here hx rfl (hb hby at_233) k) ?_
                        show Ends p e below s 16 128 (Q0 Z p0 p1 p2 p3 p4 p5  h0 n0) (Tj56.setTop (mkF m 234 #[.val (.int p0), .val (.int p1), .val (.int p2), .val (.int p3), .val (.int p4), .val (.int p5), .val (.int v1), .val (.int v3), .val (.int v6), .val (.int v9), .val (.int v12), .val (.int v17), .val (.ref b19), .val (.ref b26), .val (.ref b28), .val (.int v37), .val (.int v39), .val (.int v41), .val (.int v43), .val (.int v46), .val (.int v55)] [(.int (0 : Int32))]))
                        refine Ends.ret Xj56 (v := some (.int (nar .boolean (0 : Int32)))) (fun h => by rw [Bd.returns] at h; cases h) Bd.notSynchronized (fun fs hr => retN Xj56 hx (t := .boolean) Bd.returns (by simp) (hb hby at_234) hr) ?_ (by decide) (by decide)
                        exact absurd (own_leaf2 p0 p1 p2 p3 p4 p5 v1 v3 v6 v9 v12 v17 v37 v39 v41 v43 v46 v49 v52 v55 hv1 hv3 hv6 hv9 hv12 hv17 hv37 hv39 hv41 hv43 hv46 hv49 hv52 hv55 hc57 hc58) id
                      · refine Ends.via (fun _ k => XS.ifNo Xj56.here hx rfl (hb hby at_226) rfl ((if0 _ _).trans (feq hc58).1) k) ?_
                        show Ends p e below s 16 128 (Q0 Z p0 p1 p2 p3 p4 p5  h0 n0) (Tj56.setTop (mkF m 229 #[.val (.int p0), .val (.int p1), .val (.int p2), .val (.int p3), .val (.int p4), .val (.int p5), .val (.int v1), .val (.int v3), .val (.int v6), .val (.int v9), .val (.int v12), .val (.int v17), .val (.ref b19), .val (.ref b26), .val (.ref b28), .val (.int v37), .val (.int v39), .val (.int v41), .val (.int v43), .val (.int v46), .val (.int v55)] []))
                        refine Ends.via (fun _ k => XS.iconst Xj56.here hx rfl (hb hby at_229) k) ?_
                        show Ends p e below s 16 128 (Q0 Z p0 p1 p2 p3 p4 p5  h0 n0) (Tj56.setTop (mkF m 230 #[.val (.int p0), .val (.int p1), .val (.int p2), .val (.int p3), .val (.int p4), .val (.int p5), .val (.int v1), .val (.int v3), .val (.int v6), .val (.int v9), .val (.int v12), .val (.int v17), .val (.ref b19), .val (.ref b26), .val (.ref b28), .val (.int v37), .val (.int v39), .val (.int v41), .val (.int v43), .val (.int v46), .val (.int v55)] [(.int (1 : Int32))]))
                        refine Ends.via (fun _ k => XS.goto Xj56.here hx rfl (pc0 := 230) (pc' := 234) rfl (hb hby at_230) (by decide) (by decide) k) ?_
                        show Ends p e below s 16 128 (Q0 Z p0 p1 p2 p3 p4 p5  h0 n0) (Tj56.setTop (mkF m 234 #[.val (.int p0), .val (.int p1), .val (.int p2), .val (.int p3), .val (.int p4), .val (.int p5), .val (.int v1), .val (.int v3), .val (.int v6), .val (.int v9), .val (.int v12), .val (.int v17), .val (.ref b19), .val (.ref b26), .val (.ref b28), .val (.int v37), .val (.int v39), .val (.int v41), .val (.int v43), .val (.int v46), .val (.int v55)] [(.int (1 : Int32))]))
                        refine Ends.ret Xj56 (v := some (.int (nar .boolean (1 : Int32)))) (fun h => by rw [Bd.returns] at h; cases h) Bd.notSynchronized (fun fs hr => retN Xj56 hx (t := .boolean) Bd.returns (by simp) (hb hby at_234) hr) ?_ (by decide) (by decide)
                        exact ⟨rfl, Nj56⟩
                  by_cases hc59 : v49 = v52
                  · refine Ends.via (fun _ k => XS.icmpNo Xj53.here hx rfl (hb hby at_209) rfl (teq hc59).2 k) ?_
                    show Ends p e below s 16 128 (Q0 Z p0 p1 p2 p3 p4 p5  h0 n0) (Tj53.setTop (mkF m 212 #[.val (.int p0), .val (.int p1), .val (.int p2), .val (.int p3), .val (.int p4), .val (.int p5), .val (.int v1), .val (.int v3), .val (.int v6), .val (.int v9), .val (.int v12), .val (.int v17), .val (.ref b19), .val (.ref b26), .val (.ref b28), .val (.int v37), .val (.int v39), .val (.int v41), .val (.int v43), .val (.int v46), .unset] []))
                    refine Ends.via (fun _ k => XS.iconst Xj53.here hx rfl (hb hby at_212) k) ?_
                    show Ends p e below s 16 128 (Q0 Z p0 p1 p2 p3 p4 p5  h0 n0) (Tj53.setTop (mkF m 213 #[.val (.int p0), .val (.int p1), .val (.int p2), .val (.int p3), .val (.int p4), .val (.int p5), .val (.int v1), .val (.int v3), .val (.int v6), .val (.int v9), .val (.int v12), .val (.int v17), .val (.ref b19), .val (.ref b26), .val (.ref b28), .val (.int v37), .val (.int v39), .val (.int v41), .val (.int v43), .val (.int v46), .unset] [(.int (1 : Int32))]))
                    refine Ends.via (fun _ k => XS.goto Xj53.here hx rfl (pc0 := 213) (pc' := 217) rfl (hb hby at_213) (by decide) (by decide) k) ?_
                    show Ends p e below s 16 128 (Q0 Z p0 p1 p2 p3 p4 p5  h0 n0) (Tj53.setTop (mkF m 217 #[.val (.int p0), .val (.int p1), .val (.int p2), .val (.int p3), .val (.int p4), .val (.int p5), .val (.int v1), .val (.int v3), .val (.int v6), .val (.int v9), .val (.int v12), .val (.int v17), .val (.ref b19), .val (.ref b26), .val (.ref b28), .val (.int v37), .val (.int v39), .val (.int v41), .val (.int v43), .val (.int v46), .unset] [(.int (1 : Int32))]))
                    exact J56 Tj53 _ Xj53 ej53 Nj53 (1 : Int32) (by first | rfl | simp only [if_pos hc59])
                  · refine Ends.via (fun _ k => XS.icmpYes Xj53.here hx rfl (pc0 := 209) (pc' := 216) rfl (hb hby at_209) rfl (feq hc59).2 (by decide) (by decide) k) ?_
                    show Ends p e below s 16 128 (Q0 Z p0 p1 p2 p3 p4 p5  h0 n0) (Tj53.setTop (mkF m 216 #[.val (.int p0), .val (.int p1), .val (.int p2), .val (.int p3), .val (.int p4), .val (.int p5), .val (.int v1), .val (.int v3), .val (.int v6), .val (.int v9), .val (.int v12), .val (.int v17), .val (.ref b19), .val (.ref b26), .val (.ref b28), .val (.int v37), .val (.int v39), .val (.int v41), .val (.int v43), .val (.int v46), .unset] []))
                    refine Ends.via (fun _ k => XS.iconst Xj53.here hx rfl (hb hby at_216) k) ?_
                    show Ends p e below s 16 128 (Q0 Z p0 p1 p2 p3 p4 p5  h0 n0) (Tj53.setTop (mkF m 217 #[.val (.int p0), .val (.int p1), .val (.int p2), .val (.int p3), .val (.int p4), .val (.int p5), .val (.int v1), .val (.int v3), .val (.int v6), .val (.int v9), .val (.int v12), .val (.int v17), .val (.ref b19), .val (.ref b26), .val (.ref b28), .val (.int v37), .val (.int v39), .val (.int v41), .val (.int v43), .val (.int v46), .unset] [(.int (0 : Int32))]))
                    exact J56 Tj53 _ Xj53 ej53 Nj53 (0 : Int32) (by first | rfl | simp only [if_neg hc59])
                by_cases hc60 : v17 = p5
                · refine Ends.via (fun _ k => XS.icmpNo Xj50.here hx rfl (hb hby at_201) rfl (teq hc60).2 k) ?_
                  show Ends p e below s 16 128 (Q0 Z p0 p1 p2 p3 p4 p5  h0 n0) (Tj50.setTop (mkF m 204 #[.val (.int p0), .val (.int p1), .val (.int p2), .val (.int p3), .val (.int p4), .val (.int p5), .val (.int v1), .val (.int v3), .val (.int v6), .val (.int v9), .val (.int v12), .val (.int v17), .val (.ref b19), .val (.ref b26), .val (.ref b28), .val (.int v37), .val (.int v39), .val (.int v41), .val (.int v43), .val (.int v46), .unset] [(.int v49)]))
                  refine Ends.via (fun _ k => XS.iconst Xj50.here hx rfl (hb hby at_204) k) ?_
                  show Ends p e below s 16 128 (Q0 Z p0 p1 p2 p3 p4 p5  h0 n0) (Tj50.setTop (mkF m 205 #[.val (.int p0), .val (.int p1), .val (.int p2), .val (.int p3), .val (.int p4), .val (.int p5), .val (.int v1), .val (.int v3), .val (.int v6), .val (.int v9), .val (.int v12), .val (.int v17), .val (.ref b19), .val (.ref b26), .val (.ref b28), .val (.int v37), .val (.int v39), .val (.int v41), .val (.int v43), .val (.int v46), .unset] [(.int (1 : Int32)), (.int v49)]))
                  refine Ends.via (fun _ k => XS.goto Xj50.here hx rfl (pc0 := 205) (pc' := 209) rfl (hb hby at_205) (by decide) (by decide) k) ?_
                  show Ends p e below s 16 128 (Q0 Z p0 p1 p2 p3 p4 p5  h0 n0) (Tj50.setTop (mkF m 209 #[.val (.int p0), .val (.int p1), .val (.int p2), .val (.int p3), .val (.int p4), .val (.int p5), .val (.int v1), .val (.int v3), .val (.int v6), .val (.int v9), .val (.int v12), .val (.int v17), .val (.ref b19), .val (.ref b26), .val (.ref b28), .val (.int v37), .val (.int v39), .val (.int v41), .val (.int v43), .val (.int v46), .unset] [(.int (1 : Int32)), (.int v49)]))
                  exact J53 Tj50 _ Xj50 ej50 Nj50 (1 : Int32) (by first | rfl | simp only [if_pos hc60])
                · refine Ends.via (fun _ k => XS.icmpYes Xj50.here hx rfl (pc0 := 201) (pc' := 208) rfl (hb hby at_201) rfl (feq hc60).2 (by decide) (by decide) k) ?_
                  show Ends p e below s 16 128 (Q0 Z p0 p1 p2 p3 p4 p5  h0 n0) (Tj50.setTop (mkF m 208 #[.val (.int p0), .val (.int p1), .val (.int p2), .val (.int p3), .val (.int p4), .val (.int p5), .val (.int v1), .val (.int v3), .val (.int v6), .val (.int v9), .val (.int v12), .val (.int v17), .val (.ref b19), .val (.ref b26), .val (.ref b28), .val (.int v37), .val (.int v39), .val (.int v41), .val (.int v43), .val (.int v46), .unset] [(.int v49)]))
                  refine Ends.via (fun _ k => XS.iconst Xj50.here hx rfl (hb hby at_208) k) ?_
                  show Ends p e below s 16 128 (Q0 Z p0 p1 p2 p3 p4 p5  h0 n0) (Tj50.setTop (mkF m 209 #[.val (.int p0), .val (.int p1), .val (.int p2), .val (.int p3), .val (.int p4), .val (.int p5), .val (.int v1), .val (.int v3), .val (.int v6), .val (.int v9), .val (.int v12), .val (.int v17), .val (.ref b19), .val (.ref b26), .val (.ref b28), .val (.int v37), .val (.int v39), .val (.int v41), .val (.int v43), .val (.int v46), .unset] [(.int (0 : Int32)), (.int v49)]))
                  exact J53 Tj50 _ Xj50 ej50 Nj50 (0 : Int32) (by first | rfl | simp only [if_neg hc60])
              by_cases hc61 : v37 = v43
              · refine Ends.via (fun _ k => XS.icmpNo Xj47.here hx rfl (hb hby at_189) rfl (teq hc61).2 k) ?_
                show Ends p e below s 16 128 (Q0 Z p0 p1 p2 p3 p4 p5  h0 n0) (Tj47.setTop (mkF m 192 #[.val (.int p0), .val (.int p1), .val (.int p2), .val (.int p3), .val (.int p4), .val (.int p5), .val (.int v1), .val (.int v3), .val (.int v6), .val (.int v9), .val (.int v12), .val (.int v17), .val (.ref b19), .val (.ref b26), .val (.ref b28), .val (.int v37), .val (.int v39), .val (.int v41), .val (.int v43), .val (.int v46), .unset] []))
                refine Ends.via (fun _ k => XS.iconst Xj47.here hx rfl (hb hby at_192) k) ?_
                show Ends p e below s 16 128 (Q0 Z p0 p1 p2 p3 p4 p5  h0 n0) (Tj47.setTop (mkF m 193 #[.val (.int p0), .val (.int p1), .val (.int p2), .val (.int p3), .val (.int p4), .val (.int p5), .val (.int v1), .val (.int v3), .val (.int v6), .val (.int v9), .val (.int v12), .val (.int v17), .val (.ref b19), .val (.ref b26), .val (.ref b28), .val (.int v37), .val (.int v39), .val (.int v41), .val (.int v43), .val (.int v46), .unset] [(.int (1 : Int32))]))
                refine Ends.via (fun _ k => XS.goto Xj47.here hx rfl (pc0 := 193) (pc' := 197) rfl (hb hby at_193) (by decide) (by decide) k) ?_
                show Ends p e below s 16 128 (Q0 Z p0 p1 p2 p3 p4 p5  h0 n0) (Tj47.setTop (mkF m 197 #[.val (.int p0), .val (.int p1), .val (.int p2), .val (.int p3), .val (.int p4), .val (.int p5), .val (.int v1), .val (.int v3), .val (.int v6), .val (.int v9), .val (.int v12), .val (.int v17), .val (.ref b19), .val (.ref b26), .val (.ref b28), .val (.int v37), .val (.int v39), .val (.int v41), .val (.int v43), .val (.int v46), .unset] [(.int (1 : Int32))]))
                exact J50 Tj47 _ Xj47 ej47 Nj47 (1 : Int32) (by first | rfl | simp only [if_pos hc61])
              · refine Ends.via (fun _ k => XS.icmpYes Xj47.here hx rfl (pc0 := 189) (pc' := 196) rfl (hb hby at_189) rfl (feq hc61).2 (by decide) (by decide) k) ?_
                show Ends p e below s 16 128 (Q0 Z p0 p1 p2 p3 p4 p5  h0 n0) (Tj47.setTop (mkF m 196 #[.val (.int p0), .val (.int p1), .val (.int p2), .val (.int p3), .val (.int p4), .val (.int p5), .val (.int v1), .val (.int v3), .val (.int v6), .val (.int v9), .val (.int v12), .val (.int v17), .val (.ref b19), .val (.ref b26), .val (.ref b28), .val (.int v37), .val (.int v39), .val (.int v41), .val (.int v43), .val (.int v46), .unset] []))
                refine Ends.via (fun _ k => XS.iconst Xj47.here hx rfl (hb hby at_196) k) ?_
                show Ends p e below s 16 128 (Q0 Z p0 p1 p2 p3 p4 p5  h0 n0) (Tj47.setTop (mkF m 197 #[.val (.int p0), .val (.int p1), .val (.int p2), .val (.int p3), .val (.int p4), .val (.int p5), .val (.int v1), .val (.int v3), .val (.int v6), .val (.int v9), .val (.int v12), .val (.int v17), .val (.ref b19), .val (.ref b26), .val (.ref b28), .val (.int v37), .val (.int v39), .val (.int v41), .val (.int v43), .val (.int v46), .unset] [(.int (0 : Int32))]))
                exact J50 Tj47 _ Xj47 ej47 Nj47 (0 : Int32) (by first | rfl | simp only [if_neg hc61])
            by_cases hc62 : v37 = v39
            · refine Ends.via (fun _ k => XS.icmpNo X42.here hx rfl (hb hby at_168) rfl (teq hc62).2 k) ?_
              show Ends p e below s 16 128 (Q0 Z p0 p1 p2 p3 p4 p5  h0 n0) (T42.setTop (mkF m 171 #[.val (.int p0), .val (.int p1), .val (.int p2), .val (.int p3), .val (.int p4), .val (.int p5), .val (.int v1), .val (.int v3), .val (.int v6), .val (.int v9), .val (.int v12), .val (.int v17), .val (.ref b19), .val (.ref b26), .val (.ref b28), .val (.int v37), .val (.int v39), .val (.int v41), .val (.int v43), .unset, .unset] []))
              refine Ends.via (fun _ k => XS.iload X42.here hx rfl (hb hby at_171) rfl k) ?_
              show Ends p e below s 16 128 (Q0 Z p0 p1 p2 p3 p4 p5  h0 n0) (T42.setTop (mkF m 173 #[.val (.int p0), .val (.int p1), .val (.int p2), .val (.int p3), .val (.int p4), .val (.int p5), .val (.int v1), .val (.int v3), .val (.int v6), .val (.int v9), .val (.int v12), .val (.int v17), .val (.ref b19), .val (.ref b26), .val (.ref b28), .val (.int v37), .val (.int v39), .val (.int v41), .val (.int v43), .unset, .unset] [(.int v37)]))
              refine Ends.via (fun _ k => XS.iload X42.here hx rfl (hb hby at_173) rfl k) ?_
              show Ends p e below s 16 128 (Q0 Z p0 p1 p2 p3 p4 p5  h0 n0) (T42.setTop (mkF m 175 #[.val (.int p0), .val (.int p1), .val (.int p2), .val (.int p3), .val (.int p4), .val (.int p5), .val (.int v1), .val (.int v3), .val (.int v6), .val (.int v9), .val (.int v12), .val (.int v17), .val (.ref b19), .val (.ref b26), .val (.ref b28), .val (.int v37), .val (.int v39), .val (.int v41), .val (.int v43), .unset, .unset] [(.int v41), (.int v37)]))
              by_cases hc63 : v37 = v41
              · refine Ends.via (fun _ k => XS.icmpNo X42.here hx rfl (hb hby at_175) rfl (teq hc63).2 k) ?_
                show Ends p e below s 16 128 (Q0 Z p0 p1 p2 p3 p4 p5  h0 n0) (T42.setTop (mkF m 178 #[.val (.int p0), .val (.int p1), .val (.int p2), .val (.int p3), .val (.int p4), .val (.int p5), .val (.int v1), .val (.int v3), .val (.int v6), .val (.int v9), .val (.int v12), .val (.int v17), .val (.ref b19), .val (.ref b26), .val (.ref b28), .val (.int v37), .val (.int v39), .val (.int v41), .val (.int v43), .unset, .unset] []))
                refine Ends.via (fun _ k => XS.iconst X42.here hx rfl (hb hby at_178) k) ?_
                show Ends p e below s 16 128 (Q0 Z p0 p1 p2 p3 p4 p5  h0 n0) (T42.setTop (mkF m 179 #[.val (.int p0), .val (.int p1), .val (.int p2), .val (.int p3), .val (.int p4), .val (.int p5), .val (.int v1), .val (.int v3), .val (.int v6), .val (.int v9), .val (.int v12), .val (.int v17), .val (.ref b19), .val (.ref b26), .val (.ref b28), .val (.int v37), .val (.int v39), .val (.int v41), .val (.int v43), .unset, .unset] [(.int (1 : Int32))]))
                refine Ends.via (fun _ k => XS.goto X42.here hx rfl (pc0 := 179) (pc' := 183) rfl (hb hby at_179) (by decide) (by decide) k) ?_
                show Ends p e below s 16 128 (Q0 Z p0 p1 p2 p3 p4 p5  h0 n0) (T42.setTop (mkF m 183 #[.val (.int p0), .val (.int p1), .val (.int p2), .val (.int p3), .val (.int p4), .val (.int p5), .val (.int v1), .val (.int v3), .val (.int v6), .val (.int v9), .val (.int v12), .val (.int v17), .val (.ref b19), .val (.ref b26), .val (.ref b28), .val (.int v37), .val (.int v39), .val (.int v41), .val (.int v43), .unset, .unset] [(.int (1 : Int32))]))
                exact J47 T42 _ X42 e42 N42 (1 : Int32) (by first | rfl | simp only [if_pos hc62, if_pos hc63])
              · refine Ends.via (fun _ k => XS.icmpYes X42.here hx rfl (pc0 := 175) (pc' := 182) rfl (hb hby at_175) rfl (feq hc63).2 (by decide) (by decide) k) ?_
                show Ends p e below s 16 128 (Q0 Z p0 p1 p2 p3 p4 p5  h0 n0) (T42.setTop (mkF m 182 #[.val (.int p0), .val (.int p1), .val (.int p2), .val (.int p3), .val (.int p4), .val (.int p5), .val (.int v1), .val (.int v3), .val (.int v6), .val (.int v9), .val (.int v12), .val (.int v17), .val (.ref b19), .val (.ref b26), .val (.ref b28), .val (.int v37), .val (.int v39), .val (.int v41), .val (.int v43), .unset, .unset] []))
                refine Ends.via (fun _ k => XS.iconst X42.here hx rfl (hb hby at_182) k) ?_
                show Ends p e below s 16 128 (Q0 Z p0 p1 p2 p3 p4 p5  h0 n0) (T42.setTop (mkF m 183 #[.val (.int p0), .val (.int p1), .val (.int p2), .val (.int p3), .val (.int p4), .val (.int p5), .val (.int v1), .val (.int v3), .val (.int v6), .val (.int v9), .val (.int v12), .val (.int v17), .val (.ref b19), .val (.ref b26), .val (.ref b28), .val (.int v37), .val (.int v39), .val (.int v41), .val (.int v43), .unset, .unset] [(.int (0 : Int32))]))
                exact J47 T42 _ X42 e42 N42 (0 : Int32) (by first | rfl | simp only [if_pos hc62, if_neg hc63])
            · refine Ends.via (fun _ k => XS.icmpYes X42.here hx rfl (pc0 := 168) (pc' := 182) rfl (hb hby at_168) rfl (feq hc62).2 (by decide) (by decide) k) ?_
              show Ends p e below s 16 128 (Q0 Z p0 p1 p2 p3 p4 p5  h0 n0) (T42.setTop (mkF m 182 #[.val (.int p0), .val (.int p1), .val (.int p2), .val (.int p3), .val (.int p4), .val (.int p5), .val (.int v1), .val (.int v3), .val (.int v6), .val (.int v9), .val (.int v12), .val (.int v17), .val (.ref b19), .val (.ref b26), .val (.ref b28), .val (.int v37), .val (.int v39), .val (.int v41), .val (.int v43), .unset, .unset] []))
              refine Ends.via (fun _ k => XS.iconst X42.here hx rfl (hb hby at_182) k) ?_
              show Ends p e below s 16 128 (Q0 Z p0 p1 p2 p3 p4 p5  h0 n0) (T42.setTop (mkF m 183 #[.val (.int p0), .val (.int p1), .val (.int p2), .val (.int p3), .val (.int p4), .val (.int p5), .val (.int v1), .val (.int v3), .val (.int v6), .val (.int v9), .val (.int v12), .val (.int v17), .val (.ref b19), .val (.ref b26), .val (.ref b28), .val (.int v37), .val (.int v39), .val (.int v41), .val (.int v43), .unset, .unset] [(.int (0 : Int32))]))
              exact J47 T42 _ X42 e42 N42 (0 : Int32) (by first | rfl | simp only [if_neg hc62])
          by_cases hc64 : v1 = (0 : Int32)
          · refine Ends.via (fun _ k => XS.ifNo Xj13.here hx rfl (hb hby at_63) rfl ((if0 _ _).trans (teq hc64).2) k) ?_
            show Ends p e below s 16 128 (Q0 Z p0 p1 p2 p3 p4 p5  h0 n0) (Tj13.setTop (mkF m 66 #[.val (.int p0), .val (.int p1), .val (.int p2), .val (.int p3), .val (.int p4), .val (.int p5), .val (.int v1), .val (.int v3), .val (.int v6), .val (.int v9), .val (.int v12), .unset, .unset, .unset, .unset, .unset, .unset, .unset, .unset, .unset, .unset] []))
            refine Ends.via (fun _ k => XS.iloadN Xj13.here hx rfl (hb hby at_66) rfl k) ?_
            show Ends p e below s 16 128 (Q0 Z p0 p1 p2 p3 p4 p5  h0 n0) (Tj13.setTop (mkF m 67 #[.val (.int p0), .val (.int p1), .val (.int p2), .val (.int p3), .val (.int p4), .val (.int p5), .val (.int v1), .val (.int v3), .val (.int v6), .val (.int v9), .val (.int v12), .unset, .unset, .unset, .unset, .unset, .unset, .unset, .unset, .unset, .unset] [(.int p0)]))
            refine Ends.via (fun _ k => XS.goto Xj13.here hx rfl (pc0 := 67) (pc' := 91) rfl (hb hby at_67) (by decide) (by decide) k) ?_
            show Ends p e below s 16 128 (Q0 Z p0 p1 p2 p3 p4 p5  h0 n0) (Tj13.setTop (mkF m 91 #[.val (.int p0), .val (.int p1), .val (.int p2), .val (.int p3), .val (.int p4), .val (.int p5), .val (.int v1), .val (.int v3), .val (.int v6), .val (.int v9), .val (.int v12), .unset, .unset, .unset, .unset, .unset, .unset, .unset, .unset, .unset, .unset] [(.int p0)]))
            exact J18 Tj13 _ Xj13 ej13 Nj13 p0 (by first | rfl | simp only [if_pos hc64])
          · refine Ends.via (fun _ k => XS.ifYes Xj13.here hx rfl (pc0 := 63) (pc' := 70) rfl (hb hby at_63) rfl ((if0 _ _).trans (feq hc64).2) (by decide) (by decide) k) ?_
            show Ends p e below s 16 128 (Q0 Z p0 p1 p2 p3 p4 p5  h0 n0) (Tj13.setTop (mkF m 70 #[.val (.int p0), .val (.int p1), .val (.int p2), .val (.int p3), .val (.int p4), .val (.int p5), .val (.int v1), .val (.int v3), .val (.int v6), .val (.int v9), .val (.int v12), .unset, .unset, .unset, .unset, .unset, .unset, .unset, .unset, .unset, .unset] []))
            refine Ends.via (fun _ k => XS.iload Xj13.here hx rfl (hb hby at_70) rfl k) ?_
            show Ends p e below s 16 128 (Q0 Z p0 p1 p2 p3 p4 p5  h0 n0) (Tj13.setTop (mkF m 72 #[.val (.int p0), .val (.int p1), .val (.int p2), .val (.int p3), .val (.int p4), .val (.int p5), .val (.int v1), .val (.int v3), .val (.int v6), .val (.int v9), .val (.int v12), .unset, .unset, .unset, .unset, .unset, .unset, .unset, .unset, .unset, .unset] [(.int v1)]))
            refine Ends.via (fun _ k => XS.iconst Xj13.here hx rfl (hb hby at_72) k) ?_
            show Ends p e below s 16 128 (Q0 Z p0 p1 p2 p3 p4 p5  h0 n0) (Tj13.setTop (mkF m 73 #[.val (.int p0), .val (.int p1), .val (.int p2), .val (.int p3), .val (.int p4), .val (.int p5), .val (.int v1), .val (.int v3), .val (.int v6), .val (.int v9), .val (.int v12), .unset, .unset, .unset, .unset, .unset, .unset, .unset, .unset, .unset, .unset] [(.int (1 : Int32)), (.int v1)]))
            by_cases hc65 : v1 = (1 : Int32)
            · refine Ends.via (fun _ k => XS.icmpNo Xj13.here hx rfl (hb hby at_73) rfl (teq hc65).2 k) ?_
              show Ends p e below s 16 128 (Q0 Z p0 p1 p2 p3 p4 p5  h0 n0) (Tj13.setTop (mkF m 76 #[.val (.int p0), .val (.int p1), .val (.int p2), .val (.int p3), .val (.int p4), .val (.int p5), .val (.int v1), .val (.int v3), .val (.int v6), .val (.int v9), .val (.int v12), .unset, .unset, .unset, .unset, .unset, .unset, .unset, .unset, .unset, .unset] []))
              refine Ends.via (fun _ k => XS.iloadN Xj13.here hx rfl (hb hby at_76) rfl k) ?_
              show Ends p e below s 16 128 (Q0 Z p0 p1 p2 p3 p4 p5  h0 n0) (Tj13.setTop (mkF m 77 #[.val (.int p0), .val (.int p1), .val (.int p2), .val (.int p3), .val (.int p4), .val (.int p5), .val (.int v1), .val (.int v3), .val (.int v6), .val (.int v9), .val (.int v12), .unset, .unset, .unset, .unset, .unset, .unset, .unset, .unset, .unset, .unset] [(.int p1)]))
              refine Ends.via (fun _ k => XS.goto Xj13.here hx rfl (pc0 := 77) (pc' := 91) rfl (hb hby at_77) (by decide) (by decide) k) ?_
              show Ends p e below s 16 128 (Q0 Z p0 p1 p2 p3 p4 p5  h0 n0) (Tj13.setTop (mkF m 91 #[.val (.int p0), .val (.int p1), .val (.int p2), .val (.int p3), .val (.int p4), .val (.int p5), .val (.int v1), .val (.int v3), .val (.int v6), .val (.int v9), .val (.int v12), .unset, .unset, .unset, .unset, .unset, .unset, .unset, .unset, .unset, .unset] [(.int p1)]))
              exact J18 Tj13 _ Xj13 ej13 Nj13 p1 (by first | rfl | simp only [if_neg hc64, if_pos hc65])
            · refine Ends.via (fun _ k => XS.icmpYes Xj13.here hx rfl (pc0 := 73) (pc' := 80) rfl (hb hby at_73) rfl (feq hc65).2 (by decide) (by decide) k) ?_
              show Ends p e below s 16 128 (Q0 Z p0 p1 p2 p3 p4 p5  h0 n0) (Tj13.setTop (mkF m 80 #[.val (.int p0), .val (.int p1), .val (.int p2), .val (.int p3), .val (.int p4), .val (.int p5), .val (.int v1), .val (.int v3), .val (.int v6), .val (.int v9), .val (.int v12), .unset, .unset, .unset, .unset, .unset, .unset, .unset, .unset, .unset, .unset] []))
              refine Ends.via (fun _ k => XS.iload Xj13.here hx rfl (hb hby at_80) rfl k) ?_
              show Ends p e below s 16 128 (Q0 Z p0 p1 p2 p3 p4 p5  h0 n0) (Tj13.setTop (mkF m 82 #[.val (.int p0), .val (.int p1), .val (.int p2), .val (.int p3), .val (.int p4), .val (.int p5), .val (.int v1), .val (.int v3), .val (.int v6), .val (.int v9), .val (.int v12), .unset, .unset, .unset, .unset, .unset, .unset, .unset, .unset, .unset, .unset] [(.int v1)]))
              refine Ends.via (fun _ k => XS.iconst Xj13.here hx rfl (hb hby at_82) k) ?_
              show Ends p e below s 16 128 (Q0 Z p0 p1 p2 p3 p4 p5  h0 n0) (Tj13.setTop (mkF m 83 #[.val (.int p0), .val (.int p1), .val (.int p2), .val (.int p3), .val (.int p4), .val (.int p5), .val (.int v1), .val (.int v3), .val (.int v6), .val (.int v9), .val (.int v12), .unset, .unset, .unset, .unset, .unset, .unset, .unset, .unset, .unset, .unset] [(.int (2 : Int32)), (.int v1)]))
              by_cases hc66 : v1 = (2 : Int32)
              · refine Ends.via (fun _ k => XS.icmpNo Xj13.here hx rfl (hb hby at_83) rfl (teq hc66).2 k) ?_
                show Ends p e below s 16 128 (Q0 Z p0 p1 p2 p3 p4 p5  h0 n0) (Tj13.setTop (mkF m 86 #[.val (.int p0), .val (.int p1), .val (.int p2), .val (.int p3), .val (.int p4), .val (.int p5), .val (.int v1), .val (.int v3), .val (.int v6), .val (.int v9), .val (.int v12), .unset, .unset, .unset, .unset, .unset, .unset, .unset, .unset, .unset, .unset] []))
                refine Ends.via (fun _ k => XS.iloadN Xj13.here hx rfl (hb hby at_86) rfl k) ?_
                show Ends p e below s 16 128 (Q0 Z p0 p1 p2 p3 p4 p5  h0 n0) (Tj13.setTop (mkF m 87 #[.val (.int p0), .val (.int p1), .val (.int p2), .val (.int p3), .val (.int p4), .val (.int p5), .val (.int v1), .val (.int v3), .val (.int v6), .val (.int v9), .val (.int v12), .unset, .unset, .unset, .unset, .unset, .unset, .unset, .unset, .unset, .unset] [(.int p2)]))
                refine Ends.via (fun _ k => XS.goto Xj13.here hx rfl (pc0 := 87) (pc' := 91) rfl (hb hby at_87) (by decide) (by decide) k) ?_
                show Ends p e below s 16 128 (Q0 Z p0 p1 p2 p3 p4 p5  h0 n0) (Tj13.setTop (mkF m 91 #[.val (.int p0), .val (.int p1), .val (.int p2), .val (.int p3), .val (.int p4), .val (.int p5), .val (.int v1), .val (.int v3), .val (.int v6), .val (.int v9), .val (.int v12), .unset, .unset, .unset, .unset, .unset, .unset, .unset, .unset, .unset, .unset] [(.int p2)]))
                exact J18 Tj13 _ Xj13 ej13 Nj13 p2 (by first | rfl | simp only [if_neg hc64, if_neg hc65, if_pos hc66])
              · refine Ends.via (fun _ k => XS.icmpYes Xj13.here hx rfl (pc0 := 83) (pc' := 90) rfl (hb hby at_83) rfl (feq hc66).2 (by decide) (by decide) k) ?_
                show Ends p e below s 16 128 (Q0 Z p0 p1 p2 p3 p4 p5  h0 n0) (Tj13.setTop (mkF m 90 #[.val (.int p0), .val (.int p1), .val (.int p2), .val (.int p3), .val (.int p4), .val (.int p5), .val (.int v1), .val (.int v3), .val (.int v6), .val (.int v9), .val (.int v12), .unset, .unset, .unset, .unset, .unset, .unset, .unset, .unset, .unset, .unset] []))
                refine Ends.via (fun _ k => XS.iloadN Xj13.here hx rfl (hb hby at_90) rfl k) ?_
                show Ends p e below s 16 128 (Q0 Z p0 p1 p2 p3 p4 p5  h0 n0) (Tj13.setTop (mkF m 91 #[.val (.int p0), .val (.int p1), .val (.int p2), .val (.int p3), .val (.int p4), .val (.int p5), .val (.int v1), .val (.int v3), .val (.int v6), .val (.int v9), .val (.int v12), .unset, .unset, .unset, .unset, .unset, .unset, .unset, .unset, .unset, .unset] [(.int p3)]))
                exact J18 Tj13 _ Xj13 ej13 Nj13 p3 (by first | rfl | simp only [if_neg hc64, if_neg hc65, if_neg hc66])
        by_cases hc67 : v1 = (3 : Int32)
        · refine Ends.via (fun _ k => XS.icmpNo Xj10.here hx rfl (hb hby at_50) rfl (teq hc67).2 k) ?_
          show Ends p e below s 16 128 (Q0 Z p0 p1 p2 p3 p4 p5  h0 n0) (Tj10.setTop (mkF m 53 #[.val (.int p0), .val (.int p1), .val (.int p2), .val (.int p3), .val (.int p4), .val (.int p5), .val (.int v1), .val (.int v3), .val (.int v6), .val (.int v9), .unset, .unset, .unset, .unset, .unset, .unset, .unset, .unset, .unset, .unset, .unset] []))
          refine Ends.via (fun _ k => XS.iload Xj10.here hx rfl (hb hby at_53) rfl k) ?_
          show Ends p e below s 16 128 (Q0 Z p0 p1 p2 p3 p4 p5  h0 n0) (Tj10.setTop (mkF m 55 #[.val (.int p0), .val (.int p1), .val (.int p2), .val (.int p3), .val (.int p4), .val (.int p5), .val (.int v1), .val (.int v3), .val (.int v6), .val (.int v9), .unset, .unset, .unset, .unset, .unset, .unset, .unset, .unset, .unset, .unset, .unset] [(.int p5)]))
          refine Ends.via (fun _ k => XS.goto Xj10.here hx rfl (pc0 := 55) (pc' := 59) rfl (hb hby at_55) (by decide) (by decide) k) ?_
          show Ends p e below s 16 128 (Q0 Z p0 p1 p2 p3 p4 p5  h0 n0) (Tj10.setTop (mkF m 59 #[.val (.int p0), .val (.int p1), .val (.int p2), .val (.int p3), .val (.int p4), .val (.int p5), .val (.int v1), .val (.int v3), .val (.int v6), .val (.int v9), .unset, .unset, .unset, .unset, .unset, .unset, .unset, .unset, .unset, .unset, .unset] [(.int p5)]))
          exact J13 Tj10 _ Xj10 ej10 Nj10 p5 (by first | rfl | simp only [if_pos hc67])
        · refine Ends.via (fun _ k => XS.icmpYes Xj10.here hx rfl (pc0 := 50) (pc' := 58) rfl (hb hby at_50) rfl (feq hc67).2 (by decide) (by decide) k) ?_
          show Ends p e below s 16 128 (Q0 Z p0 p1 p2 p3 p4 p5  h0 n0) (Tj10.setTop (mkF m 58 #[.val (.int p0), .val (.int p1), .val (.int p2), .val (.int p3), .val (.int p4), .val (.int p5), .val (.int v1), .val (.int v3), .val (.int v6), .val (.int v9), .unset, .unset, .unset, .unset, .unset, .unset, .unset, .unset, .unset, .unset, .unset] []))
          refine Ends.via (fun _ k => XS.iloadN Xj10.here hx rfl (hb hby at_58) rfl k) ?_
          show Ends p e below s 16 128 (Q0 Z p0 p1 p2 p3 p4 p5  h0 n0) (Tj10.setTop (mkF m 59 #[.val (.int p0), .val (.int p1), .val (.int p2), .val (.int p3), .val (.int p4), .val (.int p5), .val (.int v1), .val (.int v3), .val (.int v6), .val (.int v9), .unset, .unset, .unset, .unset, .unset, .unset, .unset, .unset, .unset, .unset, .unset] [(.int p3)]))
          exact J13 Tj10 _ Xj10 ej10 Nj10 p3 (by first | rfl | simp only [if_neg hc67])
      by_cases hc68 : v1 = (2 : Int32)
      · refine Ends.via (fun _ k => XS.icmpNo Xj7.here hx rfl (hb hby at_36) rfl (teq hc68).2 k) ?_
        show Ends p e below s 16 128 (Q0 Z p0 p1 p2 p3 p4 p5  h0 n0) (Tj7.setTop (mkF m 39 #[.val (.int p0), .val (.int p1), .val (.int p2), .val (.int p3), .val (.int p4), .val (.int p5), .val (.int v1), .val (.int v3), .val (.int v6), .unset, .unset, .unset, .unset, .unset, .unset, .unset, .unset, .unset, .unset, .unset, .unset] []))
        refine Ends.via (fun _ k => XS.iload Xj7.here hx rfl (hb hby at_39) rfl k) ?_
        show Ends p e below s 16 128 (Q0 Z p0 p1 p2 p3 p4 p5  h0 n0) (Tj7.setTop (mkF m 41 #[.val (.int p0), .val (.int p1), .val (.int p2), .val (.int p3), .val (.int p4), .val (.int p5), .val (.int v1), .val (.int v3), .val (.int v6), .unset, .unset, .unset, .unset, .unset, .unset, .unset, .unset, .unset, .unset, .unset, .unset] [(.int p5)]))
        refine Ends.via (fun _ k => XS.goto Xj7.here hx rfl (pc0 := 41) (pc' := 45) rfl (hb hby at_41) (by decide) (by decide) k) ?_
        show Ends p e below s 16 128 (Q0 Z p0 p1 p2 p3 p4 p5  h0 n0) (Tj7.setTop (mkF m 45 #[.val (.int p0), .val (.int p1), .val (.int p2), .val (.int p3), .val (.int p4), .val (.int p5), .val (.int v1), .val (.int v3), .val (.int v6), .unset, .unset, .unset, .unset, .unset, .unset, .unset, .unset, .unset, .unset, .unset, .unset] [(.int p5)]))
        exact J10 Tj7 _ Xj7 ej7 Nj7 p5 (by first | rfl | simp only [if_pos hc68])
      · refine Ends.via (fun _ k => XS.icmpYes Xj7.here hx rfl (pc0 := 36) (pc' := 44) rfl (hb hby at_36) rfl (feq hc68).2 (by decide) (by decide) k) ?_
        show Ends p e below s 16 128 (Q0 Z p0 p1 p2 p3 p4 p5  h0 n0) (Tj7.setTop (mkF m 44 #[.val (.int p0), .val (.int p1), .val (.int p2), .val (.int p3), .val (.int p4), .val (.int p5), .val (.int v1), .val (.int v3), .val (.int v6), .unset, .unset, .unset, .unset, .unset, .unset, .unset, .unset, .unset, .unset, .unset, .unset] []))
        refine Ends.via (fun _ k => XS.iloadN Xj7.here hx rfl (hb hby at_44) rfl k) ?_
        show Ends p e below s 16 128 (Q0 Z p0 p1 p2 p3 p4 p5  h0 n0) (Tj7.setTop (mkF m 45 #[.val (.int p0), .val (.int p1), .val (.int p2), .val (.int p3), .val (.int p4), .val (.int p5), .val (.int v1), .val (.int v3), .val (.int v6), .unset, .unset, .unset, .unset, .unset, .unset, .unset, .unset, .unset, .unset, .unset, .unset] [(.int p2)]))
        exact J10 Tj7 _ Xj7 ej7 Nj7 p2 (by first | rfl | simp only [if_neg hc68])
    by_cases hc69 : v1 = (1 : Int32)
    · refine Ends.via (fun _ k => XS.icmpNo Xj4.here hx rfl (hb hby at_22) rfl (teq hc69).2 k) ?_
      show Ends p e below s 16 128 (Q0 Z p0 p1 p2 p3 p4 p5  h0 n0) (Tj4.setTop (mkF m 25 #[.val (.int p0), .val (.int p1), .val (.int p2), .val (.int p3), .val (.int p4), .val (.int p5), .val (.int v1), .val (.int v3), .unset, .unset, .unset, .unset, .unset, .unset, .unset, .unset, .unset, .unset, .unset, .unset, .unset] []))
      refine Ends.via (fun _ k => XS.iload Xj4.here hx rfl (hb hby at_25) rfl k) ?_
      show Ends p e below s 16 128 (Q0 Z p0 p1 p2 p3 p4 p5  h0 n0) (Tj4.setTop (mkF m 27 #[.val (.int p0), .val (.int p1), .val (.int p2), .val (.int p3), .val (.int p4), .val (.int p5), .val (.int v1), .val (.int v3), .unset, .unset, .unset, .unset, .unset, .unset, .unset, .unset, .unset, .unset, .unset, .unset, .unset] [(.int p5)]))
      refine Ends.via (fun _ k => XS.goto Xj4.here hx rfl (pc0 := 27) (pc' := 31) rfl (hb hby at_27) (by decide) (by decide) k) ?_
      show Ends p e below s 16 128 (Q0 Z p0 p1 p2 p3 p4 p5  h0 n0) (Tj4.setTop (mkF m 31 #[.val (.int p0), .val (.int p1), .val (.int p2), .val (.int p3), .val (.int p4), .val (.int p5), .val (.int v1), .val (.int v3), .unset, .unset, .unset, .unset, .unset, .unset, .unset, .unset, .unset, .unset, .unset, .unset, .unset] [(.int p5)]))
      exact J7 Tj4 _ Xj4 ej4 Nj4 p5 (by first | rfl | simp only [if_pos hc69])
    · refine Ends.via (fun _ k => XS.icmpYes Xj4.here hx rfl (pc0 := 22) (pc' := 30) rfl (hb hby at_22) rfl (feq hc69).2 (by decide) (by decide) k) ?_
      show Ends p e below s 16 128 (Q0 Z p0 p1 p2 p3 p4 p5  h0 n0) (Tj4.setTop (mkF m 30 #[.val (.int p0), .val (.int p1), .val (.int p2), .val (.int p3), .val (.int p4), .val (.int p5), .val (.int v1), .val (.int v3), .unset, .unset, .unset, .unset, .unset, .unset, .unset, .unset, .unset, .unset, .unset, .unset, .unset] []))
      refine Ends.via (fun _ k => XS.iloadN Xj4.here hx rfl (hb hby at_30) rfl k) ?_
      show Ends p e below s 16 128 (Q0 Z p0 p1 p2 p3 p4 p5  h0 n0) (Tj4.setTop (mkF m 31 #[.val (.int p0), .val (.int p1), .val (.int p2), .val (.int p3), .val (.int p4), .val (.int p5), .val (.int v1), .val (.int v3), .unset, .unset, .unset, .unset, .unset, .unset, .unset, .unset, .unset, .unset, .unset, .unset, .unset] [(.int p1)]))
      exact J7 Tj4 _ Xj4 ej4 Nj4 p1 (by first | rfl | simp only [if_neg hc69])
  by_cases hc70 : v1 = (0 : Int32)
  · refine Ends.via (fun _ k => XS.ifNo X0.here hx rfl (hb hby at_8) rfl ((if0 _ _).trans (teq hc70).2) k) ?_
    show Ends p e below s 16 128 (Q0 Z p0 p1 p2 p3 p4 p5  h0 n0) (s₁.setTop (mkF m 11 #[.val (.int p0), .val (.int p1), .val (.int p2), .val (.int p3), .val (.int p4), .val (.int p5), .val (.int v1), .unset, .unset, .unset, .unset, .unset, .unset, .unset, .unset, .unset, .unset, .unset, .unset, .unset, .unset] []))
    refine Ends.via (fun _ k => XS.iload X0.here hx rfl (hb hby at_11) rfl k) ?_
    show Ends p e below s 16 128 (Q0 Z p0 p1 p2 p3 p4 p5  h0 n0) (s₁.setTop (mkF m 13 #[.val (.int p0), .val (.int p1), .val (.int p2), .val (.int p3), .val (.int p4), .val (.int p5), .val (.int v1), .unset, .unset, .unset, .unset, .unset, .unset, .unset, .unset, .unset, .unset, .unset, .unset, .unset, .unset] [(.int p5)]))
    refine Ends.via (fun _ k => XS.goto X0.here hx rfl (pc0 := 13) (pc' := 17) rfl (hb hby at_13) (by decide) (by decide) k) ?_
    show Ends p e below s 16 128 (Q0 Z p0 p1 p2 p3 p4 p5  h0 n0) (s₁.setTop (mkF m 17 #[.val (.int p0), .val (.int p1), .val (.int p2), .val (.int p3), .val (.int p4), .val (.int p5), .val (.int v1), .unset, .unset, .unset, .unset, .unset, .unset, .unset, .unset, .unset, .unset, .unset, .unset, .unset, .unset] [(.int p5)]))
    exact J4 s₁ _ X0 e0 N0 p5 (by first | rfl | simp only [if_pos hc70])
  · refine Ends.via (fun _ k => XS.ifYes X0.here hx rfl (pc0 := 8) (pc' := 16) rfl (hb hby at_8) rfl ((if0 _ _).trans (feq hc70).2) (by decide) (by decide) k) ?_
    show Ends p e below s 16 128 (Q0 Z p0 p1 p2 p3 p4 p5  h0 n0) (s₁.setTop (mkF m 16 #[.val (.int p0), .val (.int p1), .val (.int p2), .val (.int p3), .val (.int p4), .val (.int p5), .val (.int v1), .unset, .unset, .unset, .unset, .unset, .unset, .unset, .unset, .unset, .unset, .unset, .unset, .unset, .unset] []))
    refine Ends.via (fun _ k => XS.iloadN X0.here hx rfl (hb hby at_16) rfl k) ?_
    show Ends p e below s 16 128 (Q0 Z p0 p1 p2 p3 p4 p5  h0 n0) (s₁.setTop (mkF m 17 #[.val (.int p0), .val (.int p1), .val (.int p2), .val (.int p3), .val (.int p4), .val (.int p5), .val (.int v1), .unset, .unset, .unset, .unset, .unset, .unset, .unset, .unset, .unset, .unset, .unset, .unset, .unset, .unset] [(.int p0)]))
    exact J4 s₁ _ X0 e0 N0 p0 (by first | rfl | simp only [if_neg hc70])
set_option maxRecDepth 65536 in
set_option maxHeartbeats 40000000 in
theorem comes_1 {Post : Tables → Env → Array Value → State → Outcome → State → Prop} (hpost : ∀ tb e args s v u, (limb_1_1.after args s (.returned v) u = true ∧ limb_1_2.after args s (.returned v) u = true ∧ True) → FrameEnd s (.returned v) u (Jvm.fieldLocs frame_1_writes args s ++ Jvm.arrayLocs frame_1_arrays args s ++ Jvm.staticLocs frame_1_statics s) 16 128 → Post tb e args s (.returned v) u) :
    ArmFor flags0 classFile x code maxLocals ret World_1 tables_1 room_1 Calls_1 rest_1 Pre_1 Post := by
  intro l hfl _ _ p e ha hc hk s m args below hf hA hF happ hP
  obtain ⟨hcalls, hrest, hpre⟩ := hP
  obtain ⟨-, -, -, hnamed, -, -, -, hat⟩ := (Spec.applies_iff hf).mp happ
  obtain ⟨hg, hn⟩ := and_e (Cond.before_iff.mp (show (Jvm.Cond.and given_1 narrow_1).before args s = true from hpre))
  obtain ⟨hcnt, g0⟩ := and_e hg
  obtain ⟨t0, g1⟩ := and_e g0
  obtain ⟨t1, g2⟩ := and_e g1
  obtain ⟨t2, g3⟩ := and_e g2
  obtain ⟨t3, g4⟩ := and_e g3
  obtain ⟨t4, g5⟩ := and_e g4
  obtain ⟨w0, w1, w2, w3, w4, w5, rfl⟩ : ∃ w0 w1 w2 w3 w4 w5 : Value, args = #[w0, w1, w2, w3, w4, w5] := by
    have hs : args.size = 6 := by simpa [Cond.value, given_1] using hcnt
    obtain ⟨L⟩ := args
    match L, hs with
    | [w0, w1, w2, w3, w4, w5], _ => exact ⟨w0, w1, w2, w3, w4, w5, rfl⟩
  have hw := fun d (hd : d ∈ tables_1) => atoms_spec (ws := Jvm.Cond.code x code maxLocals ret :: tables_1) hat d (List.mem_cons_of_mem _ hd)
  obtain ⟨i0, ei0⟩ := is_v t0
  obtain rfl : w0 = (.int i0) := Option.some.inj ei0
  obtain ⟨i1, ei1⟩ := is_v t1
  obtain rfl : w1 = (.int i1) := Option.some.inj ei1
  obtain ⟨i2, ei2⟩ := is_v t2
  obtain rfl : w2 = (.int i2) := Option.some.inj ei2
  obtain ⟨i3, ei3⟩ := is_v t3
  obtain rfl : w3 = (.int i3) := Option.some.inj ei3
  obtain ⟨i4, ei4⟩ := is_v t4
  obtain rfl : w4 = (.int i4) := Option.some.inj ei4
  obtain ⟨i5, ei5⟩ := is_v g5
  obtain rfl : w5 = (.int i5) := Option.some.inj ei5
  obtain ⟨n, o, h1, h2, h3, _, L, rfl, ⟨rfl, N⟩, hq⟩ := rm0 l s _ hw tables_1 i0 i1 i2 i3 i4 i5 s.heap s.heap.size (Nat.le_refl _) p e ha hc hk s m _ below hf ((Spec.applies_iff_loose hf).mp happ).1 ⟨rfl, State.Warmed39.refl s, rfl⟩ trivial
  refine ⟨n, _, h1, h2, h3, hpost _ _ _ _ _ _ ⟨Cond.after_iff.mpr rfl, Cond.after_iff.mpr (eq_i res_at (Term.int_eval (1)) rfl), trivial⟩ ⟨hq.1, hq.2.1, (hq.2.2.sift fun y hy => Or.inr (N y hy)).mono (by decide) (by decide)⟩⟩
theorem main_1_1 : Claimed_1_1 := comes_1 fun _ _ _ _ _ _ h hF => ⟨h.1, hF⟩
theorem main_1_2 : Claimed_1_2 := comes_1 fun _ _ _ _ _ _ h hF => ⟨h.2.1, hF⟩
end Jvm.Pilot.@@N@@
namespace Jvm.Pilot.@@N@@
open Jvm Jvm.ClassFile Sem Op Lib Jvm.Free Jvm.Stand Jvm.Pilot.@@N@@.Jvm.D
/-! MADE BY PROGRAM (witnessworld.py) out of the Statement's table words and the real class files: 9 classes; the members and pool entries that the words name. The judged class is class 1, her method 1. -/
namespace start1
open Jvm.ClassFile
def u (s : String) : CpInfo := .utf8 (stringToUtf16 s)
/-- a pool by its gaps: so many unusable entries, then the entry; so many at the end -/
def gap : Nat → List CpInfo → List CpInfo
  | 0, r => r
  | n + 1, r => .unusable :: gap n r
def poolList (es : List (Nat × CpInfo)) (last : Nat) : List CpInfo := es.foldr (fun e r => gap e.1 (e.2 :: r)) (gap last [])
def pool (es : List (Nat × CpInfo)) (last : Nat) : Array CpInfo := ⟨poolList es last⟩
def fileOf (pool : Array CpInfo) (this : Nat) (attrs : Array Attribute := #[]) (ms : Array MethodInfo := #[]) (fl : Nat := 33) (sup : Nat := 0) (ifs : Array Nat := #[]) (fds : Array FieldInfo := #[]) : ClassFile where
  minorVersion := 0
  majorVersion := 65
  constantPool := pool
  accessFlags := fl
  thisClass := this
  superClass := sup
  interfaces := ifs
  fields := fds
  methods := ms
  attributes := attrs
def plain (name : String) (sup : Option ClassId) : Class where
  name := name
  kind := .ordinary
  loader := none
  accessFlags := 33
  super := sup
  interfaces := #[]
  cf := none
  fields := #[]
  methods := #[]
  instanceTypes := #[]
  staticTypes := #[]
  resolved := #[]
  callSites := []
  init := .initialized
  statics := none
  mirror := none

def pool0 : Array CpInfo := pool [(5, u "<init>"), (0, u "()V"), (1, .class_ 10), (1, u "java/lang/Object")] 113

def k0c0 : Code := { maxStack := 0, maxLocals := 1, code := object_method_1_code, exceptionTable := #[], attributes := #[] }
def k0m0 : Method := { name := "<init>", desc := "()V", sig := { parameters := [], returnType := none }, accessFlags := 1, code := some k0c0 }
/-- java/lang/Object -/
def k0 : Class := { plain "java/lang/Object" none with
  accessFlags := 33
  interfaces := #[]
  cf := some (fileOf pool0 8 #[] #[{ accessFlags := 1, nameIndex := 5, descriptorIndex := 6, attributes := #[] }] 33 0 #[] #[])
  fields := #[]
  methods := #[k0m0]
  instanceTypes := #[]
  staticTypes := #[]
  resolved := Array.replicate 124 none
  statics := none }

def pool1 : Array CpInfo := pool [(2, .class_ 4), (1, u "java/lang/Object"), (0, u "<init>"), (0, u "()V"), (0, .class_ 8), (0, u "com/example/okno/okno/Rect"), (0, .methodref 7 10), (0, .nameAndType 5 11), (0, u "(IIII)V"), (0, .methodref 7 13), (0, .nameAndType 14 15), (0, u "hashCode"), (0, u "()I"), (0, .class_ 17), (0, u "com/example/okno/okno/RectHashCodePinLaw"), (2, u "law"), (0, u "(IIIIII)Z")] 3

def k1m0 : Method := { name := "<init>", desc := "()V", sig := { parameters := [], returnType := none }, accessFlags := 1, code := none }
def k1c1 : Code := { maxStack := 6, maxLocals := 21, code := code, exceptionTable := #[], attributes := #[] }
def k1m1 : Method := { name := "law", desc := "(IIIIII)Z", sig := { parameters := [.int, .int, .int, .int, .int, .int], returnType := some .boolean }, accessFlags := 9, code := some k1c1 }
/-- com/example/okno/okno/RectHashCodePinLaw -/
def k1 : Class := { plain "com/example/okno/okno/RectHashCodePinLaw" (some 0) with
  accessFlags := 49
  interfaces := #[]
  cf := some (fileOf pool1 16 #[] #[{ accessFlags := 1, nameIndex := 5, descriptorIndex := 6, attributes := #[] }, { accessFlags := 9, nameIndex := 20, descriptorIndex := 21, attributes := #[] }] 49 2 #[] #[])
  fields := #[]
  methods := #[k1m0, k1m1]
  instanceTypes := #[]
  staticTypes := #[]
  resolved := Array.replicate 25 none
  statics := none }

def pool2 : Array CpInfo := pool [(1, .methodref 2 3), (0, .class_ 4), (0, .nameAndType 5 6), (0, u "java/lang/Object"), (0, u "<init>"), (0, u "()V"), (0, .fieldref 8 9), (0, .class_ 10), (0, .nameAndType 11 12), (0, u "com/example/okno/okno/Rect"), (0, u "left"), (0, u "I"), (0, .fieldref 8 14), (0, .nameAndType 15 12), (0, u "top"), (0, .fieldref 8 17), (0, .nameAndType 18 12), (0, u "right"), (0, .fieldref 8 20), (0, .nameAndType 21 12), (0, u "bottom"), (18, u "(IIII)V"), (25, u "()I"), (25, u "UNBOUNDED"), (0, u "Lcom/example/okno/okno/Rect;"), (15, u "hashCode")] 20

def k2c0 : Code := { maxStack := 2, maxLocals := 5, code := prog_34_method_1_code, exceptionTable := #[], attributes := #[] }
def k2m0 : Method := { name := "<init>", desc := "(IIII)V", sig := { parameters := [.int, .int, .int, .int], returnType := none }, accessFlags := 1, code := some k2c0 }
def k2c1 : Code := { maxStack := 2, maxLocals := 2, code := prog_34_method_19_code, exceptionTable := #[], attributes := #[] }
def k2m1 : Method := { name := "hashCode", desc := "()I", sig := { parameters := [], returnType := some .int }, accessFlags := 1, code := some k2c1 }
/-- com/example/okno/okno/Rect -/
def k2 : Class := { plain "com/example/okno/okno/Rect" (some 0) with
  accessFlags := 33
  interfaces := #[]
  cf := some (fileOf pool2 8 #[] #[{ accessFlags := 1, nameIndex := 5, descriptorIndex := 40, attributes := #[] }, { accessFlags := 1, nameIndex := 109, descriptorIndex := 66, attributes := #[] }] 33 2 #[] #[{ accessFlags := 25, nameIndex := 92, descriptorIndex := 93, attributes := #[] }, { accessFlags := 18, nameIndex := 11, descriptorIndex := 12, attributes := #[] }, { accessFlags := 18, nameIndex := 15, descriptorIndex := 12, attributes := #[] }, { accessFlags := 18, nameIndex := 18, descriptorIndex := 12, attributes := #[] }, { accessFlags := 18, nameIndex := 21, descriptorIndex := 12, attributes := #[] }])
  fields := #[{ name := "UNBOUNDED", type := (.object "com/example/okno/okno/Rect"), accessFlags := 25, slot := 0, constantValue := 0 }, { name := "left", type := .int, accessFlags := 18, slot := 0, constantValue := 0 }, { name := "top", type := .int, accessFlags := 18, slot := 1, constantValue := 0 }, { name := "right", type := .int, accessFlags := 18, slot := 2, constantValue := 0 }, { name := "bottom", type := .int, accessFlags := 18, slot := 3, constantValue := 0 }]
  methods := #[k2m0, k2m1]
  instanceTypes := #[.int, .int, .int, .int]
  staticTypes := #[(.object "com/example/okno/okno/Rect")]
  resolved := Array.replicate 130 none
  statics := none }

def pool3 : Array CpInfo := pool [(1, u "java/lang/Cloneable"), (0, .class_ 1), (0, u "java/lang/Object"), (0, .class_ 3)] 3

/-- java/lang/Cloneable -/
def k3 : Class := { plain "java/lang/Cloneable" (some 0) with
  accessFlags := 1537
  interfaces := #[]
  cf := some (fileOf pool3 2 #[] #[] 1537 4 #[] #[])
  fields := #[]
  methods := #[]
  instanceTypes := #[]
  staticTypes := #[]
  resolved := Array.replicate 8 none
  statics := none }

def pool4 : Array CpInfo := pool [(1, u "java/io/Serializable"), (0, .class_ 1), (0, u "java/lang/Object"), (0, .class_ 3)] 3

/-- java/io/Serializable -/
def k4 : Class := { plain "java/io/Serializable" (some 0) with
  accessFlags := 1537
  interfaces := #[]
  cf := some (fileOf pool4 2 #[] #[] 1537 4 #[] #[])
  fields := #[]
  methods := #[]
  instanceTypes := #[]
  staticTypes := #[]
  resolved := Array.replicate 8 none
  statics := none }

/-- the primitive byte -/
def k5 : Class := { plain "byte" none with kind := .primitive 'B', accessFlags := 0x411 }
/-- [B -/
def k6 : Class := { plain "[B" (some 0) with kind := .array 5 .byte, interfaces := #[3, 4], accessFlags := 1041 }

/-- the primitive int -/
def k7 : Class := { plain "int" none with kind := .primitive 'I', accessFlags := 0x411 }
/-- [I -/
def k8 : Class := { plain "[I" (some 0) with kind := .array 7 .int, interfaces := #[3, 4], accessFlags := 1041 }

def heap : Heap := #[]
def classes : Array Class := #[k0, k1, k2, k3, k4, k5, k6, k7, k8]
def interned : List (Array UInt16 × Addr) := []
def slotsUsed : Nat := 0
def theMethod : MethodId := ⟨1, 1⟩
def args0 : Array Value := #[.int 5, .int 5, .int 5, .int 5, .int 5, .int 5]
def aboutOver (below : List Frame) : State where
  vm := { classes := classes, interned := interned.toArray }
  heap := heap
  slotsUsed := slotsUsed
  threads := #[{ frames := .invoking theMethod args0 :: below }]
def below0 : List Frame := [.native { method := ⟨0, 0⟩, args := #[] }]
def about1 : State := aboutOver below0
def p0 : Program := .bare "" "" ""
def e0 : Env := launch0.env 0 0 0
theorem w_frames : about1.frames = Frame.invoking theMethod args0 :: below0 := rfl
set_option maxRecDepth 65536 in
theorem w_args : argsFit about1.vm theMethod args0 = true := by decide +kernel
set_option maxRecDepth 65536 in
theorem w_heap : heapFits about1 = true := by decide +kernel
set_option maxRecDepth 65536 in
theorem w_runnable : about1.curStatus? = some .runnable := by decide +kernel
set_option maxRecDepth 65536 in
theorem w_alone : about1.alone = true := by decide +kernel
set_option maxRecDepth 65536 in
theorem w_named : about1.methodNamed? x = some theMethod := by decide +kernel
set_option maxRecDepth 65536 in
theorem w_hears : about1.hears theMethod below0 = true := by decide +kernel
set_option maxRecDepth 65536 in
theorem w_ripe : about1.ripe theMethod args0 below0 = true := by decide +kernel
theorem w_running : about1.status = .running := rfl
set_option maxRecDepth 65536 in
theorem w_room : about1.hasRoom e0.platform room_1 = true :=
  launch0.hasRoom_least _ room_1 (by decide +kernel) (by decide +kernel) (by decide +kernel) (by decide +kernel) (by decide +kernel) (by decide +kernel)
theorem allAtoms_all (ts : List Jvm.Cond) (a : Array Jvm.Value) (st : Jvm.State) : (allAtoms ts).before a st = ts.all (fun c => c.before a st) := by
  induction ts with
  | nil => rfl
  | cons c t ih =>
    show (Jvm.Cond.and c (allAtoms t)).before a st = _
    rw [Jvm.Cond.before_and, ih, List.all_cons]
def words1 : List Jvm.Cond := Jvm.Cond.code x code maxLocals ret :: tables_1
/-- a 'code' word, met by the world's own term for the bytes: nothing is compared byte by byte -/
theorem code_word {y : MethodName} {bytes : ByteArray} {mx : Nat} {rt : Option FieldType} {a : Array Value} {s : State} {m : MethodId} {meth : Method} {c : Code} (h1 : s.methodNamed? y = some m) (h2 : s.vm.method? m = some meth) (h3 : meth.code = some c) (h4 : c.code = bytes)
    (h5 : (c.maxLocals == mx && c.exceptionTable.isEmpty && decide (c.maxStack ≤ mostOperands) && decide (meth.sig.returnType = rt) && !meth.locks && decide (parseMethodDescriptor y.desc = some meth.sig)) = true) : (Jvm.Cond.code y bytes mx rt).before a s = true := by
  simp only [Bool.and_eq_true, beq_iff_eq, Bool.not_eq_true', decide_eq_true_eq] at h5
  obtain ⟨⟨⟨⟨⟨g1, g2⟩, g3⟩, g4⟩, g5⟩, g6⟩ := h5
  simp [Cond.before, Cond.holds, Cond.value, h1, h2, h3, h4, g1, g2, g3, g4, g5, g6]
def isCode : Jvm.Cond → Bool
  | .code _ _ _ _ => true
  | _ => false
theorem all_split {L : List Jvm.Cond} {P : Jvm.Cond → Bool} (h1 : L.all (fun c => isCode c || P c) = true) (h2 : ∀ c ∈ L.filter isCode, P c = true) : L.all P = true := by
  refine List.all_eq_true.mpr fun c hc => ?_
  have h := List.all_eq_true.mp h1 c hc
  rcases Bool.eq_false_or_eq_true (isCode c) with hi | hi
  · exact h2 c (List.mem_filter.mpr ⟨hc, hi⟩)
  · simpa [hi] using h
set_option maxRecDepth 65536 in
theorem w_c0 : (Jvm.Cond.code x code maxLocals ret).before args0 about1 = true := code_word (m := ⟨1, 1⟩) (meth := k1m1) (c := k1c1) (by decide +kernel) rfl rfl rfl (by decide +kernel)
set_option maxRecDepth 65536 in
theorem w_c1 : (Jvm.Cond.code ({ cls := "com/example/okno/okno/Rect", name := "<init>", desc := "(IIII)V" } : Jvm.MethodName) prog_34_method_1_code (5 : Nat) (Option.none : Option Jvm.ClassFile.FieldType)).before args0 about1 = true := code_word (m := ⟨2, 0⟩) (meth := k2m0) (c := k2c0) (by decide +kernel) rfl rfl rfl (by decide +kernel)
set_option maxRecDepth 65536 in
theorem w_c2 : (Jvm.Cond.code ({ cls := "java/lang/Object", name := "<init>", desc := "()V" } : Jvm.MethodName) object_method_1_code (1 : Nat) (Option.none : Option Jvm.ClassFile.FieldType)).before args0 about1 = true := code_word (m := ⟨0, 0⟩) (meth := k0m0) (c := k0c0) (by decide +kernel) rfl rfl rfl (by decide +kernel)
set_option maxRecDepth 65536 in
theorem w_c3 : (Jvm.Cond.code ({ cls := "com/example/okno/okno/Rect", name := "hashCode", desc := "()I" } : Jvm.MethodName) prog_34_method_19_code (2 : Nat) (Option.some Jvm.ClassFile.FieldType.int)).before args0 about1 = true := code_word (m := ⟨2, 1⟩) (meth := k2m1) (c := k2c1) (by decide +kernel) rfl rfl rfl (by decide +kernel)
def codes1 : List Jvm.Cond := [Jvm.Cond.code x code maxLocals ret, Jvm.Cond.code ({ cls := "com/example/okno/okno/Rect", name := "<init>", desc := "(IIII)V" } : Jvm.MethodName) prog_34_method_1_code (5 : Nat) (Option.none : Option Jvm.ClassFile.FieldType), Jvm.Cond.code ({ cls := "java/lang/Object", name := "<init>", desc := "()V" } : Jvm.MethodName) object_method_1_code (1 : Nat) (Option.none : Option Jvm.ClassFile.FieldType), Jvm.Cond.code ({ cls := "com/example/okno/okno/Rect", name := "hashCode", desc := "()I" } : Jvm.MethodName) prog_34_method_19_code (2 : Nat) (Option.some Jvm.ClassFile.FieldType.int)]
set_option maxRecDepth 65536 in
theorem codes_eq : words1.filter isCode = codes1 := rfl
theorem w_codes : ∀ c ∈ words1.filter isCode, c.before args0 about1 = true := by
  rw [codes_eq]
  intro c hc
  simp only [codes1, List.mem_cons, List.not_mem_nil, or_false] at hc
  rcases hc with rfl | rfl | rfl | rfl
  · exact w_c0
  · exact w_c1
  · exact w_c2
  · exact w_c3
set_option maxRecDepth 65536 in
theorem w_t1 : words1.all (fun c => isCode c || c.before args0 about1) = true := by decide +kernel
theorem w_tables : (allAtoms (Jvm.Cond.code x code maxLocals ret :: tables_1)).before args0 about1 = true := by
  rw [allAtoms_all]
  show words1.all (fun c => c.before args0 about1) = true
  refine all_split ?_ w_codes
  rw [w_t1]
set_option maxRecDepth 65536 in
theorem w_case : (Jvm.Cond.and given_1 narrow_1).before args0 about1 = true := by decide +kernel
theorem w_applies : (headSpec (Jvm.Cond.code x code maxLocals ret :: tables_1) room_1).applies x e0.platform about1 = true :=
  (Spec.applies_iff w_frames).mpr ⟨w_running, w_runnable, w_alone, w_named, w_hears, w_ripe, w_room, w_tables⟩
theorem atStart : AtStart classFile x code maxLocals ret World_1 tables_1 room_1 Calls_1 rest_1 Pre_1 launch0 p0 e0 about1 theMethod args0 below0 :=
  ⟨lists_1, trivial, launch0.admits_env _ _ _, launch0.least_env, fairChoices_fair.cas, fairChoices_fair.clock, w_frames, w_args, w_heap, w_applies, trivial, trivial, w_case⟩
end start1
theorem witness_1 : WitnessClaimed_1 := ⟨start1.p0, start1.e0, start1.about1, start1.theMethod, start1.args0, start1.below0, start1.atStart⟩
end Jvm.Pilot.@@N@@
