import JvmDerived
import JvmDerived.Pilot.@@N@@Statement
import JvmDerived.Pilot.@@N@@Code
set_option linter.unusedVariables false
set_option linter.unusedSimpArgs false
namespace Jvm.RoadKit
open Sem ClassFile Op Lib Jvm.Stand Jvm.Free Jvm.LawKit
section New
variable {p : Program} {l : Launch} {e : Env} {R : Room} {s : State} {m : MethodId} {args : Array Value} {below : List Frame} {meth : Method} {c : Code} {T : State} {locs : List Loc} {cells slots : Nat}
theorem retI (X : Stand p l e R s m args below meth c T locs cells slots) (hx : p.tables.exec = Jvm.exec) {pc : Nat} {Ls : Array Slot} {z : Int32} {rest : List Value} (hret : meth.sig.returnType = some .int) (hd : decode c.code pc = .ok (.ireturn, 1)) {fs : List Frame}
    (hl : ∀ (f : JFrame) (acts : List Action), f.method = m → f.locked = none → f.entered = [] → (doReturn e (T.setTop f) acts (some (.int z))).1 = T.setFrames fs) : Steps p.tables e below (T.setTop (mkF m pc Ls (.int z :: rest))) (T.setFrames fs) := by
  have hm' : T.vm.method? m = some meth := X.method'
  have hn : narrow .int (.int z) = .int z := rfl
  show Steps p.tables e below (T.setTop { method := m, pc := pc, locals := Ls, stack := _ :: rest, locked := none }) _
  jvm_step X.here [X.here.top, hx, hd, hm', hret, hn]
  first | (intro acts; rw [hl _ acts rfl rfl rfl]) | rw [hl _ _ rfl rfl rfl]
  exact Steps.refl _
end New
end Jvm.RoadKit
namespace Jvm.Pilot.@@N@@
open Jvm Jvm.ClassFile Sem Op Lib Jvm.Free Jvm.Stand Jvm.LawKit Jvm.RoadKit Bundle Jvm.Pilot.@@N@@.Jvm.D
/-- from u the invocation ends, and what it returns and leaves is as Q says -/
def Ends (p : Program) (e : Env) (below : List Frame) (s : State) (kc ks : Nat) (Q : Option Value → Heap → List Loc → Prop) (u : State) : Prop :=
  ∃ s₂ o, Steps p.tables e below u s₂ ∧ s₂.status = .running ∧ Ended s₂ below o ∧ ∃ v L, o = .returned v ∧ Q v s₂.heap L ∧ FrameEnd s o s₂ L kc ks
theorem Ends.via {p : Program} {e : Env} {below : List Frame} {s : State} {kc ks : Nat} {Q : Option Value → Heap → List Loc → Prop} {A B : State} (h : ∀ t, Steps p.tables e below A t → Steps p.tables e below B t) (k : Ends p e below s kc ks Q A) : Ends p e below s kc ks Q B := by
  obtain ⟨s₂, o, h1, r⟩ := k
  exact ⟨s₂, o, h _ h1, r⟩
theorem Ends.ret {p : Program} {l : Launch} {e : Env} {R : Room} {s : State} {m : MethodId} {args : Array Value} {below : List Frame} {meth : Method} {c : Code} {T : State} {locs : List Loc} {cells slots kc ks : Nat} {Q : Option Value → Heap → List Loc → Prop} {u : State}
    (X : Stand p l e R s m args below meth c T locs cells slots) {v : Option Value} (hv : meth.sig.returnType = none → v = none) (hlocks : meth.locks = false)
    (hst : ∀ fs, (∀ (f : JFrame) (acts : List Action), f.method = m → f.locked = none → f.entered = [] → (doReturn e (T.setTop f) acts v).1 = T.setFrames fs) → Steps p.tables e below u (T.setFrames fs))
    (hQ : Q v T.heap locs) (h1 : cells ≤ kc) (h2 : slots ≤ ks) : Ends p e below s kc ks Q u := by
  obtain ⟨fs, hr, hrun, hended, hW, hsame⟩ := X.leave (v := v) hv hlocks
  exact ⟨_, _, hst fs hr, hrun, hended, _, _, rfl, hQ, ⟨_, rfl⟩, hW, hsame.mono h1 h2⟩

theorem own_pd0 : parseMethodDescriptor "(IIII)V" = some ⟨[.int, .int, .int, .int], none⟩ := by decide +kernel
theorem own_pd1 : parseMethodDescriptor "()I" = some ⟨[], some .int⟩ := by decide +kernel
theorem d1_0 : decode prog_12_method_1_code 0 = .ok (.aload_n 0, 1) := by decide +kernel
theorem d1_1 : decode prog_12_method_1_code 1 = .ok (.invokespecial 3, 3) := by decide +kernel
theorem d1_4 : decode prog_12_method_1_code 4 = .ok (.aload_n 0, 1) := by decide +kernel
theorem d1_5 : decode prog_12_method_1_code 5 = .ok (.iload_n 1, 1) := by decide +kernel
theorem d1_6 : decode prog_12_method_1_code 6 = .ok (.putfield 9, 3) := by decide +kernel
theorem d1_9 : decode prog_12_method_1_code 9 = .ok (.aload_n 0, 1) := by decide +kernel
theorem d1_10 : decode prog_12_method_1_code 10 = .ok (.iload_n 2, 1) := by decide +kernel
theorem d1_11 : decode prog_12_method_1_code 11 = .ok (.putfield 13, 3) := by decide +kernel
theorem d1_14 : decode prog_12_method_1_code 14 = .ok (.aload_n 0, 1) := by decide +kernel
theorem d1_15 : decode prog_12_method_1_code 15 = .ok (.iload_n 3, 1) := by decide +kernel
theorem d1_16 : decode prog_12_method_1_code 16 = .ok (.putfield 16, 3) := by decide +kernel
theorem d1_19 : decode prog_12_method_1_code 19 = .ok (.aload_n 0, 1) := by decide +kernel
theorem d1_20 : decode prog_12_method_1_code 20 = .ok (.iload 4, 2) := by decide +kernel
theorem d1_22 : decode prog_12_method_1_code 22 = .ok (.putfield 19, 3) := by decide +kernel
theorem d1_25 : decode prog_12_method_1_code 25 = .ok (.return_, 1) := by decide +kernel
theorem pn_1 : plainName "com/example/okno/okno/Insets" = true := by first | (simp [plainName, overriddenIn]; done) | decide +kernel
theorem ef_1 (m : MethodId) (a0 : Addr) (p1 : Int32) (p2 : Int32) (p3 : Int32) (p4 : Int32) : entryFrame m #[(.ref a0), (.int p1), (.int p2), (.int p3), (.int p4)] 5 = mkF m 0 #[.val (.ref a0), .val (.int p1), .val (.int p2), .val (.int p3), .val (.int p4)] [] := by first | (simp [entryFrame, mkF, argsToLocals, Value.category]; done) | rfl
abbrev ROOM1 : Room := { frames := 1, cells := 0, slots := 0, locals := 12 }
def Q1 (Z : State) (a0 : Addr) (p1 : Int32) (p2 : Int32) (p3 : Int32) (p4 : Int32)  (u_left : Value) (u_top : Value) (u_right : Value) (u_bottom : Value) (h0 : Heap) (n0 : Nat) (v : Option Value) (h : Heap) (L : List Loc) : Prop := v = none ∧ Fr n0 L ∧ Keep h0 h [a0] ∧ Exa Z h a0 "com/example/okno/okno/Insets" ∧ Fld Z h a0 "com/example/okno/okno/Insets" "left" "I" (.int p1) ∧ Fld Z h a0 "com/example/okno/okno/Insets" "top" "I" (.int p2) ∧ Fld Z h a0 "com/example/okno/okno/Insets" "right" "I" (.int p3) ∧ Fld Z h a0 "com/example/okno/okno/Insets" "bottom" "I" (.int p4)
set_option maxRecDepth 65536 in
set_option maxHeartbeats 40000000 in
theorem rm1 (l : Launch) (Z : State) (a0 : Array Value) (hw : ∀ d ∈ tables_1, d.before a0 Z = true) (ws : List Jvm.Cond) (a0 : Addr) (p1 : Int32) (p2 : Int32) (p3 : Int32) (p4 : Int32)  (u_left : Value) (u_top : Value) (u_right : Value) (u_bottom : Value) (h0 : Heap) (n0 : Nat) (Z0 : n0 ≤ h0.size)  (g_a0 : n0 ≤ a0) (E_a0 : Exa Z h0 a0 "com/example/okno/okno/Insets") (F_left : Fld Z h0 a0 "com/example/okno/okno/Insets" "left" "I" u_left) (F_top : Fld Z h0 a0 "com/example/okno/okno/Insets" "top" "I" u_top) (F_right : Fld Z h0 a0 "com/example/okno/okno/Insets" "right" "I" u_right) (F_bottom : Fld Z h0 a0 "com/example/okno/okno/Insets" "bottom" "I" u_bottom) :
    MetFree l (⟨"com/example/okno/okno/Insets", "<init>", "(IIII)V"⟩ : MethodName) (head1 (Jvm.Cond.code (⟨"com/example/okno/okno/Insets", "<init>", "(IIII)V"⟩ : MethodName) prog_12_method_1_code 5 none :: ws) ROOM1) (fun a U => a = #[(.ref a0), (.int p1), (.int p2), (.int p3), (.int p4)] ∧ Z.Warmed39 U.vm ∧ U.heap = h0) (fun _ _ _ _ _ => True) (fun _ U o U' => ∃ v L, o = .returned v ∧ Q1 Z a0 p1 p2 p3 p4  u_left u_top u_right u_bottom h0 n0 v U'.heap L ∧ FrameEnd U o U' L ROOM1.cells ROOM1.slots) := by
  refine MetFree.of_bodySF (plainFor_of_name pn_1) hisR ?_
  intro p e s m args below meth c s₁ Bd hml0 hP hK
  obtain ⟨rfl, hZ, hh⟩ := hP
  have hx := Bd.exec
  have hby := Bd.bytes
  have hml : c.maxLocals = 5 := hml0
  have hown : s.vm.findClass "com/example/okno/okno/Insets" = some m.cls := findClass_of_methodNamed Bd.named
  have hnm := (name_of_methodNamed Bd.named Bd.method).1
  have X0 : Stand p l e ROOM1 s m #[(.ref a0), (.int p1), (.int p2), (.int p3), (.int p4)] below meth c s₁ [] 0 0 := Stand.of_body Bd
  have e0 : s₁.heap = h0 := by rw [← hh, Bd.state]; rfl
  have N0 := Fr.nil n0
  refine Ends.via (A := s₁.setTop (mkF m 0 #[.val (.ref a0), .val (.int p1), .val (.int p2), .val (.int p3), .val (.int p4)] [])) (kc := ROOM1.cells) (ks := ROOM1.slots) (Q := (Q1 Z a0 p1 p2 p3 p4  u_left u_top u_right u_bottom h0 n0)) (fun t k => castTop (ef_1 m a0 p1 p2 p3 p4) k) ?_
  show Ends p e below s ROOM1.cells ROOM1.slots (Q1 Z a0 p1 p2 p3 p4  u_left u_top u_right u_bottom h0 n0) (s₁.setTop (mkF m 0 #[.val (.ref a0), .val (.int p1), .val (.int p2), .val (.int p3), .val (.int p4)] []))
  refine Ends.via (fun _ k => XS.aloadN X0.here hx rfl (hb hby d1_0) rfl rfl k) ?_
  show Ends p e below s ROOM1.cells ROOM1.slots (Q1 Z a0 p1 p2 p3 p4  u_left u_top u_right u_bottom h0 n0) (s₁.setTop (mkF m 1 #[.val (.ref a0), .val (.int p1), .val (.int p2), .val (.int p3), .val (.int p4)] [(.ref a0)]))
  obtain ⟨T3, X3, e3, st3⟩ := initO X0 hx hZ hown (hw _ (List.mem_of_getElem? (i := 6) rfl)) (hw _ (List.mem_of_getElem? (i := 7) rfl)) (hw _ (List.mem_of_getElem? (i := 8) rfl)) e0 (g := (mkF m 1 #[.val (.ref a0), .val (.int p1), .val (.int p2), .val (.int p3), .val (.int p4)] [(.ref a0)])) rfl (by rw [hml]; rfl) rfl (hb hby d1_1) (by decide) (W := 0) (by show 2 * 0 + _ ≤ _; exact Nat.le_of_eq rfl) (by decide)
  refine Ends.via st3 ?_
  show Ends p e below s ROOM1.cells ROOM1.slots (Q1 Z a0 p1 p2 p3 p4  u_left u_top u_right u_bottom h0 n0) (T3.setTop (mkF m 4 #[.val (.ref a0), .val (.int p1), .val (.int p2), .val (.int p3), .val (.int p4)] []))
  refine Ends.via (fun _ k => XS.aloadN X3.here hx rfl (hb hby d1_4) rfl rfl k) ?_
  show Ends p e below s ROOM1.cells ROOM1.slots (Q1 Z a0 p1 p2 p3 p4  u_left u_top u_right u_bottom h0 n0) (T3.setTop (mkF m 5 #[.val (.ref a0), .val (.int p1), .val (.int p2), .val (.int p3), .val (.int p4)] [(.ref a0)]))
  refine Ends.via (fun _ k => XS.iloadN X3.here hx rfl (hb hby d1_5) rfl k) ?_
  show Ends p e below s ROOM1.cells ROOM1.slots (Q1 Z a0 p1 p2 p3 p4  u_left u_top u_right u_bottom h0 n0) (T3.setTop (mkF m 6 #[.val (.ref a0), .val (.int p1), .val (.int p2), .val (.int p3), .val (.int p4)] [(.int p1), (.ref a0)]))
  obtain ⟨T4, h4, X4, e4, W4, st4⟩ := putF X3 hx hZ hown (host := "") (Or.inl (hw _ (List.mem_of_getElem? (i := 9) rfl))) Via.refl e3 F_left E_a0 (Or.inr ⟨(hw _ (List.mem_of_getElem? (i := 10) rfl)), rfl, hnm⟩) (hw _ (List.mem_of_getElem? (i := 1) rfl)) (ty := .int) (by decide) rfl rfl (g := (mkF m 6 #[.val (.ref a0), .val (.int p1), .val (.int p2), .val (.int p3), .val (.int p4)] [(.int p1), (.ref a0)])) rfl rfl (hb hby d1_6)
  have f4_0 := E_a0.wr W4
  have f4_1 := F_left.same W4
  have f4_2 := F_top.other W4 (Or.inr (slot_ne (Or.inr (hw _ (List.mem_of_getElem? (i := 12) rfl))) (Or.inr (hw _ (List.mem_of_getElem? (i := 10) rfl))) (by decide) (t := .int) (t' := .int) (by decide) (by decide)))
  have f4_3 := F_right.other W4 (Or.inr (slot_ne (Or.inr (hw _ (List.mem_of_getElem? (i := 14) rfl))) (Or.inr (hw _ (List.mem_of_getElem? (i := 10) rfl))) (by decide) (t := .int) (t' := .int) (by decide) (by decide)))
  have f4_4 := F_bottom.other W4 (Or.inr (slot_ne (Or.inr (hw _ (List.mem_of_getElem? (i := 16) rfl))) (Or.inr (hw _ (List.mem_of_getElem? (i := 10) rfl))) (by decide) (t := .int) (t' := .int) (by decide) (by decide)))
  have Z4 : n0 ≤ h4.size := Nat.le_trans Z0 (Keep.of_wr W4).1
  have K4 := Keep.wr (Keep.refl h0 [a0]) W4 (Or.inl (List.mem_of_getElem? (i := 0) rfl))
  have N4 := Fr.snoc X4 N0 g_a0
  refine Ends.via st4 ?_
  show Ends p e below s ROOM1.cells ROOM1.slots (Q1 Z a0 p1 p2 p3 p4  u_left u_top u_right u_bottom h0 n0) (T4.setTop (mkF m 9 #[.val (.ref a0), .val (.int p1), .val (.int p2), .val (.int p3), .val (.int p4)] []))
  refine Ends.via (fun _ k => XS.aloadN X4.here hx rfl (hb hby d1_9) rfl rfl k) ?_
  show Ends p e below s ROOM1.cells ROOM1.slots (Q1 Z a0 p1 p2 p3 p4  u_left u_top u_right u_bottom h0 n0) (T4.setTop (mkF m 10 #[.val (.ref a0), .val (.int p1), .val (.int p2), .val (.int p3), .val (.int p4)] [(.ref a0)]))
  refine Ends.via (fun _ k => XS.iloadN X4.here hx rfl (hb hby d1_10) rfl k) ?_
  show Ends p e below s ROOM1.cells ROOM1.slots (Q1 Z a0 p1 p2 p3 p4  u_left u_top u_right u_bottom h0 n0) (T4.setTop (mkF m 11 #[.val (.ref a0), .val (.int p1), .val (.int p2), .val (.int p3), .val (.int p4)] [(.int p2), (.ref a0)]))
  obtain ⟨T5, h5, X5, e5, W5, st5⟩ := putF X4 hx hZ hown (host := "") (Or.inl (hw _ (List.mem_of_getElem? (i := 11) rfl))) Via.refl e4 f4_2 f4_0 (Or.inr ⟨(hw _ (List.mem_of_getElem? (i := 12) rfl)), rfl, hnm⟩) (hw _ (List.mem_of_getElem? (i := 1) rfl)) (ty := .int) (by decide) rfl rfl (g := (mkF m 11 #[.val (.ref a0), .val (.int p1), .val (.int p2), .val (.int p3), .val (.int p4)] [(.int p2), (.ref a0)])) rfl rfl (hb hby d1_11)
  have f5_0 := f4_0.wr W5
  have f5_1 := f4_1.other W5 (Or.inr (slot_ne (Or.inr (hw _ (List.mem_of_getElem? (i := 10) rfl))) (Or.inr (hw _ (List.mem_of_getElem? (i := 12) rfl))) (by decide) (t := .int) (t' := .int) (by decide) (by decide)))
  have f5_2 := f4_2.same W5
  have f5_3 := f4_3.other W5 (Or.inr (slot_ne (Or.inr (hw _ (List.mem_of_getElem? (i := 14) rfl))) (Or.inr (hw _ (List.mem_of_getElem? (i := 12) rfl))) (by decide) (t := .int) (t' := .int) (by decide) (by decide)))
  have f5_4 := f4_4.other W5 (Or.inr (slot_ne (Or.inr (hw _ (List.mem_of_getElem? (i := 16) rfl))) (Or.inr (hw _ (List.mem_of_getElem? (i := 12) rfl))) (by decide) (t := .int) (t' := .int) (by decide) (by decide)))
  have Z5 : n0 ≤ h5.size := Nat.le_trans Z4 (Keep.of_wr W5).1
  have K5 := Keep.wr K4 W5 (Or.inl (List.mem_of_getElem? (i := 0) rfl))
  have N5 := Fr.snoc X5 N4 g_a0
  refine Ends.via st5 ?_
  show Ends p e below s ROOM1.cells ROOM1.slots (Q1 Z a0 p1 p2 p3 p4  u_left u_top u_right u_bottom h0 n0) (T5.setTop (mkF m 14 #[.val (.ref a0), .val (.int p1), .val (.int p2), .val (.int p3), .val (.int p4)] []))
  refine Ends.via (fun _ k => XS.aloadN X5.here hx rfl (hb hby d1_14) rfl rfl k) ?_
  show Ends p e below s ROOM1.cells ROOM1.slots (Q1 Z a0 p1 p2 p3 p4  u_left u_top u_right u_bottom h0 n0) (T5.setTop (mkF m 15 #[.val (.ref a0), .val (.int p1), .val (.int p2), .val (.int p3), .val (.int p4)] [(.ref a0)]))
  refine Ends.via (fun _ k => XS.iloadN X5.here hx rfl (hb hby d1_15) rfl k) ?_
  show Ends p e below s ROOM1.cells ROOM1.slots (Q1 Z a0 p1 p2 p3 p4  u_left u_top u_right u_bottom h0 n0) (T5.setTop (mkF m 16 #[.val (.ref a0), .val (.int p1), .val (.int p2), .val (.int p3), .val (.int p4)] [(.int p3), (.ref a0)]))
  obtain ⟨T6, h6, X6, e6, W6, st6⟩ := putF X5 hx hZ hown (host := "") (Or.inl (hw _ (List.mem_of_getElem? (i := 13) rfl))) Via.refl e5 f5_3 f5_0 (Or.inr ⟨(hw _ (List.mem_of_getElem? (i := 14) rfl)), rfl, hnm⟩) (hw _ (List.mem_of_getElem? (i := 1) rfl)) (ty := .int) (by decide) rfl rfl (g := (mkF m 16 #[.val (.ref a0), .val (.int p1), .val (.int p2), .val (.int p3), .val (.int p4)] [(.int p3), (.ref a0)])) rfl rfl (hb hby d1_16)
  have f6_0 := f5_0.wr W6
  have f6_1 := f5_1.other W6 (Or.inr (slot_ne (Or.inr (hw _ (List.mem_of_getElem? (i := 10) rfl))) (Or.inr (hw _ (List.mem_of_getElem? (i := 14) rfl))) (by decide) (t := .int) (t' := .int) (by decide) (by decide)))
  have f6_2 := f5_2.other W6 (Or.inr (slot_ne (Or.inr (hw _ (List.mem_of_getElem? (i := 12) rfl))) (Or.inr (hw _ (List.mem_of_getElem? (i := 14) rfl))) (by decide) (t := .int) (t' := .int) (by decide) (by decide)))
  have f6_3 := f5_3.same W6
  have f6_4 := f5_4.other W6 (Or.inr (slot_ne (Or.inr (hw _ (List.mem_of_getElem? (i := 16) rfl))) (Or.inr (hw _ (List.mem_of_getElem? (i := 14) rfl))) (by decide) (t := .int) (t' := .int) (by decide) (by decide)))
  have Z6 : n0 ≤ h6.size := Nat.le_trans Z5 (Keep.of_wr W6).1
  have K6 := Keep.wr K5 W6 (Or.inl (List.mem_of_getElem? (i := 0) rfl))
  have N6 := Fr.snoc X6 N5 g_a0
  refine Ends.via st6 ?_
  show Ends p e below s ROOM1.cells ROOM1.slots (Q1 Z a0 p1 p2 p3 p4  u_left u_top u_right u_bottom h0 n0) (T6.setTop (mkF m 19 #[.val (.ref a0), .val (.int p1), .val (.int p2), .val (.int p3), .val (.int p4)] []))
  refine Ends.via (fun _ k => XS.aloadN X6.here hx rfl (hb hby d1_19) rfl rfl k) ?_
  show Ends p e below s ROOM1.cells ROOM1.slots (Q1 Z a0 p1 p2 p3 p4  u_left u_top u_right u_bottom h0 n0) (T6.setTop (mkF m 20 #[.val (.ref a0), .val (.int p1), .val (.int p2), .val (.int p3), .val (.int p4)] [(.ref a0)]))
  refine Ends.via (fun _ k => XS.iload X6.here hx rfl (hb hby d1_20) rfl k) ?_
  show Ends p e below s ROOM1.cells ROOM1.slots (Q1 Z a0 p1 p2 p3 p4  u_left u_top u_right u_bottom h0 n0) (T6.setTop (mkF m 22 #[.val (.ref a0), .val (.int p1), .val (.int p2), .val (.int p3), .val (.int p4)] [(.int p4), (.ref a0)]))
  obtain ⟨T7, h7, X7, e7, W7, st7⟩ := putF X6 hx hZ hown (host := "") (Or.inl (hw _ (List.mem_of_getElem? (i := 15) rfl))) Via.refl e6 f6_4 f6_0 (Or.inr ⟨(hw _ (List.mem_of_getElem? (i := 16) rfl)), rfl, hnm⟩) (hw _ (List.mem_of_getElem? (i := 1) rfl)) (ty := .int) (by decide) rfl rfl (g := (mkF m 22 #[.val (.ref a0), .val (.int p1), .val (.int p2), .val (.int p3), .val (.int p4)] [(.int p4), (.ref a0)])) rfl rfl (hb hby d1_22)
  have f7_0 := f6_0.wr W7
  have f7_1 := f6_1.other W7 (Or.inr (slot_ne (Or.inr (hw _ (List.mem_of_getElem? (i := 10) rfl))) (Or.inr (hw _ (List.mem_of_getElem? (i := 16) rfl))) (by decide) (t := .int) (t' := .int) (by decide) (by decide)))
  have f7_2 := f6_2.other W7 (Or.inr (slot_ne (Or.inr (hw _ (List.mem_of_getElem? (i := 12) rfl))) (Or.inr (hw _ (List.mem_of_getElem? (i := 16) rfl))) (by decide) (t := .int) (t' := .int) (by decide) (by decide)))
  have f7_3 := f6_3.other W7 (Or.inr (slot_ne (Or.inr (hw _ (List.mem_of_getElem? (i := 14) rfl))) (Or.inr (hw _ (List.mem_of_getElem? (i := 16) rfl))) (by decide) (t := .int) (t' := .int) (by decide) (by decide)))
  have f7_4 := f6_4.same W7
  have Z7 : n0 ≤ h7.size := Nat.le_trans Z6 (Keep.of_wr W7).1
  have K7 := Keep.wr K6 W7 (Or.inl (List.mem_of_getElem? (i := 0) rfl))
  have N7 := Fr.snoc X7 N6 g_a0
  refine Ends.via st7 ?_
  show Ends p e below s ROOM1.cells ROOM1.slots (Q1 Z a0 p1 p2 p3 p4  u_left u_top u_right u_bottom h0 n0) (T7.setTop (mkF m 25 #[.val (.ref a0), .val (.int p1), .val (.int p2), .val (.int p3), .val (.int p4)] []))
  refine Ends.ret X7 (v := none) (fun _ => rfl) Bd.notSynchronized (fun fs hr => X7.returnOut hx Bd.returns (hb hby d1_25) hr) ?_ (by decide) (by decide)
  rw [e7]
  exact ⟨rfl, N7, K7, f7_0, f7_1, f7_2, f7_3, f7_4⟩
theorem d3_0 : decode prog_12_method_11_code 0 = .ok (.aload_n 0, 1) := by decide +kernel
theorem d3_1 : decode prog_12_method_11_code 1 = .ok (.getfield 9, 3) := by decide +kernel
theorem d3_4 : decode prog_12_method_11_code 4 = .ok (.istore_n 1, 1) := by decide +kernel
theorem d3_5 : decode prog_12_method_11_code 5 = .ok (.bipush 31, 2) := by decide +kernel
theorem d3_7 : decode prog_12_method_11_code 7 = .ok (.iload_n 1, 1) := by decide +kernel
theorem d3_8 : decode prog_12_method_11_code 8 = .ok (.imul, 1) := by decide +kernel
theorem d3_9 : decode prog_12_method_11_code 9 = .ok (.aload_n 0, 1) := by decide +kernel
theorem d3_10 : decode prog_12_method_11_code 10 = .ok (.getfield 13, 3) := by decide +kernel
theorem d3_13 : decode prog_12_method_11_code 13 = .ok (.iadd, 1) := by decide +kernel
theorem d3_14 : decode prog_12_method_11_code 14 = .ok (.istore_n 1, 1) := by decide +kernel
theorem d3_15 : decode prog_12_method_11_code 15 = .ok (.bipush 31, 2) := by decide +kernel
theorem d3_17 : decode prog_12_method_11_code 17 = .ok (.iload_n 1, 1) := by decide +kernel
theorem d3_18 : decode prog_12_method_11_code 18 = .ok (.imul, 1) := by decide +kernel
theorem d3_19 : decode prog_12_method_11_code 19 = .ok (.aload_n 0, 1) := by decide +kernel
theorem d3_20 : decode prog_12_method_11_code 20 = .ok (.getfield 16, 3) := by decide +kernel
theorem d3_23 : decode prog_12_method_11_code 23 = .ok (.iadd, 1) := by decide +kernel
theorem d3_24 : decode prog_12_method_11_code 24 = .ok (.istore_n 1, 1) := by decide +kernel
theorem d3_25 : decode prog_12_method_11_code 25 = .ok (.bipush 31, 2) := by decide +kernel
theorem d3_27 : decode prog_12_method_11_code 27 = .ok (.iload_n 1, 1) := by decide +kernel
theorem d3_28 : decode prog_12_method_11_code 28 = .ok (.imul, 1) := by decide +kernel
theorem d3_29 : decode prog_12_method_11_code 29 = .ok (.aload_n 0, 1) := by decide +kernel
theorem d3_30 : decode prog_12_method_11_code 30 = .ok (.getfield 19, 3) := by decide +kernel
theorem d3_33 : decode prog_12_method_11_code 33 = .ok (.iadd, 1) := by decide +kernel
theorem d3_34 : decode prog_12_method_11_code 34 = .ok (.ireturn, 1) := by decide +kernel
theorem pn_3 : plainName "com/example/okno/okno/Insets" = true := by first | (simp [plainName, overriddenIn]; done) | decide +kernel
theorem ef_3 (m : MethodId) (a0 : Addr) : entryFrame m #[(.ref a0)] 2 = mkF m 0 #[.val (.ref a0), .unset] [] := by first | (simp [entryFrame, mkF, argsToLocals, Value.category]; done) | rfl
def fn3 (w_left : Int32) (w_top : Int32) (w_right : Int32) (w_bottom : Int32) : Int32 := (let v13 : Int32 := (((31 : Int32) * w_left) + w_top); (let v15 : Int32 := (((31 : Int32) * v13) + w_right); (((31 : Int32) * v15) + w_bottom)))
abbrev ROOM3 : Room := { frames := 0, cells := 0, slots := 0, locals := 0 }
def Q3 (Z : State) (a0 : Addr)  (w_left : Int32) (w_top : Int32) (w_right : Int32) (w_bottom : Int32) (h0 : Heap) (n0 : Nat) (v : Option Value) (h : Heap) (L : List Loc) : Prop := v = some (.int (fn3 w_left w_top w_right w_bottom)) ∧ Fr n0 L ∧ h = h0
set_option maxRecDepth 65536 in
set_option maxHeartbeats 40000000 in
theorem rm3 (l : Launch) (Z : State) (a0 : Array Value) (hw : ∀ d ∈ tables_1, d.before a0 Z = true) (ws : List Jvm.Cond) (a0 : Addr)  (w_left : Int32) (w_top : Int32) (w_right : Int32) (w_bottom : Int32) (h0 : Heap) (n0 : Nat) (Z0 : n0 ≤ h0.size)  (F_left : Fld Z h0 a0 "com/example/okno/okno/Insets" "left" "I" (.int w_left)) (F_top : Fld Z h0 a0 "com/example/okno/okno/Insets" "top" "I" (.int w_top)) (F_right : Fld Z h0 a0 "com/example/okno/okno/Insets" "right" "I" (.int w_right)) (F_bottom : Fld Z h0 a0 "com/example/okno/okno/Insets" "bottom" "I" (.int w_bottom)) :
    MetFree l (⟨"com/example/okno/okno/Insets", "hashCode", "()I"⟩ : MethodName) (head1 (Jvm.Cond.code (⟨"com/example/okno/okno/Insets", "hashCode", "()I"⟩ : MethodName) prog_12_method_11_code 2 (some .int) :: ws) ROOM3) (fun a U => a = #[(.ref a0)] ∧ Z.Warmed39 U.vm ∧ U.heap = h0) (fun _ _ _ _ _ => True) (fun _ U o U' => ∃ v L, o = .returned v ∧ Q3 Z a0  w_left w_top w_right w_bottom h0 n0 v U'.heap L ∧ FrameEnd U o U' L ROOM3.cells ROOM3.slots) := by
  refine MetFree.of_bodySF (plainFor_of_name pn_3) hisR ?_
  intro p e s m args below meth c s₁ Bd hml0 hP hK
  obtain ⟨rfl, hZ, hh⟩ := hP
  have hx := Bd.exec
  have hby := Bd.bytes
  have hml : c.maxLocals = 2 := hml0
  have hown : s.vm.findClass "com/example/okno/okno/Insets" = some m.cls := findClass_of_methodNamed Bd.named
  have hnm := (name_of_methodNamed Bd.named Bd.method).1
  have X0 : Stand p l e ROOM3 s m #[(.ref a0)] below meth c s₁ [] 0 0 := Stand.of_body Bd
  have e0 : s₁.heap = h0 := by rw [← hh, Bd.state]; rfl
  have N0 := Fr.nil n0
  refine Ends.via (A := s₁.setTop (mkF m 0 #[.val (.ref a0), .unset] [])) (kc := ROOM3.cells) (ks := ROOM3.slots) (Q := (Q3 Z a0  w_left w_top w_right w_bottom h0 n0)) (fun t k => castTop (ef_3 m a0) k) ?_
  show Ends p e below s ROOM3.cells ROOM3.slots (Q3 Z a0  w_left w_top w_right w_bottom h0 n0) (s₁.setTop (mkF m 0 #[.val (.ref a0), .unset] []))
  refine Ends.via (fun _ k => XS.aloadN X0.here hx rfl (hb hby d3_0) rfl rfl k) ?_
  show Ends p e below s ROOM3.cells ROOM3.slots (Q3 Z a0  w_left w_top w_right w_bottom h0 n0) (s₁.setTop (mkF m 1 #[.val (.ref a0), .unset] [(.ref a0)]))
  obtain ⟨T11, X11, e11, st11⟩ := getF X0 hx hZ hown (host := "") (Or.inl (hw _ (List.mem_of_getElem? (i := 9) rfl))) Via.refl e0 F_left (g := (mkF m 1 #[.val (.ref a0), .unset] [(.ref a0)])) rfl rfl (hb hby d3_1)
  refine Ends.via st11 ?_
  show Ends p e below s ROOM3.cells ROOM3.slots (Q3 Z a0  w_left w_top w_right w_bottom h0 n0) (T11.setTop (mkF m 4 #[.val (.ref a0), .unset] [(.int w_left)]))
  refine Ends.via (fun _ k => XS.istoreN X11.here hx rfl (hb hby d3_4) rfl (l' := #[.val (.ref a0), .val (.int w_left)]) rfl k) ?_
  show Ends p e below s ROOM3.cells ROOM3.slots (Q3 Z a0  w_left w_top w_right w_bottom h0 n0) (T11.setTop (mkF m 5 #[.val (.ref a0), .val (.int w_left)] []))
  refine Ends.via (fun _ k => XS.bipush X11.here hx rfl (hb hby d3_5) k) ?_
  show Ends p e below s ROOM3.cells ROOM3.slots (Q3 Z a0  w_left w_top w_right w_bottom h0 n0) (T11.setTop (mkF m 7 #[.val (.ref a0), .val (.int w_left)] [(.int (31 : Int32))]))
  refine Ends.via (fun _ k => XS.iloadN X11.here hx rfl (hb hby d3_7) rfl k) ?_
  show Ends p e below s ROOM3.cells ROOM3.slots (Q3 Z a0  w_left w_top w_right w_bottom h0 n0) (T11.setTop (mkF m 8 #[.val (.ref a0), .val (.int w_left)] [(.int w_left), (.int (31 : Int32))]))
  refine Ends.via (fun _ k => XS.imul X11.here hx rfl (hb hby d3_8) rfl k) ?_
  show Ends p e below s ROOM3.cells ROOM3.slots (Q3 Z a0  w_left w_top w_right w_bottom h0 n0) (T11.setTop (mkF m 9 #[.val (.ref a0), .val (.int w_left)] [(.int ((31 : Int32) * w_left))]))
  refine Ends.via (fun _ k => XS.aloadN X11.here hx rfl (hb hby d3_9) rfl rfl k) ?_
  show Ends p e below s ROOM3.cells ROOM3.slots (Q3 Z a0  w_left w_top w_right w_bottom h0 n0) (T11.setTop (mkF m 10 #[.val (.ref a0), .val (.int w_left)] [(.ref a0), (.int ((31 : Int32) * w_left))]))
  obtain ⟨T12, X12, e12, st12⟩ := getF X11 hx hZ hown (host := "") (Or.inl (hw _ (List.mem_of_getElem? (i := 11) rfl))) Via.refl e11 F_top (g := (mkF m 10 #[.val (.ref a0), .val (.int w_left)] [(.ref a0), (.int ((31 : Int32) * w_left))])) rfl rfl (hb hby d3_10)
  refine Ends.via st12 ?_
  show Ends p e below s ROOM3.cells ROOM3.slots (Q3 Z a0  w_left w_top w_right w_bottom h0 n0) (T12.setTop (mkF m 13 #[.val (.ref a0), .val (.int w_left)] [(.int w_top), (.int ((31 : Int32) * w_left))]))
  refine Ends.via (fun _ k => XS.iadd X12.here hx rfl (hb hby d3_13) rfl k) ?_
  show Ends p e below s ROOM3.cells ROOM3.slots (Q3 Z a0  w_left w_top w_right w_bottom h0 n0) (T12.setTop (mkF m 14 #[.val (.ref a0), .val (.int w_left)] [(.int (((31 : Int32) * w_left) + w_top))]))
  refine Ends.via (fun _ k => XS.istoreN X12.here hx rfl (hb hby d3_14) rfl (l' := #[.val (.ref a0), .val (.int (((31 : Int32) * w_left) + w_top))]) rfl k) ?_
  show Ends p e below s ROOM3.cells ROOM3.slots (Q3 Z a0  w_left w_top w_right w_bottom h0 n0) (T12.setTop (mkF m 15 #[.val (.ref a0), .val (.int (((31 : Int32) * w_left) + w_top))] []))
  generalize hv13 : (((31 : Int32) * w_left) + w_top) = v13
  refine Ends.via (fun _ k => XS.bipush X12.here hx rfl (hb hby d3_15) k) ?_
  show Ends p e below s ROOM3.cells ROOM3.slots (Q3 Z a0  w_left w_top w_right w_bottom h0 n0) (T12.setTop (mkF m 17 #[.val (.ref a0), .val (.int v13)] [(.int (31 : Int32))]))
  refine Ends.via (fun _ k => XS.iloadN X12.here hx rfl (hb hby d3_17) rfl k) ?_
  show Ends p e below s ROOM3.cells ROOM3.slots (Q3 Z a0  w_left w_top w_right w_bottom h0 n0) (T12.setTop (mkF m 18 #[.val (.ref a0), .val (.int v13)] [(.int v13), (.int (31 : Int32))]))
  refine Ends.via (fun _ k => XS.imul X12.here hx rfl (hb hby d3_18) rfl k) ?_
  show Ends p e below s ROOM3.cells ROOM3.slots (Q3 Z a0  w_left w_top w_right w_bottom h0 n0) (T12.setTop (mkF m 19 #[.val (.ref a0), .val (.int v13)] [(.int ((31 : Int32) * v13))]))
  refine Ends.via (fun _ k => XS.aloadN X12.here hx rfl (hb hby d3_19) rfl rfl k) ?_
  show Ends p e below s ROOM3.cells ROOM3.slots (Q3 Z a0  w_left w_top w_right w_bottom h0 n0) (T12.setTop (mkF m 20 #[.val (.ref a0), .val (.int v13)] [(.ref a0), (.int ((31 : Int32) * v13))]))
  obtain ⟨T14, X14, e14, st14⟩ := getF X12 hx hZ hown (host := "") (Or.inl (hw _ (List.mem_of_getElem? (i := 13) rfl))) Via.refl e12 F_right (g := (mkF m 20 #[.val (.ref a0), .val (.int v13)] [(.ref a0), (.int ((31 : Int32) * v13))])) rfl rfl (hb hby d3_20)
  refine Ends.via st14 ?_
  show Ends p e below s ROOM3.cells ROOM3.slots (Q3 Z a0  w_left w_top w_right w_bottom h0 n0) (T14.setTop (mkF m 23 #[.val (.ref a0), .val (.int v13)] [(.int w_right), (.int ((31 : Int32) * v13))]))
  refine Ends.via (fun _ k => XS.iadd X14.here hx rfl (hb hby d3_23) rfl k) ?_
  show Ends p e below s ROOM3.cells ROOM3.slots (Q3 Z a0  w_left w_top w_right w_bottom h0 n0) (T14.setTop (mkF m 24 #[.val (.ref a0), .val (.int v13)] [(.int (((31 : Int32) * v13) + w_right))]))
  refine Ends.via (fun _ k => XS.istoreN X14.here hx rfl (hb hby d3_24) rfl (l' := #[.val (.ref a0), .val (.int (((31 : Int32) * v13) + w_right))]) rfl k) ?_
  show Ends p e below s ROOM3.cells ROOM3.slots (Q3 Z a0  w_left w_top w_right w_bottom h0 n0) (T14.setTop (mkF m 25 #[.val (.ref a0), .val (.int (((31 : Int32) * v13) + w_right))] []))
  generalize hv15 : (((31 : Int32) * v13) + w_right) = v15
  refine Ends.via (fun _ k => XS.bipush X14.here hx rfl (hb hby d3_25) k) ?_
  show Ends p e below s ROOM3.cells ROOM3.slots (Q3 Z a0  w_left w_top w_right w_bottom h0 n0) (T14.setTop (mkF m 27 #[.val (.ref a0), .val (.int v15)] [(.int (31 : Int32))]))
  refine Ends.via (fun _ k => XS.iloadN X14.here hx rfl (hb hby d3_27) rfl k) ?_
  show Ends p e below s ROOM3.cells ROOM3.slots (Q3 Z a0  w_left w_top w_right w_bottom h0 n0) (T14.setTop (mkF m 28 #[.val (.ref a0), .val (.int v15)] [(.int v15), (.int (31 : Int32))]))
  refine Ends.via (fun _ k => XS.imul X14.here hx rfl (hb hby d3_28) rfl k) ?_
  show Ends p e below s ROOM3.cells ROOM3.slots (Q3 Z a0  w_left w_top w_right w_bottom h0 n0) (T14.setTop (mkF m 29 #[.val (.ref a0), .val (.int v15)] [(.int ((31 : Int32) * v15))]))
  refine Ends.via (fun _ k => XS.aloadN X14.here hx rfl (hb hby d3_29) rfl rfl k) ?_
  show Ends p e below s ROOM3.cells ROOM3.slots (Q3 Z a0  w_left w_top w_right w_bottom h0 n0) (T14.setTop (mkF m 30 #[.val (.ref a0), .val (.int v15)] [(.ref a0), (.int ((31 : Int32) * v15))]))
  obtain ⟨T16, X16, e16, st16⟩ := getF X14 hx hZ hown (host := "") (Or.inl (hw _ (List.mem_of_getElem? (i := 15) rfl))) Via.refl e14 F_bottom (g := (mkF m 30 #[.val (.ref a0), .val (.int v15)] [(.ref a0), (.int ((31 : Int32) * v15))])) rfl rfl (hb hby d3_30)
  refine Ends.via st16 ?_
  show Ends p e below s ROOM3.cells ROOM3.slots (Q3 Z a0  w_left w_top w_right w_bottom h0 n0) (T16.setTop (mkF m 33 #[.val (.ref a0), .val (.int v15)] [(.int w_bottom), (.int ((31 : Int32) * v15))]))
  refine Ends.via (fun _ k => XS.iadd X16.here hx rfl (hb hby d3_33) rfl k) ?_
  show Ends p e below s ROOM3.cells ROOM3.slots (Q3 Z a0  w_left w_top w_right w_bottom h0 n0) (T16.setTop (mkF m 34 #[.val (.ref a0), .val (.int v15)] [(.int (((31 : Int32) * v15) + w_bottom))]))
  refine Ends.ret X16 (v := some (.int (((31 : Int32) * v15) + w_bottom))) (fun h => by rw [Bd.returns] at h; cases h) Bd.notSynchronized (fun fs hr => retI X16 hx Bd.returns (hb hby d3_34) hr) ?_ (by decide) (by decide)
  have hfn : fn3 w_left w_top w_right w_bottom = (((31 : Int32) * v15) + w_bottom) := by subst hv15; subst hv13; simp only [fn3]
  exact ⟨by rw [hfn], N0, e16⟩
theorem own_hash (a b c d : Int32) : fn3 a b c d = (((((29791 : Int32) * a) + ((961 : Int32) * b)) + ((31 : Int32) * c)) + d) := by
  have e1 : (29791 : Int32) = 31 * 31 * 31 := by decide
  have e2 : (961 : Int32) = 31 * 31 := by decide
  simp only [fn3]
  rw [e1, e2, Int32.mul_add, Int32.mul_add, Int32.mul_add, Int32.mul_assoc, Int32.mul_assoc, Int32.mul_assoc]
theorem own_leaf1 (p0 : Int32) (p1 : Int32) (p2 : Int32) (p3 : Int32) (v17 : Int32) (v18 : Int32) (hv17 : (fn3 p0 p1 p2 p3) = v17) (hv18 : (((((29791 : Int32) * p0) + ((961 : Int32) * p1)) + ((31 : Int32) * p2)) + p3) = v18) (hc19 : v17 = v18) (hc21 : ¬ (v17 = (fn3 p0 p1 p2 p3))) : False := by
    exact hc21 hv17.symm
theorem own_leaf2 (p0 : Int32) (p1 : Int32) (p2 : Int32) (p3 : Int32) (v17 : Int32) (v18 : Int32) (hv17 : (fn3 p0 p1 p2 p3) = v17) (hv18 : (((((29791 : Int32) * p0) + ((961 : Int32) * p1)) + ((31 : Int32) * p2)) + p3) = v18) (hc19 : ¬ (v17 = v18)) : False := by
    exact hc19 (hv17.symm.trans ((own_hash p0 p1 p2 p3).trans hv18))
theorem pn_0 : plainName "com/example/okno/okno/InsetsHashCodePinLaw" = true := by first | (simp [plainName, overriddenIn]; done) | decide +kernel
theorem ef_0 (m : MethodId) (p0 : Int32) (p1 : Int32) (p2 : Int32) (p3 : Int32) : entryFrame m #[(.int p0), (.int p1), (.int p2), (.int p3)] maxLocals = mkF m 0 #[.val (.int p0), .val (.int p1), .val (.int p2), .val (.int p3), .unset, .unset, .unset, .unset] [] := by first | (simp [entryFrame, mkF, argsToLocals, Value.category, maxLocals]; done) | rfl
def Q0 (Z : State) (p0 : Int32) (p1 : Int32) (p2 : Int32) (p3 : Int32)  (h0 : Heap) (n0 : Nat) (v : Option Value) (h : Heap) (L : List Loc) : Prop := v = some (.int 1) ∧ Fr n0 L
set_option maxRecDepth 65536 in
set_option maxHeartbeats 40000000 in
theorem rm0 (l : Launch) (Z : State) (a0 : Array Value) (hw : ∀ d ∈ tables_1, d.before a0 Z = true) (ws : List Jvm.Cond) (p0 : Int32) (p1 : Int32) (p2 : Int32) (p3 : Int32)  (h0 : Heap) (n0 : Nat) (Z0 : n0 ≤ h0.size)  :
    MetFree l x (head1 (Jvm.Cond.code x code maxLocals ret :: ws) room_1) (fun a U => a = #[(.int p0), (.int p1), (.int p2), (.int p3)] ∧ Z.Warmed39 U.vm ∧ U.heap = h0) (fun _ _ _ _ _ => True) (fun _ U o U' => ∃ v L, o = .returned v ∧ Q0 Z p0 p1 p2 p3  h0 n0 v U'.heap L ∧ FrameEnd U o U' L 16 128) := by
  refine MetFree.of_bodySF (plainFor_of_name pn_0) hisR ?_
  intro p e s m args below meth c s₁ Bd hml0 hP hK
  obtain ⟨rfl, hZ, hh⟩ := hP
  have hx := Bd.exec
  have hby := Bd.bytes
  have hml : c.maxLocals = 8 := hml0
  have hown : s.vm.findClass "com/example/okno/okno/InsetsHashCodePinLaw" = some m.cls := findClass_of_methodNamed Bd.named
  have hnm := (name_of_methodNamed Bd.named Bd.method).1
  have X0 : Stand p l e room_1 s m #[(.int p0), (.int p1), (.int p2), (.int p3)] below meth c s₁ [] 0 0 := Stand.of_body Bd
  have e0 : s₁.heap = h0 := by rw [← hh, Bd.state]; rfl
  have N0 := Fr.nil n0
  refine Ends.via (A := s₁.setTop (mkF m 0 #[.val (.int p0), .val (.int p1), .val (.int p2), .val (.int p3), .unset, .unset, .unset, .unset] [])) (kc := 16) (ks := 128) (Q := (Q0 Z p0 p1 p2 p3  h0 n0)) (fun t k => castTop (ef_0 m p0 p1 p2 p3) k) ?_
  show Ends p e below s 16 128 (Q0 Z p0 p1 p2 p3  h0 n0) (s₁.setTop (mkF m 0 #[.val (.int p0), .val (.int p1), .val (.int p2), .val (.int p3), .unset, .unset, .unset, .unset] []))
  obtain ⟨T1, h1, X1, e1, E1, A1, D1, -, st1⟩ := newO X0 hx hZ hown (hw _ (List.mem_of_getElem? (i := 0) rfl)) (hw _ (List.mem_of_getElem? (i := 1) rfl)) (hw _ (List.mem_of_getElem? (i := 2) rfl)) e0 (g := (mkF m 0 #[.val (.int p0), .val (.int p1), .val (.int p2), .val (.int p3), .unset, .unset, .unset, .unset] [])) rfl (hb hby at_0) (by decide) (by decide)
  obtain ⟨b1, g1⟩ : ∃ z, z = h0.size := ⟨_, rfl⟩
  rw [← g1] at A1 D1 st1
  have g_b1 : n0 ≤ b1 := Nat.le_trans Z0 (Nat.le_of_eq g1.symm)
  have Z1 : n0 ≤ h1.size := Nat.le_trans Z0 E1.1
  have F1_left : Fld Z h1 b1 "com/example/okno/okno/Insets" "left" "I" (.int (0 : Int32)) := D1 (Or.inr (hw _ (List.mem_of_getElem? (i := 10) rfl))) (ty := .int) (by decide)
  have F1_top : Fld Z h1 b1 "com/example/okno/okno/Insets" "top" "I" (.int (0 : Int32)) := D1 (Or.inr (hw _ (List.mem_of_getElem? (i := 12) rfl))) (ty := .int) (by decide)
  have F1_right : Fld Z h1 b1 "com/example/okno/okno/Insets" "right" "I" (.int (0 : Int32)) := D1 (Or.inr (hw _ (List.mem_of_getElem? (i := 14) rfl))) (ty := .int) (by decide)
  have F1_bottom : Fld Z h1 b1 "com/example/okno/okno/Insets" "bottom" "I" (.int (0 : Int32)) := D1 (Or.inr (hw _ (List.mem_of_getElem? (i := 16) rfl))) (ty := .int) (by decide)
  refine Ends.via st1 ?_
  show Ends p e below s 16 128 (Q0 Z p0 p1 p2 p3  h0 n0) (T1.setTop (mkF m 3 #[.val (.int p0), .val (.int p1), .val (.int p2), .val (.int p3), .unset, .unset, .unset, .unset] [(.ref b1)]))
  refine Ends.via (fun _ k => XS.dup X1.here hx rfl (hb hby at_3) rfl rfl k) ?_
  show Ends p e below s 16 128 (Q0 Z p0 p1 p2 p3  h0 n0) (T1.setTop (mkF m 4 #[.val (.int p0), .val (.int p1), .val (.int p2), .val (.int p3), .unset, .unset, .unset, .unset] [(.ref b1), (.ref b1)]))
  refine Ends.via (fun _ k => XS.iloadN X1.here hx rfl (hb hby at_4) rfl k) ?_
  show Ends p e below s 16 128 (Q0 Z p0 p1 p2 p3  h0 n0) (T1.setTop (mkF m 5 #[.val (.int p0), .val (.int p1), .val (.int p2), .val (.int p3), .unset, .unset, .unset, .unset] [(.int p0), (.ref b1), (.ref b1)]))
  refine Ends.via (fun _ k => XS.iloadN X1.here hx rfl (hb hby at_5) rfl k) ?_
  show Ends p e below s 16 128 (Q0 Z p0 p1 p2 p3  h0 n0) (T1.setTop (mkF m 6 #[.val (.int p0), .val (.int p1), .val (.int p2), .val (.int p3), .unset, .unset, .unset, .unset] [(.int p1), (.int p0), (.ref b1), (.ref b1)]))
  refine Ends.via (fun _ k => XS.iloadN X1.here hx rfl (hb hby at_6) rfl k) ?_
  show Ends p e below s 16 128 (Q0 Z p0 p1 p2 p3  h0 n0) (T1.setTop (mkF m 7 #[.val (.int p0), .val (.int p1), .val (.int p2), .val (.int p3), .unset, .unset, .unset, .unset] [(.int p2), (.int p1), (.int p0), (.ref b1), (.ref b1)]))
  refine Ends.via (fun _ k => XS.iloadN X1.here hx rfl (hb hby at_7) rfl k) ?_
  show Ends p e below s 16 128 (Q0 Z p0 p1 p2 p3  h0 n0) (T1.setTop (mkF m 8 #[.val (.int p0), .val (.int p1), .val (.int p2), .val (.int p3), .unset, .unset, .unset, .unset] [(.int p3), (.int p2), (.int p1), (.int p0), (.ref b1), (.ref b1)]))
  obtain ⟨_, _, ⟨T2, L2, k2, n2⟩, -, X2, ⟨Lc2, hQ2, l2, y2, z2⟩, st2⟩ := X1.specialBack hx (y := (⟨"com/example/okno/okno/Insets", "<init>", "(IIII)V"⟩ : MethodName)) rfl hown (mvT hZ (hw _ (List.mem_of_getElem? (i := 3) rfl))) (mvT hZ (hw _ (List.mem_of_getElem? (i := 4) rfl))) (mvT hZ (hw _ (List.mem_of_getElem? (i := 5) rfl))) (by decide) (backOf (W := 1) (rm1 l Z a0 hw [] b1 p0 p1 p2 p3 (.int (0 : Int32)) (.int (0 : Int32)) (.int (0 : Int32)) (.int (0 : Int32)) h1 n0 Z1 g_b1 A1 F1_left F1_top F1_right F1_bottom) hZ (hw _ (List.mem_of_getElem? (i := 5) rfl)) (hw _ (List.mem_of_getElem? (i := 2) rfl)) (by decide) (by decide)) (g := (mkF m 8 #[.val (.int p0), .val (.int p1), .val (.int p2), .val (.int p3), .unset, .unset, .unset, .unset] [(.int p3), (.int p2), (.int p1), (.int p0), (.ref b1), (.ref b1)])) rfl (by rw [hml]; rfl) (Steps.refl _) (a := b1) (argsL := [(.int p0), (.int p1), (.int p2), (.int p3)]) (rest := [(.ref b1)]) (lenOf own_pd0 rfl) rfl (by show 2 * 0 + _ ≤ _; exact Nat.le_of_eq rfl) (hb hby at_8) (fun _ _ => ⟨rfl, e1, (by decide : 1 + 0 ≤ _), (by decide : 4 + 0 ≤ _)⟩)
  dsimp only [Pt.U, Pt.locs, Pt.cells, Pt.slots] at X2 l2 y2 z2 st2 hQ2
  subst l2 y2 z2
  obtain ⟨rfl, Nq2, Kq2, Eq2, Fq2_0, Fq2_1, Fq2_2, Fq2_3⟩ := hQ2
  have N2 := Fr.app N0 Nq2
  have Z2 : n0 ≤ T2.heap.size := Nat.le_trans Z1 Kq2.1
  refine Ends.via (fun _ k => st2.trans k) ?_
  show Ends p e below s 16 128 (Q0 Z p0 p1 p2 p3  h0 n0) (T2.setTop (mkF m 11 #[.val (.int p0), .val (.int p1), .val (.int p2), .val (.int p3), .unset, .unset, .unset, .unset] [(.ref b1)]))
  refine Ends.via (fun _ k => XS.astore X2.here hx rfl (hb hby at_11) rfl rfl (l' := #[.val (.int p0), .val (.int p1), .val (.int p2), .val (.int p3), .val (.ref b1), .unset, .unset, .unset]) rfl k) ?_
  show Ends p e below s 16 128 (Q0 Z p0 p1 p2 p3  h0 n0) (T2.setTop (mkF m 13 #[.val (.int p0), .val (.int p1), .val (.int p2), .val (.int p3), .val (.ref b1), .unset, .unset, .unset] []))
  obtain ⟨T8, h8, X8, e8, E8, A8, D8, -, st8⟩ := newO X2 hx hZ hown (hw _ (List.mem_of_getElem? (i := 0) rfl)) (hw _ (List.mem_of_getElem? (i := 1) rfl)) (hw _ (List.mem_of_getElem? (i := 2) rfl)) rfl (g := (mkF m 13 #[.val (.int p0), .val (.int p1), .val (.int p2), .val (.int p3), .val (.ref b1), .unset, .unset, .unset] [])) rfl (hb hby at_13) (by decide) (by decide)
  obtain ⟨b8, g8⟩ : ∃ z, z = T2.heap.size := ⟨_, rfl⟩
  rw [← g8] at A8 D8 st8
  have g_b8 : n0 ≤ b8 := Nat.le_trans Z2 (Nat.le_of_eq g8.symm)
  have ne_b1_b8 : b1 ≠ b8 := Nat.ne_of_lt (Nat.lt_of_lt_of_le Eq2.lt (Nat.le_of_eq g8.symm))
  have f8_0 := Eq2.ext E8
  have f8_1 := Fq2_0.ext E8
  have f8_2 := Fq2_1.ext E8
  have f8_3 := Fq2_2.ext E8
  have f8_4 := Fq2_3.ext E8
  have Z8 : n0 ≤ h8.size := Nat.le_trans Z2 E8.1
  have F8_left : Fld Z h8 b8 "com/example/okno/okno/Insets" "left" "I" (.int (0 : Int32)) := D8 (Or.inr (hw _ (List.mem_of_getElem? (i := 10) rfl))) (ty := .int) (by decide)
  have F8_top : Fld Z h8 b8 "com/example/okno/okno/Insets" "top" "I" (.int (0 : Int32)) := D8 (Or.inr (hw _ (List.mem_of_getElem? (i := 12) rfl))) (ty := .int) (by decide)
  have F8_right : Fld Z h8 b8 "com/example/okno/okno/Insets" "right" "I" (.int (0 : Int32)) := D8 (Or.inr (hw _ (List.mem_of_getElem? (i := 14) rfl))) (ty := .int) (by decide)
  have F8_bottom : Fld Z h8 b8 "com/example/okno/okno/Insets" "bottom" "I" (.int (0 : Int32)) := D8 (Or.inr (hw _ (List.mem_of_getElem? (i := 16) rfl))) (ty := .int) (by decide)
  refine Ends.via st8 ?_
  show Ends p e below s 16 128 (Q0 Z p0 p1 p2 p3  h0 n0) (T8.setTop (mkF m 16 #[.val (.int p0), .val (.int p1), .val (.int p2), .val (.int p3), .val (.ref b1), .unset, .unset, .unset] [(.ref b8)]))
  refine Ends.via (fun _ k => XS.dup X8.here hx rfl (hb hby at_16) rfl rfl k) ?_
  show Ends p e below s 16 128 (Q0 Z p0 p1 p2 p3  h0 n0) (T8.setTop (mkF m 17 #[.val (.int p0), .val (.int p1), .val (.int p2), .val (.int p3), .val (.ref b1), .unset, .unset, .unset] [(.ref b8), (.ref b8)]))
  refine Ends.via (fun _ k => XS.iloadN X8.here hx rfl (hb hby at_17) rfl k) ?_
  show Ends p e below s 16 128 (Q0 Z p0 p1 p2 p3  h0 n0) (T8.setTop (mkF m 18 #[.val (.int p0), .val (.int p1), .val (.int p2), .val (.int p3), .val (.ref b1), .unset, .unset, .unset] [(.int p0), (.ref b8), (.ref b8)]))
  refine Ends.via (fun _ k => XS.iloadN X8.here hx rfl (hb hby at_18) rfl k) ?_
  show Ends p e below s 16 128 (Q0 Z p0 p1 p2 p3  h0 n0) (T8.setTop (mkF m 19 #[.val (.int p0), .val (.int p1), .val (.int p2), .val (.int p3), .val (.ref b1), .unset, .unset, .unset] [(.int p1), (.int p0), (.ref b8), (.ref b8)]))
  refine Ends.via (fun _ k => XS.iloadN X8.here hx rfl (hb hby at_19) rfl k) ?_
  show Ends p e below s 16 128 (Q0 Z p0 p1 p2 p3  h0 n0) (T8.setTop (mkF m 20 #[.val (.int p0), .val (.int p1), .val (.int p2), .val (.int p3), .val (.ref b1), .unset, .unset, .unset] [(.int p2), (.int p1), (.int p0), (.ref b8), (.ref b8)]))
  refine Ends.via (fun _ k => XS.iloadN X8.here hx rfl (hb hby at_20) rfl k) ?_
  show Ends p e below s 16 128 (Q0 Z p0 p1 p2 p3  h0 n0) (T8.setTop (mkF m 21 #[.val (.int p0), .val (.int p1), .val (.int p2), .val (.int p3), .val (.ref b1), .unset, .unset, .unset] [(.int p3), (.int p2), (.int p1), (.int p0), (.ref b8), (.ref b8)]))
  obtain ⟨_, _, ⟨T9, L9, k9, n9⟩, -, X9, ⟨Lc9, hQ9, l9, y9, z9⟩, st9⟩ := X8.specialBack hx (y := (⟨"com/example/okno/okno/Insets", "<init>", "(IIII)V"⟩ : MethodName)) rfl hown (mvT hZ (hw _ (List.mem_of_getElem? (i := 3) rfl))) (mvT hZ (hw _ (List.mem_of_getElem? (i := 4) rfl))) (mvT hZ (hw _ (List.mem_of_getElem? (i := 5) rfl))) (by decide) (backOf (W := 1) (rm1 l Z a0 hw [] b8 p0 p1 p2 p3 (.int (0 : Int32)) (.int (0 : Int32)) (.int (0 : Int32)) (.int (0 : Int32)) h8 n0 Z8 g_b8 A8 F8_left F8_top F8_right F8_bottom) hZ (hw _ (List.mem_of_getElem? (i := 5) rfl)) (hw _ (List.mem_of_getElem? (i := 2) rfl)) (by decide) (by decide)) (g := (mkF m 21 #[.val (.int p0), .val (.int p1), .val (.int p2), .val (.int p3), .val (.ref b1), .unset, .unset, .unset] [(.int p3), (.int p2), (.int p1), (.int p0), (.ref b8), (.ref b8)])) rfl (by rw [hml]; rfl) (Steps.refl _) (a := b8) (argsL := [(.int p0), (.int p1), (.int p2), (.int p3)]) (rest := [(.ref b8)]) (lenOf own_pd0 rfl) rfl (by show 2 * 0 + _ ≤ _; exact Nat.le_of_eq rfl) (hb hby at_21) (fun _ _ => ⟨rfl, e8, (by decide : 2 + 0 ≤ _), (by decide : 8 + 0 ≤ _)⟩)
  dsimp only [Pt.U, Pt.locs, Pt.cells, Pt.slots] at X9 l9 y9 z9 st9 hQ9
  subst l9 y9 z9
  obtain ⟨rfl, Nq9, Kq9, Eq9, Fq9_0, Fq9_1, Fq9_2, Fq9_3⟩ := hQ9
  have N9 := Fr.app N2 Nq9
  have f9_0 := f8_0.keep Kq9
  have f9_1 := f8_1.keep Kq9 (ninS ne_b1_b8 nin0)
  have f9_2 := f8_2.keep Kq9 (ninS ne_b1_b8 nin0)
  have f9_3 := f8_3.keep Kq9 (ninS ne_b1_b8 nin0)
  have f9_4 := f8_4.keep Kq9 (ninS ne_b1_b8 nin0)
  have Z9 : n0 ≤ T9.heap.size := Nat.le_trans Z8 Kq9.1
  refine Ends.via (fun _ k => st9.trans k) ?_
  show Ends p e below s 16 128 (Q0 Z p0 p1 p2 p3  h0 n0) (T9.setTop (mkF m 24 #[.val (.int p0), .val (.int p1), .val (.int p2), .val (.int p3), .val (.ref b1), .unset, .unset, .unset] [(.ref b8)]))
  refine Ends.via (fun _ k => XS.astore X9.here hx rfl (hb hby at_24) rfl rfl (l' := #[.val (.int p0), .val (.int p1), .val (.int p2), .val (.int p3), .val (.ref b1), .val (.ref b8), .unset, .unset]) rfl k) ?_
  show Ends p e below s 16 128 (Q0 Z p0 p1 p2 p3  h0 n0) (T9.setTop (mkF m 26 #[.val (.int p0), .val (.int p1), .val (.int p2), .val (.int p3), .val (.ref b1), .val (.ref b8), .unset, .unset] []))
  refine Ends.via (fun _ k => XS.aload X9.here hx rfl (hb hby at_26) rfl rfl k) ?_
  show Ends p e below s 16 128 (Q0 Z p0 p1 p2 p3  h0 n0) (T9.setTop (mkF m 28 #[.val (.int p0), .val (.int p1), .val (.int p2), .val (.int p3), .val (.ref b1), .val (.ref b8), .unset, .unset] [(.ref b1)]))
  obtain ⟨cq10, kq10, qa10, qb10, qc10⟩ := isOf hZ rfl f9_0
  obtain ⟨_, _, ⟨T10, L10, k10, n10⟩, -, X10, ⟨Lc10, hQ10, l10, y10, z10⟩, st10⟩ := X9.virtualBack hx (y := (⟨"com/example/okno/okno/Insets", "hashCode", "()I"⟩ : MethodName)) (z := (⟨"com/example/okno/okno/Insets", "hashCode", "()I"⟩ : MethodName)) hown (mvT hZ (hw _ (List.mem_of_getElem? (i := 17) rfl))) (mvT hZ (hw _ (List.mem_of_getElem? (i := 18) rfl))) (notFace_of_selects (args := #[]) (mvT hZ (hw _ (List.mem_of_getElem? (i := 20) rfl)))) (mvT hZ (hw _ (List.mem_of_getElem? (i := 20) rfl))) (mvT hZ (hw _ (List.mem_of_getElem? (i := 19) rfl))) (by decide) (backOf (W := 0) (rm3 l Z a0 hw [] b1  p0 p1 p2 p3 T9.heap n0 Z9 f9_1 f9_2 f9_3 f9_4) hZ (hw _ (List.mem_of_getElem? (i := 21) rfl)) (hw _ (List.mem_of_getElem? (i := 2) rfl)) (by decide) (by decide)) qa10 qc10 (g := (mkF m 28 #[.val (.int p0), .val (.int p1), .val (.int p2), .val (.int p3), .val (.ref b1), .val (.ref b8), .unset, .unset] [(.ref b1)])) rfl (by rw [hml]; rfl) (Steps.refl _) (argsL := []) (rest := []) (lenOf own_pd1 rfl) rfl (by show 2 * 0 + _ ≤ _; exact Nat.le_of_eq rfl) (hb hby at_28) (fun _ _ => ⟨rfl, rfl, (by decide : 2 + 0 ≤ _), (by decide : 8 + 0 ≤ _)⟩)
  dsimp only [Pt.U, Pt.locs, Pt.cells, Pt.slots] at X10 l10 y10 z10 st10 hQ10
  subst l10 y10 z10
  obtain ⟨rfl, Nq10, e10⟩ := hQ10
  have N10 := Fr.app N9 Nq10
  refine Ends.via (fun _ k => st10.trans k) ?_
  show Ends p e below s 16 128 (Q0 Z p0 p1 p2 p3  h0 n0) (T10.setTop (mkF m 31 #[.val (.int p0), .val (.int p1), .val (.int p2), .val (.int p3), .val (.ref b1), .val (.ref b8), .unset, .unset] [(.int (fn3 p0 p1 p2 p3))]))
  refine Ends.via (fun _ k => XS.istore X10.here hx rfl (hb hby at_31) rfl (l' := #[.val (.int p0), .val (.int p1), .val (.int p2), .val (.int p3), .val (.ref b1), .val (.ref b8), .val (.int (fn3 p0 p1 p2 p3)), .unset]) rfl k) ?_
  show Ends p e below s 16 128 (Q0 Z p0 p1 p2 p3  h0 n0) (T10.setTop (mkF m 33 #[.val (.int p0), .val (.int p1), .val (.int p2), .val (.int p3), .val (.ref b1), .val (.ref b8), .val (.int (fn3 p0 p1 p2 p3)), .unset] []))
  generalize hv17 : (fn3 p0 p1 p2 p3) = v17
  refine Ends.via (fun _ k => XS.sipush X10.here hx rfl (hb hby at_33) k) ?_
  show Ends p e below s 16 128 (Q0 Z p0 p1 p2 p3  h0 n0) (T10.setTop (mkF m 36 #[.val (.int p0), .val (.int p1), .val (.int p2), .val (.int p3), .val (.ref b1), .val (.ref b8), .val (.int v17), .unset] [(.int (29791 : Int32))]))
  refine Ends.via (fun _ k => XS.iloadN X10.here hx rfl (hb hby at_36) rfl k) ?_
  show Ends p e below s 16 128 (Q0 Z p0 p1 p2 p3  h0 n0) (T10.setTop (mkF m 37 #[.val (.int p0), .val (.int p1), .val (.int p2), .val (.int p3), .val (.ref b1), .val (.ref b8), .val (.int v17), .unset] [(.int p0), (.int (29791 : Int32))]))
  refine Ends.via (fun _ k => XS.imul X10.here hx rfl (hb hby at_37) rfl k) ?_
  show Ends p e below s 16 128 (Q0 Z p0 p1 p2 p3  h0 n0) (T10.setTop (mkF m 38 #[.val (.int p0), .val (.int p1), .val (.int p2), .val (.int p3), .val (.ref b1), .val (.ref b8), .val (.int v17), .unset] [(.int ((29791 : Int32) * p0))]))
  refine Ends.via (fun _ k => XS.sipush X10.here hx rfl (hb hby at_38) k) ?_
  show Ends p e below s 16 128 (Q0 Z p0 p1 p2 p3  h0 n0) (T10.setTop (mkF m 41 #[.val (.int p0), .val (.int p1), .val (.int p2), .val (.int p3), .val (.ref b1), .val (.ref b8), .val (.int v17), .unset] [(.int (961 : Int32)), (.int ((29791 : Int32) * p0))]))
  refine Ends.via (fun _ k => XS.iloadN X10.here hx rfl (hb hby at_41) rfl k) ?_
  show Ends p e below s 16 128 (Q0 Z p0 p1 p2 p3  h0 n0) (T10.setTop (mkF m 42 #[.val (.int p0), .val (.int p1), .val (.int p2), .val (.int p3), .val (.ref b1), .val (.ref b8), .val (.int v17), .unset] [(.int p1), (.int (961 : Int32)), (.int ((29791 : Int32) * p0))]))
  refine Ends.via (fun _ k => XS.imul X10.here hx rfl (hb hby at_42) rfl k) ?_
  show Ends p e below s 16 128 (Q0 Z p0 p1 p2 p3  h0 n0) (T10.setTop (mkF m 43 #[.val (.int p0), .val (.int p1), .val (.int p2), .val (.int p3), .val (.ref b1), .val (.ref b8), .val (.int v17), .unset] [(.int ((961 : Int32) * p1)), (.int ((29791 : Int32) * p0))]))
  refine Ends.via (fun _ k => XS.iadd X10.here hx rfl (hb hby at_43) rfl k) ?_
  show Ends p e below s 16 128 (Q0 Z p0 p1 p2 p3  h0 n0) (T10.setTop (mkF m 44 #[.val (.int p0), .val (.int p1), .val (.int p2), .val (.int p3), .val (.ref b1), .val (.ref b8), .val (.int v17), .unset] [(.int (((29791 : Int32) * p0) + ((961 : Int32) * p1)))]))
  refine Ends.via (fun _ k => XS.bipush X10.here hx rfl (hb hby at_44) k) ?_
  show Ends p e below s 16 128 (Q0 Z p0 p1 p2 p3  h0 n0) (T10.setTop (mkF m 46 #[.val (.int p0), .val (.int p1), .val (.int p2), .val (.int p3), .val (.ref b1), .val (.ref b8), .val (.int v17), .unset] [(.int (31 : Int32)), (.int (((29791 : Int32) * p0) + ((961 : Int32) * p1)))]))
  refine Ends.via (fun _ k => XS.iloadN X10.here hx rfl (hb hby at_46) rfl k) ?_
  show Ends p e below s 16 128 (Q0 Z p0 p1 p2 p3  h0 n0) (T10.setTop (mkF m 47 #[.val (.int p0), .val (.int p1), .val (.int p2), .val (.int p3), .val (.ref b1), .val (.ref b8), .val (.int v17), .unset] [(.int p2), (.int (31 : Int32)), (.int (((29791 : Int32) * p0) + ((961 : Int32) * p1)))]))
  refine Ends.via (fun _ k => XS.imul X10.here hx rfl (hb hby at_47) rfl k) ?_
  show Ends p e below s 16 128 (Q0 Z p0 p1 p2 p3  h0 n0) (T10.setTop (mkF m 48 #[.val (.int p0), .val (.int p1), .val (.int p2), .val (.int p3), .val (.ref b1), .val (.ref b8), .val (.int v17), .unset] [(.int ((31 : Int32) * p2)), (.int (((29791 : Int32) * p0) + ((961 : Int32) * p1)))]))
  refine Ends.via (fun _ k => XS.iadd X10.here hx rfl (hb hby at_48) rfl k) ?_
  show Ends p e below s 16 128 (Q0 Z p0 p1 p2 p3  h0 n0) (T10.setTop (mkF m 49 #[.val (.int p0), .val (.int p1), .val (.int p2), .val (.int p3), .val (.ref b1), .val (.ref b8), .val (.int v17), .unset] [(.int ((((29791 : Int32) * p0) + ((961 : Int32) * p1)) + ((31 : Int32) * p2)))]))
  refine Ends.via (fun _ k => XS.iloadN X10.here hx rfl (hb hby at_49) rfl k) ?_
  show Ends p e below s 16 128 (Q0 Z p0 p1 p2 p3  h0 n0) (T10.setTop (mkF m 50 #[.val (.int p0), .val (.int p1), .val (.int p2), .val (.int p3), .val (.ref b1), .val (.ref b8), .val (.int v17), .unset] [(.int p3), (.int ((((29791 : Int32) * p0) + ((961 : Int32) * p1)) + ((31 : Int32) * p2)))]))
  refine Ends.via (fun _ k => XS.iadd X10.here hx rfl (hb hby at_50) rfl k) ?_
  show Ends p e below s 16 128 (Q0 Z p0 p1 p2 p3  h0 n0) (T10.setTop (mkF m 51 #[.val (.int p0), .val (.int p1), .val (.int p2), .val (.int p3), .val (.ref b1), .val (.ref b8), .val (.int v17), .unset] [(.int (((((29791 : Int32) * p0) + ((961 : Int32) * p1)) + ((31 : Int32) * p2)) + p3))]))
  refine Ends.via (fun _ k => XS.istore X10.here hx rfl (hb hby at_51) rfl (l' := #[.val (.int p0), .val (.int p1), .val (.int p2), .val (.int p3), .val (.ref b1), .val (.ref b8), .val (.int v17), .val (.int (((((29791 : Int32) * p0) + ((961 : Int32) * p1)) + ((31 : Int32) * p2)) + p3))]) rfl k) ?_
  show Ends p e below s 16 128 (Q0 Z p0 p1 p2 p3  h0 n0) (T10.setTop (mkF m 53 #[.val (.int p0), .val (.int p1), .val (.int p2), .val (.int p3), .val (.ref b1), .val (.ref b8), .val (.int v17), .val (.int (((((29791 : Int32) * p0) + ((961 : Int32) * p1)) + ((31 : Int32) * p2)) + p3))] []))
  generalize hv18 : (((((29791 : Int32) * p0) + ((961 : Int32) * p1)) + ((31 : Int32) * p2)) + p3) = v18
  refine Ends.via (fun _ k => XS.iload X10.here hx rfl (hb hby at_53) rfl k) ?_
  show Ends p e below s 16 128 (Q0 Z p0 p1 p2 p3  h0 n0) (T10.setTop (mkF m 55 #[.val (.int p0), .val (.int p1), .val (.int p2), .val (.int p3), .val (.ref b1), .val (.ref b8), .val (.int v17), .val (.int v18)] [(.int v17)]))
  refine Ends.via (fun _ k => XS.iload X10.here hx rfl (hb hby at_55) rfl k) ?_
  show Ends p e below s 16 128 (Q0 Z p0 p1 p2 p3  h0 n0) (T10.setTop (mkF m 57 #[.val (.int p0), .val (.int p1), .val (.int p2), .val (.int p3), .val (.ref b1), .val (.ref b8), .val (.int v17), .val (.int v18)] [(.int v18), (.int v17)]))
  by_cases hc19 : v17 = v18
  · refine Ends.via (fun _ k => XS.icmpNo X10.here hx rfl (hb hby at_57) rfl (teq hc19).2 k) ?_
    show Ends p e below s 16 128 (Q0 Z p0 p1 p2 p3  h0 n0) (T10.setTop (mkF m 60 #[.val (.int p0), .val (.int p1), .val (.int p2), .val (.int p3), .val (.ref b1), .val (.ref b8), .val (.int v17), .val (.int v18)] []))
    refine Ends.via (fun _ k => XS.iload X10.here hx rfl (hb hby at_60) rfl k) ?_
    show Ends p e below s 16 128 (Q0 Z p0 p1 p2 p3  h0 n0) (T10.setTop (mkF m 62 #[.val (.int p0), .val (.int p1), .val (.int p2), .val (.int p3), .val (.ref b1), .val (.ref b8), .val (.int v17), .val (.int v18)] [(.int v17)]))
    refine Ends.via (fun _ k => XS.aload X10.here hx rfl (hb hby at_62) rfl rfl k) ?_
    show Ends p e below s 16 128 (Q0 Z p0 p1 p2 p3  h0 n0) (T10.setTop (mkF m 64 #[.val (.int p0), .val (.int p1), .val (.int p2), .val (.int p3), .val (.ref b1), .val (.ref b8), .val (.int v17), .val (.int v18)] [(.ref b8), (.int v17)]))
    obtain ⟨cq20, kq20, qa20, qb20, qc20⟩ := isOf hZ e10 Eq9
    obtain ⟨_, _, ⟨T20, L20, k20, n20⟩, -, X20, ⟨Lc20, hQ20, l20, y20, z20⟩, st20⟩ := X10.virtualBack hx (y := (⟨"com/example/okno/okno/Insets", "hashCode", "()I"⟩ : MethodName)) (z := (⟨"com/example/okno/okno/Insets", "hashCode", "()I"⟩ : MethodName)) hown (mvT hZ (hw _ (List.mem_of_getElem? (i := 17) rfl))) (mvT hZ (hw _ (List.mem_of_getElem? (i := 18) rfl))) (notFace_of_selects (args := #[]) (mvT hZ (hw _ (List.mem_of_getElem? (i := 20) rfl)))) (mvT hZ (hw _ (List.mem_of_getElem? (i := 20) rfl))) (mvT hZ (hw _ (List.mem_of_getElem? (i := 19) rfl))) (by decide) (backOf (W := 1) (rm3 l Z a0 hw [] b8  p0 p1 p2 p3 T9.heap n0 Z9 Fq9_0 Fq9_1 Fq9_2 Fq9_3) hZ (hw _ (List.mem_of_getElem? (i := 21) rfl)) (hw _ (List.mem_of_getElem? (i := 2) rfl)) (by decide) (by decide)) qa20 qc20 (g := (mkF m 64 #[.val (.int p0), .val (.int p1), .val (.int p2), .val (.int p3), .val (.ref b1), .val (.ref b8), .val (.int v17), .val (.int v18)] [(.ref b8), (.int v17)])) rfl (by rw [hml]; rfl) (Steps.refl _) (argsL := []) (rest := [(.int v17)]) (lenOf own_pd1 rfl) rfl (by show 2 * 0 + _ ≤ _; exact Nat.le_of_eq rfl) (hb hby at_64) (fun _ _ => ⟨rfl, e10, (by decide : 2 + 0 ≤ _), (by decide : 8 + 0 ≤ _)⟩)
    dsimp only [Pt.U, Pt.locs, Pt.cells, Pt.slots] at X20 l20 y20 z20 st20 hQ20
    subst l20 y20 z20
    obtain ⟨rfl, Nq20, e20⟩ := hQ20
    have N20 := Fr.app N10 Nq20
    refine Ends.via (fun _ k => st20.trans k) ?_
    show Ends p e below s 16 128 (Q0 Z p0 p1 p2 p3  h0 n0) (T20.setTop (mkF m 67 #[.val (.int p0), .val (.int p1), .val (.int p2), .val (.int p3), .val (.ref b1), .val (.ref b8), .val (.int v17), .val (.int v18)] [(.int (fn3 p0 p1 p2 p3)), (.int v17)]))
    by_cases hc21 : v17 = (fn3 p0 p1 p2 p3)
    · refine Ends.via (fun _ k => XS.icmpNo X20.here hx rfl (hb hby at_67) rfl (teq hc21).2 k) ?_
      show Ends p e below s 16 128 (Q0 Z p0 p1 p2 p3  h0 n0) (T20.setTop (mkF m 70 #[.val (.int p0), .val (.int p1), .val (.int p2), .val (.int p3), .val (.ref b1), .val (.ref b8), .val (.int v17), .val (.int v18)] []))
      refine Ends.via (fun _ k => XS.iconst X20.here hx rfl (hb hby at_70) k) ?_
      show Ends p e below s 16 128 (Q0 Z p0 p1 p2 p3  h0 n0) (T20.setTop (mkF m 71 #[.val (.int p0), .val (.int p1), .val (.int p2), .val (.int p3), .val (.ref b1), .val (.ref b8), .val (.int v17), .val (.int v18)] [(.int (1 : Int32))]))
      refine Ends.via (fun _ k => XS.goto X20.here hx rfl (pc0 := 71) (pc' := 75) rfl (hb hby at_71) (by decide) (by decide) k) ?_
      show Ends p e below s 16 128 (Q0 Z p0 p1 p2 p3  h0 n0) (T20.setTop (mkF m 75 #[.val (.int p0), .val (.int p1), .val (.int p2), .val (.int p3), .val (.ref b1), .val (.ref b8), .val (.int v17), .val (.int v18)] [(.int (1 : Int32))]))
      refine Ends.ret X20 (v := some (.int (nar .boolean (1 : Int32)))) (fun h => by rw [Bd.returns] at h; cases h) Bd.notSynchronized (fun fs hr => retN X20 hx (t := .boolean) Bd.returns (by simp) (hb hby at_75) hr) ?_ (by decide) (by decide)
      exact ⟨rfl, N20⟩
    · refine Ends.via (fun _ k => XS.icmpYes X20.here hx rfl (pc0 := 67) (pc' := 74) rfl (hb hby at_67) rfl (feq hc21).2 (by decide) (by decide) k) ?_
      show Ends p e below s 16 128 (Q0 Z p0 p1 p2 p3  h0 n0) (T20.setTop (mkF m 74 #[.val (.int p0), .val (.int p1), .val (.int p2), .val (.int p3), .val (.ref b1), .val (.ref b8), .val (.int v17), .val (.int v18)] []))
      refine Ends.via (fun _ k => XS.iconst X20.here hx rfl (hb hby at_74) k) ?_
      show Ends p e below s 16 128 (Q0 Z p0 p1 p2 p3  h0 n0) (T20.setTop (mkF m 75 #[.val (.int p0), .val (.int p1), .val (.int p2), .val (.int p3), .val (.ref b1), .val (.ref b8), .val (.int v17), .val (.int v18)] [(.int (0 : Int32))]))
      refine Ends.ret X20 (v := some (.int (nar .boolean (0 : Int32)))) (fun h => by rw [Bd.returns] at h; cases h) Bd.notSynchronized (fun fs hr => retN X20 hx (t := .boolean) Bd.returns (by simp) (hb hby at_75) hr) ?_ (by decide) (by decide)
      exact absurd (own_leaf1 p0 p1 p2 p3 v17 v18 hv17 hv18 hc19 hc21) id
  · refine Ends.via (fun _ k => XS.icmpYes X10.here hx rfl (pc0 := 57) (pc' := 74) rfl (hb hby at_57) rfl (feq hc19).2 (by decide) (by decide) k) ?_
    show Ends p e below s 16 128 (Q0 Z p0 p1 p2 p3  h0 n0) (T10.setTop (mkF m 74 #[.val (.int p0), .val (.int p1), .val (.int p2), .val (.int p3), .val (.ref b1), .val (.ref b8), .val (.int v17), .val (.int v18)] []))
    refine Ends.via (fun _ k => XS.iconst X10.here hx rfl (hb hby at_74) k) ?_
    show Ends p e below s 16 128 (Q0 Z p0 p1 p2 p3  h0 n0) (T10.setTop (mkF m 75 #[.val (.int p0), .val (.int p1), .val (.int p2), .val (.int p3), .val (.ref b1), .val (.ref b8), .val (.int v17), .val (.int v18)] [(.int (0 : Int32))]))
    refine Ends.ret X10 (v := some (.int (nar .boolean (0 : Int32)))) (fun h => by rw [Bd.returns] at h; cases h) Bd.notSynchronized (fun fs hr => retN X10 hx (t := .boolean) Bd.returns (by simp) (hb hby at_75) hr) ?_ (by decide) (by decide)
    exact absurd (own_leaf2 p0 p1 p2 p3 v17 v18 hv17 hv18 hc19) id
set_option maxRecDepth 65536 in
set_option maxHeartbeats 40000000 in
theorem comes_1 {Post : Tables → Env → Array Value → State → Outcome → State → Prop} (hpost : ∀ tb e args s v u, (limb_1_1.after args s (.returned v) u = true ∧ limb_1_2.after args s (.returned v) u = true ∧ True) → FrameEnd s (.returned v) u (Jvm.fieldLocs frame_1_writes args s ++ Jvm.arrayLocs frame_1_arrays args s ++ Jvm.staticLocs frame_1_statics s) 16 128 → Post tb e args s (.returned v) u) :
    ArmFor flags0 classFile x code maxLocals ret World_1 tables_1 room_1 Calls_1 rest_1 Pre_1 Post := by
  intro l hfl _ _ p e ha hc hk s m args below hf hA hF happ hP
  obtain ⟨hcalls, hrest, hpre⟩ := hP
  obtain ⟨-, -, -, hnamed, -, -, -, hat⟩ := (Spec.applies_iff hf).mp happ
  obtain ⟨hg, hn⟩ := and_e (Cond.before_iff.mp (show (Jvm.Cond.and given_1 narrow_1).before args s = true from hpre))
  obtain ⟨hcnt, g0⟩ := and_e hg
  obtain ⟨t0, g1⟩ := and_e g0
  obtain ⟨t1, g2⟩ := and_e g1
  obtain ⟨t2, g3⟩ := and_e g2
  obtain ⟨w0, w1, w2, w3, rfl⟩ : ∃ w0 w1 w2 w3 : Value, args = #[w0, w1, w2, w3] := by
    have hs : args.size = 4 := by simpa [Cond.value, given_1] using hcnt
    obtain ⟨L⟩ := args
    match L, hs with
    | [w0, w1, w2, w3], _ => exact ⟨w0, w1, w2, w3, rfl⟩
  have hw := fun d (hd : d ∈ tables_1) => atoms_spec (ws := Jvm.Cond.code x code maxLocals ret :: tables_1) hat d (List.mem_cons_of_mem _ hd)
  obtain ⟨i0, ei0⟩ := is_v t0
  obtain rfl : w0 = (.int i0) := Option.some.inj ei0
  obtain ⟨i1, ei1⟩ := is_v t1
  obtain rfl : w1 = (.int i1) := Option.some.inj ei1
  obtain ⟨i2, ei2⟩ := is_v t2
  obtain rfl : w2 = (.int i2) := Option.some.inj ei2
  obtain ⟨i3, ei3⟩ := is_v g3
  obtain rfl : w3 = (.int i3) := Option.some.inj ei3
  obtain ⟨n, o, h1, h2, h3, _, L, rfl, ⟨rfl, N⟩, hq⟩ := rm0 l s _ hw tables_1 i0 i1 i2 i3 s.heap s.heap.size (Nat.le_refl _) p e ha hc hk s m _ below hf ((Spec.applies_iff_loose hf).mp happ).1 ⟨rfl, State.Warmed39.refl s, rfl⟩ trivial
  refine ⟨n, _, h1, h2, h3, hpost _ _ _ _ _ _ ⟨Cond.after_iff.mpr rfl, Cond.after_iff.mpr (eq_i res_at (Term.int_eval (1)) rfl), trivial⟩ ⟨hq.1, hq.2.1, (hq.2.2.sift fun y hy => Or.inr (N y hy)).mono (by decide) (by decide)⟩⟩
theorem main_1_1 : Claimed_1_1 := comes_1 fun _ _ _ _ _ _ h hF => ⟨h.1, hF⟩
theorem main_1_2 : Claimed_1_2 := comes_1 fun _ _ _ _ _ _ h hF => ⟨h.2.1, hF⟩
end Jvm.Pilot.@@N@@
namespace Jvm.Pilot.@@N@@
open Jvm Jvm.ClassFile Sem Op Lib Jvm.Free Jvm.Stand Jvm.Pilot.@@N@@.Jvm.D
/-! MADE BY PROGRAM (witnessworld.py) out of the Statement's table words and the real class files: 9 classes; the members and pool entries that the words name. The judged class is class 1, her method 1. -/
namespace start1
open Jvm.ClassFile
def u (s : String) : CpInfo := .utf8 (stringToUtf16 s)
/-- a pool by its gaps: so many unusable entries, then the entry; so many at the end -/
def gap : Nat → List CpInfo → List CpInfo
  | 0, r => r
  | n + 1, r => .unusable :: gap n r
def poolList (es : List (Nat × CpInfo)) (last : Nat) : List CpInfo := es.foldr (fun e r => gap e.1 (e.2 :: r)) (gap last [])
def pool (es : List (Nat × CpInfo)) (last : Nat) : Array CpInfo := ⟨poolList es last⟩
def fileOf (pool : Array CpInfo) (this : Nat) (attrs : Array Attribute := #[]) (ms : Array MethodInfo := #[]) (fl : Nat := 33) (sup : Nat := 0) (ifs : Array Nat := #[]) (fds : Array FieldInfo := #[]) : ClassFile where
  minorVersion := 0
  majorVersion := 65
  constantPool := pool
  accessFlags := fl
  thisClass := this
  superClass := sup
  interfaces := ifs
  fields := fds
  methods := ms
  attributes := attrs
def plain (name : String) (sup : Option ClassId) : Class where
  name := name
  kind := .ordinary
  loader := none
  accessFlags := 33
  super := sup
  interfaces := #[]
  cf := none
  fields := #[]
  methods := #[]
  instanceTypes := #[]
  staticTypes := #[]
  resolved := #[]
  callSites := []
  init := .initialized
  statics := none
  mirror := none

def pool0 : Array CpInfo := pool [(5, u "<init>"), (0, u "()V"), (1, .class_ 10), (1, u "java/lang/Object")] 113

def k0c0 : Code := { maxStack := 0, maxLocals := 1, code := object_method_1_code, exceptionTable := #[], attributes := #[] }
def k0m0 : Method := { name := "<init>", desc := "()V", sig := { parameters := [], returnType := none }, accessFlags := 1, code := some k0c0 }
/-- java/lang/Object -/
def k0 : Class := { plain "java/lang/Object" none with
  accessFlags := 33
  interfaces := #[]
  cf := some (fileOf pool0 8 #[] #[{ accessFlags := 1, nameIndex := 5, descriptorIndex := 6, attributes := #[] }] 33 0 #[] #[])
  fields := #[]
  methods := #[k0m0]
  instanceTypes := #[]
  staticTypes := #[]
  resolved := Array.replicate 124 none
  statics := none }

def pool1 : Array CpInfo := pool [(2, .class_ 4), (1, u "java/lang/Object"), (0, u "<init>"), (0, u "()V"), (0, .class_ 8), (0, u "com/example/okno/okno/Insets"), (0, .methodref 7 10), (0, .nameAndType 5 11), (0, u "(IIII)V"), (0, .methodref 7 13), (0, .nameAndType 14 15), (0, u "hashCode"), (0, u "()I"), (0, .class_ 17), (0, u "com/example/okno/okno/InsetsHashCodePinLaw"), (2, u "law"), (0, u "(IIII)Z")] 3

def k1m0 : Method := { name := "<init>", desc := "()V", sig := { parameters := [], returnType := none }, accessFlags := 1, code := none }
def k1c1 : Code := { maxStack := 6, maxLocals := 8, code := code, exceptionTable := #[], attributes := #[] }
def k1m1 : Method := { name := "law", desc := "(IIII)Z", sig := { parameters := [.int, .int, .int, .int], returnType := some .boolean }, accessFlags := 9, code := some k1c1 }
/-- com/example/okno/okno/InsetsHashCodePinLaw -/
def k1 : Class := { plain "com/example/okno/okno/InsetsHashCodePinLaw" (some 0) with
  accessFlags := 49
  interfaces := #[]
  cf := some (fileOf pool1 16 #[] #[{ accessFlags := 1, nameIndex := 5, descriptorIndex := 6, attributes := #[] }, { accessFlags := 9, nameIndex := 20, descriptorIndex := 21, attributes := #[] }] 49 2 #[] #[])
  fields := #[]
  methods := #[k1m0, k1m1]
  instanceTypes := #[]
  staticTypes := #[]
  resolved := Array.replicate 25 none
  statics := none }

def pool2 : Array CpInfo := pool [(1, .class_ 2), (0, u "com/example/okno/okno/Insets"), (0, .methodref 4 5), (0, .class_ 6), (0, .nameAndType 7 8), (0, u "java/lang/Object"), (0, u "<init>"), (0, u "()V"), (0, .fieldref 1 10), (0, .nameAndType 11 12), (0, u "left"), (0, u "I"), (0, .fieldref 1 14), (0, .nameAndType 15 12), (0, u "top"), (0, .fieldref 1 17), (0, .nameAndType 18 12), (0, u "right"), (0, .fieldref 1 20), (0, .nameAndType 21 12), (0, u "bottom"), (12, u "(IIII)V"), (3, u "()I"), (10, u "NONE"), (0, u "Lcom/example/okno/okno/Insets;"), (0, u "LEFT"), (2, u "TOP"), (1, u "RIGHT"), (1, u "BOTTOM"), (1, u "ALL_SIDES"), (9, u "hashCode")] 20

def k2c0 : Code := { maxStack := 2, maxLocals := 5, code := prog_12_method_1_code, exceptionTable := #[], attributes := #[] }
def k2m0 : Method := { name := "<init>", desc := "(IIII)V", sig := { parameters := [.int, .int, .int, .int], returnType := none }, accessFlags := 1, code := some k2c0 }
def k2c1 : Code := { maxStack := 2, maxLocals := 2, code := prog_12_method_11_code, exceptionTable := #[], attributes := #[] }
def k2m1 : Method := { name := "hashCode", desc := "()I", sig := { parameters := [], returnType := some .int }, accessFlags := 1, code := some k2c1 }
/-- com/example/okno/okno/Insets -/
def k2 : Class := { plain "com/example/okno/okno/Insets" (some 0) with
  accessFlags := 33
  interfaces := #[]
  cf := some (fileOf pool2 1 #[] #[{ accessFlags := 1, nameIndex := 7, descriptorIndex := 34, attributes := #[] }, { accessFlags := 1, nameIndex := 70, descriptorIndex := 38, attributes := #[] }] 33 4 #[] #[{ accessFlags := 25, nameIndex := 51, descriptorIndex := 12, attributes := #[] }, { accessFlags := 25, nameIndex := 54, descriptorIndex := 12, attributes := #[] }, { accessFlags := 25, nameIndex := 56, descriptorIndex := 12, attributes := #[] }, { accessFlags := 25, nameIndex := 58, descriptorIndex := 12, attributes := #[] }, { accessFlags := 25, nameIndex := 60, descriptorIndex := 12, attributes := #[] }, { accessFlags := 25, nameIndex := 49, descriptorIndex := 50, attributes := #[] }, { accessFlags := 18, nameIndex := 11, descriptorIndex := 12, attributes := #[] }, { accessFlags := 18, nameIndex := 15, descriptorIndex := 12, attributes := #[] }, { accessFlags := 18, nameIndex := 18, descriptorIndex := 12, attributes := #[] }, { accessFlags := 18, nameIndex := 21, descriptorIndex := 12, attributes := #[] }])
  fields := #[{ name := "LEFT", type := .int, accessFlags := 25, slot := 0, constantValue := 0 }, { name := "TOP", type := .int, accessFlags := 25, slot := 1, constantValue := 0 }, { name := "RIGHT", type := .int, accessFlags := 25, slot := 2, constantValue := 0 }, { name := "BOTTOM", type := .int, accessFlags := 25, slot := 3, constantValue := 0 }, { name := "ALL_SIDES", type := .int, accessFlags := 25, slot := 4, constantValue := 0 }, { name := "NONE", type := (.object "com/example/okno/okno/Insets"), accessFlags := 25, slot := 5, constantValue := 0 }, { name := "left", type := .int, accessFlags := 18, slot := 0, constantValue := 0 }, { name := "top", type := .int, accessFlags := 18, slot := 1, constantValue := 0 }, { name := "right", type := .int, accessFlags := 18, slot := 2, constantValue := 0 }, { name := "bottom", type := .int, accessFlags := 18, slot := 3, constantValue := 0 }]
  methods := #[k2m0, k2m1]
  instanceTypes := #[.int, .int, .int, .int]
  staticTypes := #[.int, .int, .int, .int, .int, (.object "com/example/okno/okno/Insets")]
  resolved := Array.replicate 91 none
  statics := none }

def pool3 : Array CpInfo := pool [(1, u "java/lang/Cloneable"), (0, .class_ 1), (0, u "java/lang/Object"), (0, .class_ 3)] 3

/-- java/lang/Cloneable -/
def k3 : Class := { plain "java/lang/Cloneable" (some 0) with
  accessFlags := 1537
  interfaces := #[]
  cf := some (fileOf pool3 2 #[] #[] 1537 4 #[] #[])
  fields := #[]
  methods := #[]
  instanceTypes := #[]
  staticTypes := #[]
  resolved := Array.replicate 8 none
  statics := none }

def pool4 : Array CpInfo := pool [(1, u "java/io/Serializable"), (0, .class_ 1), (0, u "java/lang/Object"), (0, .class_ 3)] 3

/-- java/io/Serializable -/
def k4 : Class := { plain "java/io/Serializable" (some 0) with
  accessFlags := 1537
  interfaces := #[]
  cf := some (fileOf pool4 2 #[] #[] 1537 4 #[] #[])
  fields := #[]
  methods := #[]
  instanceTypes := #[]
  staticTypes := #[]
  resolved := Array.replicate 8 none
  statics := none }

/-- the primitive byte -/
def k5 : Class := { plain "byte" none with kind := .primitive 'B', accessFlags := 0x411 }
/-- [B -/
def k6 : Class := { plain "[B" (some 0) with kind := .array 5 .byte, interfaces := #[3, 4], accessFlags := 1041 }

/-- the primitive int -/
def k7 : Class := { plain "int" none with kind := .primitive 'I', accessFlags := 0x411 }
/-- [I -/
def k8 : Class := { plain "[I" (some 0) with kind := .array 7 .int, interfaces := #[3, 4], accessFlags := 1041 }

def heap : Heap := #[]
def classes : Array Class := #[k0, k1, k2, k3, k4, k5, k6, k7, k8]
def interned : List (Array UInt16 × Addr) := []
def slotsUsed : Nat := 0
def theMethod : MethodId := ⟨1, 1⟩
def args0 : Array Value := #[.int 5, .int 5, .int 5, .int 5]
def aboutOver (below : List Frame) : State where
  vm := { classes := classes, interned := interned.toArray }
  heap := heap
  slotsUsed := slotsUsed
  threads := #[{ frames := .invoking theMethod args0 :: below }]
def below0 : List Frame := [.native { method := ⟨0, 0⟩, args := #[] }]
def about1 : State := aboutOver below0
def p0 : Program := .bare "" "" ""
def e0 : Env := launch0.env 0 0 0
theorem w_frames : about1.frames = Frame.invoking theMethod args0 :: below0 := rfl
set_option maxRecDepth 65536 in
theorem w_args : argsFit about1.vm theMethod args0 = true := by decide +kernel
set_option maxRecDepth 65536 in
theorem w_heap : heapFits about1 = true := by decide +kernel
set_option maxRecDepth 65536 in
theorem w_runnable : about1.curStatus? = some .runnable := by decide +kernel
set_option maxRecDepth 65536 in
theorem w_alone : about1.alone = true := by decide +kernel
set_option maxRecDepth 65536 in
theorem w_named : about1.methodNamed? x = some theMethod := by decide +kernel
set_option maxRecDepth 65536 in
theorem w_hears : about1.hears theMethod below0 = true := by decide +kernel
set_option maxRecDepth 65536 in
theorem w_ripe : about1.ripe theMethod args0 below0 = true := by decide +kernel
theorem w_running : about1.status = .running := rfl
set_option maxRecDepth 65536 in
theorem w_room : about1.hasRoom e0.platform room_1 = true :=
  launch0.hasRoom_least _ room_1 (by decide +kernel) (by decide +kernel) (by decide +kernel) (by decide +kernel) (by decide +kernel) (by decide +kernel)
theorem allAtoms_all (ts : List Jvm.Cond) (a : Array Jvm.Value) (st : Jvm.State) : (allAtoms ts).before a st = ts.all (fun c => c.before a st) := by
  induction ts with
  | nil => rfl
  | cons c t ih =>
    show (Jvm.Cond.and c (allAtoms t)).before a st = _
    rw [Jvm.Cond.before_and, ih, List.all_cons]
def words1 : List Jvm.Cond := Jvm.Cond.code x code maxLocals ret :: tables_1
/-- a 'code' word, met by the world's own term for the bytes: nothing is compared byte by byte -/
theorem code_word {y : MethodName} {bytes : ByteArray} {mx : Nat} {rt : Option FieldType} {a : Array Value} {s : State} {m : MethodId} {meth : Method} {c : Code} (h1 : s.methodNamed? y = some m) (h2 : s.vm.method? m = some meth) (h3 : meth.code = some c) (h4 : c.code = bytes)
    (h5 : (c.maxLocals == mx && c.exceptionTable.isEmpty && decide (c.maxStack ≤ mostOperands) && decide (meth.sig.returnType = rt) && !meth.locks && decide (parseMethodDescriptor y.desc = some meth.sig)) = true) : (Jvm.Cond.code y bytes mx rt).before a s = true := by
  simp only [Bool.and_eq_true, beq_iff_eq, Bool.not_eq_true', decide_eq_true_eq] at h5
  obtain ⟨⟨⟨⟨⟨g1, g2⟩, g3⟩, g4⟩, g5⟩, g6⟩ := h5
  simp [Cond.before, Cond.holds, Cond.value, h1, h2, h3, h4, g1, g2, g3, g4, g5, g6]
def isCode : Jvm.Cond → Bool
  | .code _ _ _ _ => true
  | _ => false
theorem all_split {L : List Jvm.Cond} {P : Jvm.Cond → Bool} (h1 : L.all (fun c => isCode c || P c) = true) (h2 : ∀ c ∈ L.filter isCode, P c = true) : L.all P = true := by
  refine List.all_eq_true.mpr fun c hc => ?_
  have h := List.all_eq_true.mp h1 c hc
  rcases Bool.eq_false_or_eq_true (isCode c) with hi | hi
  · exact h2 c (List.mem_filter.mpr ⟨hc, hi⟩)
  · simpa [hi] using h
set_option maxRecDepth 65536 in
theorem w_c0 : (Jvm.Cond.code x code maxLocals ret).before args0 about1 = true := code_word (m := ⟨1, 1⟩) (meth := k1m1) (c := k1c1) (by decide +kernel) rfl rfl rfl (by decide +kernel)
set_option maxRecDepth 65536 in
theorem w_c1 : (Jvm.Cond.code ({ cls := "com/example/okno/okno/Insets", name := "<init>", desc := "(IIII)V" } : Jvm.MethodName) prog_12_method_1_code (5 : Nat) (Option.none : Option Jvm.ClassFile.FieldType)).before args0 about1 = true := code_word (m := ⟨2, 0⟩) (meth := k2m0) (c := k2c0) (by decide +kernel) rfl rfl rfl (by decide +kernel)
set_option maxRecDepth 65536 in
theorem w_c2 : (Jvm.Cond.code ({ cls := "java/lang/Object", name := "<init>", desc := "()V" } : Jvm.MethodName) object_method_1_code (1 : Nat) (Option.none : Option Jvm.ClassFile.FieldType)).before args0 about1 = true := code_word (m := ⟨0, 0⟩) (meth := k0m0) (c := k0c0) (by decide +kernel) rfl rfl rfl (by decide +kernel)
set_option maxRecDepth 65536 in
theorem w_c3 : (Jvm.Cond.code ({ cls := "com/example/okno/okno/Insets", name := "hashCode", desc := "()I" } : Jvm.MethodName) prog_12_method_11_code (2 : Nat) (Option.some Jvm.ClassFile.FieldType.int)).before args0 about1 = true := code_word (m := ⟨2, 1⟩) (meth := k2m1) (c := k2c1) (by decide +kernel) rfl rfl rfl (by decide +kernel)
def codes1 : List Jvm.Cond := [Jvm.Cond.code x code maxLocals ret, Jvm.Cond.code ({ cls := "com/example/okno/okno/Insets", name := "<init>", desc := "(IIII)V" } : Jvm.MethodName) prog_12_method_1_code (5 : Nat) (Option.none : Option Jvm.ClassFile.FieldType), Jvm.Cond.code ({ cls := "java/lang/Object", name := "<init>", desc := "()V" } : Jvm.MethodName) object_method_1_code (1 : Nat) (Option.none : Option Jvm.ClassFile.FieldType), Jvm.Cond.code ({ cls := "com/example/okno/okno/Insets", name := "hashCode", desc := "()I" } : Jvm.MethodName) prog_12_method_11_code (2 : Nat) (Option.some Jvm.ClassFile.FieldType.int)]
set_option maxRecDepth 65536 in
theorem codes_eq : words1.filter isCode = codes1 := rfl
theorem w_codes : ∀ c ∈ words1.filter isCode, c.before args0 about1 = true := by
  rw [codes_eq]
  intro c hc
  simp only [codes1, List.mem_cons, List.not_mem_nil, or_false] at hc
  rcases hc with rfl | rfl | rfl | rfl
  · exact w_c0
  · exact w_c1
  · exact w_c2
  · exact w_c3
set_option maxRecDepth 65536 in
theorem w_t1 : words1.all (fun c => isCode c || c.before args0 about1) = true := by decide +kernel
theorem w_tables : (allAtoms (Jvm.Cond.code x code maxLocals ret :: tables_1)).before args0 about1 = true := by
  rw [allAtoms_all]
  show words1.all (fun c => c.before args0 about1) = true
  refine all_split ?_ w_codes
  rw [w_t1]
set_option maxRecDepth 65536 in
theorem w_case : (Jvm.Cond.and given_1 narrow_1).before args0 about1 = true := by decide +kernel
theorem w_applies : (headSpec (Jvm.Cond.code x code maxLocals ret :: tables_1) room_1).applies x e0.platform about1 = true :=
  (Spec.applies_iff w_frames).mpr ⟨w_running, w_runnable, w_alone, w_named, w_hears, w_ripe, w_room, w_tables⟩
theorem atStart : AtStart classFile x code maxLocals ret World_1 tables_1 room_1 Calls_1 rest_1 Pre_1 launch0 p0 e0 about1 theMethod args0 below0 :=
  ⟨lists_1, trivial, launch0.admits_env _ _ _, launch0.least_env, fairChoices_fair.cas, fairChoices_fair.clock, w_frames, w_args, w_heap, w_applies, trivial, trivial, w_case⟩
end start1
theorem witness_1 : WitnessClaimed_1 := ⟨start1.p0, start1.e0, start1.about1, start1.theMethod, start1.args0, start1.below0, start1.atStart⟩
end Jvm.Pilot.@@N@@
