import JvmDerived
import JvmDerived.Pilot.@@N@@Statement
import JvmDerived.Pilot.@@N@@Code
set_option linter.unusedVariables false
set_option linter.unusedSimpArgs false
namespace Jvm.RoadKit
open Sem ClassFile Op Lib Jvm.Stand Jvm.Free Jvm.LawKit
section New
variable {p : Program} {l : Launch} {e : Env} {R : Room} {s : State} {m : MethodId} {args : Array Value} {below : List Frame} {meth : Method} {c : Code} {T : State} {locs : List Loc} {cells slots : Nat}
theorem retI (X : Stand p l e R s m args below meth c T locs cells slots) (hx : p.tables.exec = Jvm.exec) {pc : Nat} {Ls : Array Slot} {z : Int32} {rest : List Value} (hret : meth.sig.returnType = some .int) (hd : decode c.code pc = .ok (.ireturn, 1)) {fs : List Frame}
    (hl : ∀ (f : JFrame) (acts : List Action), f.method = m → f.locked = none → f.entered = [] → (doReturn e (T.setTop f) acts (some (.int z))).1 = T.setFrames fs) : Steps p.tables e below (T.setTop (mkF m pc Ls (.int z :: rest))) (T.setFrames fs) := by
  have hm' : T.vm.method? m = some meth := X.method'
  have hn : narrow .int (.int z) = .int z := rfl
  show Steps p.tables e below (T.setTop { method := m, pc := pc, locals := Ls, stack := _ :: rest, locked := none }) _
  jvm_step X.here [X.here.top, hx, hd, hm', hret, hn]
  first | (intro acts; rw [hl _ acts rfl rfl rfl]) | rw [hl _ _ rfl rfl rfl]
  exact Steps.refl _
end New
end Jvm.RoadKit
namespace Jvm.Pilot.@@N@@
open Jvm Jvm.ClassFile Sem Op Lib Jvm.Free Jvm.Stand Jvm.LawKit Jvm.RoadKit Bundle Jvm.Pilot.@@N@@.Jvm.D
/-- from u the invocation ends, and what it returns and leaves is as Q says -/
def Ends (p : Program) (e : Env) (below : List Frame) (s : State) (kc ks : Nat) (Q : Option Value → Heap → List Loc → Prop) (u : State) : Prop :=
  ∃ s₂ o, Steps p.tables e below u s₂ ∧ s₂.status = .running ∧ Ended s₂ below o ∧ ∃ v L, o = .returned v ∧ Q v s₂.heap L ∧ FrameEnd s o s₂ L kc ks
theorem Ends.via {p : Program} {e : Env} {below : List Frame} {s : State} {kc ks : Nat} {Q : Option Value → Heap → List Loc → Prop} {A B : State} (h : ∀ t, Steps p.tables e below A t → Steps p.tables e below B t) (k : Ends p e below s kc ks Q A) : Ends p e below s kc ks Q B := by
  obtain ⟨s₂, o, h1, r⟩ := k
  exact ⟨s₂, o, h _ h1, r⟩
theorem Ends.ret {p : Program} {l : Launch} {e : Env} {R : Room} {s : State} {m : MethodId} {args : Array Value} {below : List Frame} {meth : Method} {c : Code} {T : State} {locs : List Loc} {cells slots kc ks : Nat} {Q : Option Value → Heap → List Loc → Prop} {u : State}
    (X : Stand p l e R s m args below meth c T locs cells slots) {v : Option Value} (hv : meth.sig.returnType = none → v = none) (hlocks : meth.locks = false)
    (hst : ∀ fs, (∀ (f : JFrame) (acts : List Action), f.method = m → f.locked = none → f.entered = [] → (doReturn e (T.setTop f) acts v).1 = T.setFrames fs) → Steps p.tables e below u (T.setFrames fs))
    (hQ : Q v T.heap locs) (h1 : cells ≤ kc) (h2 : slots ≤ ks) : Ends p e below s kc ks Q u := by
  obtain ⟨fs, hr, hrun, hended, hW, hsame⟩ := X.leave (v := v) hv hlocks
  exact ⟨_, _, hst fs hr, hrun, hended, _, _, rfl, hQ, ⟨_, rfl⟩, hW, hsame.mono h1 h2⟩

theorem own_pd0 : parseMethodDescriptor "(JJ)J" = some ⟨[.long, .long], some .long⟩ := by decide +kernel
theorem own_pd1 : parseMethodDescriptor "(J)V" = some ⟨[.long], none⟩ := by decide +kernel
theorem d1_0 : decode jdk_29_method_70_code 0 = .ok (.lload_n 0, 1) := by decide +kernel
theorem d1_1 : decode jdk_29_method_70_code 1 = .ok (.lload_n 2, 1) := by decide +kernel
theorem d1_2 : decode jdk_29_method_70_code 2 = .ok (.lcmp, 1) := by decide +kernel
theorem d1_3 : decode jdk_29_method_70_code 3 = .ok (.ifCond .gt 7, 3) := by decide +kernel
theorem d1_6 : decode jdk_29_method_70_code 6 = .ok (.lload_n 0, 1) := by decide +kernel
theorem d1_7 : decode jdk_29_method_70_code 7 = .ok (.goto 4, 3) := by decide +kernel
theorem d1_10 : decode jdk_29_method_70_code 10 = .ok (.lload_n 2, 1) := by decide +kernel
theorem d1_11 : decode jdk_29_method_70_code 11 = .ok (.lreturn, 1) := by decide +kernel
theorem ef_1 (m : MethodId) (q0 : Int64) (q1 : Int64) : entryFrame m #[(.long q0), (.long q1)] 4 = mkF m 0 #[.val (.long q0), .second, .val (.long q1), .second] [] := by first | (simp [entryFrame, mkF, argsToLocals, Value.category]; done) | rfl
def fn1 (q0 : Int64) (q1 : Int64) : Int64 := (if q1 < q0 then q1 else q0)
abbrev ROOM1 : Room := { frames := 0, cells := 0, slots := 0, locals := 0 }
def Q1 (Z : State) (q0 : Int64) (q1 : Int64)  (h0 : Heap) (n0 : Nat) (v : Option Value) (h : Heap) (L : List Loc) : Prop := v = some (.long (fn1 q0 q1)) ∧ Fr n0 L ∧ h = h0
set_option maxRecDepth 65536 in
set_option maxHeartbeats 40000000 in
theorem rm1 (l : Launch) (Z : State) (a0 : Array Value) (hw : ∀ d ∈ tables_1, d.before a0 Z = true) (ws : List Jvm.Cond) (q0 : Int64) (q1 : Int64)  (h0 : Heap) (n0 : Nat) (Z0 : n0 ≤ h0.size)  :
    MetFree l (⟨"java/lang/Math", "min", "(JJ)J"⟩ : MethodName) (head1 (Jvm.Cond.code (⟨"java/lang/Math", "min", "(JJ)J"⟩ : MethodName) jdk_29_method_70_code 4 (some .long) :: ws) ROOM1) (fun a U => a = #[(.long q0), (.long q1)] ∧ Z.Warmed39 U.vm ∧ U.heap = h0) (fun _ _ _ _ _ => True) (fun _ U o U' => ∃ v L, o = .returned v ∧ Q1 Z q0 q1  h0 n0 v U'.heap L ∧ FrameEnd U o U' L ROOM1.cells ROOM1.slots) := by
  refine MetFree.of_bodySF (Jvm.Free.JP.mathPlain rfl (by decide +kernel)) hisR ?_
  intro p e s m args below meth c s₁ Bd hml0 hP hK
  obtain ⟨rfl, hZ, hh⟩ := hP
  have hx := Bd.exec
  have hby := Bd.bytes
  have hml : c.maxLocals = 4 := hml0
  have hown : s.vm.findClass "java/lang/Math" = some m.cls := findClass_of_methodNamed Bd.named
  have hnm := (name_of_methodNamed Bd.named Bd.method).1
  have X0 : Stand p l e ROOM1 s m #[(.long q0), (.long q1)] below meth c s₁ [] 0 0 := Stand.of_body Bd
  have e0 : s₁.heap = h0 := by rw [← hh, Bd.state]; rfl
  have N0 := Fr.nil n0
  refine Ends.via (A := s₁.setTop (mkF m 0 #[.val (.long q0), .second, .val (.long q1), .second] [])) (kc := ROOM1.cells) (ks := ROOM1.slots) (Q := (Q1 Z q0 q1  h0 n0)) (fun t k => castTop (ef_1 m q0 q1) k) ?_
  show Ends p e below s ROOM1.cells ROOM1.slots (Q1 Z q0 q1  h0 n0) (s₁.setTop (mkF m 0 #[.val (.long q0), .second, .val (.long q1), .second] []))
  refine Ends.via (fun _ k => XS.lloadN X0.here hx rfl (hb hby d1_0) rfl k) ?_
  show Ends p e below s ROOM1.cells ROOM1.slots (Q1 Z q0 q1  h0 n0) (s₁.setTop (mkF m 1 #[.val (.long q0), .second, .val (.long q1), .second] [(.long q0)]))
  refine Ends.via (fun _ k => XS.lloadN X0.here hx rfl (hb hby d1_1) rfl k) ?_
  show Ends p e below s ROOM1.cells ROOM1.slots (Q1 Z q0 q1  h0 n0) (s₁.setTop (mkF m 2 #[.val (.long q0), .second, .val (.long q1), .second] [(.long q1), (.long q0)]))
  refine Ends.via (fun _ k => XS.lcmp X0.here hx rfl (hb hby d1_2) rfl k) ?_
  show Ends p e below s ROOM1.cells ROOM1.slots (Q1 Z q0 q1  h0 n0) (s₁.setTop (mkF m 3 #[.val (.long q0), .second, .val (.long q1), .second] [(.int (lcmpW q0 q1))]))
  by_cases hc1 : q1 < q0
  · refine Ends.via (fun _ k => XS.ifYes X0.here hx rfl (pc0 := 3) (pc' := 10) rfl (hb hby d1_3) rfl ((if0 _ _).trans (tlt ((lw_gt _ _).mpr hc1)).2.2.1) (by decide) (by decide) k) ?_
    show Ends p e below s ROOM1.cells ROOM1.slots (Q1 Z q0 q1  h0 n0) (s₁.setTop (mkF m 10 #[.val (.long q0), .second, .val (.long q1), .second] []))
    refine Ends.via (fun _ k => XS.lloadN X0.here hx rfl (hb hby d1_10) rfl k) ?_
    show Ends p e below s ROOM1.cells ROOM1.slots (Q1 Z q0 q1  h0 n0) (s₁.setTop (mkF m 11 #[.val (.long q0), .second, .val (.long q1), .second] [(.long q1)]))
    refine Ends.ret X0 (v := some (.long q1)) (fun h => by rw [Bd.returns] at h; cases h) Bd.notSynchronized (fun fs hr => retOut X0 hx Bd.returns rfl (Or.inr (Or.inl ⟨rfl, rfl, _, rfl⟩)) (hb hby d1_11) hr) ?_ (by decide) (by decide)
    have hfn : fn1 q0 q1 = q1 := by simp only [fn1, if_pos hc1]
    exact ⟨by rw [hfn], N0, e0⟩
  · refine Ends.via (fun _ k => XS.ifNo X0.here hx rfl (hb hby d1_3) rfl ((if0 _ _).trans (flt (mt (lw_gt _ _).mp hc1)).2.2.1) k) ?_
    show Ends p e below s ROOM1.cells ROOM1.slots (Q1 Z q0 q1  h0 n0) (s₁.setTop (mkF m 6 #[.val (.long q0), .second, .val (.long q1), .second] []))
    refine Ends.via (fun _ k => XS.lloadN X0.here hx rfl (hb hby d1_6) rfl k) ?_
    show Ends p e below s ROOM1.cells ROOM1.slots (Q1 Z q0 q1  h0 n0) (s₁.setTop (mkF m 7 #[.val (.long q0), .second, .val (.long q1), .second] [(.long q0)]))
    refine Ends.via (fun _ k => XS.goto X0.here hx rfl (pc0 := 7) (pc' := 11) rfl (hb hby d1_7) (by decide) (by decide) k) ?_
    show Ends p e below s ROOM1.cells ROOM1.slots (Q1 Z q0 q1  h0 n0) (s₁.setTop (mkF m 11 #[.val (.long q0), .second, .val (.long q1), .second] [(.long q0)]))
    refine Ends.ret X0 (v := some (.long q0)) (fun h => by rw [Bd.returns] at h; cases h) Bd.notSynchronized (fun fs hr => retOut X0 hx Bd.returns rfl (Or.inr (Or.inl ⟨rfl, rfl, _, rfl⟩)) (hb hby d1_11) hr) ?_ (by decide) (by decide)
    have hfn : fn1 q0 q1 = q0 := by simp only [fn1, if_neg hc1]
    exact ⟨by rw [hfn], N0, e0⟩
theorem d2_0 : decode prog_120_method_11_code 0 = .ok (.lload_n 0, 1) := by decide +kernel
theorem d2_1 : decode prog_120_method_11_code 1 = .ok (.ldc2_w 36, 3) := by decide +kernel
theorem d2_4 : decode prog_120_method_11_code 4 = .ok (.lcmp, 1) := by decide +kernel
theorem d2_5 : decode prog_120_method_11_code 5 = .ok (.ifCond .le 13, 3) := by decide +kernel
theorem d2_8 : decode prog_120_method_11_code 8 = .ok (.new 112, 3) := by decide +kernel
theorem d2_11 : decode prog_120_method_11_code 11 = .ok (.dup, 1) := by decide +kernel
theorem d2_12 : decode prog_120_method_11_code 12 = .ok (.ldc 240, 2) := by decide +kernel
theorem d2_14 : decode prog_120_method_11_code 14 = .ok (.invokespecial 124, 3) := by decide +kernel
theorem d2_17 : decode prog_120_method_11_code 17 = .ok (.athrow, 1) := by decide +kernel
theorem d2_18 : decode prog_120_method_11_code 18 = .ok (.return_, 1) := by decide +kernel
theorem pn_2 : plainName "com/example/sextant/sextant/transport/TransportConnection" = true := by first | (simp [plainName, overriddenIn]; done) | decide +kernel
theorem ef_2 (m : MethodId) (q0 : Int64) : entryFrame m #[(.long q0)] 2 = mkF m 0 #[.val (.long q0), .second] [] := by first | (simp [entryFrame, mkF, argsToLocals, Value.category]; done) | rfl
abbrev ROOM2 : Room := { frames := 0, cells := 0, slots := 0, locals := 0 }
def Q2 (Z : State) (q0 : Int64)  (h0 : Heap) (n0 : Nat) (v : Option Value) (h : Heap) (L : List Loc) : Prop := v = none ∧ Fr n0 L ∧ h = h0
set_option maxRecDepth 65536 in
set_option maxHeartbeats 40000000 in
theorem rm2 (l : Launch) (Z : State) (a0 : Array Value) (hw : ∀ d ∈ tables_1, d.before a0 Z = true) (ws : List Jvm.Cond) (q0 : Int64)  (h0 : Heap) (n0 : Nat) (Z0 : n0 ≤ h0.size) (hle : ¬ (16777279 : Int64) < q0) :
    MetFree l (⟨"com/example/sextant/sextant/transport/TransportConnection", "requireTsduLength", "(J)V"⟩ : MethodName) (head1 (Jvm.Cond.code (⟨"com/example/sextant/sextant/transport/TransportConnection", "requireTsduLength", "(J)V"⟩ : MethodName) prog_120_method_11_code 2 none :: ws) ROOM2) (fun a U => a = #[(.long q0)] ∧ Z.Warmed39 U.vm ∧ U.heap = h0) (fun _ _ _ _ _ => True) (fun _ U o U' => ∃ v L, o = .returned v ∧ Q2 Z q0  h0 n0 v U'.heap L ∧ FrameEnd U o U' L ROOM2.cells ROOM2.slots) := by
  refine MetFree.of_bodySF (plainFor_of_name pn_2) hisR ?_
  intro p e s m args below meth c s₁ Bd hml0 hP hK
  obtain ⟨rfl, hZ, hh⟩ := hP
  have hx := Bd.exec
  have hby := Bd.bytes
  have hml : c.maxLocals = 2 := hml0
  have hown : s.vm.findClass "com/example/sextant/sextant/transport/TransportConnection" = some m.cls := findClass_of_methodNamed Bd.named
  have hnm := (name_of_methodNamed Bd.named Bd.method).1
  have X0 : Stand p l e ROOM2 s m #[(.long q0)] below meth c s₁ [] 0 0 := Stand.of_body Bd
  have e0 : s₁.heap = h0 := by rw [← hh, Bd.state]; rfl
  have N0 := Fr.nil n0
  refine Ends.via (A := s₁.setTop (mkF m 0 #[.val (.long q0), .second] [])) (kc := ROOM2.cells) (ks := ROOM2.slots) (Q := (Q2 Z q0  h0 n0)) (fun t k => castTop (ef_2 m q0) k) ?_
  show Ends p e below s ROOM2.cells ROOM2.slots (Q2 Z q0  h0 n0) (s₁.setTop (mkF m 0 #[.val (.long q0), .second] []))
  refine Ends.via (fun _ k => XS.lloadN X0.here hx rfl (hb hby d2_0) rfl k) ?_
  show Ends p e below s ROOM2.cells ROOM2.slots (Q2 Z q0  h0 n0) (s₁.setTop (mkF m 1 #[.val (.long q0), .second] [(.long q0)]))
  refine Ends.via (X0.ldc2Long hx hown (mvT hZ (hw _ (List.mem_of_getElem? (i := 9) rfl))) (g := (mkF m 1 #[.val (.long q0), .second] [(.long q0)])) rfl (hb hby d2_1)) ?_
  show Ends p e below s ROOM2.cells ROOM2.slots (Q2 Z q0  h0 n0) (s₁.setTop (mkF m 4 #[.val (.long q0), .second] [(.long (16777279 : Int64)), (.long q0)]))
  refine Ends.via (fun _ k => XS.lcmp X0.here hx rfl (hb hby d2_4) rfl k) ?_
  show Ends p e below s ROOM2.cells ROOM2.slots (Q2 Z q0  h0 n0) (s₁.setTop (mkF m 5 #[.val (.long q0), .second] [(.int (lcmpW q0 (16777279 : Int64)))]))
  have hf4 : ¬ ((16777279 : Int64) < q0) := hle
  refine Ends.via (fun _ k => XS.ifYes X0.here hx rfl (pc0 := 5) (pc' := 18) rfl (hb hby d2_5) rfl ((if0 _ _).trans (flt (mt (lw_gt _ _).mp hf4)).2.2.2) (by decide) (by decide) k) ?_
  show Ends p e below s ROOM2.cells ROOM2.slots (Q2 Z q0  h0 n0) (s₁.setTop (mkF m 18 #[.val (.long q0), .second] []))
  refine Ends.ret X0 (v := none) (fun _ => rfl) Bd.notSynchronized (fun fs hr => X0.returnOut hx Bd.returns (hb hby d2_18) hr) ?_ (by decide) (by decide)
  exact ⟨rfl, N0, e0⟩
theorem own_c1 (q : Int64) : ¬ (16777279 : Int64) < fn1 q 16777279 := by
  simp only [fn1, Int64.lt_iff_toInt_lt]
  split <;> omega
theorem own_c2 (p : Int32) (v : Int64) (hv : ((16777279 : Int64) - ((p &&& (255 : Int32)).toInt64)) = v) : ¬ (16777279 : Int64) < v := by
  have h1 := c_mask p 255 8 (by decide) (by decide)
  have h2 := c_lsub 16777279 (p &&& 255).toInt64
  have h3 := rng64 v
  rw [hv, c_i2l] at h2
  have e : (16777279 : Int64).toInt = 16777279 := rfl
  rw [Int64.lt_iff_toInt_lt]; omega
theorem pn_0 : plainName "com/example/sextant/sextant/transport/TransportConnectionRequireTsduLengthPinLaw" = true := by first | (simp [plainName, overriddenIn]; done) | decide +kernel
theorem ef_0 (m : MethodId) (q0 : Int64) (p1 : Int32) : entryFrame m #[(.long q0), (.int p1)] maxLocals = mkF m 0 #[.val (.long q0), .second, .val (.int p1), .unset, .unset, .unset, .unset, .unset, .unset] [] := by first | (simp [entryFrame, mkF, argsToLocals, Value.category, maxLocals]; done) | rfl
def Q0 (Z : State) (q0 : Int64) (p1 : Int32)  (h0 : Heap) (n0 : Nat) (v : Option Value) (h : Heap) (L : List Loc) : Prop := v = some (.int 1) ∧ Fr n0 L
set_option maxRecDepth 65536 in
set_option maxHeartbeats 40000000 in
theorem rm0 (l : Launch) (Z : State) (a0 : Array Value) (hw : ∀ d ∈ tables_1, d.before a0 Z = true) (ws : List Jvm.Cond) (q0 : Int64) (p1 : Int32)  (h0 : Heap) (n0 : Nat) (Z0 : n0 ≤ h0.size)  :
    MetFree l x (head1 (Jvm.Cond.code x code maxLocals ret :: ws) room_1) (fun a U => a = #[(.long q0), (.int p1)] ∧ Z.Warmed39 U.vm ∧ U.heap = h0) (fun _ _ _ _ _ => True) (fun _ U o U' => ∃ v L, o = .returned v ∧ Q0 Z q0 p1  h0 n0 v U'.heap L ∧ FrameEnd U o U' L 0 0) := by
  refine MetFree.of_bodySF (plainFor_of_name pn_0) hisR ?_
  intro p e s m args below meth c s₁ Bd hml0 hP hK
  obtain ⟨rfl, hZ, hh⟩ := hP
  have hx := Bd.exec
  have hby := Bd.bytes
  have hml : c.maxLocals = 9 := hml0
  have hown : s.vm.findClass "com/example/sextant/sextant/transport/TransportConnectionRequireTsduLengthPinLaw" = some m.cls := findClass_of_methodNamed Bd.named
  have hnm := (name_of_methodNamed Bd.named Bd.method).1
  have X0 : Stand p l e room_1 s m #[(.long q0), (.int p1)] below meth c s₁ [] 0 0 := Stand.of_body Bd
  have e0 : s₁.heap = h0 := by rw [← hh, Bd.state]; rfl
  have N0 := Fr.nil n0
  refine Ends.via (A := s₁.setTop (mkF m 0 #[.val (.long q0), .second, .val (.int p1), .unset, .unset, .unset, .unset, .unset, .unset] [])) (kc := 0) (ks := 0) (Q := (Q0 Z q0 p1  h0 n0)) (fun t k => castTop (ef_0 m q0 p1) k) ?_
  show Ends p e below s 0 0 (Q0 Z q0 p1  h0 n0) (s₁.setTop (mkF m 0 #[.val (.long q0), .second, .val (.int p1), .unset, .unset, .unset, .unset, .unset, .unset] []))
  refine Ends.via (X0.ldc2Long hx hown (mvT hZ (hw _ (List.mem_of_getElem? (i := 0) rfl))) (g := (mkF m 0 #[.val (.long q0), .second, .val (.int p1), .unset, .unset, .unset, .unset, .unset, .unset] [])) rfl (hb hby at_0)) ?_
  show Ends p e below s 0 0 (Q0 Z q0 p1  h0 n0) (s₁.setTop (mkF m 3 #[.val (.long q0), .second, .val (.int p1), .unset, .unset, .unset, .unset, .unset, .unset] [(.long (16777279 : Int64))]))
  refine Ends.via (fun _ k => XS.lstoreN X0.here hx rfl (hb hby at_3) rfl (l' := #[.val (.long q0), .second, .val (.int p1), .val (.long (16777279 : Int64)), .second, .unset, .unset, .unset, .unset]) rfl k) ?_
  show Ends p e below s 0 0 (Q0 Z q0 p1  h0 n0) (s₁.setTop (mkF m 4 #[.val (.long q0), .second, .val (.int p1), .val (.long (16777279 : Int64)), .second, .unset, .unset, .unset, .unset] []))
  refine Ends.via (fun _ k => XS.lloadN X0.here hx rfl (hb hby at_4) rfl k) ?_
  show Ends p e below s 0 0 (Q0 Z q0 p1  h0 n0) (s₁.setTop (mkF m 5 #[.val (.long q0), .second, .val (.int p1), .val (.long (16777279 : Int64)), .second, .unset, .unset, .unset, .unset] [(.long q0)]))
  refine Ends.via (fun _ k => XS.lloadN X0.here hx rfl (hb hby at_5) rfl k) ?_
  show Ends p e below s 0 0 (Q0 Z q0 p1  h0 n0) (s₁.setTop (mkF m 6 #[.val (.long q0), .second, .val (.int p1), .val (.long (16777279 : Int64)), .second, .unset, .unset, .unset, .unset] [(.long (16777279 : Int64)), (.long q0)]))
  obtain ⟨_, _, ⟨T2, L2, k2, n2⟩, -, X2, ⟨Lc2, hQ2, l2, y2, z2⟩, st2⟩ := Jvm.LawKit.callS X0 hx (y := (⟨"java/lang/Math", "min", "(JJ)J"⟩ : MethodName)) hown (mvT hZ (hw _ (List.mem_of_getElem? (i := 1) rfl))) (mvT hZ (hw _ (List.mem_of_getElem? (i := 2) rfl))) (mvT hZ (hw _ (List.mem_of_getElem? (i := 3) rfl))) (mvT hZ (hw _ (List.mem_of_getElem? (i := 4) rfl))) (by decide) (backOf (W := 0) (rm1 l Z a0 hw [] q0 (16777279 : Int64) h0 n0 Z0) hZ (hw _ (List.mem_of_getElem? (i := 4) rfl)) (hw _ (List.mem_of_getElem? (i := 3) rfl)) (by decide) (by decide)) (g := (mkF m 6 #[.val (.long q0), .second, .val (.int p1), .val (.long (16777279 : Int64)), .second, .unset, .unset, .unset, .unset] [(.long (16777279 : Int64)), (.long q0)])) rfl (by rw [hml]; rfl) (argsL := [(.long q0), (.long (16777279 : Int64))]) (rest := []) (lenOf own_pd0 rfl) rfl (by show 2 * 0 + _ ≤ _; exact Nat.le_of_eq rfl) (hb hby at_6) (fun _ _ => ⟨rfl, e0, (by decide : 0 + 0 ≤ _), (by decide : 0 + 0 ≤ _)⟩)
  dsimp only [Pt.U, Pt.locs, Pt.cells, Pt.slots] at X2 l2 y2 z2 st2 hQ2
  subst l2 y2 z2
  obtain ⟨rfl, Nq2, e2⟩ := hQ2
  have N2 := Fr.app N0 Nq2
  refine Ends.via st2 ?_
  show Ends p e below s 0 0 (Q0 Z q0 p1  h0 n0) (T2.setTop (mkF m 9 #[.val (.long q0), .second, .val (.int p1), .val (.long (16777279 : Int64)), .second, .unset, .unset, .unset, .unset] [(.long (fn1 q0 (16777279 : Int64)))]))
  refine Ends.via (fun _ k => XS.lstore X2.here hx rfl (hb hby at_9) rfl (l' := #[.val (.long q0), .second, .val (.int p1), .val (.long (16777279 : Int64)), .second, .val (.long (fn1 q0 (16777279 : Int64))), .second, .unset, .unset]) rfl k) ?_
  show Ends p e below s 0 0 (Q0 Z q0 p1  h0 n0) (T2.setTop (mkF m 11 #[.val (.long q0), .second, .val (.int p1), .val (.long (16777279 : Int64)), .second, .val (.long (fn1 q0 (16777279 : Int64))), .second, .unset, .unset] []))
  generalize hv3 : (fn1 q0 (16777279 : Int64)) = v3
  refine Ends.via (fun _ k => XS.lload X2.here hx rfl (hb hby at_11) rfl k) ?_
  show Ends p e below s 0 0 (Q0 Z q0 p1  h0 n0) (T2.setTop (mkF m 13 #[.val (.long q0), .second, .val (.int p1), .val (.long (16777279 : Int64)), .second, .val (.long v3), .second, .unset, .unset] [(.long v3)]))
  obtain ⟨_, _, ⟨T5, L5, k5, n5⟩, -, X5, ⟨Lc5, hQ5, l5, y5, z5⟩, st5⟩ := Jvm.LawKit.callS X2 hx (y := (⟨"com/example/sextant/sextant/transport/TransportConnection", "requireTsduLength", "(J)V"⟩ : MethodName)) hown (mvT hZ (hw _ (List.mem_of_getElem? (i := 5) rfl))) (mvT hZ (hw _ (List.mem_of_getElem? (i := 6) rfl))) (mvT hZ (hw _ (List.mem_of_getElem? (i := 7) rfl))) (mvT hZ (hw _ (List.mem_of_getElem? (i := 8) rfl))) (by decide) (backOf (W := 0) (rm2 l Z a0 hw [] v3 h0 n0 Z0 (by rw [← hv3]; exact own_c1 q0)) hZ (hw _ (List.mem_of_getElem? (i := 8) rfl)) (hw _ (List.mem_of_getElem? (i := 7) rfl)) (by decide) (by decide)) (g := (mkF m 13 #[.val (.long q0), .second, .val (.int p1), .val (.long (16777279 : Int64)), .second, .val (.long v3), .second, .unset, .unset] [(.long v3)])) rfl (by rw [hml]; rfl) (argsL := [(.long v3)]) (rest := []) (lenOf own_pd1 rfl) rfl (by show 2 * 0 + _ ≤ _; exact Nat.le_of_eq rfl) (hb hby at_13) (fun _ _ => ⟨rfl, e2, (by decide : 0 + 0 ≤ _), (by decide : 0 + 0 ≤ _)⟩)
  dsimp only [Pt.U, Pt.locs, Pt.cells, Pt.slots] at X5 l5 y5 z5 st5 hQ5
  subst l5 y5 z5
  obtain ⟨rfl, Nq5, e5⟩ := hQ5
  have N5 := Fr.app N2 Nq5
  refine Ends.via st5 ?_
  show Ends p e below s 0 0 (Q0 Z q0 p1  h0 n0) (T5.setTop (mkF m 16 #[.val (.long q0), .second, .val (.int p1), .val (.long (16777279 : Int64)), .second, .val (.long v3), .second, .unset, .unset] []))
  refine Ends.via (fun _ k => XS.lloadN X5.here hx rfl (hb hby at_16) rfl k) ?_
  show Ends p e below s 0 0 (Q0 Z q0 p1  h0 n0) (T5.setTop (mkF m 17 #[.val (.long q0), .second, .val (.int p1), .val (.long (16777279 : Int64)), .second, .val (.long v3), .second, .unset, .unset] [(.long (16777279 : Int64))]))
  refine Ends.via (fun _ k => XS.iloadN X5.here hx rfl (hb hby at_17) rfl k) ?_
  show Ends p e below s 0 0 (Q0 Z q0 p1  h0 n0) (T5.setTop (mkF m 18 #[.val (.long q0), .second, .val (.int p1), .val (.long (16777279 : Int64)), .second, .val (.long v3), .second, .unset, .unset] [(.int p1), (.long (16777279 : Int64))]))
  refine Ends.via (fun _ k => XS.sipush X5.here hx rfl (hb hby at_18) k) ?_
  show Ends p e below s 0 0 (Q0 Z q0 p1  h0 n0) (T5.setTop (mkF m 21 #[.val (.long q0), .second, .val (.int p1), .val (.long (16777279 : Int64)), .second, .val (.long v3), .second, .unset, .unset] [(.int (255 : Int32)), (.int p1), (.long (16777279 : Int64))]))
  refine Ends.via (fun _ k => XS.iand X5.here hx rfl (hb hby at_21) rfl k) ?_
  show Ends p e below s 0 0 (Q0 Z q0 p1  h0 n0) (T5.setTop (mkF m 22 #[.val (.long q0), .second, .val (.int p1), .val (.long (16777279 : Int64)), .second, .val (.long v3), .second, .unset, .unset] [(.int (p1 &&& (255 : Int32))), (.long (16777279 : Int64))]))
  refine Ends.via (fun _ k => XS.i2l X5.here hx rfl (hb hby at_22) rfl k) ?_
  show Ends p e below s 0 0 (Q0 Z q0 p1  h0 n0) (T5.setTop (mkF m 23 #[.val (.long q0), .second, .val (.int p1), .val (.long (16777279 : Int64)), .second, .val (.long v3), .second, .unset, .unset] [(.long ((p1 &&& (255 : Int32)).toInt64)), (.long (16777279 : Int64))]))
  refine Ends.via (fun _ k => XS.lsub X5.here hx rfl (hb hby at_23) rfl k) ?_
  show Ends p e below s 0 0 (Q0 Z q0 p1  h0 n0) (T5.setTop (mkF m 24 #[.val (.long q0), .second, .val (.int p1), .val (.long (16777279 : Int64)), .second, .val (.long v3), .second, .unset, .unset] [(.long ((16777279 : Int64) - ((p1 &&& (255 : Int32)).toInt64)))]))
  refine Ends.via (fun _ k => XS.lstore X5.here hx rfl (hb hby at_24) rfl (l' := #[.val (.long q0), .second, .val (.int p1), .val (.long (16777279 : Int64)), .second, .val (.long v3), .second, .val (.long ((16777279 : Int64) - ((p1 &&& (255 : Int32)).toInt64))), .second]) rfl k) ?_
  show Ends p e below s 0 0 (Q0 Z q0 p1  h0 n0) (T5.setTop (mkF m 26 #[.val (.long q0), .second, .val (.int p1), .val (.long (16777279 : Int64)), .second, .val (.long v3), .second, .val (.long ((16777279 : Int64) - ((p1 &&& (255 : Int32)).toInt64))), .second] []))
  generalize hv6 : ((16777279 : Int64) - ((p1 &&& (255 : Int32)).toInt64)) = v6
  refine Ends.via (fun _ k => XS.lload X5.here hx rfl (hb hby at_26) rfl k) ?_
  show Ends p e below s 0 0 (Q0 Z q0 p1  h0 n0) (T5.setTop (mkF m 28 #[.val (.long q0), .second, .val (.int p1), .val (.long (16777279 : Int64)), .second, .val (.long v3), .second, .val (.long v6), .second] [(.long v6)]))
  obtain ⟨_, _, ⟨T7, L7, k7, n7⟩, -, X7, ⟨Lc7, hQ7, l7, y7, z7⟩, st7⟩ := Jvm.LawKit.callS X5 hx (y := (⟨"com/example/sextant/sextant/transport/TransportConnection", "requireTsduLength", "(J)V"⟩ : MethodName)) hown (mvT hZ (hw _ (List.mem_of_getElem? (i := 5) rfl))) (mvT hZ (hw _ (List.mem_of_getElem? (i := 6) rfl))) (mvT hZ (hw _ (List.mem_of_getElem? (i := 7) rfl))) (mvT hZ (hw _ (List.mem_of_getElem? (i := 8) rfl))) (by decide) (backOf (W := 0) (rm2 l Z a0 hw [] v6 h0 n0 Z0 (own_c2 p1 v6 hv6)) hZ (hw _ (List.mem_of_getElem? (i := 8) rfl)) (hw _ (List.mem_of_getElem? (i := 7) rfl)) (by decide) (by decide)) (g := (mkF m 28 #[.val (.long q0), .second, .val (.int p1), .val (.long (16777279 : Int64)), .second, .val (.long v3), .second, .val (.long v6), .second] [(.long v6)])) rfl (by rw [hml]; rfl) (argsL := [(.long v6)]) (rest := []) (lenOf own_pd1 rfl) rfl (by show 2 * 0 + _ ≤ _; exact Nat.le_of_eq rfl) (hb hby at_28) (fun _ _ => ⟨rfl, e5, (by decide : 0 + 0 ≤ _), (by decide : 0 + 0 ≤ _)⟩)
  dsimp only [Pt.U, Pt.locs, Pt.cells, Pt.slots] at X7 l7 y7 z7 st7 hQ7
  subst l7 y7 z7
  obtain ⟨rfl, Nq7, e7⟩ := hQ7
  have N7 := Fr.app N5 Nq7
  refine Ends.via st7 ?_
  show Ends p e below s 0 0 (Q0 Z q0 p1  h0 n0) (T7.setTop (mkF m 31 #[.val (.long q0), .second, .val (.int p1), .val (.long (16777279 : Int64)), .second, .val (.long v3), .second, .val (.long v6), .second] []))
  refine Ends.via (fun _ k => XS.iconst X7.here hx rfl (hb hby at_31) k) ?_
  show Ends p e below s 0 0 (Q0 Z q0 p1  h0 n0) (T7.setTop (mkF m 32 #[.val (.long q0), .second, .val (.int p1), .val (.long (16777279 : Int64)), .second, .val (.long v3), .second, .val (.long v6), .second] [(.int (1 : Int32))]))
  refine Ends.ret X7 (v := some (.int (nar .boolean (1 : Int32)))) (fun h => by rw [Bd.returns] at h; cases h) Bd.notSynchronized (fun fs hr => retN X7 hx (t := .boolean) Bd.returns (by simp) (hb hby at_32) hr) ?_ (by decide) (by decide)
  exact ⟨rfl, N7⟩
set_option maxRecDepth 65536 in
set_option maxHeartbeats 40000000 in
theorem comes_1 {Post : Tables → Env → Array Value → State → Outcome → State → Prop} (hpost : ∀ tb e args s v u, (limb_1_1.after args s (.returned v) u = true ∧ limb_1_2.after args s (.returned v) u = true ∧ True) → FrameEnd s (.returned v) u (Jvm.fieldLocs frame_1_writes args s ++ Jvm.arrayLocs frame_1_arrays args s ++ Jvm.staticLocs frame_1_statics s) 0 0 → Post tb e args s (.returned v) u) :
    ArmFor flags0 classFile x code maxLocals ret World_1 tables_1 room_1 Calls_1 rest_1 Pre_1 Post := by
  intro l hfl _ _ p e ha hc hk s m args below hf hA hF happ hP
  obtain ⟨hcalls, hrest, hpre⟩ := hP
  obtain ⟨-, -, -, hnamed, -, -, -, hat⟩ := (Spec.applies_iff hf).mp happ
  obtain ⟨hg, hn⟩ := and_e (Cond.before_iff.mp (show (Jvm.Cond.and given_1 narrow_1).before args s = true from hpre))
  obtain ⟨hcnt, g0⟩ := and_e hg
  obtain ⟨t0, g1⟩ := and_e g0
  obtain ⟨w0, w1, rfl⟩ : ∃ w0 w1 : Value, args = #[w0, w1] := by
    have hs : args.size = 2 := by simpa [Cond.value, given_1] using hcnt
    obtain ⟨L⟩ := args
    match L, hs with
    | [w0, w1], _ => exact ⟨w0, w1, rfl⟩
  have hw := fun d (hd : d ∈ tables_1) => atoms_spec (ws := Jvm.Cond.code x code maxLocals ret :: tables_1) hat d (List.mem_cons_of_mem _ hd)
  obtain ⟨i0, ei0⟩ := isL_v t0
  obtain rfl : w0 = (.long i0) := Option.some.inj ei0
  obtain ⟨i1, ei1⟩ := is_v g1
  obtain rfl : w1 = (.int i1) := Option.some.inj ei1
  obtain ⟨n, o, h1, h2, h3, _, L, rfl, ⟨rfl, N⟩, hq⟩ := rm0 l s _ hw tables_1 i0 i1 s.heap s.heap.size (Nat.le_refl _) p e ha hc hk s m _ below hf ((Spec.applies_iff_loose hf).mp happ).1 ⟨rfl, State.Warmed39.refl s, rfl⟩ trivial
  refine ⟨n, _, h1, h2, h3, hpost _ _ _ _ _ _ ⟨Cond.after_iff.mpr rfl, Cond.after_iff.mpr (eq_i res_at (Term.int_eval (1)) rfl), trivial⟩ ⟨hq.1, hq.2.1, (hq.2.2.sift fun y hy => Or.inr (N y hy)).mono (by decide) (by decide)⟩⟩
theorem main_1_1 : Claimed_1_1 := comes_1 fun _ _ _ _ _ _ h hF => ⟨h.1, hF⟩
theorem main_1_2 : Claimed_1_2 := comes_1 fun _ _ _ _ _ _ h hF => ⟨h.2.1, hF⟩
end Jvm.Pilot.@@N@@
namespace Jvm.Pilot.@@N@@
open Jvm Jvm.ClassFile Sem Op Lib Jvm.Free Jvm.Stand Jvm.Pilot.@@N@@.Jvm.D
/-! MADE BY PROGRAM (witnessworld.py) out of the Statement's table words and the real class files: 12 classes; the members and pool entries that the words name. The judged class is class 1, her method 1. -/
namespace start1
open Jvm.ClassFile
def u (s : String) : CpInfo := .utf8 (stringToUtf16 s)
/-- a pool by its gaps: so many unusable entries, then the entry; so many at the end -/
def gap : Nat → List CpInfo → List CpInfo
  | 0, r => r
  | n + 1, r => .unusable :: gap n r
def poolList (es : List (Nat × CpInfo)) (last : Nat) : List CpInfo := es.foldr (fun e r => gap e.1 (e.2 :: r)) (gap last [])
def pool (es : List (Nat × CpInfo)) (last : Nat) : Array CpInfo := ⟨poolList es last⟩
def fileOf (pool : Array CpInfo) (this : Nat) (attrs : Array Attribute := #[]) (ms : Array MethodInfo := #[]) (fl : Nat := 33) (sup : Nat := 0) (ifs : Array Nat := #[]) (fds : Array FieldInfo := #[]) : ClassFile where
  minorVersion := 0
  majorVersion := 65
  constantPool := pool
  accessFlags := fl
  thisClass := this
  superClass := sup
  interfaces := ifs
  fields := fds
  methods := ms
  attributes := attrs
def plain (name : String) (sup : Option ClassId) : Class where
  name := name
  kind := .ordinary
  loader := none
  accessFlags := 33
  super := sup
  interfaces := #[]
  cf := none
  fields := #[]
  methods := #[]
  instanceTypes := #[]
  staticTypes := #[]
  resolved := #[]
  callSites := []
  init := .initialized
  statics := none
  mirror := none

def pool0 : Array CpInfo := pool [(5, u "<init>"), (0, u "()V"), (1, .class_ 10), (1, u "java/lang/Object")] 113

def k0m0 : Method := { name := "<init>", desc := "()V", sig := { parameters := [], returnType := none }, accessFlags := 1, code := none }
/-- java/lang/Object -/
def k0 : Class := { plain "java/lang/Object" none with
  accessFlags := 33
  interfaces := #[]
  cf := some (fileOf pool0 8 #[] #[{ accessFlags := 1, nameIndex := 5, descriptorIndex := 6, attributes := #[] }] 33 0 #[] #[])
  fields := #[]
  methods := #[k0m0]
  instanceTypes := #[]
  staticTypes := #[]
  resolved := Array.replicate 124 none
  statics := none }

def pool1 : Array CpInfo := pool [(2, .class_ 4), (1, u "java/lang/Object"), (0, u "<init>"), (0, u "()V"), (0, .class_ 8), (0, u "com/example/sextant/sextant/transport/TransportConnection"), (0, .long 16777279), (1, .methodref 12 13), (0, .class_ 14), (0, .nameAndType 15 16), (0, u "java/lang/Math"), (0, u "min"), (0, u "(JJ)J"), (0, .methodref 7 18), (0, .nameAndType 19 20), (0, u "requireTsduLength"), (0, u "(J)V"), (0, .class_ 22), (0, u "com/example/sextant/sextant/transport/TransportConnectionRequireTsduLengthPinLaw"), (2, u "law"), (0, u "(JI)Z")] 5

def k1m0 : Method := { name := "<init>", desc := "()V", sig := { parameters := [], returnType := none }, accessFlags := 1, code := none }
def k1c1 : Code := { maxStack := 4, maxLocals := 9, code := code, exceptionTable := #[], attributes := #[] }
def k1m1 : Method := { name := "law", desc := "(JI)Z", sig := { parameters := [.long, .int], returnType := some .boolean }, accessFlags := 9, code := some k1c1 }
/-- com/example/sextant/sextant/transport/TransportConnectionRequireTsduLengthPinLaw -/
def k1 : Class := { plain "com/example/sextant/sextant/transport/TransportConnectionRequireTsduLengthPinLaw" (some 0) with
  accessFlags := 49
  interfaces := #[]
  cf := some (fileOf pool1 21 #[] #[{ accessFlags := 1, nameIndex := 5, descriptorIndex := 6, attributes := #[] }, { accessFlags := 9, nameIndex := 25, descriptorIndex := 26, attributes := #[] }] 49 2 #[] #[])
  fields := #[]
  methods := #[k1m0, k1m1]
  instanceTypes := #[]
  staticTypes := #[]
  resolved := Array.replicate 32 none
  statics := none }

def pool2 : Array CpInfo := pool [(1, .class_ 2), (0, u "java/lang/Math"), (1, .class_ 6), (1, u "java/lang/Object"), (0, u "<init>"), (0, u "()V"), (89, .class_ 100), (1, u "java/lang/Math$RandomNumberGeneratorHolder"), (20, u "(JJ)J"), (50, u "negativeZeroFloatBits"), (0, u "J"), (2, u "negativeZeroDoubleBits"), (24, u "min"), (43, u "$assertionsDisabled"), (0, u "Z"), (91, u "twoToTheDoubleScaleDown"), (0, u "D"), (4, u "twoToTheDoubleScaleUp"), (9, u "E"), (3, u "PI"), (2, u "TAU"), (2, u "DEGREES_TO_RADIANS"), (0, u "RADIANS_TO_DEGREES")] 94

def k2m0 : Method := { name := "<init>", desc := "()V", sig := { parameters := [], returnType := none }, accessFlags := 2, code := none }
def k2c1 : Code := { maxStack := 4, maxLocals := 4, code := jdk_29_method_70_code, exceptionTable := #[], attributes := #[] }
def k2m1 : Method := { name := "min", desc := "(JJ)J", sig := { parameters := [.long, .long], returnType := some .long }, accessFlags := 9, code := some k2c1 }
/-- java/lang/Math -/
def k2 : Class := { plain "java/lang/Math" (some 0) with
  accessFlags := 49
  interfaces := #[]
  cf := some (fileOf pool2 1 #[.nestMembers #[98]] #[{ accessFlags := 2, nameIndex := 7, descriptorIndex := 8, attributes := #[] }, { accessFlags := 9, nameIndex := 201, descriptorIndex := 121, attributes := #[] }] 49 4 #[] #[{ accessFlags := 25, nameIndex := 354, descriptorIndex := 339, attributes := #[] }, { accessFlags := 25, nameIndex := 358, descriptorIndex := 339, attributes := #[] }, { accessFlags := 25, nameIndex := 361, descriptorIndex := 339, attributes := #[] }, { accessFlags := 26, nameIndex := 364, descriptorIndex := 339, attributes := #[] }, { accessFlags := 26, nameIndex := 365, descriptorIndex := 339, attributes := #[] }, { accessFlags := 26, nameIndex := 172, descriptorIndex := 173, attributes := #[] }, { accessFlags := 26, nameIndex := 176, descriptorIndex := 173, attributes := #[] }, { accessFlags := 8, nameIndex := 344, descriptorIndex := 339, attributes := #[] }, { accessFlags := 8, nameIndex := 338, descriptorIndex := 339, attributes := #[] }, { accessFlags := 4120, nameIndex := 245, descriptorIndex := 246, attributes := #[] }])
  fields := #[{ name := "E", type := .double, accessFlags := 25, slot := 0, constantValue := 0 }, { name := "PI", type := .double, accessFlags := 25, slot := 1, constantValue := 0 }, { name := "TAU", type := .double, accessFlags := 25, slot := 2, constantValue := 0 }, { name := "DEGREES_TO_RADIANS", type := .double, accessFlags := 26, slot := 3, constantValue := 0 }, { name := "RADIANS_TO_DEGREES", type := .double, accessFlags := 26, slot := 4, constantValue := 0 }, { name := "negativeZeroFloatBits", type := .long, accessFlags := 26, slot := 5, constantValue := 0 }, { name := "negativeZeroDoubleBits", type := .long, accessFlags := 26, slot := 6, constantValue := 0 }, { name := "twoToTheDoubleScaleUp", type := .double, accessFlags := 8, slot := 7, constantValue := 0 }, { name := "twoToTheDoubleScaleDown", type := .double, accessFlags := 8, slot := 8, constantValue := 0 }, { name := "$assertionsDisabled", type := .boolean, accessFlags := 4120, slot := 9, constantValue := 0 }]
  methods := #[k2m0, k2m1]
  instanceTypes := #[]
  staticTypes := #[.double, .double, .double, .double, .double, .long, .long, .double, .double, .boolean]
  resolved := Array.replicate 460 none
  statics := none }

def pool3 : Array CpInfo := pool [(1, .class_ 2), (0, u "java/lang/AutoCloseable"), (0, .class_ 4), (0, u "java/lang/Object")] 7

/-- java/lang/AutoCloseable -/
def k3 : Class := { plain "java/lang/AutoCloseable" (some 0) with
  accessFlags := 1537
  interfaces := #[]
  cf := some (fileOf pool3 1 #[] #[] 1537 3 #[] #[])
  fields := #[]
  methods := #[]
  instanceTypes := #[]
  staticTypes := #[]
  resolved := Array.replicate 12 none
  statics := none }

def pool4 : Array CpInfo := pool [(1, .class_ 2), (0, u "java/io/Closeable"), (0, .class_ 4), (0, u "java/lang/Object"), (0, .class_ 6), (0, u "java/lang/AutoCloseable")] 7

/-- java/io/Closeable -/
def k4 : Class := { plain "java/io/Closeable" (some 0) with
  accessFlags := 1537
  interfaces := #[3]
  cf := some (fileOf pool4 1 #[] #[] 1537 3 #[5] #[])
  fields := #[]
  methods := #[]
  instanceTypes := #[]
  staticTypes := #[]
  resolved := Array.replicate 14 none
  statics := none }

def pool5 : Array CpInfo := pool [(2, .class_ 4), (1, u "java/lang/Object"), (5, .class_ 12), (1, u "com/example/sextant/sextant/transport/TransportConnection"), (0, u "tpduSize"), (0, u "I"), (5, u "Lcom/example/sextant/sextant/transport/TsduInput;"), (2, u "tsdu"), (10, u "channel"), (0, u "Lcom/example/sextant/sextant/transport/TimedChannel;"), (0, .long 16777279), (9, u "account"), (0, u "Lcom/example/sextant/sextant/transport/ReceiveBound$Account;"), (2, u "tracer"), (0, u "Lcom/example/sextant/sextant/trace/Tracer;"), (261, .class_ 314), (0, u "java/io/Closeable"), (0, u "MAX_TSDU_LENGTH"), (2, u "PROPOSED_TPDU_SIZE_CODE"), (1, u "LOCAL_REFERENCE"), (21, u "requireTsduLength"), (0, u "(J)V")] 54

def k5c0 : Code := { maxStack := 4, maxLocals := 2, code := prog_120_method_11_code, exceptionTable := #[], attributes := #[] }
def k5m0 : Method := { name := "requireTsduLength", desc := "(J)V", sig := { parameters := [.long], returnType := none }, accessFlags := 8, code := some k5c0 }
/-- com/example/sextant/sextant/transport/TransportConnection -/
def k5 : Class := { plain "com/example/sextant/sextant/transport/TransportConnection" (some 0) with
  accessFlags := 49
  interfaces := #[4]
  cf := some (fileOf pool5 10 #[] #[{ accessFlags := 8, nameIndex := 342, descriptorIndex := 343, attributes := #[] }] 49 2 #[313] #[{ accessFlags := 25, nameIndex := 315, descriptorIndex := 14, attributes := #[] }, { accessFlags := 26, nameIndex := 318, descriptorIndex := 14, attributes := #[] }, { accessFlags := 26, nameIndex := 320, descriptorIndex := 14, attributes := #[] }, { accessFlags := 18, nameIndex := 34, descriptorIndex := 35, attributes := #[] }, { accessFlags := 18, nameIndex := 46, descriptorIndex := 47, attributes := #[] }, { accessFlags := 18, nameIndex := 50, descriptorIndex := 51, attributes := #[] }, { accessFlags := 2, nameIndex := 13, descriptorIndex := 14, attributes := #[] }, { accessFlags := 2, nameIndex := 23, descriptorIndex := 20, attributes := #[] }])
  fields := #[{ name := "MAX_TSDU_LENGTH", type := .int, accessFlags := 25, slot := 0, constantValue := 0 }, { name := "PROPOSED_TPDU_SIZE_CODE", type := .int, accessFlags := 26, slot := 1, constantValue := 0 }, { name := "LOCAL_REFERENCE", type := .int, accessFlags := 26, slot := 2, constantValue := 0 }, { name := "channel", type := (.object "com/example/sextant/sextant/transport/TimedChannel"), accessFlags := 18, slot := 0, constantValue := 0 }, { name := "account", type := (.object "com/example/sextant/sextant/transport/ReceiveBound$Account"), accessFlags := 18, slot := 1, constantValue := 0 }, { name := "tracer", type := (.object "com/example/sextant/sextant/trace/Tracer"), accessFlags := 18, slot := 2, constantValue := 0 }, { name := "tpduSize", type := .int, accessFlags := 2, slot := 3, constantValue := 0 }, { name := "tsdu", type := (.object "com/example/sextant/sextant/transport/TsduInput"), accessFlags := 2, slot := 4, constantValue := 0 }]
  methods := #[k5m0]
  instanceTypes := #[(.object "com/example/sextant/sextant/transport/TimedChannel"), (.object "com/example/sextant/sextant/transport/ReceiveBound$Account"), (.object "com/example/sextant/sextant/trace/Tracer"), .int, (.object "com/example/sextant/sextant/transport/TsduInput")]
  staticTypes := #[.int, .int, .int]
  resolved := Array.replicate 398 none
  statics := none }

def pool6 : Array CpInfo := pool [(1, u "java/lang/Cloneable"), (0, .class_ 1), (0, u "java/lang/Object"), (0, .class_ 3)] 3

/-- java/lang/Cloneable -/
def k6 : Class := { plain "java/lang/Cloneable" (some 0) with
  accessFlags := 1537
  interfaces := #[]
  cf := some (fileOf pool6 2 #[] #[] 1537 4 #[] #[])
  fields := #[]
  methods := #[]
  instanceTypes := #[]
  staticTypes := #[]
  resolved := Array.replicate 8 none
  statics := none }

def pool7 : Array CpInfo := pool [(1, u "java/io/Serializable"), (0, .class_ 1), (0, u "java/lang/Object"), (0, .class_ 3)] 3

/-- java/io/Serializable -/
def k7 : Class := { plain "java/io/Serializable" (some 0) with
  accessFlags := 1537
  interfaces := #[]
  cf := some (fileOf pool7 2 #[] #[] 1537 4 #[] #[])
  fields := #[]
  methods := #[]
  instanceTypes := #[]
  staticTypes := #[]
  resolved := Array.replicate 8 none
  statics := none }

/-- the primitive byte -/
def k8 : Class := { plain "byte" none with kind := .primitive 'B', accessFlags := 0x411 }
/-- [B -/
def k9 : Class := { plain "[B" (some 0) with kind := .array 8 .byte, interfaces := #[6, 7], accessFlags := 1041 }

/-- the primitive int -/
def k10 : Class := { plain "int" none with kind := .primitive 'I', accessFlags := 0x411 }
/-- [I -/
def k11 : Class := { plain "[I" (some 0) with kind := .array 10 .int, interfaces := #[6, 7], accessFlags := 1041 }

def heap : Heap := #[]
def classes : Array Class := #[k0, k1, k2, k3, k4, k5, k6, k7, k8, k9, k10, k11]
def interned : List (Array UInt16 × Addr) := []
def slotsUsed : Nat := 0
def theMethod : MethodId := ⟨1, 1⟩
def args0 : Array Value := #[.long 5, .int 5]
def aboutOver (below : List Frame) : State where
  vm := { classes := classes, interned := interned.toArray }
  heap := heap
  slotsUsed := slotsUsed
  threads := #[{ frames := .invoking theMethod args0 :: below }]
def below0 : List Frame := [.native { method := ⟨0, 0⟩, args := #[] }]
def about1 : State := aboutOver below0
def p0 : Program := .bare "" "" ""
def e0 : Env := launch0.env 0 0 0
theorem w_frames : about1.frames = Frame.invoking theMethod args0 :: below0 := rfl
set_option maxRecDepth 65536 in
theorem w_args : argsFit about1.vm theMethod args0 = true := by decide +kernel
set_option maxRecDepth 65536 in
theorem w_heap : heapFits about1 = true := by decide +kernel
set_option maxRecDepth 65536 in
theorem w_runnable : about1.curStatus? = some .runnable := by decide +kernel
set_option maxRecDepth 65536 in
theorem w_alone : about1.alone = true := by decide +kernel
set_option maxRecDepth 65536 in
theorem w_named : about1.methodNamed? x = some theMethod := by decide +kernel
set_option maxRecDepth 65536 in
theorem w_hears : about1.hears theMethod below0 = true := by decide +kernel
set_option maxRecDepth 65536 in
theorem w_ripe : about1.ripe theMethod args0 below0 = true := by decide +kernel
theorem w_running : about1.status = .running := rfl
set_option maxRecDepth 65536 in
theorem w_room : about1.hasRoom e0.platform room_1 = true :=
  launch0.hasRoom_least _ room_1 (by decide +kernel) (by decide +kernel) (by decide +kernel) (by decide +kernel) (by decide +kernel) (by decide +kernel)
theorem allAtoms_all (ts : List Jvm.Cond) (a : Array Jvm.Value) (st : Jvm.State) : (allAtoms ts).before a st = ts.all (fun c => c.before a st) := by
  induction ts with
  | nil => rfl
  | cons c t ih =>
    show (Jvm.Cond.and c (allAtoms t)).before a st = _
    rw [Jvm.Cond.before_and, ih, List.all_cons]
def words1 : List Jvm.Cond := Jvm.Cond.code x code maxLocals ret :: tables_1
/-- a 'code' word, met by the world's own term for the bytes: nothing is compared byte by byte -/
theorem code_word {y : MethodName} {bytes : ByteArray} {mx : Nat} {rt : Option FieldType} {a : Array Value} {s : State} {m : MethodId} {meth : Method} {c : Code} (h1 : s.methodNamed? y = some m) (h2 : s.vm.method? m = some meth) (h3 : meth.code = some c) (h4 : c.code = bytes)
    (h5 : (c.maxLocals == mx && c.exceptionTable.isEmpty && decide (c.maxStack ≤ mostOperands) && decide (meth.sig.returnType = rt) && !meth.locks && decide (parseMethodDescriptor y.desc = some meth.sig)) = true) : (Jvm.Cond.code y bytes mx rt).before a s = true := by
  simp only [Bool.and_eq_true, beq_iff_eq, Bool.not_eq_true', decide_eq_true_eq] at h5
  obtain ⟨⟨⟨⟨⟨g1, g2⟩, g3⟩, g4⟩, g5⟩, g6⟩ := h5
  simp [Cond.before, Cond.holds, Cond.value, h1, h2, h3, h4, g1, g2, g3, g4, g5, g6]
def isCode : Jvm.Cond → Bool
  | .code _ _ _ _ => true
  | _ => false
theorem all_split {L : List Jvm.Cond} {P : Jvm.Cond → Bool} (h1 : L.all (fun c => isCode c || P c) = true) (h2 : ∀ c ∈ L.filter isCode, P c = true) : L.all P = true := by
  refine List.all_eq_true.mpr fun c hc => ?_
  have h := List.all_eq_true.mp h1 c hc
  rcases Bool.eq_false_or_eq_true (isCode c) with hi | hi
  · exact h2 c (List.mem_filter.mpr ⟨hc, hi⟩)
  · simpa [hi] using h
set_option maxRecDepth 65536 in
theorem w_c0 : (Jvm.Cond.code x code maxLocals ret).before args0 about1 = true := code_word (m := ⟨1, 1⟩) (meth := k1m1) (c := k1c1) (by decide +kernel) rfl rfl rfl (by decide +kernel)
set_option maxRecDepth 65536 in
theorem w_c1 : (Jvm.Cond.code ({ cls := "java/lang/Math", name := "min", desc := "(JJ)J" } : Jvm.MethodName) jdk_29_method_70_code (4 : Nat) (Option.some Jvm.ClassFile.FieldType.long)).before args0 about1 = true := code_word (m := ⟨2, 1⟩) (meth := k2m1) (c := k2c1) (by decide +kernel) rfl rfl rfl (by decide +kernel)
set_option maxRecDepth 65536 in
theorem w_c2 : (Jvm.Cond.code ({ cls := "com/example/sextant/sextant/transport/TransportConnection", name := "requireTsduLength", desc := "(J)V" } : Jvm.MethodName) prog_120_method_11_code (2 : Nat) (Option.none : Option Jvm.ClassFile.FieldType)).before args0 about1 = true := code_word (m := ⟨5, 0⟩) (meth := k5m0) (c := k5c0) (by decide +kernel) rfl rfl rfl (by decide +kernel)
def codes1 : List Jvm.Cond := [Jvm.Cond.code x code maxLocals ret, Jvm.Cond.code ({ cls := "java/lang/Math", name := "min", desc := "(JJ)J" } : Jvm.MethodName) jdk_29_method_70_code (4 : Nat) (Option.some Jvm.ClassFile.FieldType.long), Jvm.Cond.code ({ cls := "com/example/sextant/sextant/transport/TransportConnection", name := "requireTsduLength", desc := "(J)V" } : Jvm.MethodName) prog_120_method_11_code (2 : Nat) (Option.none : Option Jvm.ClassFile.FieldType)]
set_option maxRecDepth 65536 in
theorem codes_eq : words1.filter isCode = codes1 := rfl
theorem w_codes : ∀ c ∈ words1.filter isCode, c.before args0 about1 = true := by
  rw [codes_eq]
  intro c hc
  simp only [codes1, List.mem_cons, List.not_mem_nil, or_false] at hc
  rcases hc with rfl | rfl | rfl
  · exact w_c0
  · exact w_c1
  · exact w_c2
set_option maxRecDepth 65536 in
theorem w_t1 : words1.all (fun c => isCode c || c.before args0 about1) = true := by decide +kernel
theorem w_tables : (allAtoms (Jvm.Cond.code x code maxLocals ret :: tables_1)).before args0 about1 = true := by
  rw [allAtoms_all]
  show words1.all (fun c => c.before args0 about1) = true
  refine all_split ?_ w_codes
  rw [w_t1]
set_option maxRecDepth 65536 in
theorem w_case : (Jvm.Cond.and given_1 narrow_1).before args0 about1 = true := by decide +kernel
theorem w_applies : (headSpec (Jvm.Cond.code x code maxLocals ret :: tables_1) room_1).applies x e0.platform about1 = true :=
  (Spec.applies_iff w_frames).mpr ⟨w_running, w_runnable, w_alone, w_named, w_hears, w_ripe, w_room, w_tables⟩
theorem atStart : AtStart classFile x code maxLocals ret World_1 tables_1 room_1 Calls_1 rest_1 Pre_1 launch0 p0 e0 about1 theMethod args0 below0 :=
  ⟨lists_1, trivial, launch0.admits_env _ _ _, launch0.least_env, fairChoices_fair.cas, fairChoices_fair.clock, w_frames, w_args, w_heap, w_applies, trivial, trivial, w_case⟩
end start1
theorem witness_1 : WitnessClaimed_1 := ⟨start1.p0, start1.e0, start1.about1, start1.theMethod, start1.args0, start1.below0, start1.atStart⟩
end Jvm.Pilot.@@N@@
