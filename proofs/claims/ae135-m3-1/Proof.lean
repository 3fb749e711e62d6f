import JvmDerived
import JvmDerived.Pilot.@@N@@Statement
import JvmDerived.Pilot.@@N@@Code
set_option linter.unusedVariables false
set_option linter.unusedSimpArgs false
namespace Jvm.RoadKit
open Sem ClassFile Op Lib Jvm.Stand Jvm.Free Jvm.LawKit
section New
variable {p : Program} {l : Launch} {e : Env} {R : Room} {s : State} {m : MethodId} {args : Array Value} {below : List Frame} {meth : Method} {c : Code} {T : State} {locs : List Loc} {cells slots : Nat}
theorem retI (X : Stand p l e R s m args below meth c T locs cells slots) (hx : p.tables.exec = Jvm.exec) {pc : Nat} {Ls : Array Slot} {z : Int32} {rest : List Value} (hret : meth.sig.returnType = some .int) (hd : decode c.code pc = .ok (.ireturn, 1)) {fs : List Frame}
    (hl : ∀ (f : JFrame) (acts : List Action), f.method = m → f.locked = none → f.entered = [] → (doReturn e (T.setTop f) acts (some (.int z))).1 = T.setFrames fs) : Steps p.tables e below (T.setTop (mkF m pc Ls (.int z :: rest))) (T.setFrames fs) := by
  have hm' : T.vm.method? m = some meth := X.method'
  have hn : narrow .int (.int z) = .int z := rfl
  show Steps p.tables e below (T.setTop { method := m, pc := pc, locals := Ls, stack := _ :: rest, locked := none }) _
  jvm_step X.here [X.here.top, hx, hd, hm', hret, hn]
  first | (intro acts; rw [hl _ acts rfl rfl rfl]) | rw [hl _ _ rfl rfl rfl]
  exact Steps.refl _
end New
end Jvm.RoadKit
namespace Jvm.Pilot.@@N@@
open Jvm Jvm.ClassFile Sem Op Lib Jvm.Free Jvm.Stand Jvm.LawKit Jvm.RoadKit Bundle Jvm.Pilot.@@N@@.Jvm.D
/-- from u the invocation ends, and what it returns and leaves is as Q says -/
def Ends (p : Program) (e : Env) (below : List Frame) (s : State) (kc ks : Nat) (Q : Option Value → Heap → List Loc → Prop) (u : State) : Prop :=
  ∃ s₂ o, Steps p.tables e below u s₂ ∧ s₂.status = .running ∧ Ended s₂ below o ∧ ∃ v L, o = .returned v ∧ Q v s₂.heap L ∧ FrameEnd s o s₂ L kc ks
theorem Ends.via {p : Program} {e : Env} {below : List Frame} {s : State} {kc ks : Nat} {Q : Option Value → Heap → List Loc → Prop} {A B : State} (h : ∀ t, Steps p.tables e below A t → Steps p.tables e below B t) (k : Ends p e below s kc ks Q A) : Ends p e below s kc ks Q B := by
  obtain ⟨s₂, o, h1, r⟩ := k
  exact ⟨s₂, o, h _ h1, r⟩
theorem Ends.ret {p : Program} {l : Launch} {e : Env} {R : Room} {s : State} {m : MethodId} {args : Array Value} {below : List Frame} {meth : Method} {c : Code} {T : State} {locs : List Loc} {cells slots kc ks : Nat} {Q : Option Value → Heap → List Loc → Prop} {u : State}
    (X : Stand p l e R s m args below meth c T locs cells slots) {v : Option Value} (hv : meth.sig.returnType = none → v = none) (hlocks : meth.locks = false)
    (hst : ∀ fs, (∀ (f : JFrame) (acts : List Action), f.method = m → f.locked = none → f.entered = [] → (doReturn e (T.setTop f) acts v).1 = T.setFrames fs) → Steps p.tables e below u (T.setFrames fs))
    (hQ : Q v T.heap locs) (h1 : cells ≤ kc) (h2 : slots ≤ ks) : Ends p e below s kc ks Q u := by
  obtain ⟨fs, hr, hrun, hended, hW, hsame⟩ := X.leave (v := v) hv hlocks
  exact ⟨_, _, hst fs hr, hrun, hended, _, _, rfl, hQ, ⟨_, rfl⟩, hW, hsame.mono h1 h2⟩

theorem own_pd0 : parseMethodDescriptor "(J)J" = some ⟨[.long], some .long⟩ := by decide +kernel
theorem d1_0 : decode prog_24_method_7_code 0 = .ok (.lload_n 0, 1) := by decide +kernel
theorem d1_1 : decode prog_24_method_7_code 1 = .ok (.ldc2_w 77, 3) := by decide +kernel
theorem d1_4 : decode prog_24_method_7_code 4 = .ok (.lcmp, 1) := by decide +kernel
theorem d1_5 : decode prog_24_method_7_code 5 = .ok (.ifCond .ge 11, 3) := by decide +kernel
theorem d1_8 : decode prog_24_method_7_code 8 = .ok (.lload_n 0, 1) := by decide +kernel
theorem d1_9 : decode prog_24_method_7_code 9 = .ok (.ldc2_w 59, 3) := by decide +kernel
theorem d1_12 : decode prog_24_method_7_code 12 = .ok (.lsub, 1) := by decide +kernel
theorem d1_13 : decode prog_24_method_7_code 13 = .ok (.goto 4, 3) := by decide +kernel
theorem d1_16 : decode prog_24_method_7_code 16 = .ok (.lconst 0, 1) := by decide +kernel
theorem d1_17 : decode prog_24_method_7_code 17 = .ok (.lreturn, 1) := by decide +kernel
theorem pn_1 : plainName "com/example/cordon/cordon/trusted/Tally" = true := by first | (simp [plainName, overriddenIn]; done) | decide +kernel
theorem ef_1 (m : MethodId) (q0 : Int64) : entryFrame m #[(.long q0)] 2 = mkF m 0 #[.val (.long q0), .second] [] := by first | (simp [entryFrame, mkF, argsToLocals, Value.category]; done) | rfl
def fn1 (q0 : Int64) : Int64 := (if q0 < (-9223372032559808512 : Int64) then (q0 - (-9223372036854775808 : Int64)) else (0 : Int64))
abbrev ROOM1 : Room := { frames := 0, cells := 0, slots := 0, locals := 0 }
def Q1 (Z : State) (q0 : Int64)  (h0 : Heap) (n0 : Nat) (v : Option Value) (h : Heap) (L : List Loc) : Prop := v = some (.long (fn1 q0)) ∧ Fr n0 L ∧ h = h0
set_option maxRecDepth 65536 in
set_option maxHeartbeats 40000000 in
theorem rm1 (l : Launch) (Z : State) (a0 : Array Value) (hw : ∀ d ∈ tables_1, d.before a0 Z = true) (ws : List Jvm.Cond) (q0 : Int64)  (h0 : Heap) (n0 : Nat) (Z0 : n0 ≤ h0.size)  :
    MetFree l (⟨"com/example/cordon/cordon/trusted/Tally", "charged", "(J)J"⟩ : MethodName) (head1 (Jvm.Cond.code (⟨"com/example/cordon/cordon/trusted/Tally", "charged", "(J)J"⟩ : MethodName) prog_24_method_7_code 2 (some .long) :: ws) ROOM1) (fun a U => a = #[(.long q0)] ∧ Z.Warmed39 U.vm ∧ U.heap = h0) (fun _ _ _ _ _ => True) (fun _ U o U' => ∃ v L, o = .returned v ∧ Q1 Z q0  h0 n0 v U'.heap L ∧ FrameEnd U o U' L ROOM1.cells ROOM1.slots) := by
  refine MetFree.of_bodySF (plainFor_of_name pn_1) hisR ?_
  intro p e s m args below meth c s₁ Bd hml0 hP hK
  obtain ⟨rfl, hZ, hh⟩ := hP
  have hx := Bd.exec
  have hby := Bd.bytes
  have hml : c.maxLocals = 2 := hml0
  have hown : s.vm.findClass "com/example/cordon/cordon/trusted/Tally" = some m.cls := findClass_of_methodNamed Bd.named
  have hnm := (name_of_methodNamed Bd.named Bd.method).1
  have X0 : Stand p l e ROOM1 s m #[(.long q0)] below meth c s₁ [] 0 0 := Stand.of_body Bd
  have e0 : s₁.heap = h0 := by rw [← hh, Bd.state]; rfl
  have N0 := Fr.nil n0
  refine Ends.via (A := s₁.setTop (mkF m 0 #[.val (.long q0), .second] [])) (kc := ROOM1.cells) (ks := ROOM1.slots) (Q := (Q1 Z q0  h0 n0)) (fun t k => castTop (ef_1 m q0) k) ?_
  show Ends p e below s ROOM1.cells ROOM1.slots (Q1 Z q0  h0 n0) (s₁.setTop (mkF m 0 #[.val (.long q0), .second] []))
  refine Ends.via (fun _ k => XS.lloadN X0.here hx rfl (hb hby d1_0) rfl k) ?_
  show Ends p e below s ROOM1.cells ROOM1.slots (Q1 Z q0  h0 n0) (s₁.setTop (mkF m 1 #[.val (.long q0), .second] [(.long q0)]))
  refine Ends.via (X0.ldc2Long hx hown (mvT hZ (hw _ (List.mem_of_getElem? (i := 6) rfl))) (g := (mkF m 1 #[.val (.long q0), .second] [(.long q0)])) rfl (hb hby d1_1)) ?_
  show Ends p e below s ROOM1.cells ROOM1.slots (Q1 Z q0  h0 n0) (s₁.setTop (mkF m 4 #[.val (.long q0), .second] [(.long (-9223372032559808512 : Int64)), (.long q0)]))
  refine Ends.via (fun _ k => XS.lcmp X0.here hx rfl (hb hby d1_4) rfl k) ?_
  show Ends p e below s ROOM1.cells ROOM1.slots (Q1 Z q0  h0 n0) (s₁.setTop (mkF m 5 #[.val (.long q0), .second] [(.int (lcmpW q0 (-9223372032559808512 : Int64)))]))
  by_cases hc8 : q0 < (-9223372032559808512 : Int64)
  · refine Ends.via (fun _ k => XS.ifNo X0.here hx rfl (hb hby d1_5) rfl ((if0 _ _).trans (tlt ((lw_lt _ _).mpr hc8)).2.1) k) ?_
    show Ends p e below s ROOM1.cells ROOM1.slots (Q1 Z q0  h0 n0) (s₁.setTop (mkF m 8 #[.val (.long q0), .second] []))
    refine Ends.via (fun _ k => XS.lloadN X0.here hx rfl (hb hby d1_8) rfl k) ?_
    show Ends p e below s ROOM1.cells ROOM1.slots (Q1 Z q0  h0 n0) (s₁.setTop (mkF m 9 #[.val (.long q0), .second] [(.long q0)]))
    refine Ends.via (X0.ldc2Long hx hown (mvT hZ (hw _ (List.mem_of_getElem? (i := 7) rfl))) (g := (mkF m 9 #[.val (.long q0), .second] [(.long q0)])) rfl (hb hby d1_9)) ?_
    show Ends p e below s ROOM1.cells ROOM1.slots (Q1 Z q0  h0 n0) (s₁.setTop (mkF m 12 #[.val (.long q0), .second] [(.long (-9223372036854775808 : Int64)), (.long q0)]))
    refine Ends.via (fun _ k => XS.lsub X0.here hx rfl (hb hby d1_12) rfl k) ?_
    show Ends p e below s ROOM1.cells ROOM1.slots (Q1 Z q0  h0 n0) (s₁.setTop (mkF m 13 #[.val (.long q0), .second] [(.long (q0 - (-9223372036854775808 : Int64)))]))
    refine Ends.via (fun _ k => XS.goto X0.here hx rfl (pc0 := 13) (pc' := 17) rfl (hb hby d1_13) (by decide) (by decide) k) ?_
    show Ends p e below s ROOM1.cells ROOM1.slots (Q1 Z q0  h0 n0) (s₁.setTop (mkF m 17 #[.val (.long q0), .second] [(.long (q0 - (-9223372036854775808 : Int64)))]))
    refine Ends.ret X0 (v := some (.long (q0 - (-9223372036854775808 : Int64)))) (fun h => by rw [Bd.returns] at h; cases h) Bd.notSynchronized (fun fs hr => retOut X0 hx Bd.returns rfl (Or.inr (Or.inl ⟨rfl, rfl, _, rfl⟩)) (hb hby d1_17) hr) ?_ (by decide) (by decide)
    have hfn : fn1 q0 = (q0 - (-9223372036854775808 : Int64)) := by simp only [fn1, if_pos hc8]
    exact ⟨by rw [hfn], N0, e0⟩
  · refine Ends.via (fun _ k => XS.ifYes X0.here hx rfl (pc0 := 5) (pc' := 16) rfl (hb hby d1_5) rfl ((if0 _ _).trans (flt (mt (lw_lt _ _).mp hc8)).2.1) (by decide) (by decide) k) ?_
    show Ends p e below s ROOM1.cells ROOM1.slots (Q1 Z q0  h0 n0) (s₁.setTop (mkF m 16 #[.val (.long q0), .second] []))
    refine Ends.via (fun _ k => XS.lconst X0.here hx rfl (hb hby d1_16) k) ?_
    show Ends p e below s ROOM1.cells ROOM1.slots (Q1 Z q0  h0 n0) (s₁.setTop (mkF m 17 #[.val (.long q0), .second] [(.long (0 : Int64))]))
    refine Ends.ret X0 (v := some (.long (0 : Int64))) (fun h => by rw [Bd.returns] at h; cases h) Bd.notSynchronized (fun fs hr => retOut X0 hx Bd.returns rfl (Or.inr (Or.inl ⟨rfl, rfl, _, rfl⟩)) (hb hby d1_17) hr) ?_ (by decide) (by decide)
    have hfn : fn1 q0 = (0 : Int64) := by simp only [fn1, if_neg hc8]
    exact ⟨by rw [hfn], N0, e0⟩
theorem d2_0 : decode method_2_code 0 = .ok (.lload_n 0, 1) := by decide +kernel
theorem d2_1 : decode method_2_code 1 = .ok (.bipush 32, 2) := by decide +kernel
theorem d2_3 : decode method_2_code 3 = .ok (.lushr, 1) := by decide +kernel
theorem d2_4 : decode method_2_code 4 = .ok (.lstore_n 2, 1) := by decide +kernel
theorem d2_5 : decode method_2_code 5 = .ok (.lload_n 2, 1) := by decide +kernel
theorem d2_6 : decode method_2_code 6 = .ok (.ldc2_w 7, 3) := by decide +kernel
theorem d2_9 : decode method_2_code 9 = .ok (.lcmp, 1) := by decide +kernel
theorem d2_10 : decode method_2_code 10 = .ok (.ifCond .ne 9, 3) := by decide +kernel
theorem d2_13 : decode method_2_code 13 = .ok (.lload_n 0, 1) := by decide +kernel
theorem d2_14 : decode method_2_code 14 = .ok (.ldc2_w 9, 3) := by decide +kernel
theorem d2_17 : decode method_2_code 17 = .ok (.land, 1) := by decide +kernel
theorem d2_18 : decode method_2_code 18 = .ok (.lreturn, 1) := by decide +kernel
theorem d2_19 : decode method_2_code 19 = .ok (.lconst 0, 1) := by decide +kernel
theorem d2_20 : decode method_2_code 20 = .ok (.lreturn, 1) := by decide +kernel
theorem pn_2 : plainName "com/example/cordon/cordon/trusted/TallyChargedPinLaw" = true := by first | (simp [plainName, overriddenIn]; done) | decide +kernel
theorem ef_2 (m : MethodId) (q0 : Int64) : entryFrame m #[(.long q0)] 4 = mkF m 0 #[.val (.long q0), .second, .unset, .unset] [] := by first | (simp [entryFrame, mkF, argsToLocals, Value.category]; done) | rfl
def fn2 (q0 : Int64) : Int64 := (let v14 : Int64 := ((q0.toUInt64 >>> ((32 : Int32) &&& 0x3f).toInt64.toUInt64).toInt64); (if v14 = (2147483648 : Int64) then (q0 &&& (4294967295 : Int64)) else (0 : Int64)))
abbrev ROOM2 : Room := { frames := 0, cells := 0, slots := 0, locals := 0 }
def Q2 (Z : State) (q0 : Int64)  (h0 : Heap) (n0 : Nat) (v : Option Value) (h : Heap) (L : List Loc) : Prop := v = some (.long (fn2 q0)) ∧ Fr n0 L ∧ h = h0
set_option maxRecDepth 65536 in
set_option maxHeartbeats 40000000 in
theorem rm2 (l : Launch) (Z : State) (a0 : Array Value) (hw : ∀ d ∈ tables_1, d.before a0 Z = true) (ws : List Jvm.Cond) (q0 : Int64)  (h0 : Heap) (n0 : Nat) (Z0 : n0 ≤ h0.size)  :
    MetFree l (⟨"com/example/cordon/cordon/trusted/TallyChargedPinLaw", "expected", "(J)J"⟩ : MethodName) (head1 (Jvm.Cond.code (⟨"com/example/cordon/cordon/trusted/TallyChargedPinLaw", "expected", "(J)J"⟩ : MethodName) method_2_code 4 (some .long) :: ws) ROOM2) (fun a U => a = #[(.long q0)] ∧ Z.Warmed39 U.vm ∧ U.heap = h0) (fun _ _ _ _ _ => True) (fun _ U o U' => ∃ v L, o = .returned v ∧ Q2 Z q0  h0 n0 v U'.heap L ∧ FrameEnd U o U' L ROOM2.cells ROOM2.slots) := by
  refine MetFree.of_bodySF (plainFor_of_name pn_2) hisR ?_
  intro p e s m args below meth c s₁ Bd hml0 hP hK
  obtain ⟨rfl, hZ, hh⟩ := hP
  have hx := Bd.exec
  have hby := Bd.bytes
  have hml : c.maxLocals = 4 := hml0
  have hown : s.vm.findClass "com/example/cordon/cordon/trusted/TallyChargedPinLaw" = some m.cls := findClass_of_methodNamed Bd.named
  have hnm := (name_of_methodNamed Bd.named Bd.method).1
  have X0 : Stand p l e ROOM2 s m #[(.long q0)] below meth c s₁ [] 0 0 := Stand.of_body Bd
  have e0 : s₁.heap = h0 := by rw [← hh, Bd.state]; rfl
  have N0 := Fr.nil n0
  refine Ends.via (A := s₁.setTop (mkF m 0 #[.val (.long q0), .second, .unset, .unset] [])) (kc := ROOM2.cells) (ks := ROOM2.slots) (Q := (Q2 Z q0  h0 n0)) (fun t k => castTop (ef_2 m q0) k) ?_
  show Ends p e below s ROOM2.cells ROOM2.slots (Q2 Z q0  h0 n0) (s₁.setTop (mkF m 0 #[.val (.long q0), .second, .unset, .unset] []))
  refine Ends.via (fun _ k => XS.lloadN X0.here hx rfl (hb hby d2_0) rfl k) ?_
  show Ends p e below s ROOM2.cells ROOM2.slots (Q2 Z q0  h0 n0) (s₁.setTop (mkF m 1 #[.val (.long q0), .second, .unset, .unset] [(.long q0)]))
  refine Ends.via (fun _ k => XS.bipush X0.here hx rfl (hb hby d2_1) k) ?_
  show Ends p e below s ROOM2.cells ROOM2.slots (Q2 Z q0  h0 n0) (s₁.setTop (mkF m 3 #[.val (.long q0), .second, .unset, .unset] [(.int (32 : Int32)), (.long q0)]))
  refine Ends.via (fun _ k => XS.lushr X0.here hx rfl (hb hby d2_3) rfl k) ?_
  show Ends p e below s ROOM2.cells ROOM2.slots (Q2 Z q0  h0 n0) (s₁.setTop (mkF m 4 #[.val (.long q0), .second, .unset, .unset] [(.long ((q0.toUInt64 >>> ((32 : Int32) &&& 0x3f).toInt64.toUInt64).toInt64))]))
  refine Ends.via (fun _ k => XS.lstoreN X0.here hx rfl (hb hby d2_4) rfl (l' := #[.val (.long q0), .second, .val (.long ((q0.toUInt64 >>> ((32 : Int32) &&& 0x3f).toInt64.toUInt64).toInt64)), .second]) rfl k) ?_
  show Ends p e below s ROOM2.cells ROOM2.slots (Q2 Z q0  h0 n0) (s₁.setTop (mkF m 5 #[.val (.long q0), .second, .val (.long ((q0.toUInt64 >>> ((32 : Int32) &&& 0x3f).toInt64.toUInt64).toInt64)), .second] []))
  generalize hv14 : ((q0.toUInt64 >>> ((32 : Int32) &&& 0x3f).toInt64.toUInt64).toInt64) = v14
  refine Ends.via (fun _ k => XS.lloadN X0.here hx rfl (hb hby d2_5) rfl k) ?_
  show Ends p e below s ROOM2.cells ROOM2.slots (Q2 Z q0  h0 n0) (s₁.setTop (mkF m 6 #[.val (.long q0), .second, .val (.long v14), .second] [(.long v14)]))
  refine Ends.via (X0.ldc2Long hx hown (mvT hZ (hw _ (List.mem_of_getElem? (i := 12) rfl))) (g := (mkF m 6 #[.val (.long q0), .second, .val (.long v14), .second] [(.long v14)])) rfl (hb hby d2_6)) ?_
  show Ends p e below s ROOM2.cells ROOM2.slots (Q2 Z q0  h0 n0) (s₁.setTop (mkF m 9 #[.val (.long q0), .second, .val (.long v14), .second] [(.long (2147483648 : Int64)), (.long v14)]))
  refine Ends.via (fun _ k => XS.lcmp X0.here hx rfl (hb hby d2_9) rfl k) ?_
  show Ends p e below s ROOM2.cells ROOM2.slots (Q2 Z q0  h0 n0) (s₁.setTop (mkF m 10 #[.val (.long q0), .second, .val (.long v14), .second] [(.int (lcmpW v14 (2147483648 : Int64)))]))
  by_cases hc15 : v14 = (2147483648 : Int64)
  · refine Ends.via (fun _ k => XS.ifNo X0.here hx rfl (hb hby d2_10) rfl ((if0 _ _).trans (teq ((lw_eq _ _).mpr hc15)).2) k) ?_
    show Ends p e below s ROOM2.cells ROOM2.slots (Q2 Z q0  h0 n0) (s₁.setTop (mkF m 13 #[.val (.long q0), .second, .val (.long v14), .second] []))
    refine Ends.via (fun _ k => XS.lloadN X0.here hx rfl (hb hby d2_13) rfl k) ?_
    show Ends p e below s ROOM2.cells ROOM2.slots (Q2 Z q0  h0 n0) (s₁.setTop (mkF m 14 #[.val (.long q0), .second, .val (.long v14), .second] [(.long q0)]))
    refine Ends.via (X0.ldc2Long hx hown (mvT hZ (hw _ (List.mem_of_getElem? (i := 0) rfl))) (g := (mkF m 14 #[.val (.long q0), .second, .val (.long v14), .second] [(.long q0)])) rfl (hb hby d2_14)) ?_
    show Ends p e below s ROOM2.cells ROOM2.slots (Q2 Z q0  h0 n0) (s₁.setTop (mkF m 17 #[.val (.long q0), .second, .val (.long v14), .second] [(.long (4294967295 : Int64)), (.long q0)]))
    refine Ends.via (fun _ k => XS.land X0.here hx rfl (hb hby d2_17) rfl k) ?_
    show Ends p e below s ROOM2.cells ROOM2.slots (Q2 Z q0  h0 n0) (s₁.setTop (mkF m 18 #[.val (.long q0), .second, .val (.long v14), .second] [(.long (q0 &&& (4294967295 : Int64)))]))
    refine Ends.ret X0 (v := some (.long (q0 &&& (4294967295 : Int64)))) (fun h => by rw [Bd.returns] at h; cases h) Bd.notSynchronized (fun fs hr => retOut X0 hx Bd.returns rfl (Or.inr (Or.inl ⟨rfl, rfl, _, rfl⟩)) (hb hby d2_18) hr) ?_ (by decide) (by decide)
    have hfn : fn2 q0 = (q0 &&& (4294967295 : Int64)) := by subst hv14; simp only [fn2, if_pos hc15]
    exact ⟨by rw [hfn], N0, e0⟩
  · refine Ends.via (fun _ k => XS.ifYes X0.here hx rfl (pc0 := 10) (pc' := 19) rfl (hb hby d2_10) rfl ((if0 _ _).trans (feq (mt (lw_eq _ _).mp hc15)).2) (by decide) (by decide) k) ?_
    show Ends p e below s ROOM2.cells ROOM2.slots (Q2 Z q0  h0 n0) (s₁.setTop (mkF m 19 #[.val (.long q0), .second, .val (.long v14), .second] []))
    refine Ends.via (fun _ k => XS.lconst X0.here hx rfl (hb hby d2_19) k) ?_
    show Ends p e below s ROOM2.cells ROOM2.slots (Q2 Z q0  h0 n0) (s₁.setTop (mkF m 20 #[.val (.long q0), .second, .val (.long v14), .second] [(.long (0 : Int64))]))
    refine Ends.ret X0 (v := some (.long (0 : Int64))) (fun h => by rw [Bd.returns] at h; cases h) Bd.notSynchronized (fun fs hr => retOut X0 hx Bd.returns rfl (Or.inr (Or.inl ⟨rfl, rfl, _, rfl⟩)) (hb hby d2_20) hr) ?_ (by decide) (by decide)
    have hfn : fn2 q0 = (0 : Int64) := by subst hv14; simp only [fn2, if_neg hc15]
    exact ⟨by rw [hfn], N0, e0⟩
theorem own_f1 (x : Int64) : (fn1 x).toInt = if x.toInt < -9223372032559808512 then x.toInt + 9223372036854775808 else 0 := by
  have e1 : (-9223372032559808512 : Int64).toInt = -9223372032559808512 := rfl
  have e2 : (-9223372036854775808 : Int64).toInt = -9223372036854775808 := rfl
  have r := rng64 x
  simp only [fn1, Int64.lt_iff_toInt_lt, e1]
  split
  · have := c_lsub x (-9223372036854775808); have := rng64 (x - (-9223372036854775808)); rw [e2] at *; omega
  · rfl
theorem own_f2 (x : Int64) : fn1 x = fn2 x := by
  apply Int64.toInt_inj.mp
  rw [own_f1]
  have e3 : (2147483648 : Int64).toInt = 2147483648 := rfl
  have h1 := c_lushr x 32 32 (by decide) (by decide)
  have h2 := c_maskL x 4294967295 32 (by decide) (by decide)
  have r := rng64 x
  simp only [fn2, ← Int64.toInt_inj, h1, e3]
  by_cases c : x.toInt < -9223372032559808512
  · rw [if_pos c, if_pos (by omega), h2]; omega
  · rw [if_neg c, if_neg (by omega)]; rfl
theorem own_low (p1 : Int32) (v2 : Int64) (hv2 : ((p1.toInt64) &&& (4294967295 : Int64)) = v2) : 0 ≤ v2.toInt ∧ v2.toInt < 4294967296 := by
  have h2 := c_maskL p1.toInt64 4294967295 32 (by decide) (by decide)
  rw [hv2] at h2; omega
theorem own_m1 (v2 v6 : Int64) (h : 0 ≤ v2.toInt ∧ v2.toInt < 4294967296) (h6 : (-9223372036854775808 : Int64) + v2 = v6) : fn1 v6 = v2 := by
  apply Int64.toInt_inj.mp
  rw [own_f1, ← h6]
  have e2 : (-9223372036854775808 : Int64).toInt = -9223372036854775808 := rfl
  have := c_ladd (-9223372036854775808) v2
  have := rng64 ((-9223372036854775808) + v2)
  rw [e2] at *
  rw [if_pos (by omega)]; omega
theorem own_m2 (v2 v6 : Int64) (h : 0 ≤ v2.toInt ∧ v2.toInt < 4294967296) (h6 : (-9223372032559808512 : Int64) + v2 = v6) : fn1 v6 = 0 := by
  apply Int64.toInt_inj.mp
  rw [own_f1, ← h6]
  have e2 : (-9223372032559808512 : Int64).toInt = -9223372032559808512 := rfl
  have := c_ladd (-9223372032559808512) v2
  have := rng64 ((-9223372032559808512) + v2)
  rw [e2] at *
  rw [if_neg (by omega)]; rfl
theorem own_leaf1 (q0 : Int64) (p1 : Int32) (p2 : Int32) (v1 : Int32) (v2 : Int64) (v6 : Int64) (hv1 : (p2 &&& (3 : Int32)) = v1) (hv2 : ((p1.toInt64) &&& (4294967295 : Int64)) = v2) (hv6 : (if v1 = (0 : Int32) then q0 else (if v1 = (1 : Int32) then ((-9223372036854775808 : Int64) + v2) else (if v1 = (2 : Int32) then ((-9223372032559808512 : Int64) + v2) else ((-9223372032559808514 : Int64) + ((p1 &&& (3 : Int32)).toInt64))))) = v6) (hc10 : v1 = (1 : Int32)) (hc11 : (fn1 v6) = v2) (hc12 : v1 = (2 : Int32)) (hc13 : (fn1 v6) = (0 : Int64)) (hc17 : ¬ ((fn1 v6) = (fn2 v6))) : False := by
    exact hc17 (own_f2 v6)
theorem own_leaf2 (q0 : Int64) (p1 : Int32) (p2 : Int32) (v1 : Int32) (v2 : Int64) (v6 : Int64) (hv1 : (p2 &&& (3 : Int32)) = v1) (hv2 : ((p1.toInt64) &&& (4294967295 : Int64)) = v2) (hv6 : (if v1 = (0 : Int32) then q0 else (if v1 = (1 : Int32) then ((-9223372036854775808 : Int64) + v2) else (if v1 = (2 : Int32) then ((-9223372032559808512 : Int64) + v2) else ((-9223372032559808514 : Int64) + ((p1 &&& (3 : Int32)).toInt64))))) = v6) (hc10 : v1 = (1 : Int32)) (hc11 : (fn1 v6) = v2) (hc12 : v1 = (2 : Int32)) (hc13 : ¬ ((fn1 v6) = (0 : Int64))) : False := by
    rw [hc10] at hc12; exact absurd hc12 (by decide)
theorem own_leaf3 (q0 : Int64) (p1 : Int32) (p2 : Int32) (v1 : Int32) (v2 : Int64) (v6 : Int64) (hv1 : (p2 &&& (3 : Int32)) = v1) (hv2 : ((p1.toInt64) &&& (4294967295 : Int64)) = v2) (hv6 : (if v1 = (0 : Int32) then q0 else (if v1 = (1 : Int32) then ((-9223372036854775808 : Int64) + v2) else (if v1 = (2 : Int32) then ((-9223372032559808512 : Int64) + v2) else ((-9223372032559808514 : Int64) + ((p1 &&& (3 : Int32)).toInt64))))) = v6) (hc10 : v1 = (1 : Int32)) (hc11 : (fn1 v6) = v2) (hc12 : ¬ (v1 = (2 : Int32))) (hc19 : ¬ ((fn1 v6) = (fn2 v6))) : False := by
    exact hc19 (own_f2 v6)
theorem own_leaf4 (q0 : Int64) (p1 : Int32) (p2 : Int32) (v1 : Int32) (v2 : Int64) (v6 : Int64) (hv1 : (p2 &&& (3 : Int32)) = v1) (hv2 : ((p1.toInt64) &&& (4294967295 : Int64)) = v2) (hv6 : (if v1 = (0 : Int32) then q0 else (if v1 = (1 : Int32) then ((-9223372036854775808 : Int64) + v2) else (if v1 = (2 : Int32) then ((-9223372032559808512 : Int64) + v2) else ((-9223372032559808514 : Int64) + ((p1 &&& (3 : Int32)).toInt64))))) = v6) (hc10 : v1 = (1 : Int32)) (hc11 : ¬ ((fn1 v6) = v2)) : False := by
    rw [hc10] at hv6
    exact hc11 (own_m1 v2 v6 (own_low p1 v2 hv2) hv6)
theorem own_leaf5 (q0 : Int64) (p1 : Int32) (p2 : Int32) (v1 : Int32) (v2 : Int64) (v6 : Int64) (hv1 : (p2 &&& (3 : Int32)) = v1) (hv2 : ((p1.toInt64) &&& (4294967295 : Int64)) = v2) (hv6 : (if v1 = (0 : Int32) then q0 else (if v1 = (1 : Int32) then ((-9223372036854775808 : Int64) + v2) else (if v1 = (2 : Int32) then ((-9223372032559808512 : Int64) + v2) else ((-9223372032559808514 : Int64) + ((p1 &&& (3 : Int32)).toInt64))))) = v6) (hc10 : ¬ (v1 = (1 : Int32))) (hc20 : v1 = (2 : Int32)) (hc21 : (fn1 v6) = (0 : Int64)) (hc23 : ¬ ((fn1 v6) = (fn2 v6))) : False := by
    exact hc23 (own_f2 v6)
theorem own_leaf6 (q0 : Int64) (p1 : Int32) (p2 : Int32) (v1 : Int32) (v2 : Int64) (v6 : Int64) (hv1 : (p2 &&& (3 : Int32)) = v1) (hv2 : ((p1.toInt64) &&& (4294967295 : Int64)) = v2) (hv6 : (if v1 = (0 : Int32) then q0 else (if v1 = (1 : Int32) then ((-9223372036854775808 : Int64) + v2) else (if v1 = (2 : Int32) then ((-9223372032559808512 : Int64) + v2) else ((-9223372032559808514 : Int64) + ((p1 &&& (3 : Int32)).toInt64))))) = v6) (hc10 : ¬ (v1 = (1 : Int32))) (hc20 : v1 = (2 : Int32)) (hc21 : ¬ ((fn1 v6) = (0 : Int64))) : False := by
    rw [hc20] at hv6
    exact hc21 (own_m2 v2 v6 (own_low p1 v2 hv2) hv6)
theorem own_leaf7 (q0 : Int64) (p1 : Int32) (p2 : Int32) (v1 : Int32) (v2 : Int64) (v6 : Int64) (hv1 : (p2 &&& (3 : Int32)) = v1) (hv2 : ((p1.toInt64) &&& (4294967295 : Int64)) = v2) (hv6 : (if v1 = (0 : Int32) then q0 else (if v1 = (1 : Int32) then ((-9223372036854775808 : Int64) + v2) else (if v1 = (2 : Int32) then ((-9223372032559808512 : Int64) + v2) else ((-9223372032559808514 : Int64) + ((p1 &&& (3 : Int32)).toInt64))))) = v6) (hc10 : ¬ (v1 = (1 : Int32))) (hc20 : ¬ (v1 = (2 : Int32))) (hc25 : ¬ ((fn1 v6) = (fn2 v6))) : False := by
    exact hc25 (own_f2 v6)
theorem pn_0 : plainName "com/example/cordon/cordon/trusted/TallyChargedPinLaw" = true := by first | (simp [plainName, overriddenIn]; done) | decide +kernel
theorem ef_0 (m : MethodId) (q0 : Int64) (p1 : Int32) (p2 : Int32) : entryFrame m #[(.long q0), (.int p1), (.int p2)] maxLocals = mkF m 0 #[.val (.long q0), .second, .val (.int p1), .val (.int p2), .unset, .unset, .unset, .unset, .unset, .unset, .unset] [] := by first | (simp [entryFrame, mkF, argsToLocals, Value.category, maxLocals]; done) | rfl
def Q0 (Z : State) (q0 : Int64) (p1 : Int32) (p2 : Int32)  (h0 : Heap) (n0 : Nat) (v : Option Value) (h : Heap) (L : List Loc) : Prop := v = some (.int 1) ∧ Fr n0 L
set_option maxRecDepth 65536 in
set_option maxHeartbeats 40000000 in
theorem rm0 (l : Launch) (Z : State) (a0 : Array Value) (hw : ∀ d ∈ tables_1, d.before a0 Z = true) (ws : List Jvm.Cond) (q0 : Int64) (p1 : Int32) (p2 : Int32)  (h0 : Heap) (n0 : Nat) (Z0 : n0 ≤ h0.size)  :
    MetFree l x (head1 (Jvm.Cond.code x code maxLocals ret :: ws) room_1) (fun a U => a = #[(.long q0), (.int p1), (.int p2)] ∧ Z.Warmed39 U.vm ∧ U.heap = h0) (fun _ _ _ _ _ => True) (fun _ U o U' => ∃ v L, o = .returned v ∧ Q0 Z q0 p1 p2  h0 n0 v U'.heap L ∧ FrameEnd U o U' L 0 0) := by
  refine MetFree.of_bodySF (plainFor_of_name pn_0) hisR ?_
  intro p e s m args below meth c s₁ Bd hml0 hP hK
  obtain ⟨rfl, hZ, hh⟩ := hP
  have hx := Bd.exec
  have hby := Bd.bytes
  have hml : c.maxLocals = 11 := hml0
  have hown : s.vm.findClass "com/example/cordon/cordon/trusted/TallyChargedPinLaw" = some m.cls := findClass_of_methodNamed Bd.named
  have hnm := (name_of_methodNamed Bd.named Bd.method).1
  have X0 : Stand p l e room_1 s m #[(.long q0), (.int p1), (.int p2)] below meth c s₁ [] 0 0 := Stand.of_body Bd
  have e0 : s₁.heap = h0 := by rw [← hh, Bd.state]; rfl
  have N0 := Fr.nil n0
  refine Ends.via (A := s₁.setTop (mkF m 0 #[.val (.long q0), .second, .val (.int p1), .val (.int p2), .unset, .unset, .unset, .unset, .unset, .unset, .unset] [])) (kc := 0) (ks := 0) (Q := (Q0 Z q0 p1 p2  h0 n0)) (fun t k => castTop (ef_0 m q0 p1 p2) k) ?_
  show Ends p e below s 0 0 (Q0 Z q0 p1 p2  h0 n0) (s₁.setTop (mkF m 0 #[.val (.long q0), .second, .val (.int p1), .val (.int p2), .unset, .unset, .unset, .unset, .unset, .unset, .unset] []))
  refine Ends.via (fun _ k => XS.iloadN X0.here hx rfl (hb hby at_0) rfl k) ?_
  show Ends p e below s 0 0 (Q0 Z q0 p1 p2  h0 n0) (s₁.setTop (mkF m 1 #[.val (.long q0), .second, .val (.int p1), .val (.int p2), .unset, .unset, .unset, .unset, .unset, .unset, .unset] [(.int p2)]))
  refine Ends.via (fun _ k => XS.iconst X0.here hx rfl (hb hby at_1) k) ?_
  show Ends p e below s 0 0 (Q0 Z q0 p1 p2  h0 n0) (s₁.setTop (mkF m 2 #[.val (.long q0), .second, .val (.int p1), .val (.int p2), .unset, .unset, .unset, .unset, .unset, .unset, .unset] [(.int (3 : Int32)), (.int p2)]))
  refine Ends.via (fun _ k => XS.iand X0.here hx rfl (hb hby at_2) rfl k) ?_
  show Ends p e below s 0 0 (Q0 Z q0 p1 p2  h0 n0) (s₁.setTop (mkF m 3 #[.val (.long q0), .second, .val (.int p1), .val (.int p2), .unset, .unset, .unset, .unset, .unset, .unset, .unset] [(.int (p2 &&& (3 : Int32)))]))
  refine Ends.via (fun _ k => XS.istore X0.here hx rfl (hb hby at_3) rfl (l' := #[.val (.long q0), .second, .val (.int p1), .val (.int p2), .val (.int (p2 &&& (3 : Int32))), .unset, .unset, .unset, .unset, .unset, .unset]) rfl k) ?_
  show Ends p e below s 0 0 (Q0 Z q0 p1 p2  h0 n0) (s₁.setTop (mkF m 5 #[.val (.long q0), .second, .val (.int p1), .val (.int p2), .val (.int (p2 &&& (3 : Int32))), .unset, .unset, .unset, .unset, .unset, .unset] []))
  generalize hv1 : (p2 &&& (3 : Int32)) = v1
  refine Ends.via (fun _ k => XS.iloadN X0.here hx rfl (hb hby at_5) rfl k) ?_
  show Ends p e below s 0 0 (Q0 Z q0 p1 p2  h0 n0) (s₁.setTop (mkF m 6 #[.val (.long q0), .second, .val (.int p1), .val (.int p2), .val (.int v1), .unset, .unset, .unset, .unset, .unset, .unset] [(.int p1)]))
  refine Ends.via (fun _ k => XS.i2l X0.here hx rfl (hb hby at_6) rfl k) ?_
  show Ends p e below s 0 0 (Q0 Z q0 p1 p2  h0 n0) (s₁.setTop (mkF m 7 #[.val (.long q0), .second, .val (.int p1), .val (.int p2), .val (.int v1), .unset, .unset, .unset, .unset, .unset, .unset] [(.long (p1.toInt64))]))
  refine Ends.via (X0.ldc2Long hx hown (mvT hZ (hw _ (List.mem_of_getElem? (i := 0) rfl))) (g := (mkF m 7 #[.val (.long q0), .second, .val (.int p1), .val (.int p2), .val (.int v1), .unset, .unset, .unset, .unset, .unset, .unset] [(.long (p1.toInt64))])) rfl (hb hby at_7)) ?_
  show Ends p e below s 0 0 (Q0 Z q0 p1 p2  h0 n0) (s₁.setTop (mkF m 10 #[.val (.long q0), .second, .val (.int p1), .val (.int p2), .val (.int v1), .unset, .unset, .unset, .unset, .unset, .unset] [(.long (4294967295 : Int64)), (.long (p1.toInt64))]))
  refine Ends.via (fun _ k => XS.land X0.here hx rfl (hb hby at_10) rfl k) ?_
  show Ends p e below s 0 0 (Q0 Z q0 p1 p2  h0 n0) (s₁.setTop (mkF m 11 #[.val (.long q0), .second, .val (.int p1), .val (.int p2), .val (.int v1), .unset, .unset, .unset, .unset, .unset, .unset] [(.long ((p1.toInt64) &&& (4294967295 : Int64)))]))
  refine Ends.via (fun _ k => XS.lstore X0.here hx rfl (hb hby at_11) rfl (l' := #[.val (.long q0), .second, .val (.int p1), .val (.int p2), .val (.int v1), .val (.long ((p1.toInt64) &&& (4294967295 : Int64))), .second, .unset, .unset, .unset, .unset]) rfl k) ?_
  show Ends p e below s 0 0 (Q0 Z q0 p1 p2  h0 n0) (s₁.setTop (mkF m 13 #[.val (.long q0), .second, .val (.int p1), .val (.int p2), .val (.int v1), .val (.long ((p1.toInt64) &&& (4294967295 : Int64))), .second, .unset, .unset, .unset, .unset] []))
  generalize hv2 : ((p1.toInt64) &&& (4294967295 : Int64)) = v2
  refine Ends.via (fun _ k => XS.iload X0.here hx rfl (hb hby at_13) rfl k) ?_
  show Ends p e below s 0 0 (Q0 Z q0 p1 p2  h0 n0) (s₁.setTop (mkF m 15 #[.val (.long q0), .second, .val (.int p1), .val (.int p2), .val (.int v1), .val (.long v2), .second, .unset, .unset, .unset, .unset] [(.int v1)]))
  have J7 : ∀ (Tj7 : State) (Lj7 : List Loc) (Xj7 : Stand p l e room_1 s m #[(.long q0), (.int p1), (.int p2)] below meth c Tj7 Lj7 0 0) (ej7 : Tj7.heap = h0) (Nj7 : Fr n0 Lj7) (v6 : Int64), (if v1 = (0 : Int32) then q0 else (if v1 = (1 : Int32) then ((-9223372036854775808 : Int64) + v2) else (if v1 = (2 : Int32) then ((-9223372032559808512 : Int64) + v2) else ((-9223372032559808514 : Int64) + ((p1 &&& (3 : Int32)).toInt64))))) = v6 → Ends p e below s 0 0 (Q0 Z q0 p1 p2  h0 n0) (Tj7.setTop (mkF m 68 #[.val (.long q0), .second, .val (.int p1), .val (.int p2), .val (.int v1), .val (.long v2), .second, .val (.long v6), .second, .unset, .unset] [])) := by
    intro Tj7 Lj7 Xj7 ej7 Nj7 v6 hv6
    refine Ends.via (fun _ k => XS.lload Xj7.here hx rfl (hb hby at_68) rfl k) ?_
    show Ends p e below s 0 0 (Q0 Z q0 p1 p2  h0 n0) (Tj7.setTop (mkF m 70 #[.val (.long q0), .second, .val (.int p1), .val (.int p2), .val (.int v1), .val (.long v2), .second, .val (.long v6), .second, .unset, .unset] [(.long v6)]))
    obtain ⟨_, _, ⟨T9, L9, k9, n9⟩, -, X9, ⟨Lc9, hQ9, l9, y9, z9⟩, st9⟩ := Jvm.LawKit.callS Xj7 hx (y := (⟨"com/example/cordon/cordon/trusted/Tally", "charged", "(J)J"⟩ : MethodName)) hown (mvT hZ (hw _ (List.mem_of_getElem? (i := 2) rfl))) (mvT hZ (hw _ (List.mem_of_getElem? (i := 3) rfl))) (mvT hZ (hw _ (List.mem_of_getElem? (i := 4) rfl))) (mvT hZ (hw _ (List.mem_of_getElem? (i := 5) rfl))) (by decide) (backOf (W := 0) (rm1 l Z a0 hw [] v6 h0 n0 Z0) hZ (hw _ (List.mem_of_getElem? (i := 5) rfl)) (hw _ (List.mem_of_getElem? (i := 4) rfl)) (by decide) (by decide)) (g := (mkF m 70 #[.val (.long q0), .second, .val (.int p1), .val (.int p2), .val (.int v1), .val (.long v2), .second, .val (.long v6), .second, .unset, .unset] [(.long v6)])) rfl (by rw [hml]; rfl) (argsL := [(.long v6)]) (rest := []) (lenOf own_pd0 rfl) rfl (by show 2 * 0 + _ ≤ _; exact Nat.le_of_eq rfl) (hb hby at_70) (fun _ _ => ⟨rfl, ej7, (by decide : 0 + 0 ≤ _), (by decide : 0 + 0 ≤ _)⟩)
    dsimp only [Pt.U, Pt.locs, Pt.cells, Pt.slots] at X9 l9 y9 z9 st9 hQ9
    subst l9 y9 z9
    obtain ⟨rfl, Nq9, e9⟩ := hQ9
    have N9 := Fr.app Nj7 Nq9
    refine Ends.via st9 ?_
    show Ends p e below s 0 0 (Q0 Z q0 p1 p2  h0 n0) (T9.setTop (mkF m 73 #[.val (.long q0), .second, .val (.int p1), .val (.int p2), .val (.int v1), .val (.long v2), .second, .val (.long v6), .second, .unset, .unset] [(.long (fn1 v6))]))
    refine Ends.via (fun _ k => XS.lstore X9.here hx rfl (hb hby at_73) rfl (l' := #[.val (.long q0), .second, .val (.int p1), .val (.int p2), .val (.int v1), .val (.long v2), .second, .val (.long v6), .second, .val (.long (fn1 v6)), .second]) rfl k) ?_
    show Ends p e below s 0 0 (Q0 Z q0 p1 p2  h0 n0) (T9.setTop (mkF m 75 #[.val (.long q0), .second, .val (.int p1), .val (.int p2), .val (.int v1), .val (.long v2), .second, .val (.long v6), .second, .val (.long (fn1 v6)), .second] []))
    refine Ends.via (fun _ k => XS.iload X9.here hx rfl (hb hby at_75) rfl k) ?_
    show Ends p e below s 0 0 (Q0 Z q0 p1 p2  h0 n0) (T9.setTop (mkF m 77 #[.val (.long q0), .second, .val (.int p1), .val (.int p2), .val (.int v1), .val (.long v2), .second, .val (.long v6), .second, .val (.long (fn1 v6)), .second] [(.int v1)]))
    refine Ends.via (fun _ k => XS.iconst X9.here hx rfl (hb hby at_77) k) ?_
    show Ends p e below s 0 0 (Q0 Z q0 p1 p2  h0 n0) (T9.setTop (mkF m 78 #[.val (.long q0), .second, .val (.int p1), .val (.int p2), .val (.int v1), .val (.long v2), .second, .val (.long v6), .second, .val (.long (fn1 v6)), .second] [(.int (1 : Int32)), (.int v1)]))
    by_cases hc10 : v1 = (1 : Int32)
    · refine Ends.via (fun _ k => XS.icmpNo X9.here hx rfl (hb hby at_78) rfl (teq hc10).2 k) ?_
      show Ends p e below s 0 0 (Q0 Z q0 p1 p2  h0 n0) (T9.setTop (mkF m 81 #[.val (.long q0), .second, .val (.int p1), .val (.int p2), .val (.int v1), .val (.long v2), .second, .val (.long v6), .second, .val (.long (fn1 v6)), .second] []))
      refine Ends.via (fun _ k => XS.lload X9.here hx rfl (hb hby at_81) rfl k) ?_
      show Ends p e below s 0 0 (Q0 Z q0 p1 p2  h0 n0) (T9.setTop (mkF m 83 #[.val (.long q0), .second, .val (.int p1), .val (.int p2), .val (.int v1), .val (.long v2), .second, .val (.long v6), .second, .val (.long (fn1 v6)), .second] [(.long (fn1 v6))]))
      refine Ends.via (fun _ k => XS.lload X9.here hx rfl (hb hby at_83) rfl k) ?_
      show Ends p e below s 0 0 (Q0 Z q0 p1 p2  h0 n0) (T9.setTop (mkF m 85 #[.val (.long q0), .second, .val (.int p1), .val (.int p2), .val (.int v1), .val (.long v2), .second, .val (.long v6), .second, .val (.long (fn1 v6)), .second] [(.long v2), (.long (fn1 v6))]))
      refine Ends.via (fun _ k => XS.lcmp X9.here hx rfl (hb hby at_85) rfl k) ?_
      show Ends p e below s 0 0 (Q0 Z q0 p1 p2  h0 n0) (T9.setTop (mkF m 86 #[.val (.long q0), .second, .val (.int p1), .val (.int p2), .val (.int v1), .val (.long v2), .second, .val (.long v6), .second, .val (.long (fn1 v6)), .second] [(.int (lcmpW (fn1 v6) v2))]))
      by_cases hc11 : (fn1 v6) = v2
      · refine Ends.via (fun _ k => XS.ifYes X9.here hx rfl (pc0 := 86) (pc' := 91) rfl (hb hby at_86) rfl ((if0 _ _).trans (teq ((lw_eq _ _).mpr hc11)).1) (by decide) (by decide) k) ?_
        show Ends p e below s 0 0 (Q0 Z q0 p1 p2  h0 n0) (T9.setTop (mkF m 91 #[.val (.long q0), .second, .val (.int p1), .val (.int p2), .val (.int v1), .val (.long v2), .second, .val (.long v6), .second, .val (.long (fn1 v6)), .second] []))
        refine Ends.via (fun _ k => XS.iload X9.here hx rfl (hb hby at_91) rfl k) ?_
        show Ends p e below s 0 0 (Q0 Z q0 p1 p2  h0 n0) (T9.setTop (mkF m 93 #[.val (.long q0), .second, .val (.int p1), .val (.int p2), .val (.int v1), .val (.long v2), .second, .val (.long v6), .second, .val (.long (fn1 v6)), .second] [(.int v1)]))
        refine Ends.via (fun _ k => XS.iconst X9.here hx rfl (hb hby at_93) k) ?_
        show Ends p e below s 0 0 (Q0 Z q0 p1 p2  h0 n0) (T9.setTop (mkF m 94 #[.val (.long q0), .second, .val (.int p1), .val (.int p2), .val (.int v1), .val (.long v2), .second, .val (.long v6), .second, .val (.long (fn1 v6)), .second] [(.int (2 : Int32)), (.int v1)]))
        by_cases hc12 : v1 = (2 : Int32)
        · refine Ends.via (fun _ k => XS.icmpNo X9.here hx rfl (hb hby at_94) rfl (teq hc12).2 k) ?_
          show Ends p e below s 0 0 (Q0 Z q0 p1 p2  h0 n0) (T9.setTop (mkF m 97 #[.val (.long q0), .second, .val (.int p1), .val (.int p2), .val (.int v1), .val (.long v2), .second, .val (.long v6), .second, .val (.long (fn1 v6)), .second] []))
          refine Ends.via (fun _ k => XS.lload X9.here hx rfl (hb hby at_97) rfl k) ?_
          show Ends p e below s 0 0 (Q0 Z q0 p1 p2  h0 n0) (T9.setTop (mkF m 99 #[.val (.long q0), .second, .val (.int p1), .val (.int p2), .val (.int v1), .val (.long v2), .second, .val (.long v6), .second, .val (.long (fn1 v6)), .second] [(.long (fn1 v6))]))
          refine Ends.via (fun _ k => XS.lconst X9.here hx rfl (hb hby at_99) k) ?_
          show Ends p e below s 0 0 (Q0 Z q0 p1 p2  h0 n0) (T9.setTop (mkF m 100 #[.val (.long q0), .second, .val (.int p1), .val (.int p2), .val (.int v1), .val (.long v2), .second, .val (.long v6), .second, .val (.long (fn1 v6)), .second] [(.long (0 : Int64)), (.long (fn1 v6))]))
          refine Ends.via (fun _ k => XS.lcmp X9.here hx rfl (hb hby at_100) rfl k) ?_
          show Ends p e below s 0 0 (Q0 Z q0 p1 p2  h0 n0) (T9.setTop (mkF m 101 #[.val (.long q0), .second, .val (.int p1), .val (.int p2), .val (.int v1), .val (.long v2), .second, .val (.long v6), .second, .val (.long (fn1 v6)), .second] [(.int (lcmpW (fn1 v6) (0 : Int64)))]))
          by_cases hc13 : (fn1 v6) = (0 : Int64)
          · refine Ends.via (fun _ k => XS.ifYes X9.here hx rfl (pc0 := 101) (pc' := 106) rfl (hb hby at_101) rfl ((if0 _ _).trans (teq ((lw_eq _ _).mpr hc13)).1) (by decide) (by decide) k) ?_
            show Ends p e below s 0 0 (Q0 Z q0 p1 p2  h0 n0) (T9.setTop (mkF m 106 #[.val (.long q0), .second, .val (.int p1), .val (.int p2), .val (.int v1), .val (.long v2), .second, .val (.long v6), .second, .val (.long (fn1 v6)), .second] []))
            refine Ends.via (fun _ k => XS.lload X9.here hx rfl (hb hby at_106) rfl k) ?_
            show Ends p e below s 0 0 (Q0 Z q0 p1 p2  h0 n0) (T9.setTop (mkF m 108 #[.val (.long q0), .second, .val (.int p1), .val (.int p2), .val (.int v1), .val (.long v2), .second, .val (.long v6), .second, .val (.long (fn1 v6)), .second] [(.long (fn1 v6))]))
            refine Ends.via (fun _ k => XS.lload X9.here hx rfl (hb hby at_108) rfl k) ?_
            show Ends p e below s 0 0 (Q0 Z q0 p1 p2  h0 n0) (T9.setTop (mkF m 110 #[.val (.long q0), .second, .val (.int p1), .val (.int p2), .val (.int v1), .val (.long v2), .second, .val (.long v6), .second, .val (.long (fn1 v6)), .second] [(.long v6), (.long (fn1 v6))]))
            obtain ⟨_, _, ⟨T16, L16, k16, n16⟩, -, X16, ⟨Lc16, hQ16, l16, y16, z16⟩, st16⟩ := Jvm.LawKit.callS X9 hx (y := (⟨"com/example/cordon/cordon/trusted/TallyChargedPinLaw", "expected", "(J)J"⟩ : MethodName)) hown (mvT hZ (hw _ (List.mem_of_getElem? (i := 8) rfl))) (mvT hZ (hw _ (List.mem_of_getElem? (i := 9) rfl))) (mvT hZ (hw _ (List.mem_of_getElem? (i := 10) rfl))) (mvT hZ (hw _ (List.mem_of_getElem? (i := 11) rfl))) (by decide) (backOf (W := 2) (rm2 l Z a0 hw [] v6 h0 n0 Z0) hZ (hw _ (List.mem_of_getElem? (i := 11) rfl)) (hw _ (List.mem_of_getElem? (i := 10) rfl)) (by decide) (by decide)) (g := (mkF m 110 #[.val (.long q0), .second, .val (.int p1), .val (.int p2), .val (.int v1), .val (.long v2), .second, .val (.long v6), .second, .val (.long (fn1 v6)), .second] [(.long v6), (.long (fn1 v6))])) rfl (by rw [hml]; rfl) (argsL := [(.long v6)]) (rest := [(.long (fn1 v6))]) (lenOf own_pd0 rfl) rfl (by show 2 * 0 + _ ≤ _; exact Nat.le_of_eq rfl) (hb hby at_110) (fun _ _ => ⟨rfl, e9, (by decide : 0 + 0 ≤ _), (by decide : 0 + 0 ≤ _)⟩)
            dsimp only [Pt.U, Pt.locs, Pt.cells, Pt.slots] at X16 l16 y16 z16 st16 hQ16
            subst l16 y16 z16
            obtain ⟨rfl, Nq16, e16⟩ := hQ16
            have N16 := Fr.app N9 Nq16
            refine Ends.via st16 ?_
            show Ends p e below s 0 0 (Q0 Z q0 p1 p2  h0 n0) (T16.setTop (mkF m 113 #[.val (.long q0), .second, .val (.int p1), .val (.int p2), .val (.int v1), .val (.long v2), .second, .val (.long v6), .second, .val (.long (fn1 v6)), .second] [(.long (fn2 v6)), (.long (fn1 v6))]))
            refine Ends.via (fun _ k => XS.lcmp X16.here hx rfl (hb hby at_113) rfl k) ?_
            show Ends p e below s 0 0 (Q0 Z q0 p1 p2  h0 n0) (T16.setTop (mkF m 114 #[.val (.long q0), .second, .val (.int p1), .val (.int p2), .val (.int v1), .val (.long v2), .second, .val (.long v6), .second, .val (.long (fn1 v6)), .second] [(.int (lcmpW (fn1 v6) (fn2 v6)))]))
            by_cases hc17 : (fn1 v6) = (fn2 v6)
            · refine Ends.via (fun _ k => XS.ifNo X16.here hx rfl (hb hby at_114) rfl ((if0 _ _).trans (teq ((lw_eq _ _).mpr hc17)).2) k) ?_
              show Ends p e below s 0 0 (Q0 Z q0 p1 p2  h0 n0) (T16.setTop (mkF m 117 #[.val (.long q0), .second, .val (.int p1), .val (.int p2), .val (.int v1), .val (.long v2), .second, .val (.long v6), .second, .val (.long (fn1 v6)), .second] []))
              refine Ends.via (fun _ k => XS.iconst X16.here hx rfl (hb hby at_117) k) ?_
              show Ends p e below s 0 0 (Q0 Z q0 p1 p2  h0 n0) (T16.setTop (mkF m 118 #[.val (.long q0), .second, .val (.int p1), .val (.int p2), .val (.int v1), .val (.long v2), .second, .val (.long v6), .second, .val (.long (fn1 v6)), .second] [(.int (1 : Int32))]))
              refine Ends.via (fun _ k => XS.goto X16.here hx rfl (pc0 := 118) (pc' := 122) rfl (hb hby at_118) (by decide) (by decide) k) ?_
              show Ends p e below s 0 0 (Q0 Z q0 p1 p2  h0 n0) (T16.setTop (mkF m 122 #[.val (.long q0), .second, .val (.int p1), .val (.int p2), .val (.int v1), .val (.long v2), .second, .val (.long v6), .second, .val (.long (fn1 v6)), .second] [(.int (1 : Int32))]))
              refine Ends.ret X16 (v := some (.int (nar .boolean (1 : Int32)))) (fun h => by rw [Bd.returns] at h; cases h) Bd.notSynchronized (fun fs hr => retN X16 hx (t := .boolean) Bd.returns (by simp) (hb hby at_122) hr) ?_ (by decide) (by decide)
              exact ⟨rfl, N16⟩
            · refine Ends.via (fun _ k => XS.ifYes X16.here hx rfl (pc0 := 114) (pc' := 121) rfl (hb hby at_114) rfl ((if0 _ _).trans (feq (mt (lw_eq _ _).mp hc17)).2) (by decide) (by decide) k) ?_
              show Ends p e below s 0 0 (Q0 Z q0 p1 p2  h0 n0) (T16.setTop (mkF m 121 #[.val (.long q0), .second, .val (.int p1), .val (.int p2), .val (.int v1), .val (.long v2), .second, .val (.long v6), .second, .val (.long (fn1 v6)), .second] []))
              refine Ends.via (fun _ k => XS.iconst X16.here hx rfl (hb hby at_121) k) ?_
              show Ends p e below s 0 0 (Q0 Z q0 p1 p2  h0 n0) (T16.setTop (mkF m 122 #[.val (.long q0), .second, .val (.int p1), .val (.int p2), .val (.int v1), .val (.long v2), .second, .val (.long v6), .second, .val (.long (fn1 v6)), .second] [(.int (0 : Int32))]))
              refine Ends.ret X16 (v := some (.int (nar .boolean (0 : Int32)))) (fun h => by rw [Bd.returns] at h; cases h) Bd.notSynchronized (fun fs hr => retN X16 hx (t := .boolean) Bd.returns (by simp) (hb hby at_122) hr) ?_ (by decide) (by decide)
              exact absurd (own_leaf1 q0 p1 p2 v1 v2 v6 hv1 hv2 hv6 hc10 hc11 hc12 hc13 hc17) id
          · refine Ends.via (fun _ k => XS.ifNo X9.here hx rfl (hb hby at_101) rfl ((if0 _ _).trans (feq (mt (lw_eq _ _).mp hc13)).1) k) ?_
            show Ends p e below s 0 0 (Q0 Z q0 p1 p2  h0 n0) (T9.setTop (mkF m 104 #[.val (.long q0), .second, .val (.int p1), .val (.int p2), .val (.int v1), .val (.long v2), .second, .val (.long v6), .second, .val (.long (fn1 v6)), .second] []))
            refine Ends.via (fun _ k => XS.iconst X9.here hx rfl (hb hby at_104) k) ?_
            show Ends p e below s 0 0 (Q0 Z q0 p1 p2  h0 n0) (T9.setTop (mkF m 105 #[.val (.long q0), .second, .val (.int p1), .val (.int p2), .val (.int v1), .val (.long v2), .second, .val (.long v6), .second, .val (.long (fn1 v6)), .second] [(.int (0 : Int32))]))
            refine Ends.ret X9 (v := some (.int (nar .boolean (0 : Int32)))) (fun h => by rw [Bd.returns] at h; cases h) Bd.notSynchronized (fun fs hr => retN X9 hx (t := .boolean) Bd.returns (by simp) (hb hby at_105) hr) ?_ (by decide) (by decide)
            exact absurd (own_leaf2 q0 p1 p2 v1 v2 v6 hv1 hv2 hv6 hc10 hc11 hc12 hc13) id
        · refine Ends.via (fun _ k => XS.icmpYes X9.here hx rfl (pc0 := 94) (pc' := 106) rfl (hb hby at_94) rfl (feq hc12).2 (by decide) (by decide) k) ?_
          show Ends p e below s 0 0 (Q0 Z q0 p1 p2  h0 n0) (T9.setTop (mkF m 106 #[.val (.long q0), .second, .val (.int p1), .val (.int p2), .val (.int v1), .val (.long v2), .second, .val (.long v6), .second, .val (.long (fn1 v6)), .second] []))
          refine Ends.via (fun _ k => XS.lload X9.here hx rfl (hb hby at_106) rfl k) ?_
          show Ends p e below s 0 0 (Q0 Z q0 p1 p2  h0 n0) (T9.setTop (mkF m 108 #[.val (.long q0), .second, .val (.int p1), .val (.int p2), .val (.int v1), .val (.long v2), .second, .val (.long v6), .second, .val (.long (fn1 v6)), .second] [(.long (fn1 v6))]))
          refine Ends.via (fun _ k => XS.lload X9.here hx rfl (hb hby at_108) rfl k) ?_
          show Ends p e below s 0 0 (Q0 Z q0 p1 p2  h0 n0) (T9.setTop (mkF m 110 #[.val (.long q0), .second, .val (.int p1), .val (.int p2), .val (.int v1), .val (.long v2), .second, .val (.long v6), .second, .val (.long (fn1 v6)), .second] [(.long v6), (.long (fn1 v6))]))
          obtain ⟨_, _, ⟨T18, L18, k18, n18⟩, -, X18, ⟨Lc18, hQ18, l18, y18, z18⟩, st18⟩ := Jvm.LawKit.callS X9 hx (y := (⟨"com/example/cordon/cordon/trusted/TallyChargedPinLaw", "expected", "(J)J"⟩ : MethodName)) hown (mvT hZ (hw _ (List.mem_of_getElem? (i := 8) rfl))) (mvT hZ (hw _ (List.mem_of_getElem? (i := 9) rfl))) (mvT hZ (hw _ (List.mem_of_getElem? (i := 10) rfl))) (mvT hZ (hw _ (List.mem_of_getElem? (i := 11) rfl))) (by decide) (backOf (W := 2) (rm2 l Z a0 hw [] v6 h0 n0 Z0) hZ (hw _ (List.mem_of_getElem? (i := 11) rfl)) (hw _ (List.mem_of_getElem? (i := 10) rfl)) (by decide) (by decide)) (g := (mkF m 110 #[.val (.long q0), .second, .val (.int p1), .val (.int p2), .val (.int v1), .val (.long v2), .second, .val (.long v6), .second, .val (.long (fn1 v6)), .second] [(.long v6), (.long (fn1 v6))])) rfl (by rw [hml]; rfl) (argsL := [(.long v6)]) (rest := [(.long (fn1 v6))]) (lenOf own_pd0 rfl) rfl (by show 2 * 0 + _ ≤ _; exact Nat.le_of_eq rfl) (hb hby at_110) (fun _ _ => ⟨rfl, e9, (by decide : 0 + 0 ≤ _), (by decide : 0 + 0 ≤ _)⟩)
          dsimp only [Pt.U, Pt.locs, Pt.cells, Pt.slots] at X18 l18 y18 z18 st18 hQ18
          subst l18 y18 z18
          obtain ⟨rfl, Nq18, e18⟩ := hQ18
          have N18 := Fr.app N9 Nq18
          refine Ends.via st18 ?_
          show Ends p e below s 0 0 (Q0 Z q0 p1 p2  h0 n0) (T18.setTop (mkF m 113 #[.val (.long q0), .second, .val (.int p1), .val (.int p2), .val (.int v1), .val (.long v2), .second, .val (.long v6), .second, .val (.long (fn1 v6)), .second] [(.long (fn2 v6)), (.long (fn1 v6))]))
          refine Ends.via (fun _ k => XS.lcmp X18.here hx rfl (hb hby at_113) rfl k) ?_
          show Ends p e below s 0 0 (Q0 Z q0 p1 p2  h0 n0) (T18.setTop (mkF m 114 #[.val (.long q0), .second, .val (.int p1), .val (.int p2), .val (.int v1), .val (.long v2), .second, .val (.long v6), .second, .val (.long (fn1 v6)), .second] [(.int (lcmpW (fn1 v6) (fn2 v6)))]))
          by_cases hc19 : (fn1 v6) = (fn2 v6)
          · refine Ends.via (fun _ k => XS.ifNo X18.here hx rfl (hb hby at_114) rfl ((if0 _ _).trans (teq ((lw_eq _ _).mpr hc19)).2) k) ?_
            show Ends p e below s 0 0 (Q0 Z q0 p1 p2  h0 n0) (T18.setTop (mkF m 117 #[.val (.long q0), .second, .val (.int p1), .val (.int p2), .val (.int v1), .val (.long v2), .second, .val (.long v6), .second, .val (.long (fn1 v6)), .second] []))
            refine Ends.via (fun _ k => XS.iconst X18.here hx rfl (hb hby at_117) k) ?_
            show Ends p e below s 0 0 (Q0 Z q0 p1 p2  h0 n0) (T18.setTop (mkF m 118 #[.val (.long q0), .second, .val (.int p1), .val (.int p2), .val (.int v1), .val (.long v2), .second, .val (.long v6), .second, .val (.long (fn1 v6)), .second] [(.int (1 : Int32))]))
            refine Ends.via (fun _ k => XS.goto X18.here hx rfl (pc0 := 118) (pc' := 122) rfl (hb hby at_118) (by decide) (by decide) k) ?_
            show Ends p e below s 0 0 (Q0 Z q0 p1 p2  h0 n0) (T18.setTop (mkF m 122 #[.val (.long q0), .second, .val (.int p1), .val (.int p2), .val (.int v1), .val (.long v2), .second, .val (.long v6), .second, .val (.long (fn1 v6)), .second] [(.int (1 : Int32))]))
            refine Ends.ret X18 (v := some (.int (nar .boolean (1 : Int32)))) (fun h => by rw [Bd.returns] at h; cases h) Bd.notSynchronized (fun fs hr => retN X18 hx (t := .boolean) Bd.returns (by simp) (hb hby at_122) hr) ?_ (by decide) (by decide)
            exact ⟨rfl, N18⟩
          · refine Ends.via (fun _ k => XS.ifYes X18.here hx rfl (pc0 := 114) (pc' := 121) rfl (hb hby at_114) rfl ((if0 _ _).trans (feq (mt (lw_eq _ _).mp hc19)).2) (by decide) (by decide) k) ?_
            show Ends p e below s 0 0 (Q0 Z q0 p1 p2  h0 n0) (T18.setTop (mkF m 121 #[.val (.long q0), .second, .val (.int p1), .val (.int p2), .val (.int v1), .val (.long v2), .second, .val (.long v6), .second, .val (.long (fn1 v6)), .second] []))
            refine Ends.via (fun _ k => XS.iconst X18.here hx rfl (hb hby at_121) k) ?_
            show Ends p e below s 0 0 (Q0 Z q0 p1 p2  h0 n0) (T18.setTop (mkF m 122 #[.val (.long q0), .second, .val (.int p1), .val (.int p2), .val (.int v1), .val (.long v2), .second, .val (.long v6), .second, .val (.long (fn1 v6)), .second] [(.int (0 : Int32))]))
            refine Ends.ret X18 (v := some (.int (nar .boolean (0 : Int32)))) (fun h => by rw [Bd.returns] at h; cases h) Bd.notSynchronized (fun fs hr => retN X18 hx (t := .boolean) Bd.returns (by simp) (hb hby at_122) hr) ?_ (by decide) (by decide)
            exact absurd (own_leaf3 q0 p1 p2 v1 v2 v6 hv1 hv2 hv6 hc10 hc11 hc12 hc19) id
      · refine Ends.via (fun _ k => XS.ifNo X9.here hx rfl (hb hby at_86) rfl ((if0 _ _).trans (feq (mt (lw_eq _ _).mp hc11)).1) k) ?_
        show Ends p e below s 0 0 (Q0 Z q0 p1 p2  h0 n0) (T9.setTop (mkF m 89 #[.val (.long q0), .second, .val (.int p1), .val (.int p2), .val (.int v1), .val (.long v2), .second, .val (.long v6), .second, .val (.long (fn1 v6)), .second] []))
        refine Ends.via (fun _ k => XS.iconst X9.here hx rfl (hb hby at_89) k) ?_
        show Ends p e below s 0 0 (Q0 Z q0 p1 p2  h0 n0) (T9.setTop (mkF m 90 #[.val (.long q0), .second, .val (.int p1), .val (.int p2), .val (.int v1), .val (.long v2), .second, .val (.long v6), .second, .val (.long (fn1 v6)), .second] [(.int (0 : Int32))]))
        refine Ends.ret X9 (v := some (.int (nar .boolean (0 : Int32)))) (fun h => by rw [Bd.returns] at h; cases h) Bd.notSynchronized (fun fs hr => retN X9 hx (t := .boolean) Bd.returns (by simp) (hb hby at_90) hr) ?_ (by decide) (by decide)
        exact absurd (own_leaf4 q0 p1 p2 v1 v2 v6 hv1 hv2 hv6 hc10 hc11) id
    · refine Ends.via (fun _ k => XS.icmpYes X9.here hx rfl (pc0 := 78) (pc' := 91) rfl (hb hby at_78) rfl (feq hc10).2 (by decide) (by decide) k) ?_
      show Ends p e below s 0 0 (Q0 Z q0 p1 p2  h0 n0) (T9.setTop (mkF m 91 #[.val (.long q0), .second, .val (.int p1), .val (.int p2), .val (.int v1), .val (.long v2), .second, .val (.long v6), .second, .val (.long (fn1 v6)), .second] []))
      refine Ends.via (fun _ k => XS.iload X9.here hx rfl (hb hby at_91) rfl k) ?_
      show Ends p e below s 0 0 (Q0 Z q0 p1 p2  h0 n0) (T9.setTop (mkF m 93 #[.val (.long q0), .second, .val (.int p1), .val (.int p2), .val (.int v1), .val (.long v2), .second, .val (.long v6), .second, .val (.long (fn1 v6)), .second] [(.int v1)]))
      refine Ends.via (fun _ k => XS.iconst X9.here hx rfl (hb hby at_93) k) ?_
      show Ends p e below s 0 0 (Q0 Z q0 p1 p2  h0 n0) (T9.setTop (mkF m 94 #[.val (.long q0), .second, .val (.int p1), .val (.int p2), .val (.int v1), .val (.long v2), .second, .val (.long v6), .second, .val (.long (fn1 v6)), .second] [(.int (2 : Int32)), (.int v1)]))
      by_cases hc20 : v1 = (2 : Int32)
      · refine Ends.via (fun _ k => XS.icmpNo X9.here hx rfl (hb hby at_94) rfl (teq hc20).2 k) ?_
        show Ends p e below s 0 0 (Q0 Z q0 p1 p2  h0 n0) (T9.setTop (mkF m 97 #[.val (.long q0), .second, .val (.int p1), .val (.int p2), .val (.int v1), .val (.long v2), .second, .val (.long v6), .second, .val (.long (fn1 v6)), .second] []))
        refine Ends.via (fun _ k => XS.lload X9.here hx rfl (hb hby at_97) rfl k) ?_
        show Ends p e below s 0 0 (Q0 Z q0 p1 p2  h0 n0) (T9.setTop (mkF m 99 #[.val (.long q0), .second, .val (.int p1), .val (.int p2), .val (.int v1), .val (.long v2), .second, .val (.long v6), .second, .val (.long (fn1 v6)), .second] [(.long (fn1 v6))]))
        refine Ends.via (fun _ k => XS.lconst X9.here hx rfl (hb hby at_99) k) ?_
        show Ends p e below s 0 0 (Q0 Z q0 p1 p2  h0 n0) (T9.setTop (mkF m 100 #[.val (.long q0), .second, .val (.int p1), .val (.int p2), .val (.int v1), .val (.long v2), .second, .val (.long v6), .second, .val (.long (fn1 v6)), .second] [(.long (0 : Int64)), (.long (fn1 v6))]))
        refine Ends.via (fun _ k => XS.lcmp X9.here hx rfl (hb hby at_100) rfl k) ?_
        show Ends p e below s 0 0 (Q0 Z q0 p1 p2  h0 n0) (T9.setTop (mkF m 101 #[.val (.long q0), .second, .val (.int p1), .val (.int p2), .val (.int v1), .val (.long v2), .second, .val (.long v6), .second, .val (.long (fn1 v6)), .second] [(.int (lcmpW (fn1 v6) (0 : Int64)))]))
        by_cases hc21 : (fn1 v6) = (0 : Int64)
        · refine Ends.via (fun _ k => XS.ifYes X9.here hx rfl (pc0 := 101) (pc' := 106) rfl (hb hby at_101) rfl ((if0 _ _).trans (teq ((lw_eq _ _).mpr hc21)).1) (by decide) (by decide) k) ?_
          show Ends p e below s 0 0 (Q0 Z q0 p1 p2  h0 n0) (T9.setTop (mkF m 106 #[.val (.long q0), .second, .val (.int p1), .val (.int p2), .val (.int v1), .val (.long v2), .second, .val (.long v6), .second, .val (.long (fn1 v6)), .second] []))
          refine Ends.via (fun _ k => XS.lload X9.here hx rfl (hb hby at_106) rfl k) ?_
          show Ends p e below s 0 0 (Q0 Z q0 p1 p2  h0 n0) (T9.setTop (mkF m 108 #[.val (.long q0), .second, .val (.int p1), .val (.int p2), .val (.int v1), .val (.long v2), .second, .val (.long v6), .second, .val (.long (fn1 v6)), .second] [(.long (fn1 v6))]))
          refine Ends.via (fun _ k => XS.lload X9.here hx rfl (hb hby at_108) rfl k) ?_
          show Ends p e below s 0 0 (Q0 Z q0 p1 p2  h0 n0) (T9.setTop (mkF m 110 #[.val (.long q0), .second, .val (.int p1), .val (.int p2), .val (.int v1), .val (.long v2), .second, .val (.long v6), .second, .val (.long (fn1 v6)), .second] [(.long v6), (.long (fn1 v6))]))
          obtain ⟨_, _, ⟨T22, L22, k22, n22⟩, -, X22, ⟨Lc22, hQ22, l22, y22, z22⟩, st22⟩ := Jvm.LawKit.callS X9 hx (y := (⟨"com/example/cordon/cordon/trusted/TallyChargedPinLaw", "expected", "(J)J"⟩ : MethodName)) hown (mvT hZ (hw _ (List.mem_of_getElem? (i := 8) rfl))) (mvT hZ (hw _ (List.mem_of_getElem? (i := 9) rfl))) (mvT hZ (hw _ (List.mem_of_getElem? (i := 10) rfl))) (mvT hZ (hw _ (List.mem_of_getElem? (i := 11) rfl))) (by decide) (backOf (W := 2) (rm2 l Z a0 hw [] v6 h0 n0 Z0) hZ (hw _ (List.mem_of_getElem? (i := 11) rfl)) (hw _ (List.mem_of_getElem? (i := 10) rfl)) (by decide) (by decide)) (g := (mkF m 110 #[.val (.long q0), .second, .val (.int p1), .val (.int p2), .val (.int v1), .val (.long v2), .second, .val (.long v6), .second, .val (.long (fn1 v6)), .second] [(.long v6), (.long (fn1 v6))])) rfl (by rw [hml]; rfl) (argsL := [(.long v6)]) (rest := [(.long (fn1 v6))]) (lenOf own_pd0 rfl) rfl (by show 2 * 0 + _ ≤ _; exact Nat.le_of_eq rfl) (hb hby at_110) (fun _ _ => ⟨rfl, e9, (by decide : 0 + 0 ≤ _), (by decide : 0 + 0 ≤ _)⟩)
          dsimp only [Pt.U, Pt.locs, Pt.cells, Pt.slots] at X22 l22 y22 z22 st22 hQ22
          subst l22 y22 z22
          obtain ⟨rfl, Nq22, e22⟩ := hQ22
          have N22 := Fr.app N9 Nq22
          refine Ends.via st22 ?_
          show Ends p e below s 0 0 (Q0 Z q0 p1 p2  h0 n0) (T22.setTop (mkF m 113 #[.val (.long q0), .second, .val (.int p1), .val (.int p2), .val (.int v1), .val (.long v2), .second, .val (.long v6), .second, .val (.long (fn1 v6)), .second] [(.long (fn2 v6)), (.long (fn1 v6))]))
          refine Ends.via (fun _ k => XS.lcmp X22.here hx rfl (hb hby at_113) rfl k) ?_
          show Ends p e below s 0 0 (Q0 Z q0 p1 p2  h0 n0) (T22.setTop (mkF m 114 #[.val (.long q0), .second, .val (.int p1), .val (.int p2), .val (.int v1), .val (.long v2), .second, .val (.long v6), .second, .val (.long (fn1 v6)), .second] [(.int (lcmpW (fn1 v6) (fn2 v6)))]))
          by_cases hc23 : (fn1 v6) = (fn2 v6)
          · refine Ends.via (fun _ k => XS.ifNo X22.here hx rfl (hb hby at_114) rfl ((if0 _ _).trans (teq ((lw_eq _ _).mpr hc23)).2) k) ?_
            show Ends p e below s 0 0 (Q0 Z q0 p1 p2  h0 n0) (T22.setTop (mkF m 117 #[.val (.long q0), .second, .val (.int p1), .val (.int p2), .val (.int v1), .val (.long v2), .second, .val (.long v6), .second, .val (.long (fn1 v6)), .second] []))
            refine Ends.via (fun _ k => XS.iconst X22.here hx rfl (hb hby at_117) k) ?_
            show Ends p e below s 0 0 (Q0 Z q0 p1 p2  h0 n0) (T22.setTop (mkF m 118 #[.val (.long q0), .second, .val (.int p1), .val (.int p2), .val (.int v1), .val (.long v2), .second, .val (.long v6), .second, .val (.long (fn1 v6)), .second] [(.int (1 : Int32))]))
            refine Ends.via (fun _ k => XS.goto X22.here hx rfl (pc0 := 118) (pc' := 122) rfl (hb hby at_118) (by decide) (by decide) k) ?_
            show Ends p e below s 0 0 (Q0 Z q0 p1 p2  h0 n0) (T22.setTop (mkF m 122 #[.val (.long q0), .second, .val (.int p1), .val (.int p2), .val (.int v1), .val (.long v2), .second, .val (.long v6), .second, .val (.long (fn1 v6)), .second] [(.int (1 : Int32))]))
            refine Ends.ret X22 (v := some (.int (nar .boolean (1 : Int32)))) (fun h => by rw [Bd.returns] at h; cases h) Bd.notSynchronized (fun fs hr => retN X22 hx (t := .boolean) Bd.returns (by simp) (hb hby at_122) hr) ?_ (by decide) (by decide)
            exact ⟨rfl, N22⟩
          · refine Ends.via (fun _ k => XS.ifYes X22.here hx rfl (pc0 := 114) (pc' := 121) rfl (hb hby at_114) rfl ((if0 _ _).trans (feq (mt (lw_eq _ _).mp hc23)).2) (by decide) (by decide) k) ?_
            show Ends p e below s 0 0 (Q0 Z q0 p1 p2  h0 n0) (T22.setTop (mkF m 121 #[.val (.long q0), .second, .val (.int p1), .val (.int p2), .val (.int v1), .val (.long v2), .second, .val (.long v6), .second, .val (.long (fn1 v6)), .second] []))
            refine Ends.via (fun _ k => XS.iconst X22.here hx rfl (hb hby at_121) k) ?_
            show Ends p e below s 0 0 (Q0 Z q0 p1 p2  h0 n0) (T22.setTop (mkF m 122 #[.val (.long q0), .second, .val (.int p1), .val (.int p2), .val (.int v1), .val (.long v2), .second, .val (.long v6), .second, .val (.long (fn1 v6)), .second] [(.int (0 : Int32))]))
            refine Ends.ret X22 (v := some (.int (nar .boolean (0 : Int32)))) (fun h => by rw [Bd.returns] at h; cases h) Bd.notSynchronized (fun fs hr => retN X22 hx (t := .boolean) Bd.returns (by simp) (hb hby at_122) hr) ?_ (by decide) (by decide)
            exact absurd (own_leaf5 q0 p1 p2 v1 v2 v6 hv1 hv2 hv6 hc10 hc20 hc21 hc23) id
        · refine Ends.via (fun _ k => XS.ifNo X9.here hx rfl (hb hby at_101) rfl ((if0 _ _).trans (feq (mt (lw_eq _ _).mp hc21)).1) k) ?_
          show Ends p e below s 0 0 (Q0 Z q0 p1 p2  h0 n0) (T9.setTop (mkF m 104 #[.val (.long q0), .second, .val (.int p1), .val (.int p2), .val (.int v1), .val (.long v2), .second, .val (.long v6), .second, .val (.long (fn1 v6)), .second] []))
          refine Ends.via (fun _ k => XS.iconst X9.here hx rfl (hb hby at_104) k) ?_
          show Ends p e below s 0 0 (Q0 Z q0 p1 p2  h0 n0) (T9.setTop (mkF m 105 #[.val (.long q0), .second, .val (.int p1), .val (.int p2), .val (.int v1), .val (.long v2), .second, .val (.long v6), .second, .val (.long (fn1 v6)), .second] [(.int (0 : Int32))]))
          refine Ends.ret X9 (v := some (.int (nar .boolean (0 : Int32)))) (fun h => by rw [Bd.returns] at h; cases h) Bd.notSynchronized (fun fs hr => retN X9 hx (t := .boolean) Bd.returns (by simp) (hb hby at_105) hr) ?_ (by decide) (by decide)
          exact absurd (own_leaf6 q0 p1 p2 v1 v2 v6 hv1 hv2 hv6 hc10 hc20 hc21) id
      · refine Ends.via (fun _ k => XS.icmpYes X9.here hx rfl (pc0 := 94) (pc' := 106) rfl (hb hby at_94) rfl (feq hc20).2 (by decide) (by decide) k) ?_
        show Ends p e below s 0 0 (Q0 Z q0 p1 p2  h0 n0) (T9.setTop (mkF m 106 #[.val (.long q0), .second, .val (.int p1), .val (.int p2), .val (.int v1), .val (.long v2), .second, .val (.long v6), .second, .val (.long (fn1 v6)), .second] []))
        refine Ends.via (fun _ k => XS.lload X9.here hx rfl (hb hby at_106) rfl k) ?_
        show Ends p e below s 0 0 (Q0 Z q0 p1 p2  h0 n0) (T9.setTop (mkF m 108 #[.val (.long q0), .second, .val (.int p1), .val (.int p2), .val (.int v1), .val (.long v2), .second, .val (.long v6), .second, .val (.long (fn1 v6)), .second] [(.long (fn1 v6))]))
        refine Ends.via (fun _ k => XS.lload X9.here hx rfl (hb hby at_108) rfl k) ?_
        show Ends p e below s 0 0 (Q0 Z q0 p1 p2  h0 n0) (T9.setTop (mkF m 110 #[.val (.long q0), .second, .val (.int p1), .val (.int p2), .val (.int v1), .val (.long v2), .second, .val (.long v6), .second, .val (.long (fn1 v6)), .second] [(.long v6), (.long (fn1 v6))]))
        obtain ⟨_, _, ⟨T24, L24, k24, n24⟩, -, X24, ⟨Lc24, hQ24, l24, y24, z24⟩, st24⟩ := Jvm.LawKit.callS X9 hx (y := (⟨"com/example/cordon/cordon/trusted/TallyChargedPinLaw", "expected", "(J)J"⟩ : MethodName)) hown (mvT hZ (hw _ (List.mem_of_getElem? (i := 8) rfl))) (mvT hZ (hw _ (List.mem_of_getElem? (i := 9) rfl))) (mvT hZ (hw _ (List.mem_of_getElem? (i := 10) rfl))) (mvT hZ (hw _ (List.mem_of_getElem? (i := 11) rfl))) (by decide) (backOf (W := 2) (rm2 l Z a0 hw [] v6 h0 n0 Z0) hZ (hw _ (List.mem_of_getElem? (i := 11) rfl)) (hw _ (List.mem_of_getElem? (i := 10) rfl)) (by decide) (by decide)) (g := (mkF m 110 #[.val (.long q0), .second, .val (.int p1), .val (.int p2), .val (.int v1), .val (.long v2), .second, .val (.long v6), .second, .val (.long (fn1 v6)), .second] [(.long v6), (.long (fn1 v6))])) rfl (by rw [hml]; rfl) (argsL := [(.long v6)]) (rest := [(.long (fn1 v6))]) (lenOf own_pd0 rfl) rfl (by show 2 * 0 + _ ≤ _; exact Nat.le_of_eq rfl) (hb hby at_110) (fun _ _ => ⟨rfl, e9, (by decide : 0 + 0 ≤ _), (by decide : 0 + 0 ≤ _)⟩)
        dsimp only [Pt.U, Pt.locs, Pt.cells, Pt.slots] at X24 l24 y24 z24 st24 hQ24
        subst l24 y24 z24
        obtain ⟨rfl, Nq24, e24⟩ := hQ24
        have N24 := Fr.app N9 Nq24
        refine Ends.via st24 ?_
        show Ends p e below s 0 0 (Q0 Z q0 p1 p2  h0 n0) (T24.setTop (mkF m 113 #[.val (.long q0), .second, .val (.int p1), .val (.int p2), .val (.int v1), .val (.long v2), .second, .val (.long v6), .second, .val (.long (fn1 v6)), .second] [(.long (fn2 v6)), (.long (fn1 v6))]))
        refine Ends.via (fun _ k => XS.lcmp X24.here hx rfl (hb hby at_113) rfl k) ?_
        show Ends p e below s 0 0 (Q0 Z q0 p1 p2  h0 n0) (T24.setTop (mkF m 114 #[.val (.long q0), .second, .val (.int p1), .val (.int p2), .val (.int v1), .val (.long v2), .second, .val (.long v6), .second, .val (.long (fn1 v6)), .second] [(.int (lcmpW (fn1 v6) (fn2 v6)))]))
        by_cases hc25 : (fn1 v6) = (fn2 v6)
        · refine Ends.via (fun _ k => XS.ifNo X24.here hx rfl (hb hby at_114) rfl ((if0 _ _).trans (teq ((lw_eq _ _).mpr hc25)).2) k) ?_
          show Ends p e below s 0 0 (Q0 Z q0 p1 p2  h0 n0) (T24.setTop (mkF m 117 #[.val (.long q0), .second, .val (.int p1), .val (.int p2), .val (.int v1), .val (.long v2), .second, .val (.long v6), .second, .val (.long (fn1 v6)), .second] []))
          refine Ends.via (fun _ k => XS.iconst X24.here hx rfl (hb hby at_117) k) ?_
          show Ends p e below s 0 0 (Q0 Z q0 p1 p2  h0 n0) (T24.setTop (mkF m 118 #[.val (.long q0), .second, .val (.int p1), .val (.int p2), .val (.int v1), .val (.long v2), .second, .val (.long v6), .second, .val (.long (fn1 v6)), .second] [(.int (1 : Int32))]))
          refine Ends.via (fun _ k => XS.goto X24.here hx rfl (pc0 := 118) (pc' := 122) rfl (hb hby at_118) (by decide) (by decide) k) ?_
          show Ends p e below s 0 0 (Q0 Z q0 p1 p2  h0 n0) (T24.setTop (mkF m 122 #[.val (.long q0), .second, .val (.int p1), .val (.int p2), .val (.int v1), .val (.long v2), .second, .val (.long v6), .second, .val (.long (fn1 v6)), .second] [(.int (1 : Int32))]))
          refine Ends.ret X24 (v := some (.int (nar .boolean (1 : Int32)))) (fun h => by rw [Bd.returns] at h; cases h) Bd.notSynchronized (fun fs hr => retN X24 hx (t := .boolean) Bd.returns (by simp) (hb hby at_122) hr) ?_ (by decide) (by decide)
          exact ⟨rfl, N24⟩
        · refine Ends.via (fun _ k => XS.ifYes X24.here hx rfl (pc0 := 114) (pc' := 121) rfl (hb hby at_114) rfl ((if0 _ _).trans (feq (mt (lw_eq _ _).mp hc25)).2) (by decide) (by decide) k) ?_
          show Ends p e below s 0 0 (Q0 Z q0 p1 p2  h0 n0) (T24.setTop (mkF m 121 #[.val (.long q0), .second, .val (.int p1), .val (.int p2), .val (.int v1), .val (.long v2), .second, .val (.long v6), .second, .val (.long (fn1 v6)), .second] []))
          refine Ends.via (fun _ k => XS.iconst X24.here hx rfl (hb hby at_121) k) ?_
          show Ends p e below s 0 0 (Q0 Z q0 p1 p2  h0 n0) (T24.setTop (mkF m 122 #[.val (.long q0), .second, .val (.int p1), .val (.int p2), .val (.int v1), .val (.long v2), .second, .val (.long v6), .second, .val (.long (fn1 v6)), .second] [(.int (0 : Int32))]))
          refine Ends.ret X24 (v := some (.int (nar .boolean (0 : Int32)))) (fun h => by rw [Bd.returns] at h; cases h) Bd.notSynchronized (fun fs hr => retN X24 hx (t := .boolean) Bd.returns (by simp) (hb hby at_122) hr) ?_ (by decide) (by decide)
          exact absurd (own_leaf7 q0 p1 p2 v1 v2 v6 hv1 hv2 hv6 hc10 hc20 hc25) id
  by_cases hc26 : v1 = (0 : Int32)
  · refine Ends.via (fun _ k => XS.ifNo X0.here hx rfl (hb hby at_15) rfl ((if0 _ _).trans (teq hc26).2) k) ?_
    show Ends p e below s 0 0 (Q0 Z q0 p1 p2  h0 n0) (s₁.setTop (mkF m 18 #[.val (.long q0), .second, .val (.int p1), .val (.int p2), .val (.int v1), .val (.long v2), .second, .unset, .unset, .unset, .unset] []))
    refine Ends.via (fun _ k => XS.lloadN X0.here hx rfl (hb hby at_18) rfl k) ?_
    show Ends p e below s 0 0 (Q0 Z q0 p1 p2  h0 n0) (s₁.setTop (mkF m 19 #[.val (.long q0), .second, .val (.int p1), .val (.int p2), .val (.int v1), .val (.long v2), .second, .unset, .unset, .unset, .unset] [(.long q0)]))
    refine Ends.via (fun _ k => XS.lstore X0.here hx rfl (hb hby at_19) rfl (l' := #[.val (.long q0), .second, .val (.int p1), .val (.int p2), .val (.int v1), .val (.long v2), .second, .val (.long q0), .second, .unset, .unset]) rfl k) ?_
    show Ends p e below s 0 0 (Q0 Z q0 p1 p2  h0 n0) (s₁.setTop (mkF m 21 #[.val (.long q0), .second, .val (.int p1), .val (.int p2), .val (.int v1), .val (.long v2), .second, .val (.long q0), .second, .unset, .unset] []))
    refine Ends.via (fun _ k => XS.goto X0.here hx rfl (pc0 := 21) (pc' := 68) rfl (hb hby at_21) (by decide) (by decide) k) ?_
    show Ends p e below s 0 0 (Q0 Z q0 p1 p2  h0 n0) (s₁.setTop (mkF m 68 #[.val (.long q0), .second, .val (.int p1), .val (.int p2), .val (.int v1), .val (.long v2), .second, .val (.long q0), .second, .unset, .unset] []))
    exact J7 s₁ _ X0 e0 N0 q0 (by first | rfl | simp only [if_pos hc26])
  · refine Ends.via (fun _ k => XS.ifYes X0.here hx rfl (pc0 := 15) (pc' := 24) rfl (hb hby at_15) rfl ((if0 _ _).trans (feq hc26).2) (by decide) (by decide) k) ?_
    show Ends p e below s 0 0 (Q0 Z q0 p1 p2  h0 n0) (s₁.setTop (mkF m 24 #[.val (.long q0), .second, .val (.int p1), .val (.int p2), .val (.int v1), .val (.long v2), .second, .unset, .unset, .unset, .unset] []))
    refine Ends.via (fun _ k => XS.iload X0.here hx rfl (hb hby at_24) rfl k) ?_
    show Ends p e below s 0 0 (Q0 Z q0 p1 p2  h0 n0) (s₁.setTop (mkF m 26 #[.val (.long q0), .second, .val (.int p1), .val (.int p2), .val (.int v1), .val (.long v2), .second, .unset, .unset, .unset, .unset] [(.int v1)]))
    refine Ends.via (fun _ k => XS.iconst X0.here hx rfl (hb hby at_26) k) ?_
    show Ends p e below s 0 0 (Q0 Z q0 p1 p2  h0 n0) (s₁.setTop (mkF m 27 #[.val (.long q0), .second, .val (.int p1), .val (.int p2), .val (.int v1), .val (.long v2), .second, .unset, .unset, .unset, .unset] [(.int (1 : Int32)), (.int v1)]))
    by_cases hc27 : v1 = (1 : Int32)
    · refine Ends.via (fun _ k => XS.icmpNo X0.here hx rfl (hb hby at_27) rfl (teq hc27).2 k) ?_
      show Ends p e below s 0 0 (Q0 Z q0 p1 p2  h0 n0) (s₁.setTop (mkF m 30 #[.val (.long q0), .second, .val (.int p1), .val (.int p2), .val (.int v1), .val (.long v2), .second, .unset, .unset, .unset, .unset] []))
      refine Ends.via (X0.ldc2Long hx hown (mvT hZ (hw _ (List.mem_of_getElem? (i := 1) rfl))) (g := (mkF m 30 #[.val (.long q0), .second, .val (.int p1), .val (.int p2), .val (.int v1), .val (.long v2), .second, .unset, .unset, .unset, .unset] [])) rfl (hb hby at_30)) ?_
      show Ends p e below s 0 0 (Q0 Z q0 p1 p2  h0 n0) (s₁.setTop (mkF m 33 #[.val (.long q0), .second, .val (.int p1), .val (.int p2), .val (.int v1), .val (.long v2), .second, .unset, .unset, .unset, .unset] [(.long (-9223372036854775808 : Int64))]))
      refine Ends.via (fun _ k => XS.lload X0.here hx rfl (hb hby at_33) rfl k) ?_
      show Ends p e below s 0 0 (Q0 Z q0 p1 p2  h0 n0) (s₁.setTop (mkF m 35 #[.val (.long q0), .second, .val (.int p1), .val (.int p2), .val (.int v1), .val (.long v2), .second, .unset, .unset, .unset, .unset] [(.long v2), (.long (-9223372036854775808 : Int64))]))
      refine Ends.via (fun _ k => XS.ladd X0.here hx rfl (hb hby at_35) rfl k) ?_
      show Ends p e below s 0 0 (Q0 Z q0 p1 p2  h0 n0) (s₁.setTop (mkF m 36 #[.val (.long q0), .second, .val (.int p1), .val (.int p2), .val (.int v1), .val (.long v2), .second, .unset, .unset, .unset, .unset] [(.long ((-9223372036854775808 : Int64) + v2))]))
      refine Ends.via (fun _ k => XS.lstore X0.here hx rfl (hb hby at_36) rfl (l' := #[.val (.long q0), .second, .val (.int p1), .val (.int p2), .val (.int v1), .val (.long v2), .second, .val (.long ((-9223372036854775808 : Int64) + v2)), .second, .unset, .unset]) rfl k) ?_
      show Ends p e below s 0 0 (Q0 Z q0 p1 p2  h0 n0) (s₁.setTop (mkF m 38 #[.val (.long q0), .second, .val (.int p1), .val (.int p2), .val (.int v1), .val (.long v2), .second, .val (.long ((-9223372036854775808 : Int64) + v2)), .second, .unset, .unset] []))
      refine Ends.via (fun _ k => XS.goto X0.here hx rfl (pc0 := 38) (pc' := 68) rfl (hb hby at_38) (by decide) (by decide) k) ?_
      show Ends p e below s 0 0 (Q0 Z q0 p1 p2  h0 n0) (s₁.setTop (mkF m 68 #[.val (.long q0), .second, .val (.int p1), .val (.int p2), .val (.int v1), .val (.long v2), .second, .val (.long ((-9223372036854775808 : Int64) + v2)), .second, .unset, .unset] []))
      exact J7 s₁ _ X0 e0 N0 ((-9223372036854775808 : Int64) + v2) (by first | rfl | simp only [if_neg hc26, if_pos hc27])
    · refine Ends.via (fun _ k => XS.icmpYes X0.here hx rfl (pc0 := 27) (pc' := 41) rfl (hb hby at_27) rfl (feq hc27).2 (by decide) (by decide) k) ?_
      show Ends p e below s 0 0 (Q0 Z q0 p1 p2  h0 n0) (s₁.setTop (mkF m 41 #[.val (.long q0), .second, .val (.int p1), .val (.int p2), .val (.int v1), .val (.long v2), .second, .unset, .unset, .unset, .unset] []))
      refine Ends.via (fun _ k => XS.iload X0.here hx rfl (hb hby at_41) rfl k) ?_
      show Ends p e below s 0 0 (Q0 Z q0 p1 p2  h0 n0) (s₁.setTop (mkF m 43 #[.val (.long q0), .second, .val (.int p1), .val (.int p2), .val (.int v1), .val (.long v2), .second, .unset, .unset, .unset, .unset] [(.int v1)]))
      refine Ends.via (fun _ k => XS.iconst X0.here hx rfl (hb hby at_43) k) ?_
      show Ends p e below s 0 0 (Q0 Z q0 p1 p2  h0 n0) (s₁.setTop (mkF m 44 #[.val (.long q0), .second, .val (.int p1), .val (.int p2), .val (.int v1), .val (.long v2), .second, .unset, .unset, .unset, .unset] [(.int (2 : Int32)), (.int v1)]))
      by_cases hc28 : v1 = (2 : Int32)
      · refine Ends.via (fun _ k => XS.icmpNo X0.here hx rfl (hb hby at_44) rfl (teq hc28).2 k) ?_
        show Ends p e below s 0 0 (Q0 Z q0 p1 p2  h0 n0) (s₁.setTop (mkF m 47 #[.val (.long q0), .second, .val (.int p1), .val (.int p2), .val (.int v1), .val (.long v2), .second, .unset, .unset, .unset, .unset] []))
        refine Ends.via (X0.ldc2Long hx hown (mvT hZ (hw _ (List.mem_of_getElem? (i := 14) rfl))) (g := (mkF m 47 #[.val (.long q0), .second, .val (.int p1), .val (.int p2), .val (.int v1), .val (.long v2), .second, .unset, .unset, .unset, .unset] [])) rfl (hb hby at_47)) ?_
        show Ends p e below s 0 0 (Q0 Z q0 p1 p2  h0 n0) (s₁.setTop (mkF m 50 #[.val (.long q0), .second, .val (.int p1), .val (.int p2), .val (.int v1), .val (.long v2), .second, .unset, .unset, .unset, .unset] [(.long (-9223372032559808512 : Int64))]))
        refine Ends.via (fun _ k => XS.lload X0.here hx rfl (hb hby at_50) rfl k) ?_
        show Ends p e below s 0 0 (Q0 Z q0 p1 p2  h0 n0) (s₁.setTop (mkF m 52 #[.val (.long q0), .second, .val (.int p1), .val (.int p2), .val (.int v1), .val (.long v2), .second, .unset, .unset, .unset, .unset] [(.long v2), (.long (-9223372032559808512 : Int64))]))
        refine Ends.via (fun _ k => XS.ladd X0.here hx rfl (hb hby at_52) rfl k) ?_
        show Ends p e below s 0 0 (Q0 Z q0 p1 p2  h0 n0) (s₁.setTop (mkF m 53 #[.val (.long q0), .second, .val (.int p1), .val (.int p2), .val (.int v1), .val (.long v2), .second, .unset, .unset, .unset, .unset] [(.long ((-9223372032559808512 : Int64) + v2))]))
        refine Ends.via (fun _ k => XS.lstore X0.here hx rfl (hb hby at_53) rfl (l' := #[.val (.long q0), .second, .val (.int p1), .val (.int p2), .val (.int v1), .val (.long v2), .second, .val (.long ((-9223372032559808512 : Int64) + v2)), .second, .unset, .unset]) rfl k) ?_
        show Ends p e below s 0 0 (Q0 Z q0 p1 p2  h0 n0) (s₁.setTop (mkF m 55 #[.val (.long q0), .second, .val (.int p1), .val (.int p2), .val (.int v1), .val (.long v2), .second, .val (.long ((-9223372032559808512 : Int64) + v2)), .second, .unset, .unset] []))
        refine Ends.via (fun _ k => XS.goto X0.here hx rfl (pc0 := 55) (pc' := 68) rfl (hb hby at_55) (by decide) (by decide) k) ?_
        show Ends p e below s 0 0 (Q0 Z q0 p1 p2  h0 n0) (s₁.setTop (mkF m 68 #[.val (.long q0), .second, .val (.int p1), .val (.int p2), .val (.int v1), .val (.long v2), .second, .val (.long ((-9223372032559808512 : Int64) + v2)), .second, .unset, .unset] []))
        exact J7 s₁ _ X0 e0 N0 ((-9223372032559808512 : Int64) + v2) (by first | rfl | simp only [if_neg hc26, if_neg hc27, if_pos hc28])
      · refine Ends.via (fun _ k => XS.icmpYes X0.here hx rfl (pc0 := 44) (pc' := 58) rfl (hb hby at_44) rfl (feq hc28).2 (by decide) (by decide) k) ?_
        show Ends p e below s 0 0 (Q0 Z q0 p1 p2  h0 n0) (s₁.setTop (mkF m 58 #[.val (.long q0), .second, .val (.int p1), .val (.int p2), .val (.int v1), .val (.long v2), .second, .unset, .unset, .unset, .unset] []))
        refine Ends.via (X0.ldc2Long hx hown (mvT hZ (hw _ (List.mem_of_getElem? (i := 13) rfl))) (g := (mkF m 58 #[.val (.long q0), .second, .val (.int p1), .val (.int p2), .val (.int v1), .val (.long v2), .second, .unset, .unset, .unset, .unset] [])) rfl (hb hby at_58)) ?_
        show Ends p e below s 0 0 (Q0 Z q0 p1 p2  h0 n0) (s₁.setTop (mkF m 61 #[.val (.long q0), .second, .val (.int p1), .val (.int p2), .val (.int v1), .val (.long v2), .second, .unset, .unset, .unset, .unset] [(.long (-9223372032559808514 : Int64))]))
        refine Ends.via (fun _ k => XS.iloadN X0.here hx rfl (hb hby at_61) rfl k) ?_
        show Ends p e below s 0 0 (Q0 Z q0 p1 p2  h0 n0) (s₁.setTop (mkF m 62 #[.val (.long q0), .second, .val (.int p1), .val (.int p2), .val (.int v1), .val (.long v2), .second, .unset, .unset, .unset, .unset] [(.int p1), (.long (-9223372032559808514 : Int64))]))
        refine Ends.via (fun _ k => XS.iconst X0.here hx rfl (hb hby at_62) k) ?_
        show Ends p e below s 0 0 (Q0 Z q0 p1 p2  h0 n0) (s₁.setTop (mkF m 63 #[.val (.long q0), .second, .val (.int p1), .val (.int p2), .val (.int v1), .val (.long v2), .second, .unset, .unset, .unset, .unset] [(.int (3 : Int32)), (.int p1), (.long (-9223372032559808514 : Int64))]))
        refine Ends.via (fun _ k => XS.iand X0.here hx rfl (hb hby at_63) rfl k) ?_
        show Ends p e below s 0 0 (Q0 Z q0 p1 p2  h0 n0) (s₁.setTop (mkF m 64 #[.val (.long q0), .second, .val (.int p1), .val (.int p2), .val (.int v1), .val (.long v2), .second, .unset, .unset, .unset, .unset] [(.int (p1 &&& (3 : Int32))), (.long (-9223372032559808514 : Int64))]))
        refine Ends.via (fun _ k => XS.i2l X0.here hx rfl (hb hby at_64) rfl k) ?_
        show Ends p e below s 0 0 (Q0 Z q0 p1 p2  h0 n0) (s₁.setTop (mkF m 65 #[.val (.long q0), .second, .val (.int p1), .val (.int p2), .val (.int v1), .val (.long v2), .second, .unset, .unset, .unset, .unset] [(.long ((p1 &&& (3 : Int32)).toInt64)), (.long (-9223372032559808514 : Int64))]))
        refine Ends.via (fun _ k => XS.ladd X0.here hx rfl (hb hby at_65) rfl k) ?_
        show Ends p e below s 0 0 (Q0 Z q0 p1 p2  h0 n0) (s₁.setTop (mkF m 66 #[.val (.long q0), .second, .val (.int p1), .val (.int p2), .val (.int v1), .val (.long v2), .second, .unset, .unset, .unset, .unset] [(.long ((-9223372032559808514 : Int64) + ((p1 &&& (3 : Int32)).toInt64)))]))
        refine Ends.via (fun _ k => XS.lstore X0.here hx rfl (hb hby at_66) rfl (l' := #[.val (.long q0), .second, .val (.int p1), .val (.int p2), .val (.int v1), .val (.long v2), .second, .val (.long ((-9223372032559808514 : Int64) + ((p1 &&& (3 : Int32)).toInt64))), .second, .unset, .unset]) rfl k) ?_
        show Ends p e below s 0 0 (Q0 Z q0 p1 p2  h0 n0) (s₁.setTop (mkF m 68 #[.val (.long q0), .second, .val (.int p1), .val (.int p2), .val (.int v1), .val (.long v2), .second, .val (.long ((-9223372032559808514 : Int64) + ((p1 &&& (3 : Int32)).toInt64))), .second, .unset, .unset] []))
        exact J7 s₁ _ X0 e0 N0 ((-9223372032559808514 : Int64) + ((p1 &&& (3 : Int32)).toInt64)) (by first | rfl | simp only [if_neg hc26, if_neg hc27, if_neg hc28])
set_option maxRecDepth 65536 in
set_option maxHeartbeats 40000000 in
theorem comes_1 {Post : Tables → Env → Array Value → State → Outcome → State → Prop} (hpost : ∀ tb e args s v u, (limb_1_1.after args s (.returned v) u = true ∧ limb_1_2.after args s (.returned v) u = true ∧ True) → FrameEnd s (.returned v) u (Jvm.fieldLocs frame_1_writes args s ++ Jvm.arrayLocs frame_1_arrays args s ++ Jvm.staticLocs frame_1_statics s) 0 0 → Post tb e args s (.returned v) u) :
    ArmFor flags0 classFile x code maxLocals ret World_1 tables_1 room_1 Calls_1 rest_1 Pre_1 Post := by
  intro l hfl _ _ p e ha hc hk s m args below hf hA hF happ hP
  obtain ⟨hcalls, hrest, hpre⟩ := hP
  obtain ⟨-, -, -, hnamed, -, -, -, hat⟩ := (Spec.applies_iff hf).mp happ
  obtain ⟨hg, hn⟩ := and_e (Cond.before_iff.mp (show (Jvm.Cond.and given_1 narrow_1).before args s = true from hpre))
  obtain ⟨hcnt, g0⟩ := and_e hg
  obtain ⟨t0, g1⟩ := and_e g0
  obtain ⟨t1, g2⟩ := and_e g1
  obtain ⟨w0, w1, w2, rfl⟩ : ∃ w0 w1 w2 : Value, args = #[w0, w1, w2] := by
    have hs : args.size = 3 := by simpa [Cond.value, given_1] using hcnt
    obtain ⟨L⟩ := args
    match L, hs with
    | [w0, w1, w2], _ => exact ⟨w0, w1, w2, rfl⟩
  have hw := fun d (hd : d ∈ tables_1) => atoms_spec (ws := Jvm.Cond.code x code maxLocals ret :: tables_1) hat d (List.mem_cons_of_mem _ hd)
  obtain ⟨i0, ei0⟩ := isL_v t0
  obtain rfl : w0 = (.long i0) := Option.some.inj ei0
  obtain ⟨i1, ei1⟩ := is_v t1
  obtain rfl : w1 = (.int i1) := Option.some.inj ei1
  obtain ⟨i2, ei2⟩ := is_v g2
  obtain rfl : w2 = (.int i2) := Option.some.inj ei2
  obtain ⟨n, o, h1, h2, h3, _, L, rfl, ⟨rfl, N⟩, hq⟩ := rm0 l s _ hw tables_1 i0 i1 i2 s.heap s.heap.size (Nat.le_refl _) p e ha hc hk s m _ below hf ((Spec.applies_iff_loose hf).mp happ).1 ⟨rfl, State.Warmed39.refl s, rfl⟩ trivial
  refine ⟨n, _, h1, h2, h3, hpost _ _ _ _ _ _ ⟨Cond.after_iff.mpr rfl, Cond.after_iff.mpr (eq_i res_at (Term.int_eval (1)) rfl), trivial⟩ ⟨hq.1, hq.2.1, (hq.2.2.sift fun y hy => Or.inr (N y hy)).mono (by decide) (by decide)⟩⟩
theorem main_1_1 : Claimed_1_1 := comes_1 fun _ _ _ _ _ _ h hF => ⟨h.1, hF⟩
theorem main_1_2 : Claimed_1_2 := comes_1 fun _ _ _ _ _ _ h hF => ⟨h.2.1, hF⟩
end Jvm.Pilot.@@N@@
namespace Jvm.Pilot.@@N@@
open Jvm Jvm.ClassFile Sem Op Lib Jvm.Free Jvm.Stand Jvm.Pilot.@@N@@.Jvm.D
/-! MADE BY PROGRAM (witnessworld.py) out of the Statement's table words and the real class files: 9 classes; the members and pool entries that the words name. The judged class is class 1, her method 2. -/
namespace start1
open Jvm.ClassFile
def u (s : String) : CpInfo := .utf8 (stringToUtf16 s)
/-- a pool by its gaps: so many unusable entries, then the entry; so many at the end -/
def gap : Nat → List CpInfo → List CpInfo
  | 0, r => r
  | n + 1, r => .unusable :: gap n r
def poolList (es : List (Nat × CpInfo)) (last : Nat) : List CpInfo := es.foldr (fun e r => gap e.1 (e.2 :: r)) (gap last [])
def pool (es : List (Nat × CpInfo)) (last : Nat) : Array CpInfo := ⟨poolList es last⟩
def fileOf (pool : Array CpInfo) (this : Nat) (attrs : Array Attribute := #[]) (ms : Array MethodInfo := #[]) (fl : Nat := 33) (sup : Nat := 0) (ifs : Array Nat := #[]) (fds : Array FieldInfo := #[]) : ClassFile where
  minorVersion := 0
  majorVersion := 65
  constantPool := pool
  accessFlags := fl
  thisClass := this
  superClass := sup
  interfaces := ifs
  fields := fds
  methods := ms
  attributes := attrs
def plain (name : String) (sup : Option ClassId) : Class where
  name := name
  kind := .ordinary
  loader := none
  accessFlags := 33
  super := sup
  interfaces := #[]
  cf := none
  fields := #[]
  methods := #[]
  instanceTypes := #[]
  staticTypes := #[]
  resolved := #[]
  callSites := []
  init := .initialized
  statics := none
  mirror := none

def pool0 : Array CpInfo := pool [(5, u "<init>"), (0, u "()V"), (1, .class_ 10), (1, u "java/lang/Object")] 113

def k0m0 : Method := { name := "<init>", desc := "()V", sig := { parameters := [], returnType := none }, accessFlags := 1, code := none }
/-- java/lang/Object -/
def k0 : Class := { plain "java/lang/Object" none with
  accessFlags := 33
  interfaces := #[]
  cf := some (fileOf pool0 8 #[] #[{ accessFlags := 1, nameIndex := 5, descriptorIndex := 6, attributes := #[] }] 33 0 #[] #[])
  fields := #[]
  methods := #[k0m0]
  instanceTypes := #[]
  staticTypes := #[]
  resolved := Array.replicate 124 none
  statics := none }

def pool1 : Array CpInfo := pool [(2, .class_ 4), (1, u "java/lang/Object"), (0, u "<init>"), (0, u "()V"), (0, .long 2147483648), (1, .long 4294967295), (3, .long 9223372036854775808), (1, .long 9223372041149743104), (1, .long 9223372041149743102), (1, .methodref 20 21), (0, .class_ 22), (0, .nameAndType 23 24), (0, u "com/example/cordon/cordon/trusted/Tally"), (0, u "charged"), (0, u "(J)J"), (0, .methodref 26 27), (0, .class_ 28), (0, .nameAndType 29 24), (0, u "com/example/cordon/cordon/trusted/TallyChargedPinLaw"), (0, u "expected"), (3, u "law"), (0, u "(JII)Z")] 2

def k1m0 : Method := { name := "<init>", desc := "()V", sig := { parameters := [], returnType := none }, accessFlags := 2, code := none }
def k1c1 : Code := { maxStack := 4, maxLocals := 4, code := method_2_code, exceptionTable := #[], attributes := #[] }
def k1m1 : Method := { name := "expected", desc := "(J)J", sig := { parameters := [.long], returnType := some .long }, accessFlags := 10, code := some k1c1 }
def k1c2 : Code := { maxStack := 4, maxLocals := 11, code := code, exceptionTable := #[], attributes := #[] }
def k1m2 : Method := { name := "law", desc := "(JII)Z", sig := { parameters := [.long, .int, .int], returnType := some .boolean }, accessFlags := 9, code := some k1c2 }
/-- com/example/cordon/cordon/trusted/TallyChargedPinLaw -/
def k1 : Class := { plain "com/example/cordon/cordon/trusted/TallyChargedPinLaw" (some 0) with
  accessFlags := 49
  interfaces := #[]
  cf := some (fileOf pool1 26 #[] #[{ accessFlags := 2, nameIndex := 5, descriptorIndex := 6, attributes := #[] }, { accessFlags := 10, nameIndex := 29, descriptorIndex := 24, attributes := #[] }, { accessFlags := 9, nameIndex := 33, descriptorIndex := 34, attributes := #[] }] 49 2 #[] #[])
  fields := #[]
  methods := #[k1m0, k1m1, k1m2]
  instanceTypes := #[]
  staticTypes := #[]
  resolved := Array.replicate 37 none
  statics := none }

def pool2 : Array CpInfo := pool [(3, .class_ 4), (0, u "com/example/cordon/cordon/trusted/Tally"), (1, .class_ 8), (1, u "java/lang/Object"), (10, u "threadId"), (0, u "J"), (7, u "thread"), (0, u "Ljava/lang/ref/WeakReference;"), (7, u "left"), (21, .long 9223372036854775808), (9, u "LEFT"), (0, u "Ljava/lang/invoke/VarHandle;"), (6, .long 9223372041149743104), (6, u "(J)J"), (2, u "charged"), (8, u "NONE"), (1, u "UNCHARGED"), (0, u "CHARGE"), (0, u "I"), (1, u "CHECK"), (1, u "RESUME"), (1, u "PUBLISH"), (1, u "RETURN"), (1, u "LEAVE"), (1, u "BLOCK_BITS"), (1, u "BLOCK_MASK"), (3, u "yielded")] 18

def k2c0 : Code := { maxStack := 4, maxLocals := 2, code := prog_24_method_7_code, exceptionTable := #[], attributes := #[] }
def k2m0 : Method := { name := "charged", desc := "(J)J", sig := { parameters := [.long], returnType := some .long }, accessFlags := 8, code := some k2c0 }
/-- com/example/cordon/cordon/trusted/Tally -/
def k2 : Class := { plain "com/example/cordon/cordon/trusted/Tally" (some 0) with
  accessFlags := 48
  interfaces := #[]
  cf := some (fileOf pool2 3 #[] #[{ accessFlags := 8, nameIndex := 87, descriptorIndex := 84, attributes := #[] }] 48 6 #[] #[{ accessFlags := 24, nameIndex := 96, descriptorIndex := 20, attributes := #[] }, { accessFlags := 24, nameIndex := 98, descriptorIndex := 20, attributes := #[] }, { accessFlags := 24, nameIndex := 99, descriptorIndex := 100, attributes := #[] }, { accessFlags := 24, nameIndex := 102, descriptorIndex := 100, attributes := #[] }, { accessFlags := 24, nameIndex := 104, descriptorIndex := 100, attributes := #[] }, { accessFlags := 24, nameIndex := 106, descriptorIndex := 100, attributes := #[] }, { accessFlags := 24, nameIndex := 108, descriptorIndex := 100, attributes := #[] }, { accessFlags := 24, nameIndex := 110, descriptorIndex := 100, attributes := #[] }, { accessFlags := 24, nameIndex := 112, descriptorIndex := 100, attributes := #[] }, { accessFlags := 24, nameIndex := 114, descriptorIndex := 100, attributes := #[] }, { accessFlags := 26, nameIndex := 69, descriptorIndex := 70, attributes := #[] }, { accessFlags := 16, nameIndex := 19, descriptorIndex := 20, attributes := #[] }, { accessFlags := 16, nameIndex := 28, descriptorIndex := 29, attributes := #[] }, { accessFlags := 0, nameIndex := 37, descriptorIndex := 20, attributes := #[] }, { accessFlags := 0, nameIndex := 118, descriptorIndex := 100, attributes := #[] }])
  fields := #[{ name := "NONE", type := .long, accessFlags := 24, slot := 0, constantValue := 0 }, { name := "UNCHARGED", type := .long, accessFlags := 24, slot := 1, constantValue := 0 }, { name := "CHARGE", type := .int, accessFlags := 24, slot := 2, constantValue := 0 }, { name := "CHECK", type := .int, accessFlags := 24, slot := 3, constantValue := 0 }, { name := "RESUME", type := .int, accessFlags := 24, slot := 4, constantValue := 0 }, { name := "PUBLISH", type := .int, accessFlags := 24, slot := 5, constantValue := 0 }, { name := "RETURN", type := .int, accessFlags := 24, slot := 6, constantValue := 0 }, { name := "LEAVE", type := .int, accessFlags := 24, slot := 7, constantValue := 0 }, { name := "BLOCK_BITS", type := .int, accessFlags := 24, slot := 8, constantValue := 0 }, { name := "BLOCK_MASK", type := .int, accessFlags := 24, slot := 9, constantValue := 0 }, { name := "LEFT", type := (.object "java/lang/invoke/VarHandle"), accessFlags := 26, slot := 10, constantValue := 0 }, { name := "threadId", type := .long, accessFlags := 16, slot := 0, constantValue := 0 }, { name := "thread", type := (.object "java/lang/ref/WeakReference"), accessFlags := 16, slot := 1, constantValue := 0 }, { name := "left", type := .long, accessFlags := 0, slot := 2, constantValue := 0 }, { name := "yielded", type := .int, accessFlags := 0, slot := 3, constantValue := 0 }]
  methods := #[k2m0]
  instanceTypes := #[.long, (.object "java/lang/ref/WeakReference"), .long, .int]
  staticTypes := #[.long, .long, .int, .int, .int, .int, .int, .int, .int, .int, (.object "java/lang/invoke/VarHandle")]
  resolved := Array.replicate 137 none
  statics := none }

def pool3 : Array CpInfo := pool [(1, u "java/lang/Cloneable"), (0, .class_ 1), (0, u "java/lang/Object"), (0, .class_ 3)] 3

/-- java/lang/Cloneable -/
def k3 : Class := { plain "java/lang/Cloneable" (some 0) with
  accessFlags := 1537
  interfaces := #[]
  cf := some (fileOf pool3 2 #[] #[] 1537 4 #[] #[])
  fields := #[]
  methods := #[]
  instanceTypes := #[]
  staticTypes := #[]
  resolved := Array.replicate 8 none
  statics := none }

def pool4 : Array CpInfo := pool [(1, u "java/io/Serializable"), (0, .class_ 1), (0, u "java/lang/Object"), (0, .class_ 3)] 3

/-- java/io/Serializable -/
def k4 : Class := { plain "java/io/Serializable" (some 0) with
  accessFlags := 1537
  interfaces := #[]
  cf := some (fileOf pool4 2 #[] #[] 1537 4 #[] #[])
  fields := #[]
  methods := #[]
  instanceTypes := #[]
  staticTypes := #[]
  resolved := Array.replicate 8 none
  statics := none }

/-- the primitive byte -/
def k5 : Class := { plain "byte" none with kind := .primitive 'B', accessFlags := 0x411 }
/-- [B -/
def k6 : Class := { plain "[B" (some 0) with kind := .array 5 .byte, interfaces := #[3, 4], accessFlags := 1041 }

/-- the primitive int -/
def k7 : Class := { plain "int" none with kind := .primitive 'I', accessFlags := 0x411 }
/-- [I -/
def k8 : Class := { plain "[I" (some 0) with kind := .array 7 .int, interfaces := #[3, 4], accessFlags := 1041 }

def heap : Heap := #[]
def classes : Array Class := #[k0, k1, k2, k3, k4, k5, k6, k7, k8]
def interned : List (Array UInt16 × Addr) := []
def slotsUsed : Nat := 0
def theMethod : MethodId := ⟨1, 2⟩
def args0 : Array Value := #[.long 5, .int 5, .int 5]
def aboutOver (below : List Frame) : State where
  vm := { classes := classes, interned := interned.toArray }
  heap := heap
  slotsUsed := slotsUsed
  threads := #[{ frames := .invoking theMethod args0 :: below }]
def below0 : List Frame := [.native { method := ⟨0, 0⟩, args := #[] }]
def about1 : State := aboutOver below0
def p0 : Program := .bare "" "" ""
def e0 : Env := launch0.env 0 0 0
theorem w_frames : about1.frames = Frame.invoking theMethod args0 :: below0 := rfl
set_option maxRecDepth 65536 in
theorem w_args : argsFit about1.vm theMethod args0 = true := by decide +kernel
set_option maxRecDepth 65536 in
theorem w_heap : heapFits about1 = true := by decide +kernel
set_option maxRecDepth 65536 in
theorem w_runnable : about1.curStatus? = some .runnable := by decide +kernel
set_option maxRecDepth 65536 in
theorem w_alone : about1.alone = true := by decide +kernel
set_option maxRecDepth 65536 in
theorem w_named : about1.methodNamed? x = some theMethod := by decide +kernel
set_option maxRecDepth 65536 in
theorem w_hears : about1.hears theMethod below0 = true := by decide +kernel
set_option maxRecDepth 65536 in
theorem w_ripe : about1.ripe theMethod args0 below0 = true := by decide +kernel
theorem w_running : about1.status = .running := rfl
set_option maxRecDepth 65536 in
theorem w_room : about1.hasRoom e0.platform room_1 = true :=
  launch0.hasRoom_least _ room_1 (by decide +kernel) (by decide +kernel) (by decide +kernel) (by decide +kernel) (by decide +kernel) (by decide +kernel)
theorem allAtoms_all (ts : List Jvm.Cond) (a : Array Jvm.Value) (st : Jvm.State) : (allAtoms ts).before a st = ts.all (fun c => c.before a st) := by
  induction ts with
  | nil => rfl
  | cons c t ih =>
    show (Jvm.Cond.and c (allAtoms t)).before a st = _
    rw [Jvm.Cond.before_and, ih, List.all_cons]
def words1 : List Jvm.Cond := Jvm.Cond.code x code maxLocals ret :: tables_1
/-- a 'code' word, met by the world's own term for the bytes: nothing is compared byte by byte -/
theorem code_word {y : MethodName} {bytes : ByteArray} {mx : Nat} {rt : Option FieldType} {a : Array Value} {s : State} {m : MethodId} {meth : Method} {c : Code} (h1 : s.methodNamed? y = some m) (h2 : s.vm.method? m = some meth) (h3 : meth.code = some c) (h4 : c.code = bytes)
    (h5 : (c.maxLocals == mx && c.exceptionTable.isEmpty && decide (c.maxStack ≤ mostOperands) && decide (meth.sig.returnType = rt) && !meth.locks && decide (parseMethodDescriptor y.desc = some meth.sig)) = true) : (Jvm.Cond.code y bytes mx rt).before a s = true := by
  simp only [Bool.and_eq_true, beq_iff_eq, Bool.not_eq_true', decide_eq_true_eq] at h5
  obtain ⟨⟨⟨⟨⟨g1, g2⟩, g3⟩, g4⟩, g5⟩, g6⟩ := h5
  simp [Cond.before, Cond.holds, Cond.value, h1, h2, h3, h4, g1, g2, g3, g4, g5, g6]
def isCode : Jvm.Cond → Bool
  | .code _ _ _ _ => true
  | _ => false
theorem all_split {L : List Jvm.Cond} {P : Jvm.Cond → Bool} (h1 : L.all (fun c => isCode c || P c) = true) (h2 : ∀ c ∈ L.filter isCode, P c = true) : L.all P = true := by
  refine List.all_eq_true.mpr fun c hc => ?_
  have h := List.all_eq_true.mp h1 c hc
  rcases Bool.eq_false_or_eq_true (isCode c) with hi | hi
  · exact h2 c (List.mem_filter.mpr ⟨hc, hi⟩)
  · simpa [hi] using h
set_option maxRecDepth 65536 in
theorem w_c0 : (Jvm.Cond.code x code maxLocals ret).before args0 about1 = true := code_word (m := ⟨1, 2⟩) (meth := k1m2) (c := k1c2) (by decide +kernel) rfl rfl rfl (by decide +kernel)
set_option maxRecDepth 65536 in
theorem w_c1 : (Jvm.Cond.code ({ cls := "com/example/cordon/cordon/trusted/Tally", name := "charged", desc := "(J)J" } : Jvm.MethodName) prog_24_method_7_code (2 : Nat) (Option.some Jvm.ClassFile.FieldType.long)).before args0 about1 = true := code_word (m := ⟨2, 0⟩) (meth := k2m0) (c := k2c0) (by decide +kernel) rfl rfl rfl (by decide +kernel)
set_option maxRecDepth 65536 in
theorem w_c2 : (Jvm.Cond.code ({ cls := "com/example/cordon/cordon/trusted/TallyChargedPinLaw", name := "expected", desc := "(J)J" } : Jvm.MethodName) method_2_code (4 : Nat) (Option.some Jvm.ClassFile.FieldType.long)).before args0 about1 = true := code_word (m := ⟨1, 1⟩) (meth := k1m1) (c := k1c1) (by decide +kernel) rfl rfl rfl (by decide +kernel)
def codes1 : List Jvm.Cond := [Jvm.Cond.code x code maxLocals ret, Jvm.Cond.code ({ cls := "com/example/cordon/cordon/trusted/Tally", name := "charged", desc := "(J)J" } : Jvm.MethodName) prog_24_method_7_code (2 : Nat) (Option.some Jvm.ClassFile.FieldType.long), Jvm.Cond.code ({ cls := "com/example/cordon/cordon/trusted/TallyChargedPinLaw", name := "expected", desc := "(J)J" } : Jvm.MethodName) method_2_code (4 : Nat) (Option.some Jvm.ClassFile.FieldType.long)]
set_option maxRecDepth 65536 in
theorem codes_eq : words1.filter isCode = codes1 := rfl
theorem w_codes : ∀ c ∈ words1.filter isCode, c.before args0 about1 = true := by
  rw [codes_eq]
  intro c hc
  simp only [codes1, List.mem_cons, List.not_mem_nil, or_false] at hc
  rcases hc with rfl | rfl | rfl
  · exact w_c0
  · exact w_c1
  · exact w_c2
set_option maxRecDepth 65536 in
theorem w_t1 : words1.all (fun c => isCode c || c.before args0 about1) = true := by decide +kernel
theorem w_tables : (allAtoms (Jvm.Cond.code x code maxLocals ret :: tables_1)).before args0 about1 = true := by
  rw [allAtoms_all]
  show words1.all (fun c => c.before args0 about1) = true
  refine all_split ?_ w_codes
  rw [w_t1]
set_option maxRecDepth 65536 in
theorem w_case : (Jvm.Cond.and given_1 narrow_1).before args0 about1 = true := by decide +kernel
theorem w_applies : (headSpec (Jvm.Cond.code x code maxLocals ret :: tables_1) room_1).applies x e0.platform about1 = true :=
  (Spec.applies_iff w_frames).mpr ⟨w_running, w_runnable, w_alone, w_named, w_hears, w_ripe, w_room, w_tables⟩
theorem atStart : AtStart classFile x code maxLocals ret World_1 tables_1 room_1 Calls_1 rest_1 Pre_1 launch0 p0 e0 about1 theMethod args0 below0 :=
  ⟨lists_1, trivial, launch0.admits_env _ _ _, launch0.least_env, fairChoices_fair.cas, fairChoices_fair.clock, w_frames, w_args, w_heap, w_applies, trivial, trivial, w_case⟩
end start1
theorem witness_1 : WitnessClaimed_1 := ⟨start1.p0, start1.e0, start1.about1, start1.theMethod, start1.args0, start1.below0, start1.atStart⟩
end Jvm.Pilot.@@N@@
