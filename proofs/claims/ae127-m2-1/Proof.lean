import JvmDerived
import JvmDerived.Pilot.@@N@@Statement
import JvmDerived.Pilot.@@N@@Code
set_option linter.unusedVariables false
set_option linter.unusedSimpArgs false
namespace Jvm.RoadKit
open Sem ClassFile Op Lib Jvm.Stand Jvm.Free Jvm.LawKit
section New
variable {p : Program} {l : Launch} {e : Env} {R : Room} {s : State} {m : MethodId} {args : Array Value} {below : List Frame} {meth : Method} {c : Code} {T : State} {locs : List Loc} {cells slots : Nat}
theorem retI (X : Stand p l e R s m args below meth c T locs cells slots) (hx : p.tables.exec = Jvm.exec) {pc : Nat} {Ls : Array Slot} {z : Int32} {rest : List Value} (hret : meth.sig.returnType = some .int) (hd : decode c.code pc = .ok (.ireturn, 1)) {fs : List Frame}
    (hl : ∀ (f : JFrame) (acts : List Action), f.method = m → f.locked = none → f.entered = [] → (doReturn e (T.setTop f) acts (some (.int z))).1 = T.setFrames fs) : Steps p.tables e below (T.setTop (mkF m pc Ls (.int z :: rest))) (T.setFrames fs) := by
  have hm' : T.vm.method? m = some meth := X.method'
  have hn : narrow .int (.int z) = .int z := rfl
  show Steps p.tables e below (T.setTop { method := m, pc := pc, locals := Ls, stack := _ :: rest, locked := none }) _
  jvm_step X.here [X.here.top, hx, hd, hm', hret, hn]
  first | (intro acts; rw [hl _ acts rfl rfl rfl]) | rw [hl _ _ rfl rfl rfl]
  exact Steps.refl _
end New
end Jvm.RoadKit
namespace Jvm.Pilot.@@N@@
open Jvm Jvm.ClassFile Sem Op Lib Jvm.Free Jvm.Stand Jvm.LawKit Jvm.RoadKit Bundle Jvm.Pilot.@@N@@.Jvm.D
/-- from u the invocation ends, and what it returns and leaves is as Q says -/
def Ends (p : Program) (e : Env) (below : List Frame) (s : State) (kc ks : Nat) (Q : Option Value → Heap → List Loc → Prop) (u : State) : Prop :=
  ∃ s₂ o, Steps p.tables e below u s₂ ∧ s₂.status = .running ∧ Ended s₂ below o ∧ ∃ v L, o = .returned v ∧ Q v s₂.heap L ∧ FrameEnd s o s₂ L kc ks
theorem Ends.via {p : Program} {e : Env} {below : List Frame} {s : State} {kc ks : Nat} {Q : Option Value → Heap → List Loc → Prop} {A B : State} (h : ∀ t, Steps p.tables e below A t → Steps p.tables e below B t) (k : Ends p e below s kc ks Q A) : Ends p e below s kc ks Q B := by
  obtain ⟨s₂, o, h1, r⟩ := k
  exact ⟨s₂, o, h _ h1, r⟩
theorem Ends.ret {p : Program} {l : Launch} {e : Env} {R : Room} {s : State} {m : MethodId} {args : Array Value} {below : List Frame} {meth : Method} {c : Code} {T : State} {locs : List Loc} {cells slots kc ks : Nat} {Q : Option Value → Heap → List Loc → Prop} {u : State}
    (X : Stand p l e R s m args below meth c T locs cells slots) {v : Option Value} (hv : meth.sig.returnType = none → v = none) (hlocks : meth.locks = false)
    (hst : ∀ fs, (∀ (f : JFrame) (acts : List Action), f.method = m → f.locked = none → f.entered = [] → (doReturn e (T.setTop f) acts v).1 = T.setFrames fs) → Steps p.tables e below u (T.setFrames fs))
    (hQ : Q v T.heap locs) (h1 : cells ≤ kc) (h2 : slots ≤ ks) : Ends p e below s kc ks Q u := by
  obtain ⟨fs, hr, hrun, hended, hW, hsame⟩ := X.leave (v := v) hv hlocks
  exact ⟨_, _, hst fs hr, hrun, hended, _, _, rfl, hQ, ⟨_, rfl⟩, hW, hsame.mono h1 h2⟩

theorem own_pd0 : parseMethodDescriptor "(J)Z" = some ⟨[.long], some .boolean⟩ := by decide +kernel
theorem d2_0 : decode prog_88_method_2_code 0 = .ok (.lload_n 0, 1) := by decide +kernel
theorem d2_1 : decode prog_88_method_2_code 1 = .ok (.lconst 0, 1) := by decide +kernel
theorem d2_2 : decode prog_88_method_2_code 2 = .ok (.lcmp, 1) := by decide +kernel
theorem d2_3 : decode prog_88_method_2_code 3 = .ok (.ifCond .le 25, 3) := by decide +kernel
theorem d2_6 : decode prog_88_method_2_code 6 = .ok (.lload_n 0, 1) := by decide +kernel
theorem d2_7 : decode prog_88_method_2_code 7 = .ok (.ldc2_w 42, 3) := by decide +kernel
theorem d2_10 : decode prog_88_method_2_code 10 = .ok (.lcmp, 1) := by decide +kernel
theorem d2_11 : decode prog_88_method_2_code 11 = .ok (.ifCond .gt 17, 3) := by decide +kernel
theorem d2_14 : decode prog_88_method_2_code 14 = .ok (.lload_n 0, 1) := by decide +kernel
theorem d2_15 : decode prog_88_method_2_code 15 = .ok (.ldc2_w 44, 3) := by decide +kernel
theorem d2_18 : decode prog_88_method_2_code 18 = .ok (.lrem, 1) := by decide +kernel
theorem d2_19 : decode prog_88_method_2_code 19 = .ok (.lconst 1, 1) := by decide +kernel
theorem d2_20 : decode prog_88_method_2_code 20 = .ok (.lcmp, 1) := by decide +kernel
theorem d2_21 : decode prog_88_method_2_code 21 = .ok (.ifCond .ne 7, 3) := by decide +kernel
theorem d2_24 : decode prog_88_method_2_code 24 = .ok (.iconst 1, 1) := by decide +kernel
theorem d2_25 : decode prog_88_method_2_code 25 = .ok (.goto 4, 3) := by decide +kernel
theorem d2_28 : decode prog_88_method_2_code 28 = .ok (.iconst 0, 1) := by decide +kernel
theorem d2_29 : decode prog_88_method_2_code 29 = .ok (.ireturn, 1) := by decide +kernel
theorem pn_2 : plainName "com/example/sextant/sextant/presentation/PresentationContext" = true := by first | (simp [plainName, overriddenIn]; done) | decide +kernel
theorem ef_2 (m : MethodId) (q0 : Int64) : entryFrame m #[(.long q0)] 2 = mkF m 0 #[.val (.long q0), .second] [] := by first | (simp [entryFrame, mkF, argsToLocals, Value.category]; done) | rfl
def fn2 (q0 : Int64) : Int32 := (if (0 : Int64) < q0 then (if (32767 : Int64) < q0 then (0 : Int32) else (if (q0 - (q0 / (2 : Int64)) * (2 : Int64)) = (1 : Int64) then (1 : Int32) else (0 : Int32))) else (0 : Int32))
abbrev ROOM2 : Room := { frames := 0, cells := 0, slots := 0, locals := 0 }
def Q2 (Z : State) (q0 : Int64)  (h0 : Heap) (n0 : Nat) (v : Option Value) (h : Heap) (L : List Loc) : Prop := v = some (.int (fn2 q0)) ∧ Fr n0 L ∧ h = h0
set_option maxRecDepth 65536 in
set_option maxHeartbeats 40000000 in
theorem rm2 (l : Launch) (Z : State) (a0 : Array Value) (hw : ∀ d ∈ tables_1, d.before a0 Z = true) (ws : List Jvm.Cond) (q0 : Int64)  (h0 : Heap) (n0 : Nat) (Z0 : n0 ≤ h0.size)  :
    MetFree l (⟨"com/example/sextant/sextant/presentation/PresentationContext", "isValidIdentifier", "(J)Z"⟩ : MethodName) (head1 (Jvm.Cond.code (⟨"com/example/sextant/sextant/presentation/PresentationContext", "isValidIdentifier", "(J)Z"⟩ : MethodName) prog_88_method_2_code 2 (some .boolean) :: ws) ROOM2) (fun a U => a = #[(.long q0)] ∧ Z.Warmed39 U.vm ∧ U.heap = h0) (fun _ _ _ _ _ => True) (fun _ U o U' => ∃ v L, o = .returned v ∧ Q2 Z q0  h0 n0 v U'.heap L ∧ FrameEnd U o U' L ROOM2.cells ROOM2.slots) := by
  refine MetFree.of_bodySF (plainFor_of_name pn_2) hisR ?_
  intro p e s m args below meth c s₁ Bd hml0 hP hK
  obtain ⟨rfl, hZ, hh⟩ := hP
  have hx := Bd.exec
  have hby := Bd.bytes
  have hml : c.maxLocals = 2 := hml0
  have hown : s.vm.findClass "com/example/sextant/sextant/presentation/PresentationContext" = some m.cls := findClass_of_methodNamed Bd.named
  have hnm := (name_of_methodNamed Bd.named Bd.method).1
  have X0 : Stand p l e ROOM2 s m #[(.long q0)] below meth c s₁ [] 0 0 := Stand.of_body Bd
  have e0 : s₁.heap = h0 := by rw [← hh, Bd.state]; rfl
  have N0 := Fr.nil n0
  refine Ends.via (A := s₁.setTop (mkF m 0 #[.val (.long q0), .second] [])) (kc := ROOM2.cells) (ks := ROOM2.slots) (Q := (Q2 Z q0  h0 n0)) (fun t k => castTop (ef_2 m q0) k) ?_
  show Ends p e below s ROOM2.cells ROOM2.slots (Q2 Z q0  h0 n0) (s₁.setTop (mkF m 0 #[.val (.long q0), .second] []))
  refine Ends.via (fun _ k => XS.lloadN X0.here hx rfl (hb hby d2_0) rfl k) ?_
  show Ends p e below s ROOM2.cells ROOM2.slots (Q2 Z q0  h0 n0) (s₁.setTop (mkF m 1 #[.val (.long q0), .second] [(.long q0)]))
  refine Ends.via (fun _ k => XS.lconst X0.here hx rfl (hb hby d2_1) k) ?_
  show Ends p e below s ROOM2.cells ROOM2.slots (Q2 Z q0  h0 n0) (s₁.setTop (mkF m 2 #[.val (.long q0), .second] [(.long (0 : Int64)), (.long q0)]))
  refine Ends.via (fun _ k => XS.lcmp X0.here hx rfl (hb hby d2_2) rfl k) ?_
  show Ends p e below s ROOM2.cells ROOM2.slots (Q2 Z q0  h0 n0) (s₁.setTop (mkF m 3 #[.val (.long q0), .second] [(.int (lcmpW q0 (0 : Int64)))]))
  by_cases hc5 : (0 : Int64) < q0
  · refine Ends.via (fun _ k => XS.ifNo X0.here hx rfl (hb hby d2_3) rfl ((if0 _ _).trans (tlt ((lw_gt _ _).mpr hc5)).2.2.2) k) ?_
    show Ends p e below s ROOM2.cells ROOM2.slots (Q2 Z q0  h0 n0) (s₁.setTop (mkF m 6 #[.val (.long q0), .second] []))
    refine Ends.via (fun _ k => XS.lloadN X0.here hx rfl (hb hby d2_6) rfl k) ?_
    show Ends p e below s ROOM2.cells ROOM2.slots (Q2 Z q0  h0 n0) (s₁.setTop (mkF m 7 #[.val (.long q0), .second] [(.long q0)]))
    refine Ends.via (X0.ldc2Long hx hown (mvT hZ (hw _ (List.mem_of_getElem? (i := 12) rfl))) (g := (mkF m 7 #[.val (.long q0), .second] [(.long q0)])) rfl (hb hby d2_7)) ?_
    show Ends p e below s ROOM2.cells ROOM2.slots (Q2 Z q0  h0 n0) (s₁.setTop (mkF m 10 #[.val (.long q0), .second] [(.long (32767 : Int64)), (.long q0)]))
    refine Ends.via (fun _ k => XS.lcmp X0.here hx rfl (hb hby d2_10) rfl k) ?_
    show Ends p e below s ROOM2.cells ROOM2.slots (Q2 Z q0  h0 n0) (s₁.setTop (mkF m 11 #[.val (.long q0), .second] [(.int (lcmpW q0 (32767 : Int64)))]))
    by_cases hc6 : (32767 : Int64) < q0
    · refine Ends.via (fun _ k => XS.ifYes X0.here hx rfl (pc0 := 11) (pc' := 28) rfl (hb hby d2_11) rfl ((if0 _ _).trans (tlt ((lw_gt _ _).mpr hc6)).2.2.1) (by decide) (by decide) k) ?_
      show Ends p e below s ROOM2.cells ROOM2.slots (Q2 Z q0  h0 n0) (s₁.setTop (mkF m 28 #[.val (.long q0), .second] []))
      refine Ends.via (fun _ k => XS.iconst X0.here hx rfl (hb hby d2_28) k) ?_
      show Ends p e below s ROOM2.cells ROOM2.slots (Q2 Z q0  h0 n0) (s₁.setTop (mkF m 29 #[.val (.long q0), .second] [(.int (0 : Int32))]))
      refine Ends.ret X0 (v := some (.int (nar .boolean (0 : Int32)))) (fun h => by rw [Bd.returns] at h; cases h) Bd.notSynchronized (fun fs hr => retN X0 hx (t := .boolean) Bd.returns (by simp) (hb hby d2_29) hr) ?_ (by decide) (by decide)
      have hfn : fn2 q0 = (0 : Int32) := by simp only [fn2, if_pos hc5, if_pos hc6]
      exact ⟨by rw [hfn]; rfl, N0, e0⟩
    · refine Ends.via (fun _ k => XS.ifNo X0.here hx rfl (hb hby d2_11) rfl ((if0 _ _).trans (flt (mt (lw_gt _ _).mp hc6)).2.2.1) k) ?_
      show Ends p e below s ROOM2.cells ROOM2.slots (Q2 Z q0  h0 n0) (s₁.setTop (mkF m 14 #[.val (.long q0), .second] []))
      refine Ends.via (fun _ k => XS.lloadN X0.here hx rfl (hb hby d2_14) rfl k) ?_
      show Ends p e below s ROOM2.cells ROOM2.slots (Q2 Z q0  h0 n0) (s₁.setTop (mkF m 15 #[.val (.long q0), .second] [(.long q0)]))
      refine Ends.via (X0.ldc2Long hx hown (mvT hZ (hw _ (List.mem_of_getElem? (i := 13) rfl))) (g := (mkF m 15 #[.val (.long q0), .second] [(.long q0)])) rfl (hb hby d2_15)) ?_
      show Ends p e below s ROOM2.cells ROOM2.slots (Q2 Z q0  h0 n0) (s₁.setTop (mkF m 18 #[.val (.long q0), .second] [(.long (2 : Int64)), (.long q0)]))
      refine Ends.via (fun _ k => XS.lrem X0.here hx rfl (hb hby d2_18) rfl (by decide) k) ?_
      show Ends p e below s ROOM2.cells ROOM2.slots (Q2 Z q0  h0 n0) (s₁.setTop (mkF m 19 #[.val (.long q0), .second] [(.long (q0 - (q0 / (2 : Int64)) * (2 : Int64)))]))
      refine Ends.via (fun _ k => XS.lconst X0.here hx rfl (hb hby d2_19) k) ?_
      show Ends p e below s ROOM2.cells ROOM2.slots (Q2 Z q0  h0 n0) (s₁.setTop (mkF m 20 #[.val (.long q0), .second] [(.long (1 : Int64)), (.long (q0 - (q0 / (2 : Int64)) * (2 : Int64)))]))
      refine Ends.via (fun _ k => XS.lcmp X0.here hx rfl (hb hby d2_20) rfl k) ?_
      show Ends p e below s ROOM2.cells ROOM2.slots (Q2 Z q0  h0 n0) (s₁.setTop (mkF m 21 #[.val (.long q0), .second] [(.int (lcmpW (q0 - (q0 / (2 : Int64)) * (2 : Int64)) (1 : Int64)))]))
      by_cases hc7 : (q0 - (q0 / (2 : Int64)) * (2 : Int64)) = (1 : Int64)
      · refine Ends.via (fun _ k => XS.ifNo X0.here hx rfl (hb hby d2_21) rfl ((if0 _ _).trans (teq ((lw_eq _ _).mpr hc7)).2) k) ?_
        show Ends p e below s ROOM2.cells ROOM2.slots (Q2 Z q0  h0 n0) (s₁.setTop (mkF m 24 #[.val (.long q0), .second] []))
        refine Ends.via (fun _ k => XS.iconst X0.here hx rfl (hb hby d2_24) k) ?_
        show Ends p e below s ROOM2.cells ROOM2.slots (Q2 Z q0  h0 n0) (s₁.setTop (mkF m 25 #[.val (.long q0), .second] [(.int (1 : Int32))]))
        refine Ends.via (fun _ k => XS.goto X0.here hx rfl (pc0 := 25) (pc' := 29) rfl (hb hby d2_25) (by decide) (by decide) k) ?_
        show Ends p e below s ROOM2.cells ROOM2.slots (Q2 Z q0  h0 n0) (s₁.setTop (mkF m 29 #[.val (.long q0), .second] [(.int (1 : Int32))]))
        refine Ends.ret X0 (v := some (.int (nar .boolean (1 : Int32)))) (fun h => by rw [Bd.returns] at h; cases h) Bd.notSynchronized (fun fs hr => retN X0 hx (t := .boolean) Bd.returns (by simp) (hb hby d2_29) hr) ?_ (by decide) (by decide)
        have hfn : fn2 q0 = (1 : Int32) := by simp only [fn2, if_pos hc5, if_neg hc6, if_pos hc7]
        exact ⟨by rw [hfn]; rfl, N0, e0⟩
      · refine Ends.via (fun _ k => XS.ifYes X0.here hx rfl (pc0 := 21) (pc' := 28) rfl (hb hby d2_21) rfl ((if0 _ _).trans (feq (mt (lw_eq _ _).mp hc7)).2) (by decide) (by decide) k) ?_
        show Ends p e below s ROOM2.cells ROOM2.slots (Q2 Z q0  h0 n0) (s₁.setTop (mkF m 28 #[.val (.long q0), .second] []))
        refine Ends.via (fun _ k => XS.iconst X0.here hx rfl (hb hby d2_28) k) ?_
        show Ends p e below s ROOM2.cells ROOM2.slots (Q2 Z q0  h0 n0) (s₁.setTop (mkF m 29 #[.val (.long q0), .second] [(.int (0 : Int32))]))
        refine Ends.ret X0 (v := some (.int (nar .boolean (0 : Int32)))) (fun h => by rw [Bd.returns] at h; cases h) Bd.notSynchronized (fun fs hr => retN X0 hx (t := .boolean) Bd.returns (by simp) (hb hby d2_29) hr) ?_ (by decide) (by decide)
        have hfn : fn2 q0 = (0 : Int32) := by simp only [fn2, if_pos hc5, if_neg hc6, if_neg hc7]
        exact ⟨by rw [hfn]; rfl, N0, e0⟩
  · refine Ends.via (fun _ k => XS.ifYes X0.here hx rfl (pc0 := 3) (pc' := 28) rfl (hb hby d2_3) rfl ((if0 _ _).trans (flt (mt (lw_gt _ _).mp hc5)).2.2.2) (by decide) (by decide) k) ?_
    show Ends p e below s ROOM2.cells ROOM2.slots (Q2 Z q0  h0 n0) (s₁.setTop (mkF m 28 #[.val (.long q0), .second] []))
    refine Ends.via (fun _ k => XS.iconst X0.here hx rfl (hb hby d2_28) k) ?_
    show Ends p e below s ROOM2.cells ROOM2.slots (Q2 Z q0  h0 n0) (s₁.setTop (mkF m 29 #[.val (.long q0), .second] [(.int (0 : Int32))]))
    refine Ends.ret X0 (v := some (.int (nar .boolean (0 : Int32)))) (fun h => by rw [Bd.returns] at h; cases h) Bd.notSynchronized (fun fs hr => retN X0 hx (t := .boolean) Bd.returns (by simp) (hb hby d2_29) hr) ?_ (by decide) (by decide)
    have hfn : fn2 q0 = (0 : Int32) := by simp only [fn2, if_neg hc5]
    exact ⟨by rw [hfn]; rfl, N0, e0⟩
theorem d3_0 : decode method_2_code 0 = .ok (.lload_n 0, 1) := by decide +kernel
theorem d3_1 : decode method_2_code 1 = .ok (.bipush 15, 2) := by decide +kernel
theorem d3_3 : decode method_2_code 3 = .ok (.lushr, 1) := by decide +kernel
theorem d3_4 : decode method_2_code 4 = .ok (.lconst 0, 1) := by decide +kernel
theorem d3_5 : decode method_2_code 5 = .ok (.lcmp, 1) := by decide +kernel
theorem d3_6 : decode method_2_code 6 = .ok (.ifCond .ne 15, 3) := by decide +kernel
theorem d3_9 : decode method_2_code 9 = .ok (.lload_n 0, 1) := by decide +kernel
theorem d3_10 : decode method_2_code 10 = .ok (.lconst 1, 1) := by decide +kernel
theorem d3_11 : decode method_2_code 11 = .ok (.land, 1) := by decide +kernel
theorem d3_12 : decode method_2_code 12 = .ok (.lconst 1, 1) := by decide +kernel
theorem d3_13 : decode method_2_code 13 = .ok (.lcmp, 1) := by decide +kernel
theorem d3_14 : decode method_2_code 14 = .ok (.ifCond .ne 7, 3) := by decide +kernel
theorem d3_17 : decode method_2_code 17 = .ok (.iconst 1, 1) := by decide +kernel
theorem d3_18 : decode method_2_code 18 = .ok (.goto 4, 3) := by decide +kernel
theorem d3_21 : decode method_2_code 21 = .ok (.iconst 0, 1) := by decide +kernel
theorem d3_22 : decode method_2_code 22 = .ok (.ireturn, 1) := by decide +kernel
theorem pn_3 : plainName "com/example/sextant/sextant/presentation/PresentationContextIsValidIdentifierPinLaw" = true := by first | (simp [plainName, overriddenIn]; done) | decide +kernel
theorem ef_3 (m : MethodId) (q0 : Int64) : entryFrame m #[(.long q0)] 2 = mkF m 0 #[.val (.long q0), .second] [] := by first | (simp [entryFrame, mkF, argsToLocals, Value.category]; done) | rfl
def fn3 (q0 : Int64) : Int32 := (if ((q0.toUInt64 >>> ((15 : Int32) &&& 0x3f).toInt64.toUInt64).toInt64) = (0 : Int64) then (if (q0 &&& (1 : Int64)) = (1 : Int64) then (1 : Int32) else (0 : Int32)) else (0 : Int32))
abbrev ROOM3 : Room := { frames := 0, cells := 0, slots := 0, locals := 0 }
def Q3 (Z : State) (q0 : Int64)  (h0 : Heap) (n0 : Nat) (v : Option Value) (h : Heap) (L : List Loc) : Prop := v = some (.int (fn3 q0)) ∧ Fr n0 L ∧ h = h0
set_option maxRecDepth 65536 in
set_option maxHeartbeats 40000000 in
theorem rm3 (l : Launch) (Z : State) (a0 : Array Value) (hw : ∀ d ∈ tables_1, d.before a0 Z = true) (ws : List Jvm.Cond) (q0 : Int64)  (h0 : Heap) (n0 : Nat) (Z0 : n0 ≤ h0.size)  :
    MetFree l (⟨"com/example/sextant/sextant/presentation/PresentationContextIsValidIdentifierPinLaw", "expected", "(J)Z"⟩ : MethodName) (head1 (Jvm.Cond.code (⟨"com/example/sextant/sextant/presentation/PresentationContextIsValidIdentifierPinLaw", "expected", "(J)Z"⟩ : MethodName) method_2_code 2 (some .boolean) :: ws) ROOM3) (fun a U => a = #[(.long q0)] ∧ Z.Warmed39 U.vm ∧ U.heap = h0) (fun _ _ _ _ _ => True) (fun _ U o U' => ∃ v L, o = .returned v ∧ Q3 Z q0  h0 n0 v U'.heap L ∧ FrameEnd U o U' L ROOM3.cells ROOM3.slots) := by
  refine MetFree.of_bodySF (plainFor_of_name pn_3) hisR ?_
  intro p e s m args below meth c s₁ Bd hml0 hP hK
  obtain ⟨rfl, hZ, hh⟩ := hP
  have hx := Bd.exec
  have hby := Bd.bytes
  have hml : c.maxLocals = 2 := hml0
  have hown : s.vm.findClass "com/example/sextant/sextant/presentation/PresentationContextIsValidIdentifierPinLaw" = some m.cls := findClass_of_methodNamed Bd.named
  have hnm := (name_of_methodNamed Bd.named Bd.method).1
  have X0 : Stand p l e ROOM3 s m #[(.long q0)] below meth c s₁ [] 0 0 := Stand.of_body Bd
  have e0 : s₁.heap = h0 := by rw [← hh, Bd.state]; rfl
  have N0 := Fr.nil n0
  refine Ends.via (A := s₁.setTop (mkF m 0 #[.val (.long q0), .second] [])) (kc := ROOM3.cells) (ks := ROOM3.slots) (Q := (Q3 Z q0  h0 n0)) (fun t k => castTop (ef_3 m q0) k) ?_
  show Ends p e below s ROOM3.cells ROOM3.slots (Q3 Z q0  h0 n0) (s₁.setTop (mkF m 0 #[.val (.long q0), .second] []))
  refine Ends.via (fun _ k => XS.lloadN X0.here hx rfl (hb hby d3_0) rfl k) ?_
  show Ends p e below s ROOM3.cells ROOM3.slots (Q3 Z q0  h0 n0) (s₁.setTop (mkF m 1 #[.val (.long q0), .second] [(.long q0)]))
  refine Ends.via (fun _ k => XS.bipush X0.here hx rfl (hb hby d3_1) k) ?_
  show Ends p e below s ROOM3.cells ROOM3.slots (Q3 Z q0  h0 n0) (s₁.setTop (mkF m 3 #[.val (.long q0), .second] [(.int (15 : Int32)), (.long q0)]))
  refine Ends.via (fun _ k => XS.lushr X0.here hx rfl (hb hby d3_3) rfl k) ?_
  show Ends p e below s ROOM3.cells ROOM3.slots (Q3 Z q0  h0 n0) (s₁.setTop (mkF m 4 #[.val (.long q0), .second] [(.long ((q0.toUInt64 >>> ((15 : Int32) &&& 0x3f).toInt64.toUInt64).toInt64))]))
  refine Ends.via (fun _ k => XS.lconst X0.here hx rfl (hb hby d3_4) k) ?_
  show Ends p e below s ROOM3.cells ROOM3.slots (Q3 Z q0  h0 n0) (s₁.setTop (mkF m 5 #[.val (.long q0), .second] [(.long (0 : Int64)), (.long ((q0.toUInt64 >>> ((15 : Int32) &&& 0x3f).toInt64.toUInt64).toInt64))]))
  refine Ends.via (fun _ k => XS.lcmp X0.here hx rfl (hb hby d3_5) rfl k) ?_
  show Ends p e below s ROOM3.cells ROOM3.slots (Q3 Z q0  h0 n0) (s₁.setTop (mkF m 6 #[.val (.long q0), .second] [(.int (lcmpW ((q0.toUInt64 >>> ((15 : Int32) &&& 0x3f).toInt64.toUInt64).toInt64) (0 : Int64)))]))
  by_cases hc9 : ((q0.toUInt64 >>> ((15 : Int32) &&& 0x3f).toInt64.toUInt64).toInt64) = (0 : Int64)
  · refine Ends.via (fun _ k => XS.ifNo X0.here hx rfl (hb hby d3_6) rfl ((if0 _ _).trans (teq ((lw_eq _ _).mpr hc9)).2) k) ?_
    show Ends p e below s ROOM3.cells ROOM3.slots (Q3 Z q0  h0 n0) (s₁.setTop (mkF m 9 #[.val (.long q0), .second] []))
    refine Ends.via (fun _ k => XS.lloadN X0.here hx rfl (hb hby d3_9) rfl k) ?_
    show Ends p e below s ROOM3.cells ROOM3.slots (Q3 Z q0  h0 n0) (s₁.setTop (mkF m 10 #[.val (.long q0), .second] [(.long q0)]))
    refine Ends.via (fun _ k => XS.lconst X0.here hx rfl (hb hby d3_10) k) ?_
    show Ends p e below s ROOM3.cells ROOM3.slots (Q3 Z q0  h0 n0) (s₁.setTop (mkF m 11 #[.val (.long q0), .second] [(.long (1 : Int64)), (.long q0)]))
    refine Ends.via (fun _ k => XS.land X0.here hx rfl (hb hby d3_11) rfl k) ?_
    show Ends p e below s ROOM3.cells ROOM3.slots (Q3 Z q0  h0 n0) (s₁.setTop (mkF m 12 #[.val (.long q0), .second] [(.long (q0 &&& (1 : Int64)))]))
    refine Ends.via (fun _ k => XS.lconst X0.here hx rfl (hb hby d3_12) k) ?_
    show Ends p e below s ROOM3.cells ROOM3.slots (Q3 Z q0  h0 n0) (s₁.setTop (mkF m 13 #[.val (.long q0), .second] [(.long (1 : Int64)), (.long (q0 &&& (1 : Int64)))]))
    refine Ends.via (fun _ k => XS.lcmp X0.here hx rfl (hb hby d3_13) rfl k) ?_
    show Ends p e below s ROOM3.cells ROOM3.slots (Q3 Z q0  h0 n0) (s₁.setTop (mkF m 14 #[.val (.long q0), .second] [(.int (lcmpW (q0 &&& (1 : Int64)) (1 : Int64)))]))
    by_cases hc10 : (q0 &&& (1 : Int64)) = (1 : Int64)
    · refine Ends.via (fun _ k => XS.ifNo X0.here hx rfl (hb hby d3_14) rfl ((if0 _ _).trans (teq ((lw_eq _ _).mpr hc10)).2) k) ?_
      show Ends p e below s ROOM3.cells ROOM3.slots (Q3 Z q0  h0 n0) (s₁.setTop (mkF m 17 #[.val (.long q0), .second] []))
      refine Ends.via (fun _ k => XS.iconst X0.here hx rfl (hb hby d3_17) k) ?_
      show Ends p e below s ROOM3.cells ROOM3.slots (Q3 Z q0  h0 n0) (s₁.setTop (mkF m 18 #[.val (.long q0), .second] [(.int (1 : Int32))]))
      refine Ends.via (fun _ k => XS.goto X0.here hx rfl (pc0 := 18) (pc' := 22) rfl (hb hby d3_18) (by decide) (by decide) k) ?_
      show Ends p e below s ROOM3.cells ROOM3.slots (Q3 Z q0  h0 n0) (s₁.setTop (mkF m 22 #[.val (.long q0), .second] [(.int (1 : Int32))]))
      refine Ends.ret X0 (v := some (.int (nar .boolean (1 : Int32)))) (fun h => by rw [Bd.returns] at h; cases h) Bd.notSynchronized (fun fs hr => retN X0 hx (t := .boolean) Bd.returns (by simp) (hb hby d3_22) hr) ?_ (by decide) (by decide)
      have hfn : fn3 q0 = (1 : Int32) := by simp only [fn3, if_pos hc9, if_pos hc10]
      exact ⟨by rw [hfn]; rfl, N0, e0⟩
    · refine Ends.via (fun _ k => XS.ifYes X0.here hx rfl (pc0 := 14) (pc' := 21) rfl (hb hby d3_14) rfl ((if0 _ _).trans (feq (mt (lw_eq _ _).mp hc10)).2) (by decide) (by decide) k) ?_
      show Ends p e below s ROOM3.cells ROOM3.slots (Q3 Z q0  h0 n0) (s₁.setTop (mkF m 21 #[.val (.long q0), .second] []))
      refine Ends.via (fun _ k => XS.iconst X0.here hx rfl (hb hby d3_21) k) ?_
      show Ends p e below s ROOM3.cells ROOM3.slots (Q3 Z q0  h0 n0) (s₁.setTop (mkF m 22 #[.val (.long q0), .second] [(.int (0 : Int32))]))
      refine Ends.ret X0 (v := some (.int (nar .boolean (0 : Int32)))) (fun h => by rw [Bd.returns] at h; cases h) Bd.notSynchronized (fun fs hr => retN X0 hx (t := .boolean) Bd.returns (by simp) (hb hby d3_22) hr) ?_ (by decide) (by decide)
      have hfn : fn3 q0 = (0 : Int32) := by simp only [fn3, if_pos hc9, if_neg hc10]
      exact ⟨by rw [hfn]; rfl, N0, e0⟩
  · refine Ends.via (fun _ k => XS.ifYes X0.here hx rfl (pc0 := 6) (pc' := 21) rfl (hb hby d3_6) rfl ((if0 _ _).trans (feq (mt (lw_eq _ _).mp hc9)).2) (by decide) (by decide) k) ?_
    show Ends p e below s ROOM3.cells ROOM3.slots (Q3 Z q0  h0 n0) (s₁.setTop (mkF m 21 #[.val (.long q0), .second] []))
    refine Ends.via (fun _ k => XS.iconst X0.here hx rfl (hb hby d3_21) k) ?_
    show Ends p e below s ROOM3.cells ROOM3.slots (Q3 Z q0  h0 n0) (s₁.setTop (mkF m 22 #[.val (.long q0), .second] [(.int (0 : Int32))]))
    refine Ends.ret X0 (v := some (.int (nar .boolean (0 : Int32)))) (fun h => by rw [Bd.returns] at h; cases h) Bd.notSynchronized (fun fs hr => retN X0 hx (t := .boolean) Bd.returns (by simp) (hb hby d3_22) hr) ?_ (by decide) (by decide)
    have hfn : fn3 q0 = (0 : Int32) := by simp only [fn3, if_neg hc9]
    exact ⟨by rw [hfn]; rfl, N0, e0⟩
theorem d1_0 : decode method_3_code 0 = .ok (.lload_n 0, 1) := by decide +kernel
theorem d1_1 : decode method_3_code 1 = .ok (.invokestatic 7, 3) := by decide +kernel
theorem d1_4 : decode method_3_code 4 = .ok (.lload_n 0, 1) := by decide +kernel
theorem d1_5 : decode method_3_code 5 = .ok (.invokestatic 13, 3) := by decide +kernel
theorem d1_8 : decode method_3_code 8 = .ok (.if_icmp .ne 7, 3) := by decide +kernel
theorem d1_11 : decode method_3_code 11 = .ok (.iconst 1, 1) := by decide +kernel
theorem d1_12 : decode method_3_code 12 = .ok (.goto 4, 3) := by decide +kernel
theorem d1_15 : decode method_3_code 15 = .ok (.iconst 0, 1) := by decide +kernel
theorem d1_16 : decode method_3_code 16 = .ok (.ireturn, 1) := by decide +kernel
theorem pn_1 : plainName "com/example/sextant/sextant/presentation/PresentationContextIsValidIdentifierPinLaw" = true := by first | (simp [plainName, overriddenIn]; done) | decide +kernel
theorem ef_1 (m : MethodId) (q0 : Int64) : entryFrame m #[(.long q0)] 2 = mkF m 0 #[.val (.long q0), .second] [] := by first | (simp [entryFrame, mkF, argsToLocals, Value.category]; done) | rfl
def fn1 (q0 : Int64) : Int32 := (if (fn2 q0) = (fn3 q0) then (1 : Int32) else (0 : Int32))
abbrev ROOM1 : Room := { frames := 1, cells := 0, slots := 0, locals := 14 }
def Q1 (Z : State) (q0 : Int64)  (h0 : Heap) (n0 : Nat) (v : Option Value) (h : Heap) (L : List Loc) : Prop := v = some (.int (fn1 q0)) ∧ Fr n0 L ∧ h = h0
set_option maxRecDepth 65536 in
set_option maxHeartbeats 40000000 in
theorem rm1 (l : Launch) (Z : State) (a0 : Array Value) (hw : ∀ d ∈ tables_1, d.before a0 Z = true) (ws : List Jvm.Cond) (q0 : Int64)  (h0 : Heap) (n0 : Nat) (Z0 : n0 ≤ h0.size)  :
    MetFree l (⟨"com/example/sextant/sextant/presentation/PresentationContextIsValidIdentifierPinLaw", "agrees", "(J)Z"⟩ : MethodName) (head1 (Jvm.Cond.code (⟨"com/example/sextant/sextant/presentation/PresentationContextIsValidIdentifierPinLaw", "agrees", "(J)Z"⟩ : MethodName) method_3_code 2 (some .boolean) :: ws) ROOM1) (fun a U => a = #[(.long q0)] ∧ Z.Warmed39 U.vm ∧ U.heap = h0) (fun _ _ _ _ _ => True) (fun _ U o U' => ∃ v L, o = .returned v ∧ Q1 Z q0  h0 n0 v U'.heap L ∧ FrameEnd U o U' L ROOM1.cells ROOM1.slots) := by
  refine MetFree.of_bodySF (plainFor_of_name pn_1) hisR ?_
  intro p e s m args below meth c s₁ Bd hml0 hP hK
  obtain ⟨rfl, hZ, hh⟩ := hP
  have hx := Bd.exec
  have hby := Bd.bytes
  have hml : c.maxLocals = 2 := hml0
  have hown : s.vm.findClass "com/example/sextant/sextant/presentation/PresentationContextIsValidIdentifierPinLaw" = some m.cls := findClass_of_methodNamed Bd.named
  have hnm := (name_of_methodNamed Bd.named Bd.method).1
  have X0 : Stand p l e ROOM1 s m #[(.long q0)] below meth c s₁ [] 0 0 := Stand.of_body Bd
  have e0 : s₁.heap = h0 := by rw [← hh, Bd.state]; rfl
  have N0 := Fr.nil n0
  refine Ends.via (A := s₁.setTop (mkF m 0 #[.val (.long q0), .second] [])) (kc := ROOM1.cells) (ks := ROOM1.slots) (Q := (Q1 Z q0  h0 n0)) (fun t k => castTop (ef_1 m q0) k) ?_
  show Ends p e below s ROOM1.cells ROOM1.slots (Q1 Z q0  h0 n0) (s₁.setTop (mkF m 0 #[.val (.long q0), .second] []))
  refine Ends.via (fun _ k => XS.lloadN X0.here hx rfl (hb hby d1_0) rfl k) ?_
  show Ends p e below s ROOM1.cells ROOM1.slots (Q1 Z q0  h0 n0) (s₁.setTop (mkF m 1 #[.val (.long q0), .second] [(.long q0)]))
  obtain ⟨_, _, ⟨T8, L8, k8, n8⟩, -, X8, ⟨Lc8, hQ8, l8, y8, z8⟩, st8⟩ := Jvm.LawKit.callS X0 hx (y := (⟨"com/example/sextant/sextant/presentation/PresentationContext", "isValidIdentifier", "(J)Z"⟩ : MethodName)) hown (mvT hZ (hw _ (List.mem_of_getElem? (i := 8) rfl))) (mvT hZ (hw _ (List.mem_of_getElem? (i := 9) rfl))) (mvT hZ (hw _ (List.mem_of_getElem? (i := 10) rfl))) (mvT hZ (hw _ (List.mem_of_getElem? (i := 11) rfl))) (by decide) (backOf (W := 0) (rm2 l Z a0 hw [] q0 h0 n0 Z0) hZ (hw _ (List.mem_of_getElem? (i := 11) rfl)) (hw _ (List.mem_of_getElem? (i := 10) rfl)) (by decide) (by decide)) (g := (mkF m 1 #[.val (.long q0), .second] [(.long q0)])) rfl (by rw [hml]; rfl) (argsL := [(.long q0)]) (rest := []) (lenOf own_pd0 rfl) rfl (by show 2 * 0 + _ ≤ _; exact Nat.le_of_eq rfl) (hb hby d1_1) (fun _ _ => ⟨rfl, e0, (by decide : 0 + 0 ≤ _), (by decide : 0 + 0 ≤ _)⟩)
  dsimp only [Pt.U, Pt.locs, Pt.cells, Pt.slots] at X8 l8 y8 z8 st8 hQ8
  subst l8 y8 z8
  obtain ⟨rfl, Nq8, e8⟩ := hQ8
  have N8 := Fr.app N0 Nq8
  refine Ends.via st8 ?_
  show Ends p e below s ROOM1.cells ROOM1.slots (Q1 Z q0  h0 n0) (T8.setTop (mkF m 4 #[.val (.long q0), .second] [(.int (fn2 q0))]))
  refine Ends.via (fun _ k => XS.lloadN X8.here hx rfl (hb hby d1_4) rfl k) ?_
  show Ends p e below s ROOM1.cells ROOM1.slots (Q1 Z q0  h0 n0) (T8.setTop (mkF m 5 #[.val (.long q0), .second] [(.long q0), (.int (fn2 q0))]))
  obtain ⟨_, _, ⟨T11, L11, k11, n11⟩, -, X11, ⟨Lc11, hQ11, l11, y11, z11⟩, st11⟩ := Jvm.LawKit.callS X8 hx (y := (⟨"com/example/sextant/sextant/presentation/PresentationContextIsValidIdentifierPinLaw", "expected", "(J)Z"⟩ : MethodName)) hown (mvT hZ (hw _ (List.mem_of_getElem? (i := 14) rfl))) (mvT hZ (hw _ (List.mem_of_getElem? (i := 15) rfl))) (mvT hZ (hw _ (List.mem_of_getElem? (i := 6) rfl))) (mvT hZ (hw _ (List.mem_of_getElem? (i := 16) rfl))) (by decide) (backOf (W := 1) (rm3 l Z a0 hw [] q0 h0 n0 Z0) hZ (hw _ (List.mem_of_getElem? (i := 16) rfl)) (hw _ (List.mem_of_getElem? (i := 6) rfl)) (by decide) (by decide)) (g := (mkF m 5 #[.val (.long q0), .second] [(.long q0), (.int (fn2 q0))])) rfl (by rw [hml]; rfl) (argsL := [(.long q0)]) (rest := [(.int (fn2 q0))]) (lenOf own_pd0 rfl) rfl (by show 2 * 0 + _ ≤ _; exact Nat.le_of_eq rfl) (hb hby d1_5) (fun _ _ => ⟨rfl, e8, (by decide : 0 + 0 ≤ _), (by decide : 0 + 0 ≤ _)⟩)
  dsimp only [Pt.U, Pt.locs, Pt.cells, Pt.slots] at X11 l11 y11 z11 st11 hQ11
  subst l11 y11 z11
  obtain ⟨rfl, Nq11, e11⟩ := hQ11
  have N11 := Fr.app N8 Nq11
  refine Ends.via st11 ?_
  show Ends p e below s ROOM1.cells ROOM1.slots (Q1 Z q0  h0 n0) (T11.setTop (mkF m 8 #[.val (.long q0), .second] [(.int (fn3 q0)), (.int (fn2 q0))]))
  by_cases hc12 : (fn2 q0) = (fn3 q0)
  · refine Ends.via (fun _ k => XS.icmpNo X11.here hx rfl (hb hby d1_8) rfl (teq hc12).2 k) ?_
    show Ends p e below s ROOM1.cells ROOM1.slots (Q1 Z q0  h0 n0) (T11.setTop (mkF m 11 #[.val (.long q0), .second] []))
    refine Ends.via (fun _ k => XS.iconst X11.here hx rfl (hb hby d1_11) k) ?_
    show Ends p e below s ROOM1.cells ROOM1.slots (Q1 Z q0  h0 n0) (T11.setTop (mkF m 12 #[.val (.long q0), .second] [(.int (1 : Int32))]))
    refine Ends.via (fun _ k => XS.goto X11.here hx rfl (pc0 := 12) (pc' := 16) rfl (hb hby d1_12) (by decide) (by decide) k) ?_
    show Ends p e below s ROOM1.cells ROOM1.slots (Q1 Z q0  h0 n0) (T11.setTop (mkF m 16 #[.val (.long q0), .second] [(.int (1 : Int32))]))
    refine Ends.ret X11 (v := some (.int (nar .boolean (1 : Int32)))) (fun h => by rw [Bd.returns] at h; cases h) Bd.notSynchronized (fun fs hr => retN X11 hx (t := .boolean) Bd.returns (by simp) (hb hby d1_16) hr) ?_ (by decide) (by decide)
    have hfn : fn1 q0 = (1 : Int32) := by simp only [fn1, if_pos hc12]
    exact ⟨by rw [hfn]; rfl, N11, e11⟩
  · refine Ends.via (fun _ k => XS.icmpYes X11.here hx rfl (pc0 := 8) (pc' := 15) rfl (hb hby d1_8) rfl (feq hc12).2 (by decide) (by decide) k) ?_
    show Ends p e below s ROOM1.cells ROOM1.slots (Q1 Z q0  h0 n0) (T11.setTop (mkF m 15 #[.val (.long q0), .second] []))
    refine Ends.via (fun _ k => XS.iconst X11.here hx rfl (hb hby d1_15) k) ?_
    show Ends p e below s ROOM1.cells ROOM1.slots (Q1 Z q0  h0 n0) (T11.setTop (mkF m 16 #[.val (.long q0), .second] [(.int (0 : Int32))]))
    refine Ends.ret X11 (v := some (.int (nar .boolean (0 : Int32)))) (fun h => by rw [Bd.returns] at h; cases h) Bd.notSynchronized (fun fs hr => retN X11 hx (t := .boolean) Bd.returns (by simp) (hb hby d1_16) hr) ?_ (by decide) (by decide)
    have hfn : fn1 q0 = (0 : Int32) := by simp only [fn1, if_neg hc12]
    exact ⟨by rw [hfn]; rfl, N11, e11⟩
theorem own_ok (x : Int64) : fn1 x = 1 := by
  have key : fn2 x = fn3 x := by
    have e0 : (0 : Int64).toInt = 0 := rfl
    have e1 : (1 : Int64).toInt = 1 := rfl
    have e2 : (32767 : Int64).toInt = 32767 := rfl
    have h1 := c_lushr x 15 15 (by decide) (by decide)
    have h2 := c_maskL x 1 1 (by decide) (by decide)
    have h3 := c_lrem x 2 2 rfl
    have r := rng64 x
    simp only [fn2, fn3, Int64.lt_iff_toInt_lt, ← Int64.toInt_inj, e0, e1, e2, h1, h2]
    repeat' split
    all_goals first | rfl | (exfalso; omega)
  simp only [fn1, key, if_pos]
theorem own_leaf1 (q0 : Int64) (p1 : Int32) (v1 : Int64) (v2 : Int64) (v3 : Int64) (v4 : Int64) (hv1 : (((p1 &&& (15 : Int32)).toInt64) - (8 : Int64)) = v1) (hv2 : ((32767 : Int64) + v1) = v2) (hv3 : ((-9223372036854775808 : Int64) + ((p1 &&& (7 : Int32)).toInt64)) = v3) (hv4 : ((9223372036854775807 : Int64) - ((p1 &&& (7 : Int32)).toInt64)) = v4) (hc14 : (fn1 q0) = (0 : Int32)) : False := by
    rw [own_ok] at hc14; exact absurd hc14 (by decide)
theorem own_leaf2 (q0 : Int64) (p1 : Int32) (v1 : Int64) (v2 : Int64) (v3 : Int64) (v4 : Int64) (hv1 : (((p1 &&& (15 : Int32)).toInt64) - (8 : Int64)) = v1) (hv2 : ((32767 : Int64) + v1) = v2) (hv3 : ((-9223372036854775808 : Int64) + ((p1 &&& (7 : Int32)).toInt64)) = v3) (hv4 : ((9223372036854775807 : Int64) - ((p1 &&& (7 : Int32)).toInt64)) = v4) (hc14 : ¬ ((fn1 q0) = (0 : Int32))) (hc16 : (fn1 v2) = (0 : Int32)) : False := by
    rw [own_ok] at hc16; exact absurd hc16 (by decide)
theorem own_leaf3 (q0 : Int64) (p1 : Int32) (v1 : Int64) (v2 : Int64) (v3 : Int64) (v4 : Int64) (hv1 : (((p1 &&& (15 : Int32)).toInt64) - (8 : Int64)) = v1) (hv2 : ((32767 : Int64) + v1) = v2) (hv3 : ((-9223372036854775808 : Int64) + ((p1 &&& (7 : Int32)).toInt64)) = v3) (hv4 : ((9223372036854775807 : Int64) - ((p1 &&& (7 : Int32)).toInt64)) = v4) (hc14 : ¬ ((fn1 q0) = (0 : Int32))) (hc16 : ¬ ((fn1 v2) = (0 : Int32))) (hc18 : (fn1 v1) = (0 : Int32)) : False := by
    rw [own_ok] at hc18; exact absurd hc18 (by decide)
theorem own_leaf4 (q0 : Int64) (p1 : Int32) (v1 : Int64) (v2 : Int64) (v3 : Int64) (v4 : Int64) (hv1 : (((p1 &&& (15 : Int32)).toInt64) - (8 : Int64)) = v1) (hv2 : ((32767 : Int64) + v1) = v2) (hv3 : ((-9223372036854775808 : Int64) + ((p1 &&& (7 : Int32)).toInt64)) = v3) (hv4 : ((9223372036854775807 : Int64) - ((p1 &&& (7 : Int32)).toInt64)) = v4) (hc14 : ¬ ((fn1 q0) = (0 : Int32))) (hc16 : ¬ ((fn1 v2) = (0 : Int32))) (hc18 : ¬ ((fn1 v1) = (0 : Int32))) (hc20 : (fn1 v3) = (0 : Int32)) : False := by
    rw [own_ok] at hc20; exact absurd hc20 (by decide)
theorem own_leaf5 (q0 : Int64) (p1 : Int32) (v1 : Int64) (v2 : Int64) (v3 : Int64) (v4 : Int64) (hv1 : (((p1 &&& (15 : Int32)).toInt64) - (8 : Int64)) = v1) (hv2 : ((32767 : Int64) + v1) = v2) (hv3 : ((-9223372036854775808 : Int64) + ((p1 &&& (7 : Int32)).toInt64)) = v3) (hv4 : ((9223372036854775807 : Int64) - ((p1 &&& (7 : Int32)).toInt64)) = v4) (hc14 : ¬ ((fn1 q0) = (0 : Int32))) (hc16 : ¬ ((fn1 v2) = (0 : Int32))) (hc18 : ¬ ((fn1 v1) = (0 : Int32))) (hc20 : ¬ ((fn1 v3) = (0 : Int32))) (hc22 : (fn1 v4) = (0 : Int32)) : False := by
    rw [own_ok] at hc22; exact absurd hc22 (by decide)
theorem pn_0 : plainName "com/example/sextant/sextant/presentation/PresentationContextIsValidIdentifierPinLaw" = true := by first | (simp [plainName, overriddenIn]; done) | decide +kernel
theorem ef_0 (m : MethodId) (q0 : Int64) (p1 : Int32) : entryFrame m #[(.long q0), (.int p1)] maxLocals = mkF m 0 #[.val (.long q0), .second, .val (.int p1), .unset, .unset, .unset, .unset, .unset, .unset, .unset, .unset, .unset, .unset] [] := by first | (simp [entryFrame, mkF, argsToLocals, Value.category, maxLocals]; done) | rfl
def Q0 (Z : State) (q0 : Int64) (p1 : Int32)  (h0 : Heap) (n0 : Nat) (v : Option Value) (h : Heap) (L : List Loc) : Prop := v = some (.int 1) ∧ Fr n0 L
set_option maxRecDepth 65536 in
set_option maxHeartbeats 40000000 in
theorem rm0 (l : Launch) (Z : State) (a0 : Array Value) (hw : ∀ d ∈ tables_1, d.before a0 Z = true) (ws : List Jvm.Cond) (q0 : Int64) (p1 : Int32)  (h0 : Heap) (n0 : Nat) (Z0 : n0 ≤ h0.size)  :
    MetFree l x (head1 (Jvm.Cond.code x code maxLocals ret :: ws) room_1) (fun a U => a = #[(.long q0), (.int p1)] ∧ Z.Warmed39 U.vm ∧ U.heap = h0) (fun _ _ _ _ _ => True) (fun _ U o U' => ∃ v L, o = .returned v ∧ Q0 Z q0 p1  h0 n0 v U'.heap L ∧ FrameEnd U o U' L 0 0) := by
  refine MetFree.of_bodySF (plainFor_of_name pn_0) hisR ?_
  intro p e s m args below meth c s₁ Bd hml0 hP hK
  obtain ⟨rfl, hZ, hh⟩ := hP
  have hx := Bd.exec
  have hby := Bd.bytes
  have hml : c.maxLocals = 13 := hml0
  have hown : s.vm.findClass "com/example/sextant/sextant/presentation/PresentationContextIsValidIdentifierPinLaw" = some m.cls := findClass_of_methodNamed Bd.named
  have hnm := (name_of_methodNamed Bd.named Bd.method).1
  have X0 : Stand p l e room_1 s m #[(.long q0), (.int p1)] below meth c s₁ [] 0 0 := Stand.of_body Bd
  have e0 : s₁.heap = h0 := by rw [← hh, Bd.state]; rfl
  have N0 := Fr.nil n0
  refine Ends.via (A := s₁.setTop (mkF m 0 #[.val (.long q0), .second, .val (.int p1), .unset, .unset, .unset, .unset, .unset, .unset, .unset, .unset, .unset, .unset] [])) (kc := 0) (ks := 0) (Q := (Q0 Z q0 p1  h0 n0)) (fun t k => castTop (ef_0 m q0 p1) k) ?_
  show Ends p e below s 0 0 (Q0 Z q0 p1  h0 n0) (s₁.setTop (mkF m 0 #[.val (.long q0), .second, .val (.int p1), .unset, .unset, .unset, .unset, .unset, .unset, .unset, .unset, .unset, .unset] []))
  refine Ends.via (fun _ k => XS.iloadN X0.here hx rfl (hb hby at_0) rfl k) ?_
  show Ends p e below s 0 0 (Q0 Z q0 p1  h0 n0) (s₁.setTop (mkF m 1 #[.val (.long q0), .second, .val (.int p1), .unset, .unset, .unset, .unset, .unset, .unset, .unset, .unset, .unset, .unset] [(.int p1)]))
  refine Ends.via (fun _ k => XS.bipush X0.here hx rfl (hb hby at_1) k) ?_
  show Ends p e below s 0 0 (Q0 Z q0 p1  h0 n0) (s₁.setTop (mkF m 3 #[.val (.long q0), .second, .val (.int p1), .unset, .unset, .unset, .unset, .unset, .unset, .unset, .unset, .unset, .unset] [(.int (15 : Int32)), (.int p1)]))
  refine Ends.via (fun _ k => XS.iand X0.here hx rfl (hb hby at_3) rfl k) ?_
  show Ends p e below s 0 0 (Q0 Z q0 p1  h0 n0) (s₁.setTop (mkF m 4 #[.val (.long q0), .second, .val (.int p1), .unset, .unset, .unset, .unset, .unset, .unset, .unset, .unset, .unset, .unset] [(.int (p1 &&& (15 : Int32)))]))
  refine Ends.via (fun _ k => XS.i2l X0.here hx rfl (hb hby at_4) rfl k) ?_
  show Ends p e below s 0 0 (Q0 Z q0 p1  h0 n0) (s₁.setTop (mkF m 5 #[.val (.long q0), .second, .val (.int p1), .unset, .unset, .unset, .unset, .unset, .unset, .unset, .unset, .unset, .unset] [(.long ((p1 &&& (15 : Int32)).toInt64))]))
  refine Ends.via (X0.ldc2Long hx hown (mvT hZ (hw _ (List.mem_of_getElem? (i := 0) rfl))) (g := (mkF m 5 #[.val (.long q0), .second, .val (.int p1), .unset, .unset, .unset, .unset, .unset, .unset, .unset, .unset, .unset, .unset] [(.long ((p1 &&& (15 : Int32)).toInt64))])) rfl (hb hby at_5)) ?_
  show Ends p e below s 0 0 (Q0 Z q0 p1  h0 n0) (s₁.setTop (mkF m 8 #[.val (.long q0), .second, .val (.int p1), .unset, .unset, .unset, .unset, .unset, .unset, .unset, .unset, .unset, .unset] [(.long (8 : Int64)), (.long ((p1 &&& (15 : Int32)).toInt64))]))
  refine Ends.via (fun _ k => XS.lsub X0.here hx rfl (hb hby at_8) rfl k) ?_
  show Ends p e below s 0 0 (Q0 Z q0 p1  h0 n0) (s₁.setTop (mkF m 9 #[.val (.long q0), .second, .val (.int p1), .unset, .unset, .unset, .unset, .unset, .unset, .unset, .unset, .unset, .unset] [(.long (((p1 &&& (15 : Int32)).toInt64) - (8 : Int64)))]))
  refine Ends.via (fun _ k => XS.lstoreN X0.here hx rfl (hb hby at_9) rfl (l' := #[.val (.long q0), .second, .val (.int p1), .val (.long (((p1 &&& (15 : Int32)).toInt64) - (8 : Int64))), .second, .unset, .unset, .unset, .unset, .unset, .unset, .unset, .unset]) rfl k) ?_
  show Ends p e below s 0 0 (Q0 Z q0 p1  h0 n0) (s₁.setTop (mkF m 10 #[.val (.long q0), .second, .val (.int p1), .val (.long (((p1 &&& (15 : Int32)).toInt64) - (8 : Int64))), .second, .unset, .unset, .unset, .unset, .unset, .unset, .unset, .unset] []))
  generalize hv1 : (((p1 &&& (15 : Int32)).toInt64) - (8 : Int64)) = v1
  refine Ends.via (X0.ldc2Long hx hown (mvT hZ (hw _ (List.mem_of_getElem? (i := 1) rfl))) (g := (mkF m 10 #[.val (.long q0), .second, .val (.int p1), .val (.long v1), .second, .unset, .unset, .unset, .unset, .unset, .unset, .unset, .unset] [])) rfl (hb hby at_10)) ?_
  show Ends p e below s 0 0 (Q0 Z q0 p1  h0 n0) (s₁.setTop (mkF m 13 #[.val (.long q0), .second, .val (.int p1), .val (.long v1), .second, .unset, .unset, .unset, .unset, .unset, .unset, .unset, .unset] [(.long (32767 : Int64))]))
  refine Ends.via (fun _ k => XS.lloadN X0.here hx rfl (hb hby at_13) rfl k) ?_
  show Ends p e below s 0 0 (Q0 Z q0 p1  h0 n0) (s₁.setTop (mkF m 14 #[.val (.long q0), .second, .val (.int p1), .val (.long v1), .second, .unset, .unset, .unset, .unset, .unset, .unset, .unset, .unset] [(.long v1), (.long (32767 : Int64))]))
  refine Ends.via (fun _ k => XS.ladd X0.here hx rfl (hb hby at_14) rfl k) ?_
  show Ends p e below s 0 0 (Q0 Z q0 p1  h0 n0) (s₁.setTop (mkF m 15 #[.val (.long q0), .second, .val (.int p1), .val (.long v1), .second, .unset, .unset, .unset, .unset, .unset, .unset, .unset, .unset] [(.long ((32767 : Int64) + v1))]))
  refine Ends.via (fun _ k => XS.lstore X0.here hx rfl (hb hby at_15) rfl (l' := #[.val (.long q0), .second, .val (.int p1), .val (.long v1), .second, .val (.long ((32767 : Int64) + v1)), .second, .unset, .unset, .unset, .unset, .unset, .unset]) rfl k) ?_
  show Ends p e below s 0 0 (Q0 Z q0 p1  h0 n0) (s₁.setTop (mkF m 17 #[.val (.long q0), .second, .val (.int p1), .val (.long v1), .second, .val (.long ((32767 : Int64) + v1)), .second, .unset, .unset, .unset, .unset, .unset, .unset] []))
  generalize hv2 : ((32767 : Int64) + v1) = v2
  refine Ends.via (fun _ k => XS.lloadN X0.here hx rfl (hb hby at_17) rfl k) ?_
  show Ends p e below s 0 0 (Q0 Z q0 p1  h0 n0) (s₁.setTop (mkF m 18 #[.val (.long q0), .second, .val (.int p1), .val (.long v1), .second, .val (.long v2), .second, .unset, .unset, .unset, .unset, .unset, .unset] [(.long v1)]))
  refine Ends.via (fun _ k => XS.lstore X0.here hx rfl (hb hby at_18) rfl (l' := #[.val (.long q0), .second, .val (.int p1), .val (.long v1), .second, .val (.long v2), .second, .val (.long v1), .second, .unset, .unset, .unset, .unset]) rfl k) ?_
  show Ends p e below s 0 0 (Q0 Z q0 p1  h0 n0) (s₁.setTop (mkF m 20 #[.val (.long q0), .second, .val (.int p1), .val (.long v1), .second, .val (.long v2), .second, .val (.long v1), .second, .unset, .unset, .unset, .unset] []))
  refine Ends.via (X0.ldc2Long hx hown (mvT hZ (hw _ (List.mem_of_getElem? (i := 2) rfl))) (g := (mkF m 20 #[.val (.long q0), .second, .val (.int p1), .val (.long v1), .second, .val (.long v2), .second, .val (.long v1), .second, .unset, .unset, .unset, .unset] [])) rfl (hb hby at_20)) ?_
  show Ends p e below s 0 0 (Q0 Z q0 p1  h0 n0) (s₁.setTop (mkF m 23 #[.val (.long q0), .second, .val (.int p1), .val (.long v1), .second, .val (.long v2), .second, .val (.long v1), .second, .unset, .unset, .unset, .unset] [(.long (-9223372036854775808 : Int64))]))
  refine Ends.via (fun _ k => XS.iloadN X0.here hx rfl (hb hby at_23) rfl k) ?_
  show Ends p e below s 0 0 (Q0 Z q0 p1  h0 n0) (s₁.setTop (mkF m 24 #[.val (.long q0), .second, .val (.int p1), .val (.long v1), .second, .val (.long v2), .second, .val (.long v1), .second, .unset, .unset, .unset, .unset] [(.int p1), (.long (-9223372036854775808 : Int64))]))
  refine Ends.via (fun _ k => XS.bipush X0.here hx rfl (hb hby at_24) k) ?_
  show Ends p e below s 0 0 (Q0 Z q0 p1  h0 n0) (s₁.setTop (mkF m 26 #[.val (.long q0), .second, .val (.int p1), .val (.long v1), .second, .val (.long v2), .second, .val (.long v1), .second, .unset, .unset, .unset, .unset] [(.int (7 : Int32)), (.int p1), (.long (-9223372036854775808 : Int64))]))
  refine Ends.via (fun _ k => XS.iand X0.here hx rfl (hb hby at_26) rfl k) ?_
  show Ends p e below s 0 0 (Q0 Z q0 p1  h0 n0) (s₁.setTop (mkF m 27 #[.val (.long q0), .second, .val (.int p1), .val (.long v1), .second, .val (.long v2), .second, .val (.long v1), .second, .unset, .unset, .unset, .unset] [(.int (p1 &&& (7 : Int32))), (.long (-9223372036854775808 : Int64))]))
  refine Ends.via (fun _ k => XS.i2l X0.here hx rfl (hb hby at_27) rfl k) ?_
  show Ends p e below s 0 0 (Q0 Z q0 p1  h0 n0) (s₁.setTop (mkF m 28 #[.val (.long q0), .second, .val (.int p1), .val (.long v1), .second, .val (.long v2), .second, .val (.long v1), .second, .unset, .unset, .unset, .unset] [(.long ((p1 &&& (7 : Int32)).toInt64)), (.long (-9223372036854775808 : Int64))]))
  refine Ends.via (fun _ k => XS.ladd X0.here hx rfl (hb hby at_28) rfl k) ?_
  show Ends p e below s 0 0 (Q0 Z q0 p1  h0 n0) (s₁.setTop (mkF m 29 #[.val (.long q0), .second, .val (.int p1), .val (.long v1), .second, .val (.long v2), .second, .val (.long v1), .second, .unset, .unset, .unset, .unset] [(.long ((-9223372036854775808 : Int64) + ((p1 &&& (7 : Int32)).toInt64)))]))
  refine Ends.via (fun _ k => XS.lstore X0.here hx rfl (hb hby at_29) rfl (l' := #[.val (.long q0), .second, .val (.int p1), .val (.long v1), .second, .val (.long v2), .second, .val (.long v1), .second, .val (.long ((-9223372036854775808 : Int64) + ((p1 &&& (7 : Int32)).toInt64))), .second, .unset, .unset]) rfl k) ?_
  show Ends p e below s 0 0 (Q0 Z q0 p1  h0 n0) (s₁.setTop (mkF m 31 #[.val (.long q0), .second, .val (.int p1), .val (.long v1), .second, .val (.long v2), .second, .val (.long v1), .second, .val (.long ((-9223372036854775808 : Int64) + ((p1 &&& (7 : Int32)).toInt64))), .second, .unset, .unset] []))
  generalize hv3 : ((-9223372036854775808 : Int64) + ((p1 &&& (7 : Int32)).toInt64)) = v3
  refine Ends.via (X0.ldc2Long hx hown (mvT hZ (hw _ (List.mem_of_getElem? (i := 3) rfl))) (g := (mkF m 31 #[.val (.long q0), .second, .val (.int p1), .val (.long v1), .second, .val (.long v2), .second, .val (.long v1), .second, .val (.long v3), .second, .unset, .unset] [])) rfl (hb hby at_31)) ?_
  show Ends p e below s 0 0 (Q0 Z q0 p1  h0 n0) (s₁.setTop (mkF m 34 #[.val (.long q0), .second, .val (.int p1), .val (.long v1), .second, .val (.long v2), .second, .val (.long v1), .second, .val (.long v3), .second, .unset, .unset] [(.long (9223372036854775807 : Int64))]))
  refine Ends.via (fun _ k => XS.iloadN X0.here hx rfl (hb hby at_34) rfl k) ?_
  show Ends p e below s 0 0 (Q0 Z q0 p1  h0 n0) (s₁.setTop (mkF m 35 #[.val (.long q0), .second, .val (.int p1), .val (.long v1), .second, .val (.long v2), .second, .val (.long v1), .second, .val (.long v3), .second, .unset, .unset] [(.int p1), (.long (9223372036854775807 : Int64))]))
  refine Ends.via (fun _ k => XS.bipush X0.here hx rfl (hb hby at_35) k) ?_
  show Ends p e below s 0 0 (Q0 Z q0 p1  h0 n0) (s₁.setTop (mkF m 37 #[.val (.long q0), .second, .val (.int p1), .val (.long v1), .second, .val (.long v2), .second, .val (.long v1), .second, .val (.long v3), .second, .unset, .unset] [(.int (7 : Int32)), (.int p1), (.long (9223372036854775807 : Int64))]))
  refine Ends.via (fun _ k => XS.iand X0.here hx rfl (hb hby at_37) rfl k) ?_
  show Ends p e below s 0 0 (Q0 Z q0 p1  h0 n0) (s₁.setTop (mkF m 38 #[.val (.long q0), .second, .val (.int p1), .val (.long v1), .second, .val (.long v2), .second, .val (.long v1), .second, .val (.long v3), .second, .unset, .unset] [(.int (p1 &&& (7 : Int32))), (.long (9223372036854775807 : Int64))]))
  refine Ends.via (fun _ k => XS.i2l X0.here hx rfl (hb hby at_38) rfl k) ?_
  show Ends p e below s 0 0 (Q0 Z q0 p1  h0 n0) (s₁.setTop (mkF m 39 #[.val (.long q0), .second, .val (.int p1), .val (.long v1), .second, .val (.long v2), .second, .val (.long v1), .second, .val (.long v3), .second, .unset, .unset] [(.long ((p1 &&& (7 : Int32)).toInt64)), (.long (9223372036854775807 : Int64))]))
  refine Ends.via (fun _ k => XS.lsub X0.here hx rfl (hb hby at_39) rfl k) ?_
  show Ends p e below s 0 0 (Q0 Z q0 p1  h0 n0) (s₁.setTop (mkF m 40 #[.val (.long q0), .second, .val (.int p1), .val (.long v1), .second, .val (.long v2), .second, .val (.long v1), .second, .val (.long v3), .second, .unset, .unset] [(.long ((9223372036854775807 : Int64) - ((p1 &&& (7 : Int32)).toInt64)))]))
  refine Ends.via (fun _ k => XS.lstore X0.here hx rfl (hb hby at_40) rfl (l' := #[.val (.long q0), .second, .val (.int p1), .val (.long v1), .second, .val (.long v2), .second, .val (.long v1), .second, .val (.long v3), .second, .val (.long ((9223372036854775807 : Int64) - ((p1 &&& (7 : Int32)).toInt64))), .second]) rfl k) ?_
  show Ends p e below s 0 0 (Q0 Z q0 p1  h0 n0) (s₁.setTop (mkF m 42 #[.val (.long q0), .second, .val (.int p1), .val (.long v1), .second, .val (.long v2), .second, .val (.long v1), .second, .val (.long v3), .second, .val (.long ((9223372036854775807 : Int64) - ((p1 &&& (7 : Int32)).toInt64))), .second] []))
  generalize hv4 : ((9223372036854775807 : Int64) - ((p1 &&& (7 : Int32)).toInt64)) = v4
  refine Ends.via (fun _ k => XS.lloadN X0.here hx rfl (hb hby at_42) rfl k) ?_
  show Ends p e below s 0 0 (Q0 Z q0 p1  h0 n0) (s₁.setTop (mkF m 43 #[.val (.long q0), .second, .val (.int p1), .val (.long v1), .second, .val (.long v2), .second, .val (.long v1), .second, .val (.long v3), .second, .val (.long v4), .second] [(.long q0)]))
  obtain ⟨_, _, ⟨T13, L13, k13, n13⟩, -, X13, ⟨Lc13, hQ13, l13, y13, z13⟩, st13⟩ := Jvm.LawKit.callS X0 hx (y := (⟨"com/example/sextant/sextant/presentation/PresentationContextIsValidIdentifierPinLaw", "agrees", "(J)Z"⟩ : MethodName)) hown (mvT hZ (hw _ (List.mem_of_getElem? (i := 4) rfl))) (mvT hZ (hw _ (List.mem_of_getElem? (i := 5) rfl))) (mvT hZ (hw _ (List.mem_of_getElem? (i := 6) rfl))) (mvT hZ (hw _ (List.mem_of_getElem? (i := 7) rfl))) (by decide) (backOf (W := 0) (rm1 l Z a0 hw [] q0 h0 n0 Z0) hZ (hw _ (List.mem_of_getElem? (i := 7) rfl)) (hw _ (List.mem_of_getElem? (i := 6) rfl)) (by decide) (by decide)) (g := (mkF m 43 #[.val (.long q0), .second, .val (.int p1), .val (.long v1), .second, .val (.long v2), .second, .val (.long v1), .second, .val (.long v3), .second, .val (.long v4), .second] [(.long q0)])) rfl (by rw [hml]; rfl) (argsL := [(.long q0)]) (rest := []) (lenOf own_pd0 rfl) rfl (by show 2 * 0 + _ ≤ _; exact Nat.le_of_eq rfl) (hb hby at_43) (fun _ _ => ⟨rfl, e0, (by decide : 0 + 0 ≤ _), (by decide : 0 + 0 ≤ _)⟩)
  dsimp only [Pt.U, Pt.locs, Pt.cells, Pt.slots] at X13 l13 y13 z13 st13 hQ13
  subst l13 y13 z13
  obtain ⟨rfl, Nq13, e13⟩ := hQ13
  have N13 := Fr.app N0 Nq13
  refine Ends.via st13 ?_
  show Ends p e below s 0 0 (Q0 Z q0 p1  h0 n0) (T13.setTop (mkF m 46 #[.val (.long q0), .second, .val (.int p1), .val (.long v1), .second, .val (.long v2), .second, .val (.long v1), .second, .val (.long v3), .second, .val (.long v4), .second] [(.int (fn1 q0))]))
  by_cases hc14 : (fn1 q0) = (0 : Int32)
  · refine Ends.via (fun _ k => XS.ifYes X13.here hx rfl (pc0 := 46) (pc' := 85) rfl (hb hby at_46) rfl ((if0 _ _).trans (teq hc14).1) (by decide) (by decide) k) ?_
    show Ends p e below s 0 0 (Q0 Z q0 p1  h0 n0) (T13.setTop (mkF m 85 #[.val (.long q0), .second, .val (.int p1), .val (.long v1), .second, .val (.long v2), .second, .val (.long v1), .second, .val (.long v3), .second, .val (.long v4), .second] []))
    refine Ends.via (fun _ k => XS.iconst X13.here hx rfl (hb hby at_85) k) ?_
    show Ends p e below s 0 0 (Q0 Z q0 p1  h0 n0) (T13.setTop (mkF m 86 #[.val (.long q0), .second, .val (.int p1), .val (.long v1), .second, .val (.long v2), .second, .val (.long v1), .second, .val (.long v3), .second, .val (.long v4), .second] [(.int (0 : Int32))]))
    refine Ends.ret X13 (v := some (.int (nar .boolean (0 : Int32)))) (fun h => by rw [Bd.returns] at h; cases h) Bd.notSynchronized (fun fs hr => retN X13 hx (t := .boolean) Bd.returns (by simp) (hb hby at_86) hr) ?_ (by decide) (by decide)
    exact absurd (own_leaf1 q0 p1 v1 v2 v3 v4 hv1 hv2 hv3 hv4 hc14) id
  · refine Ends.via (fun _ k => XS.ifNo X13.here hx rfl (hb hby at_46) rfl ((if0 _ _).trans (feq hc14).1) k) ?_
    show Ends p e below s 0 0 (Q0 Z q0 p1  h0 n0) (T13.setTop (mkF m 49 #[.val (.long q0), .second, .val (.int p1), .val (.long v1), .second, .val (.long v2), .second, .val (.long v1), .second, .val (.long v3), .second, .val (.long v4), .second] []))
    refine Ends.via (fun _ k => XS.lload X13.here hx rfl (hb hby at_49) rfl k) ?_
    show Ends p e below s 0 0 (Q0 Z q0 p1  h0 n0) (T13.setTop (mkF m 51 #[.val (.long q0), .second, .val (.int p1), .val (.long v1), .second, .val (.long v2), .second, .val (.long v1), .second, .val (.long v3), .second, .val (.long v4), .second] [(.long v2)]))
    obtain ⟨_, _, ⟨T15, L15, k15, n15⟩, -, X15, ⟨Lc15, hQ15, l15, y15, z15⟩, st15⟩ := Jvm.LawKit.callS X13 hx (y := (⟨"com/example/sextant/sextant/presentation/PresentationContextIsValidIdentifierPinLaw", "agrees", "(J)Z"⟩ : MethodName)) hown (mvT hZ (hw _ (List.mem_of_getElem? (i := 4) rfl))) (mvT hZ (hw _ (List.mem_of_getElem? (i := 5) rfl))) (mvT hZ (hw _ (List.mem_of_getElem? (i := 6) rfl))) (mvT hZ (hw _ (List.mem_of_getElem? (i := 7) rfl))) (by decide) (backOf (W := 0) (rm1 l Z a0 hw [] v2 h0 n0 Z0) hZ (hw _ (List.mem_of_getElem? (i := 7) rfl)) (hw _ (List.mem_of_getElem? (i := 6) rfl)) (by decide) (by decide)) (g := (mkF m 51 #[.val (.long q0), .second, .val (.int p1), .val (.long v1), .second, .val (.long v2), .second, .val (.long v1), .second, .val (.long v3), .second, .val (.long v4), .second] [(.long v2)])) rfl (by rw [hml]; rfl) (argsL := [(.long v2)]) (rest := []) (lenOf own_pd0 rfl) rfl (by show 2 * 0 + _ ≤ _; exact Nat.le_of_eq rfl) (hb hby at_51) (fun _ _ => ⟨rfl, e13, (by decide : 0 + 0 ≤ _), (by decide : 0 + 0 ≤ _)⟩)
    dsimp only [Pt.U, Pt.locs, Pt.cells, Pt.slots] at X15 l15 y15 z15 st15 hQ15
    subst l15 y15 z15
    obtain ⟨rfl, Nq15, e15⟩ := hQ15
    have N15 := Fr.app N13 Nq15
    refine Ends.via st15 ?_
    show Ends p e below s 0 0 (Q0 Z q0 p1  h0 n0) (T15.setTop (mkF m 54 #[.val (.long q0), .second, .val (.int p1), .val (.long v1), .second, .val (.long v2), .second, .val (.long v1), .second, .val (.long v3), .second, .val (.long v4), .second] [(.int (fn1 v2))]))
    by_cases hc16 : (fn1 v2) = (0 : Int32)
    · refine Ends.via (fun _ k => XS.ifYes X15.here hx rfl (pc0 := 54) (pc' := 85) rfl (hb hby at_54) rfl ((if0 _ _).trans (teq hc16).1) (by decide) (by decide) k) ?_
      show Ends p e below s 0 0 (Q0 Z q0 p1  h0 n0) (T15.setTop (mkF m 85 #[.val (.long q0), .second, .val (.int p1), .val (.long v1), .second, .val (.long v2), .second, .val (.long v1), .second, .val (.long v3), .second, .val (.long v4), .second] []))
      refine Ends.via (fun _ k => XS.iconst X15.here hx rfl (hb hby at_85) k) ?_
      show Ends p e below s 0 0 (Q0 Z q0 p1  h0 n0) (T15.setTop (mkF m 86 #[.val (.long q0), .second, .val (.int p1), .val (.long v1), .second, .val (.long v2), .second, .val (.long v1), .second, .val (.long v3), .second, .val (.long v4), .second] [(.int (0 : Int32))]))
      refine Ends.ret X15 (v := some (.int (nar .boolean (0 : Int32)))) (fun h => by rw [Bd.returns] at h; cases h) Bd.notSynchronized (fun fs hr => retN X15 hx (t := .boolean) Bd.returns (by simp) (hb hby at_86) hr) ?_ (by decide) (by decide)
      exact absurd (own_leaf2 q0 p1 v1 v2 v3 v4 hv1 hv2 hv3 hv4 hc14 hc16) id
    · refine Ends.via (fun _ k => XS.ifNo X15.here hx rfl (hb hby at_54) rfl ((if0 _ _).trans (feq hc16).1) k) ?_
      show Ends p e below s 0 0 (Q0 Z q0 p1  h0 n0) (T15.setTop (mkF m 57 #[.val (.long q0), .second, .val (.int p1), .val (.long v1), .second, .val (.long v2), .second, .val (.long v1), .second, .val (.long v3), .second, .val (.long v4), .second] []))
      refine Ends.via (fun _ k => XS.lload X15.here hx rfl (hb hby at_57) rfl k) ?_
      show Ends p e below s 0 0 (Q0 Z q0 p1  h0 n0) (T15.setTop (mkF m 59 #[.val (.long q0), .second, .val (.int p1), .val (.long v1), .second, .val (.long v2), .second, .val (.long v1), .second, .val (.long v3), .second, .val (.long v4), .second] [(.long v1)]))
      obtain ⟨_, _, ⟨T17, L17, k17, n17⟩, -, X17, ⟨Lc17, hQ17, l17, y17, z17⟩, st17⟩ := Jvm.LawKit.callS X15 hx (y := (⟨"com/example/sextant/sextant/presentation/PresentationContextIsValidIdentifierPinLaw", "agrees", "(J)Z"⟩ : MethodName)) hown (mvT hZ (hw _ (List.mem_of_getElem? (i := 4) rfl))) (mvT hZ (hw _ (List.mem_of_getElem? (i := 5) rfl))) (mvT hZ (hw _ (List.mem_of_getElem? (i := 6) rfl))) (mvT hZ (hw _ (List.mem_of_getElem? (i := 7) rfl))) (by decide) (backOf (W := 0) (rm1 l Z a0 hw [] v1 h0 n0 Z0) hZ (hw _ (List.mem_of_getElem? (i := 7) rfl)) (hw _ (List.mem_of_getElem? (i := 6) rfl)) (by decide) (by decide)) (g := (mkF m 59 #[.val (.long q0), .second, .val (.int p1), .val (.long v1), .second, .val (.long v2), .second, .val (.long v1), .second, .val (.long v3), .second, .val (.long v4), .second] [(.long v1)])) rfl (by rw [hml]; rfl) (argsL := [(.long v1)]) (rest := []) (lenOf own_pd0 rfl) rfl (by show 2 * 0 + _ ≤ _; exact Nat.le_of_eq rfl) (hb hby at_59) (fun _ _ => ⟨rfl, e15, (by decide : 0 + 0 ≤ _), (by decide : 0 + 0 ≤ _)⟩)
      dsimp only [Pt.U, Pt.locs, Pt.cells, Pt.slots] at X17 l17 y17 z17 st17 hQ17
      subst l17 y17 z17
      obtain ⟨rfl, Nq17, e17⟩ := hQ17
      have N17 := Fr.app N15 Nq17
      refine Ends.via st17 ?_
      show Ends p e below s 0 0 (Q0 Z q0 p1  h0 n0) (T17.setTop (mkF m 62 #[.val (.long q0), .second, .val (.int p1), .val (.long v1), .second, .val (.long v2), .second, .val (.long v1), .second, .val (.long v3), .second, .val (.long v4), .second] [(.int (fn1 v1))]))
      by_cases hc18 : (fn1 v1) = (0 : Int32)
      · refine Ends.via (fun _ k => XS.ifYes X17.here hx rfl (pc0 := 62) (pc' := 85) rfl (hb hby at_62) rfl ((if0 _ _).trans (teq hc18).1) (by decide) (by decide) k) ?_
        show Ends p e below s 0 0 (Q0 Z q0 p1  h0 n0) (T17.setTop (mkF m 85 #[.val (.long q0), .second, .val (.int p1), .val (.long v1), .second, .val (.long v2), .second, .val (.long v1), .second, .val (.long v3), .second, .val (.long v4), .second] []))
        refine Ends.via (fun _ k => XS.iconst X17.here hx rfl (hb hby at_85) k) ?_
        show Ends p e below s 0 0 (Q0 Z q0 p1  h0 n0) (T17.setTop (mkF m 86 #[.val (.long q0), .second, .val (.int p1), .val (.long v1), .second, .val (.long v2), .second, .val (.long v1), .second, .val (.long v3), .second, .val (.long v4), .second] [(.int (0 : Int32))]))
        refine Ends.ret X17 (v := some (.int (nar .boolean (0 : Int32)))) (fun h => by rw [Bd.returns] at h; cases h) Bd.notSynchronized (fun fs hr => retN X17 hx (t := .boolean) Bd.returns (by simp) (hb hby at_86) hr) ?_ (by decide) (by decide)
        exact absurd (own_leaf3 q0 p1 v1 v2 v3 v4 hv1 hv2 hv3 hv4 hc14 hc16 hc18) id
      · refine Ends.via (fun _ k => XS.ifNo X17.here hx rfl (hb hby at_62) rfl ((if0 _ _).trans (feq hc18).1) k) ?_
        show Ends p e below s 0 0 (Q0 Z q0 p1  h0 n0) (T17.setTop (mkF m 65 #[.val (.long q0), .second, .val (.int p1), .val (.long v1), .second, .val (.long v2), .second, .val (.long v1), .second, .val (.long v3), .second, .val (.long v4), .second] []))
        refine Ends.via (fun _ k => XS.lload X17.here hx rfl (hb hby at_65) rfl k) ?_
        show Ends p e below s 0 0 (Q0 Z q0 p1  h0 n0) (T17.setTop (mkF m 67 #[.val (.long q0), .second, .val (.int p1), .val (.long v1), .second, .val (.long v2), .second, .val (.long v1), .second, .val (.long v3), .second, .val (.long v4), .second] [(.long v3)]))
        obtain ⟨_, _, ⟨T19, L19, k19, n19⟩, -, X19, ⟨Lc19, hQ19, l19, y19, z19⟩, st19⟩ := Jvm.LawKit.callS X17 hx (y := (⟨"com/example/sextant/sextant/presentation/PresentationContextIsValidIdentifierPinLaw", "agrees", "(J)Z"⟩ : MethodName)) hown (mvT hZ (hw _ (List.mem_of_getElem? (i := 4) rfl))) (mvT hZ (hw _ (List.mem_of_getElem? (i := 5) rfl))) (mvT hZ (hw _ (List.mem_of_getElem? (i := 6) rfl))) (mvT hZ (hw _ (List.mem_of_getElem? (i := 7) rfl))) (by decide) (backOf (W := 0) (rm1 l Z a0 hw [] v3 h0 n0 Z0) hZ (hw _ (List.mem_of_getElem? (i := 7) rfl)) (hw _ (List.mem_of_getElem? (i := 6) rfl)) (by decide) (by decide)) (g := (mkF m 67 #[.val (.long q0), .second, .val (.int p1), .val (.long v1), .second, .val (.long v2), .second, .val (.long v1), .second, .val (.long v3), .second, .val (.long v4), .second] [(.long v3)])) rfl (by rw [hml]; rfl) (argsL := [(.long v3)]) (rest := []) (lenOf own_pd0 rfl) rfl (by show 2 * 0 + _ ≤ _; exact Nat.le_of_eq rfl) (hb hby at_67) (fun _ _ => ⟨rfl, e17, (by decide : 0 + 0 ≤ _), (by decide : 0 + 0 ≤ _)⟩)
        dsimp only [Pt.U, Pt.locs, Pt.cells, Pt.slots] at X19 l19 y19 z19 st19 hQ19
        subst l19 y19 z19
        obtain ⟨rfl, Nq19, e19⟩ := hQ19
        have N19 := Fr.app N17 Nq19
        refine Ends.via st19 ?_
        show Ends p e below s 0 0 (Q0 Z q0 p1  h0 n0) (T19.setTop (mkF m 70 #[.val (.long q0), .second, .val (.int p1), .val (.long v1), .second, .val (.long v2), .second, .val (.long v1), .second, .val (.long v3), .second, .val (.long v4), .second] [(.int (fn1 v3))]))
        by_cases hc20 : (fn1 v3) = (0 : Int32)
        · refine Ends.via (fun _ k => XS.ifYes X19.here hx rfl (pc0 := 70) (pc' := 85) rfl (hb hby at_70) rfl ((if0 _ _).trans (teq hc20).1) (by decide) (by decide) k) ?_
          show Ends p e below s 0 0 (Q0 Z q0 p1  h0 n0) (T19.setTop (mkF m 85 #[.val (.long q0), .second, .val (.int p1), .val (.long v1), .second, .val (.long v2), .second, .val (.long v1), .second, .val (.long v3), .second, .val (.long v4), .second] []))
          refine Ends.via (fun _ k => XS.iconst X19.here hx rfl (hb hby at_85) k) ?_
          show Ends p e below s 0 0 (Q0 Z q0 p1  h0 n0) (T19.setTop (mkF m 86 #[.val (.long q0), .second, .val (.int p1), .val (.long v1), .second, .val (.long v2), .second, .val (.long v1), .second, .val (.long v3), .second, .val (.long v4), .second] [(.int (0 : Int32))]))
          refine Ends.ret X19 (v := some (.int (nar .boolean (0 : Int32)))) (fun h => by rw [Bd.returns] at h; cases h) Bd.notSynchronized (fun fs hr => retN X19 hx (t := .boolean) Bd.returns (by simp) (hb hby at_86) hr) ?_ (by decide) (by decide)
          exact absurd (own_leaf4 q0 p1 v1 v2 v3 v4 hv1 hv2 hv3 hv4 hc14 hc16 hc18 hc20) id
        · refine Ends.via (fun _ k => XS.ifNo X19.here hx rfl (hb hby at_70) rfl ((if0 _ _).trans (feq hc20).1) k) ?_
          show Ends p e below s 0 0 (Q0 Z q0 p1  h0 n0) (T19.setTop (mkF m 73 #[.val (.long q0), .second, .val (.int p1), .val (.long v1), .second, .val (.long v2), .second, .val (.long v1), .second, .val (.long v3), .second, .val (.long v4), .second] []))
          refine Ends.via (fun _ k => XS.lload X19.here hx rfl (hb hby at_73) rfl k) ?_
          show Ends p e below s 0 0 (Q0 Z q0 p1  h0 n0) (T19.setTop (mkF m 75 #[.val (.long q0), .second, .val (.int p1), .val (.long v1), .second, .val (.long v2), .second, .val (.long v1), .second, .val (.long v3), .second, .val (.long v4), .second] [(.long v4)]))
          obtain ⟨_, _, ⟨T21, L21, k21, n21⟩, -, X21, ⟨Lc21, hQ21, l21, y21, z21⟩, st21⟩ := Jvm.LawKit.callS X19 hx (y := (⟨"com/example/sextant/sextant/presentation/PresentationContextIsValidIdentifierPinLaw", "agrees", "(J)Z"⟩ : MethodName)) hown (mvT hZ (hw _ (List.mem_of_getElem? (i := 4) rfl))) (mvT hZ (hw _ (List.mem_of_getElem? (i := 5) rfl))) (mvT hZ (hw _ (List.mem_of_getElem? (i := 6) rfl))) (mvT hZ (hw _ (List.mem_of_getElem? (i := 7) rfl))) (by decide) (backOf (W := 0) (rm1 l Z a0 hw [] v4 h0 n0 Z0) hZ (hw _ (List.mem_of_getElem? (i := 7) rfl)) (hw _ (List.mem_of_getElem? (i := 6) rfl)) (by decide) (by decide)) (g := (mkF m 75 #[.val (.long q0), .second, .val (.int p1), .val (.long v1), .second, .val (.long v2), .second, .val (.long v1), .second, .val (.long v3), .second, .val (.long v4), .second] [(.long v4)])) rfl (by rw [hml]; rfl) (argsL := [(.long v4)]) (rest := []) (lenOf own_pd0 rfl) rfl (by show 2 * 0 + _ ≤ _; exact Nat.le_of_eq rfl) (hb hby at_75) (fun _ _ => ⟨rfl, e19, (by decide : 0 + 0 ≤ _), (by decide : 0 + 0 ≤ _)⟩)
          dsimp only [Pt.U, Pt.locs, Pt.cells, Pt.slots] at X21 l21 y21 z21 st21 hQ21
          subst l21 y21 z21
          obtain ⟨rfl, Nq21, e21⟩ := hQ21
          have N21 := Fr.app N19 Nq21
          refine Ends.via st21 ?_
          show Ends p e below s 0 0 (Q0 Z q0 p1  h0 n0) (T21.setTop (mkF m 78 #[.val (.long q0), .second, .val (.int p1), .val (.long v1), .second, .val (.long v2), .second, .val (.long v1), .second, .val (.long v3), .second, .val (.long v4), .second] [(.int (fn1 v4))]))
          by_cases hc22 : (fn1 v4) = (0 : Int32)
          · refine Ends.via (fun _ k => XS.ifYes X21.here hx rfl (pc0 := 78) (pc' := 85) rfl (hb hby at_78) rfl ((if0 _ _).trans (teq hc22).1) (by decide) (by decide) k) ?_
            show Ends p e below s 0 0 (Q0 Z q0 p1  h0 n0) (T21.setTop (mkF m 85 #[.val (.long q0), .second, .val (.int p1), .val (.long v1), .second, .val (.long v2), .second, .val (.long v1), .second, .val (.long v3), .second, .val (.long v4), .second] []))
            refine Ends.via (fun _ k => XS.iconst X21.here hx rfl (hb hby at_85) k) ?_
            show Ends p e below s 0 0 (Q0 Z q0 p1  h0 n0) (T21.setTop (mkF m 86 #[.val (.long q0), .second, .val (.int p1), .val (.long v1), .second, .val (.long v2), .second, .val (.long v1), .second, .val (.long v3), .second, .val (.long v4), .second] [(.int (0 : Int32))]))
            refine Ends.ret X21 (v := some (.int (nar .boolean (0 : Int32)))) (fun h => by rw [Bd.returns] at h; cases h) Bd.notSynchronized (fun fs hr => retN X21 hx (t := .boolean) Bd.returns (by simp) (hb hby at_86) hr) ?_ (by decide) (by decide)
            exact absurd (own_leaf5 q0 p1 v1 v2 v3 v4 hv1 hv2 hv3 hv4 hc14 hc16 hc18 hc20 hc22) id
          · refine Ends.via (fun _ k => XS.ifNo X21.here hx rfl (hb hby at_78) rfl ((if0 _ _).trans (feq hc22).1) k) ?_
            show Ends p e below s 0 0 (Q0 Z q0 p1  h0 n0) (T21.setTop (mkF m 81 #[.val (.long q0), .second, .val (.int p1), .val (.long v1), .second, .val (.long v2), .second, .val (.long v1), .second, .val (.long v3), .second, .val (.long v4), .second] []))
            refine Ends.via (fun _ k => XS.iconst X21.here hx rfl (hb hby at_81) k) ?_
            show Ends p e below s 0 0 (Q0 Z q0 p1  h0 n0) (T21.setTop (mkF m 82 #[.val (.long q0), .second, .val (.int p1), .val (.long v1), .second, .val (.long v2), .second, .val (.long v1), .second, .val (.long v3), .second, .val (.long v4), .second] [(.int (1 : Int32))]))
            refine Ends.via (fun _ k => XS.goto X21.here hx rfl (pc0 := 82) (pc' := 86) rfl (hb hby at_82) (by decide) (by decide) k) ?_
            show Ends p e below s 0 0 (Q0 Z q0 p1  h0 n0) (T21.setTop (mkF m 86 #[.val (.long q0), .second, .val (.int p1), .val (.long v1), .second, .val (.long v2), .second, .val (.long v1), .second, .val (.long v3), .second, .val (.long v4), .second] [(.int (1 : Int32))]))
            refine Ends.ret X21 (v := some (.int (nar .boolean (1 : Int32)))) (fun h => by rw [Bd.returns] at h; cases h) Bd.notSynchronized (fun fs hr => retN X21 hx (t := .boolean) Bd.returns (by simp) (hb hby at_86) hr) ?_ (by decide) (by decide)
            exact ⟨rfl, N21⟩
set_option maxRecDepth 65536 in
set_option maxHeartbeats 40000000 in
theorem comes_1 {Post : Tables → Env → Array Value → State → Outcome → State → Prop} (hpost : ∀ tb e args s v u, (limb_1_1.after args s (.returned v) u = true ∧ limb_1_2.after args s (.returned v) u = true ∧ True) → FrameEnd s (.returned v) u (Jvm.fieldLocs frame_1_writes args s ++ Jvm.arrayLocs frame_1_arrays args s ++ Jvm.staticLocs frame_1_statics s) 0 0 → Post tb e args s (.returned v) u) :
    ArmFor flags0 classFile x code maxLocals ret World_1 tables_1 room_1 Calls_1 rest_1 Pre_1 Post := by
  intro l hfl _ _ p e ha hc hk s m args below hf hA hF happ hP
  obtain ⟨hcalls, hrest, hpre⟩ := hP
  obtain ⟨-, -, -, hnamed, -, -, -, hat⟩ := (Spec.applies_iff hf).mp happ
  obtain ⟨hg, hn⟩ := and_e (Cond.before_iff.mp (show (Jvm.Cond.and given_1 narrow_1).before args s = true from hpre))
  obtain ⟨hcnt, g0⟩ := and_e hg
  obtain ⟨t0, g1⟩ := and_e g0
  obtain ⟨w0, w1, rfl⟩ : ∃ w0 w1 : Value, args = #[w0, w1] := by
    have hs : args.size = 2 := by simpa [Cond.value, given_1] using hcnt
    obtain ⟨L⟩ := args
    match L, hs with
    | [w0, w1], _ => exact ⟨w0, w1, rfl⟩
  have hw := fun d (hd : d ∈ tables_1) => atoms_spec (ws := Jvm.Cond.code x code maxLocals ret :: tables_1) hat d (List.mem_cons_of_mem _ hd)
  obtain ⟨i0, ei0⟩ := isL_v t0
  obtain rfl : w0 = (.long i0) := Option.some.inj ei0
  obtain ⟨i1, ei1⟩ := is_v g1
  obtain rfl : w1 = (.int i1) := Option.some.inj ei1
  obtain ⟨n, o, h1, h2, h3, _, L, rfl, ⟨rfl, N⟩, hq⟩ := rm0 l s _ hw tables_1 i0 i1 s.heap s.heap.size (Nat.le_refl _) p e ha hc hk s m _ below hf ((Spec.applies_iff_loose hf).mp happ).1 ⟨rfl, State.Warmed39.refl s, rfl⟩ trivial
  refine ⟨n, _, h1, h2, h3, hpost _ _ _ _ _ _ ⟨Cond.after_iff.mpr rfl, Cond.after_iff.mpr (eq_i res_at (Term.int_eval (1)) rfl), trivial⟩ ⟨hq.1, hq.2.1, (hq.2.2.sift fun y hy => Or.inr (N y hy)).mono (by decide) (by decide)⟩⟩
theorem main_1_1 : Claimed_1_1 := comes_1 fun _ _ _ _ _ _ h hF => ⟨h.1, hF⟩
theorem main_1_2 : Claimed_1_2 := comes_1 fun _ _ _ _ _ _ h hF => ⟨h.2.1, hF⟩
end Jvm.Pilot.@@N@@
namespace Jvm.Pilot.@@N@@
open Jvm Jvm.ClassFile Sem Op Lib Jvm.Free Jvm.Stand Jvm.Pilot.@@N@@.Jvm.D
/-! MADE BY PROGRAM (witnessworld.py) out of the Statement's table words and the real class files: 10 classes; the members and pool entries that the words name. The judged class is class 1, her method 3. -/
namespace start1
open Jvm.ClassFile
def u (s : String) : CpInfo := .utf8 (stringToUtf16 s)
/-- a pool by its gaps: so many unusable entries, then the entry; so many at the end -/
def gap : Nat → List CpInfo → List CpInfo
  | 0, r => r
  | n + 1, r => .unusable :: gap n r
def poolList (es : List (Nat × CpInfo)) (last : Nat) : List CpInfo := es.foldr (fun e r => gap e.1 (e.2 :: r)) (gap last [])
def pool (es : List (Nat × CpInfo)) (last : Nat) : Array CpInfo := ⟨poolList es last⟩
def fileOf (pool : Array CpInfo) (this : Nat) (attrs : Array Attribute := #[]) (ms : Array MethodInfo := #[]) (fl : Nat := 33) (sup : Nat := 0) (ifs : Array Nat := #[]) (fds : Array FieldInfo := #[]) : ClassFile where
  minorVersion := 0
  majorVersion := 65
  constantPool := pool
  accessFlags := fl
  thisClass := this
  superClass := sup
  interfaces := ifs
  fields := fds
  methods := ms
  attributes := attrs
def plain (name : String) (sup : Option ClassId) : Class where
  name := name
  kind := .ordinary
  loader := none
  accessFlags := 33
  super := sup
  interfaces := #[]
  cf := none
  fields := #[]
  methods := #[]
  instanceTypes := #[]
  staticTypes := #[]
  resolved := #[]
  callSites := []
  init := .initialized
  statics := none
  mirror := none

def pool0 : Array CpInfo := pool [(5, u "<init>"), (0, u "()V"), (1, .class_ 10), (1, u "java/lang/Object")] 113

def k0m0 : Method := { name := "<init>", desc := "()V", sig := { parameters := [], returnType := none }, accessFlags := 1, code := none }
/-- java/lang/Object -/
def k0 : Class := { plain "java/lang/Object" none with
  accessFlags := 33
  interfaces := #[]
  cf := some (fileOf pool0 8 #[] #[{ accessFlags := 1, nameIndex := 5, descriptorIndex := 6, attributes := #[] }] 33 0 #[] #[])
  fields := #[]
  methods := #[k0m0]
  instanceTypes := #[]
  staticTypes := #[]
  resolved := Array.replicate 124 none
  statics := none }

def pool1 : Array CpInfo := pool [(2, .class_ 4), (1, u "java/lang/Object"), (0, u "<init>"), (0, u "()V"), (0, .methodref 8 9), (0, .class_ 10), (0, .nameAndType 11 12), (0, u "com/example/sextant/sextant/presentation/PresentationContext"), (0, u "isValidIdentifier"), (0, u "(J)Z"), (0, .methodref 14 15), (0, .class_ 16), (0, .nameAndType 17 12), (0, u "com/example/sextant/sextant/presentation/PresentationContextIsValidIdentifierPinLaw"), (0, u "expected"), (0, .long 8), (1, .long 32767), (3, .long 9223372036854775808), (1, .long 9223372036854775807), (1, .methodref 14 29), (0, .nameAndType 30 12), (0, u "agrees"), (3, u "law"), (0, u "(JI)Z")] 2

def k1m0 : Method := { name := "<init>", desc := "()V", sig := { parameters := [], returnType := none }, accessFlags := 1, code := none }
def k1c1 : Code := { maxStack := 4, maxLocals := 2, code := method_2_code, exceptionTable := #[], attributes := #[] }
def k1m1 : Method := { name := "expected", desc := "(J)Z", sig := { parameters := [.long], returnType := some .boolean }, accessFlags := 10, code := some k1c1 }
def k1c2 : Code := { maxStack := 3, maxLocals := 2, code := method_3_code, exceptionTable := #[], attributes := #[] }
def k1m2 : Method := { name := "agrees", desc := "(J)Z", sig := { parameters := [.long], returnType := some .boolean }, accessFlags := 10, code := some k1c2 }
def k1c3 : Code := { maxStack := 4, maxLocals := 13, code := code, exceptionTable := #[], attributes := #[] }
def k1m3 : Method := { name := "law", desc := "(JI)Z", sig := { parameters := [.long, .int], returnType := some .boolean }, accessFlags := 9, code := some k1c3 }
/-- com/example/sextant/sextant/presentation/PresentationContextIsValidIdentifierPinLaw -/
def k1 : Class := { plain "com/example/sextant/sextant/presentation/PresentationContextIsValidIdentifierPinLaw" (some 0) with
  accessFlags := 49
  interfaces := #[]
  cf := some (fileOf pool1 14 #[] #[{ accessFlags := 1, nameIndex := 5, descriptorIndex := 6, attributes := #[] }, { accessFlags := 10, nameIndex := 17, descriptorIndex := 12, attributes := #[] }, { accessFlags := 10, nameIndex := 30, descriptorIndex := 12, attributes := #[] }, { accessFlags := 9, nameIndex := 34, descriptorIndex := 35, attributes := #[] }] 49 2 #[] #[])
  fields := #[]
  methods := #[k1m0, k1m1, k1m2, k1m3]
  instanceTypes := #[]
  staticTypes := #[]
  resolved := Array.replicate 38 none
  statics := none }

def pool2 : Array CpInfo := pool [(2, .class_ 4), (1, u "java/lang/Object"), (0, u "<init>"), (0, u "()V"), (0, .class_ 8), (0, u "java/lang/Record")] 13

def k2m0 : Method := { name := "<init>", desc := "()V", sig := { parameters := [], returnType := none }, accessFlags := 4, code := none }
/-- java/lang/Record -/
def k2 : Class := { plain "java/lang/Record" (some 0) with
  accessFlags := 1057
  interfaces := #[]
  cf := some (fileOf pool2 7 #[] #[{ accessFlags := 4, nameIndex := 5, descriptorIndex := 6, attributes := #[] }] 1057 2 #[] #[])
  fields := #[]
  methods := #[k2m0]
  instanceTypes := #[]
  staticTypes := #[]
  resolved := Array.replicate 22 none
  statics := none }

def pool3 : Array CpInfo := pool [(2, .class_ 4), (1, u "java/lang/Record"), (3, .class_ 10), (1, u "com/example/sextant/sextant/presentation/PresentationContext"), (21, u "identifier"), (0, u "I"), (2, u "abstractSyntax"), (0, u "Lcom/example/sextant/sextant/ber/ObjectIdentifier;"), (2, u "transferSyntaxes"), (0, u "Ljava/util/List;"), (0, .long 32767), (1, .long 2), (3, u "isValidIdentifier"), (0, u "(J)Z"), (18, u "MAX_IDENTIFIER")] 46

def k3c0 : Code := { maxStack := 4, maxLocals := 2, code := prog_88_method_2_code, exceptionTable := #[], attributes := #[] }
def k3m0 : Method := { name := "isValidIdentifier", desc := "(J)Z", sig := { parameters := [.long], returnType := some .boolean }, accessFlags := 9, code := some k3c0 }
/-- com/example/sextant/sextant/presentation/PresentationContext -/
def k3 : Class := { plain "com/example/sextant/sextant/presentation/PresentationContext" (some 2) with
  accessFlags := 49
  interfaces := #[]
  cf := some (fileOf pool3 8 #[] #[{ accessFlags := 9, nameIndex := 48, descriptorIndex := 49, attributes := #[] }] 49 2 #[] #[{ accessFlags := 18, nameIndex := 32, descriptorIndex := 33, attributes := #[] }, { accessFlags := 18, nameIndex := 36, descriptorIndex := 37, attributes := #[] }, { accessFlags := 18, nameIndex := 40, descriptorIndex := 41, attributes := #[] }, { accessFlags := 25, nameIndex := 68, descriptorIndex := 33, attributes := #[] }])
  fields := #[{ name := "identifier", type := .int, accessFlags := 18, slot := 0, constantValue := 0 }, { name := "abstractSyntax", type := (.object "com/example/sextant/sextant/ber/ObjectIdentifier"), accessFlags := 18, slot := 1, constantValue := 0 }, { name := "transferSyntaxes", type := (.object "java/util/List"), accessFlags := 18, slot := 2, constantValue := 0 }, { name := "MAX_IDENTIFIER", type := .int, accessFlags := 25, slot := 0, constantValue := 0 }]
  methods := #[k3m0]
  instanceTypes := #[.int, (.object "com/example/sextant/sextant/ber/ObjectIdentifier"), (.object "java/util/List")]
  staticTypes := #[.int]
  resolved := Array.replicate 115 none
  statics := none }

def pool4 : Array CpInfo := pool [(1, u "java/lang/Cloneable"), (0, .class_ 1), (0, u "java/lang/Object"), (0, .class_ 3)] 3

/-- java/lang/Cloneable -/
def k4 : Class := { plain "java/lang/Cloneable" (some 0) with
  accessFlags := 1537
  interfaces := #[]
  cf := some (fileOf pool4 2 #[] #[] 1537 4 #[] #[])
  fields := #[]
  methods := #[]
  instanceTypes := #[]
  staticTypes := #[]
  resolved := Array.replicate 8 none
  statics := none }

def pool5 : Array CpInfo := pool [(1, u "java/io/Serializable"), (0, .class_ 1), (0, u "java/lang/Object"), (0, .class_ 3)] 3

/-- java/io/Serializable -/
def k5 : Class := { plain "java/io/Serializable" (some 0) with
  accessFlags := 1537
  interfaces := #[]
  cf := some (fileOf pool5 2 #[] #[] 1537 4 #[] #[])
  fields := #[]
  methods := #[]
  instanceTypes := #[]
  staticTypes := #[]
  resolved := Array.replicate 8 none
  statics := none }

/-- the primitive byte -/
def k6 : Class := { plain "byte" none with kind := .primitive 'B', accessFlags := 0x411 }
/-- [B -/
def k7 : Class := { plain "[B" (some 0) with kind := .array 6 .byte, interfaces := #[4, 5], accessFlags := 1041 }

/-- the primitive int -/
def k8 : Class := { plain "int" none with kind := .primitive 'I', accessFlags := 0x411 }
/-- [I -/
def k9 : Class := { plain "[I" (some 0) with kind := .array 8 .int, interfaces := #[4, 5], accessFlags := 1041 }

def heap : Heap := #[]
def classes : Array Class := #[k0, k1, k2, k3, k4, k5, k6, k7, k8, k9]
def interned : List (Array UInt16 × Addr) := []
def slotsUsed : Nat := 0
def theMethod : MethodId := ⟨1, 3⟩
def args0 : Array Value := #[.long 5, .int 5]
def aboutOver (below : List Frame) : State where
  vm := { classes := classes, interned := interned.toArray }
  heap := heap
  slotsUsed := slotsUsed
  threads := #[{ frames := .invoking theMethod args0 :: below }]
def below0 : List Frame := [.native { method := ⟨0, 0⟩, args := #[] }]
def about1 : State := aboutOver below0
def p0 : Program := .bare "" "" ""
def e0 : Env := launch0.env 0 0 0
theorem w_frames : about1.frames = Frame.invoking theMethod args0 :: below0 := rfl
set_option maxRecDepth 65536 in
theorem w_args : argsFit about1.vm theMethod args0 = true := by decide +kernel
set_option maxRecDepth 65536 in
theorem w_heap : heapFits about1 = true := by decide +kernel
set_option maxRecDepth 65536 in
theorem w_runnable : about1.curStatus? = some .runnable := by decide +kernel
set_option maxRecDepth 65536 in
theorem w_alone : about1.alone = true := by decide +kernel
set_option maxRecDepth 65536 in
theorem w_named : about1.methodNamed? x = some theMethod := by decide +kernel
set_option maxRecDepth 65536 in
theorem w_hears : about1.hears theMethod below0 = true := by decide +kernel
set_option maxRecDepth 65536 in
theorem w_ripe : about1.ripe theMethod args0 below0 = true := by decide +kernel
theorem w_running : about1.status = .running := rfl
set_option maxRecDepth 65536 in
theorem w_room : about1.hasRoom e0.platform room_1 = true :=
  launch0.hasRoom_least _ room_1 (by decide +kernel) (by decide +kernel) (by decide +kernel) (by decide +kernel) (by decide +kernel) (by decide +kernel)
theorem allAtoms_all (ts : List Jvm.Cond) (a : Array Jvm.Value) (st : Jvm.State) : (allAtoms ts).before a st = ts.all (fun c => c.before a st) := by
  induction ts with
  | nil => rfl
  | cons c t ih =>
    show (Jvm.Cond.and c (allAtoms t)).before a st = _
    rw [Jvm.Cond.before_and, ih, List.all_cons]
def words1 : List Jvm.Cond := Jvm.Cond.code x code maxLocals ret :: tables_1
/-- a 'code' word, met by the world's own term for the bytes: nothing is compared byte by byte -/
theorem code_word {y : MethodName} {bytes : ByteArray} {mx : Nat} {rt : Option FieldType} {a : Array Value} {s : State} {m : MethodId} {meth : Method} {c : Code} (h1 : s.methodNamed? y = some m) (h2 : s.vm.method? m = some meth) (h3 : meth.code = some c) (h4 : c.code = bytes)
    (h5 : (c.maxLocals == mx && c.exceptionTable.isEmpty && decide (c.maxStack ≤ mostOperands) && decide (meth.sig.returnType = rt) && !meth.locks && decide (parseMethodDescriptor y.desc = some meth.sig)) = true) : (Jvm.Cond.code y bytes mx rt).before a s = true := by
  simp only [Bool.and_eq_true, beq_iff_eq, Bool.not_eq_true', decide_eq_true_eq] at h5
  obtain ⟨⟨⟨⟨⟨g1, g2⟩, g3⟩, g4⟩, g5⟩, g6⟩ := h5
  simp [Cond.before, Cond.holds, Cond.value, h1, h2, h3, h4, g1, g2, g3, g4, g5, g6]
def isCode : Jvm.Cond → Bool
  | .code _ _ _ _ => true
  | _ => false
theorem all_split {L : List Jvm.Cond} {P : Jvm.Cond → Bool} (h1 : L.all (fun c => isCode c || P c) = true) (h2 : ∀ c ∈ L.filter isCode, P c = true) : L.all P = true := by
  refine List.all_eq_true.mpr fun c hc => ?_
  have h := List.all_eq_true.mp h1 c hc
  rcases Bool.eq_false_or_eq_true (isCode c) with hi | hi
  · exact h2 c (List.mem_filter.mpr ⟨hc, hi⟩)
  · simpa [hi] using h
set_option maxRecDepth 65536 in
theorem w_c0 : (Jvm.Cond.code x code maxLocals ret).before args0 about1 = true := code_word (m := ⟨1, 3⟩) (meth := k1m3) (c := k1c3) (by decide +kernel) rfl rfl rfl (by decide +kernel)
set_option maxRecDepth 65536 in
theorem w_c1 : (Jvm.Cond.code ({ cls := "com/example/sextant/sextant/presentation/PresentationContextIsValidIdentifierPinLaw", name := "agrees", desc := "(J)Z" } : Jvm.MethodName) method_3_code (2 : Nat) (Option.some Jvm.ClassFile.FieldType.boolean)).before args0 about1 = true := code_word (m := ⟨1, 2⟩) (meth := k1m2) (c := k1c2) (by decide +kernel) rfl rfl rfl (by decide +kernel)
set_option maxRecDepth 65536 in
theorem w_c2 : (Jvm.Cond.code ({ cls := "com/example/sextant/sextant/presentation/PresentationContext", name := "isValidIdentifier", desc := "(J)Z" } : Jvm.MethodName) prog_88_method_2_code (2 : Nat) (Option.some Jvm.ClassFile.FieldType.boolean)).before args0 about1 = true := code_word (m := ⟨3, 0⟩) (meth := k3m0) (c := k3c0) (by decide +kernel) rfl rfl rfl (by decide +kernel)
set_option maxRecDepth 65536 in
theorem w_c3 : (Jvm.Cond.code ({ cls := "com/example/sextant/sextant/presentation/PresentationContextIsValidIdentifierPinLaw", name := "expected", desc := "(J)Z" } : Jvm.MethodName) method_2_code (2 : Nat) (Option.some Jvm.ClassFile.FieldType.boolean)).before args0 about1 = true := code_word (m := ⟨1, 1⟩) (meth := k1m1) (c := k1c1) (by decide +kernel) rfl rfl rfl (by decide +kernel)
def codes1 : List Jvm.Cond := [Jvm.Cond.code x code maxLocals ret, Jvm.Cond.code ({ cls := "com/example/sextant/sextant/presentation/PresentationContextIsValidIdentifierPinLaw", name := "agrees", desc := "(J)Z" } : Jvm.MethodName) method_3_code (2 : Nat) (Option.some Jvm.ClassFile.FieldType.boolean), Jvm.Cond.code ({ cls := "com/example/sextant/sextant/presentation/PresentationContext", name := "isValidIdentifier", desc := "(J)Z" } : Jvm.MethodName) prog_88_method_2_code (2 : Nat) (Option.some Jvm.ClassFile.FieldType.boolean), Jvm.Cond.code ({ cls := "com/example/sextant/sextant/presentation/PresentationContextIsValidIdentifierPinLaw", name := "expected", desc := "(J)Z" } : Jvm.MethodName) method_2_code (2 : Nat) (Option.some Jvm.ClassFile.FieldType.boolean)]
set_option maxRecDepth 65536 in
theorem codes_eq : words1.filter isCode = codes1 := rfl
theorem w_codes : ∀ c ∈ words1.filter isCode, c.before args0 about1 = true := by
  rw [codes_eq]
  intro c hc
  simp only [codes1, List.mem_cons, List.not_mem_nil, or_false] at hc
  rcases hc with rfl | rfl | rfl | rfl
  · exact w_c0
  · exact w_c1
  · exact w_c2
  · exact w_c3
set_option maxRecDepth 65536 in
theorem w_t1 : words1.all (fun c => isCode c || c.before args0 about1) = true := by decide +kernel
theorem w_tables : (allAtoms (Jvm.Cond.code x code maxLocals ret :: tables_1)).before args0 about1 = true := by
  rw [allAtoms_all]
  show words1.all (fun c => c.before args0 about1) = true
  refine all_split ?_ w_codes
  rw [w_t1]
set_option maxRecDepth 65536 in
theorem w_case : (Jvm.Cond.and given_1 narrow_1).before args0 about1 = true := by decide +kernel
theorem w_applies : (headSpec (Jvm.Cond.code x code maxLocals ret :: tables_1) room_1).applies x e0.platform about1 = true :=
  (Spec.applies_iff w_frames).mpr ⟨w_running, w_runnable, w_alone, w_named, w_hears, w_ripe, w_room, w_tables⟩
theorem atStart : AtStart classFile x code maxLocals ret World_1 tables_1 room_1 Calls_1 rest_1 Pre_1 launch0 p0 e0 about1 theMethod args0 below0 :=
  ⟨lists_1, trivial, launch0.admits_env _ _ _, launch0.least_env, fairChoices_fair.cas, fairChoices_fair.clock, w_frames, w_args, w_heap, w_applies, trivial, trivial, w_case⟩
end start1
theorem witness_1 : WitnessClaimed_1 := ⟨start1.p0, start1.e0, start1.about1, start1.theMethod, start1.args0, start1.below0, start1.atStart⟩
end Jvm.Pilot.@@N@@
