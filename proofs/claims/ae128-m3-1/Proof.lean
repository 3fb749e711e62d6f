import JvmDerived
import JvmDerived.Pilot.@@N@@Statement
import JvmDerived.Pilot.@@N@@Code
set_option linter.unusedVariables false
set_option linter.unusedSimpArgs false
namespace Jvm.RoadKit
open Sem ClassFile Op Lib Jvm.Stand Jvm.Free Jvm.LawKit
section New
variable {p : Program} {l : Launch} {e : Env} {R : Room} {s : State} {m : MethodId} {args : Array Value} {below : List Frame} {meth : Method} {c : Code} {T : State} {locs : List Loc} {cells slots : Nat}
theorem retI (X : Stand p l e R s m args below meth c T locs cells slots) (hx : p.tables.exec = Jvm.exec) {pc : Nat} {Ls : Array Slot} {z : Int32} {rest : List Value} (hret : meth.sig.returnType = some .int) (hd : decode c.code pc = .ok (.ireturn, 1)) {fs : List Frame}
    (hl : ∀ (f : JFrame) (acts : List Action), f.method = m → f.locked = none → f.entered = [] → (doReturn e (T.setTop f) acts (some (.int z))).1 = T.setFrames fs) : Steps p.tables e below (T.setTop (mkF m pc Ls (.int z :: rest))) (T.setFrames fs) := by
  have hm' : T.vm.method? m = some meth := X.method'
  have hn : narrow .int (.int z) = .int z := rfl
  show Steps p.tables e below (T.setTop { method := m, pc := pc, locals := Ls, stack := _ :: rest, locked := none }) _
  jvm_step X.here [X.here.top, hx, hd, hm', hret, hn]
  first | (intro acts; rw [hl _ acts rfl rfl rfl]) | rw [hl _ _ rfl rfl rfl]
  exact Steps.refl _
end New
end Jvm.RoadKit
namespace Jvm.Pilot.@@N@@
open Jvm Jvm.ClassFile Sem Op Lib Jvm.Free Jvm.Stand Jvm.LawKit Jvm.RoadKit Bundle Jvm.Pilot.@@N@@.Jvm.D
/-- from u the invocation ends, and what it returns and leaves is as Q says -/
def Ends (p : Program) (e : Env) (below : List Frame) (s : State) (kc ks : Nat) (Q : Option Value → Heap → List Loc → Prop) (u : State) : Prop :=
  ∃ s₂ o, Steps p.tables e below u s₂ ∧ s₂.status = .running ∧ Ended s₂ below o ∧ ∃ v L, o = .returned v ∧ Q v s₂.heap L ∧ FrameEnd s o s₂ L kc ks
theorem Ends.via {p : Program} {e : Env} {below : List Frame} {s : State} {kc ks : Nat} {Q : Option Value → Heap → List Loc → Prop} {A B : State} (h : ∀ t, Steps p.tables e below A t → Steps p.tables e below B t) (k : Ends p e below s kc ks Q A) : Ends p e below s kc ks Q B := by
  obtain ⟨s₂, o, h1, r⟩ := k
  exact ⟨s₂, o, h _ h1, r⟩
theorem Ends.ret {p : Program} {l : Launch} {e : Env} {R : Room} {s : State} {m : MethodId} {args : Array Value} {below : List Frame} {meth : Method} {c : Code} {T : State} {locs : List Loc} {cells slots kc ks : Nat} {Q : Option Value → Heap → List Loc → Prop} {u : State}
    (X : Stand p l e R s m args below meth c T locs cells slots) {v : Option Value} (hv : meth.sig.returnType = none → v = none) (hlocks : meth.locks = false)
    (hst : ∀ fs, (∀ (f : JFrame) (acts : List Action), f.method = m → f.locked = none → f.entered = [] → (doReturn e (T.setTop f) acts v).1 = T.setFrames fs) → Steps p.tables e below u (T.setFrames fs))
    (hQ : Q v T.heap locs) (h1 : cells ≤ kc) (h2 : slots ≤ ks) : Ends p e below s kc ks Q u := by
  obtain ⟨fs, hr, hrun, hended, hW, hsame⟩ := X.leave (v := v) hv hlocks
  exact ⟨_, _, hst fs hr, hrun, hended, _, _, rfl, hQ, ⟨_, rfl⟩, hW, hsame.mono h1 h2⟩

theorem own_pd0 : parseMethodDescriptor "(J)Z" = some ⟨[.long], some .boolean⟩ := by decide +kernel
theorem d1_0 : decode prog_16_method_2_code 0 = .ok (.lload_n 0, 1) := by decide +kernel
theorem d1_1 : decode prog_16_method_2_code 1 = .ok (.lconst 0, 1) := by decide +kernel
theorem d1_2 : decode prog_16_method_2_code 2 = .ok (.lcmp, 1) := by decide +kernel
theorem d1_3 : decode prog_16_method_2_code 3 = .ok (.ifCond .le 15, 3) := by decide +kernel
theorem d1_6 : decode prog_16_method_2_code 6 = .ok (.lload_n 0, 1) := by decide +kernel
theorem d1_7 : decode prog_16_method_2_code 7 = .ok (.ldc2_w 9, 3) := by decide +kernel
theorem d1_10 : decode prog_16_method_2_code 10 = .ok (.lcmp, 1) := by decide +kernel
theorem d1_11 : decode prog_16_method_2_code 11 = .ok (.ifCond .ge 7, 3) := by decide +kernel
theorem d1_14 : decode prog_16_method_2_code 14 = .ok (.iconst 1, 1) := by decide +kernel
theorem d1_15 : decode prog_16_method_2_code 15 = .ok (.goto 4, 3) := by decide +kernel
theorem d1_18 : decode prog_16_method_2_code 18 = .ok (.iconst 0, 1) := by decide +kernel
theorem d1_19 : decode prog_16_method_2_code 19 = .ok (.ireturn, 1) := by decide +kernel
theorem pn_1 : plainName "com/example/crossbook/crossbook/Limits" = true := by first | (simp [plainName, overriddenIn]; done) | decide +kernel
theorem ef_1 (m : MethodId) (q0 : Int64) : entryFrame m #[(.long q0)] 2 = mkF m 0 #[.val (.long q0), .second] [] := by first | (simp [entryFrame, mkF, argsToLocals, Value.category]; done) | rfl
def fn1 (q0 : Int64) : Int32 := (if (0 : Int64) < q0 then (if q0 < (1000000000000000000 : Int64) then (1 : Int32) else (0 : Int32)) else (0 : Int32))
abbrev ROOM1 : Room := { frames := 0, cells := 0, slots := 0, locals := 0 }
def Q1 (Z : State) (q0 : Int64)  (h0 : Heap) (n0 : Nat) (v : Option Value) (h : Heap) (L : List Loc) : Prop := v = some (.int (fn1 q0)) ∧ Fr n0 L ∧ h = h0
set_option maxRecDepth 65536 in
set_option maxHeartbeats 40000000 in
theorem rm1 (l : Launch) (Z : State) (a0 : Array Value) (hw : ∀ d ∈ tables_1, d.before a0 Z = true) (ws : List Jvm.Cond) (q0 : Int64)  (h0 : Heap) (n0 : Nat) (Z0 : n0 ≤ h0.size)  :
    MetFree l (⟨"com/example/crossbook/crossbook/Limits", "isQuantity", "(J)Z"⟩ : MethodName) (head1 (Jvm.Cond.code (⟨"com/example/crossbook/crossbook/Limits", "isQuantity", "(J)Z"⟩ : MethodName) prog_16_method_2_code 2 (some .boolean) :: ws) ROOM1) (fun a U => a = #[(.long q0)] ∧ Z.Warmed39 U.vm ∧ U.heap = h0) (fun _ _ _ _ _ => True) (fun _ U o U' => ∃ v L, o = .returned v ∧ Q1 Z q0  h0 n0 v U'.heap L ∧ FrameEnd U o U' L ROOM1.cells ROOM1.slots) := by
  refine MetFree.of_bodySF (plainFor_of_name pn_1) hisR ?_
  intro p e s m args below meth c s₁ Bd hml0 hP hK
  obtain ⟨rfl, hZ, hh⟩ := hP
  have hx := Bd.exec
  have hby := Bd.bytes
  have hml : c.maxLocals = 2 := hml0
  have hown : s.vm.findClass "com/example/crossbook/crossbook/Limits" = some m.cls := findClass_of_methodNamed Bd.named
  have hnm := (name_of_methodNamed Bd.named Bd.method).1
  have X0 : Stand p l e ROOM1 s m #[(.long q0)] below meth c s₁ [] 0 0 := Stand.of_body Bd
  have e0 : s₁.heap = h0 := by rw [← hh, Bd.state]; rfl
  have N0 := Fr.nil n0
  refine Ends.via (A := s₁.setTop (mkF m 0 #[.val (.long q0), .second] [])) (kc := ROOM1.cells) (ks := ROOM1.slots) (Q := (Q1 Z q0  h0 n0)) (fun t k => castTop (ef_1 m q0) k) ?_
  show Ends p e below s ROOM1.cells ROOM1.slots (Q1 Z q0  h0 n0) (s₁.setTop (mkF m 0 #[.val (.long q0), .second] []))
  refine Ends.via (fun _ k => XS.lloadN X0.here hx rfl (hb hby d1_0) rfl k) ?_
  show Ends p e below s ROOM1.cells ROOM1.slots (Q1 Z q0  h0 n0) (s₁.setTop (mkF m 1 #[.val (.long q0), .second] [(.long q0)]))
  refine Ends.via (fun _ k => XS.lconst X0.here hx rfl (hb hby d1_1) k) ?_
  show Ends p e below s ROOM1.cells ROOM1.slots (Q1 Z q0  h0 n0) (s₁.setTop (mkF m 2 #[.val (.long q0), .second] [(.long (0 : Int64)), (.long q0)]))
  refine Ends.via (fun _ k => XS.lcmp X0.here hx rfl (hb hby d1_2) rfl k) ?_
  show Ends p e below s ROOM1.cells ROOM1.slots (Q1 Z q0  h0 n0) (s₁.setTop (mkF m 3 #[.val (.long q0), .second] [(.int (lcmpW q0 (0 : Int64)))]))
  by_cases hc13 : (0 : Int64) < q0
  · refine Ends.via (fun _ k => XS.ifNo X0.here hx rfl (hb hby d1_3) rfl ((if0 _ _).trans (tlt ((lw_gt _ _).mpr hc13)).2.2.2) k) ?_
    show Ends p e below s ROOM1.cells ROOM1.slots (Q1 Z q0  h0 n0) (s₁.setTop (mkF m 6 #[.val (.long q0), .second] []))
    refine Ends.via (fun _ k => XS.lloadN X0.here hx rfl (hb hby d1_6) rfl k) ?_
    show Ends p e below s ROOM1.cells ROOM1.slots (Q1 Z q0  h0 n0) (s₁.setTop (mkF m 7 #[.val (.long q0), .second] [(.long q0)]))
    refine Ends.via (X0.ldc2Long hx hown (mvT hZ (hw _ (List.mem_of_getElem? (i := 6) rfl))) (g := (mkF m 7 #[.val (.long q0), .second] [(.long q0)])) rfl (hb hby d1_7)) ?_
    show Ends p e below s ROOM1.cells ROOM1.slots (Q1 Z q0  h0 n0) (s₁.setTop (mkF m 10 #[.val (.long q0), .second] [(.long (1000000000000000000 : Int64)), (.long q0)]))
    refine Ends.via (fun _ k => XS.lcmp X0.here hx rfl (hb hby d1_10) rfl k) ?_
    show Ends p e below s ROOM1.cells ROOM1.slots (Q1 Z q0  h0 n0) (s₁.setTop (mkF m 11 #[.val (.long q0), .second] [(.int (lcmpW q0 (1000000000000000000 : Int64)))]))
    by_cases hc14 : q0 < (1000000000000000000 : Int64)
    · refine Ends.via (fun _ k => XS.ifNo X0.here hx rfl (hb hby d1_11) rfl ((if0 _ _).trans (tlt ((lw_lt _ _).mpr hc14)).2.1) k) ?_
      show Ends p e below s ROOM1.cells ROOM1.slots (Q1 Z q0  h0 n0) (s₁.setTop (mkF m 14 #[.val (.long q0), .second] []))
      refine Ends.via (fun _ k => XS.iconst X0.here hx rfl (hb hby d1_14) k) ?_
      show Ends p e below s ROOM1.cells ROOM1.slots (Q1 Z q0  h0 n0) (s₁.setTop (mkF m 15 #[.val (.long q0), .second] [(.int (1 : Int32))]))
      refine Ends.via (fun _ k => XS.goto X0.here hx rfl (pc0 := 15) (pc' := 19) rfl (hb hby d1_15) (by decide) (by decide) k) ?_
      show Ends p e below s ROOM1.cells ROOM1.slots (Q1 Z q0  h0 n0) (s₁.setTop (mkF m 19 #[.val (.long q0), .second] [(.int (1 : Int32))]))
      refine Ends.ret X0 (v := some (.int (nar .boolean (1 : Int32)))) (fun h => by rw [Bd.returns] at h; cases h) Bd.notSynchronized (fun fs hr => retN X0 hx (t := .boolean) Bd.returns (by simp) (hb hby d1_19) hr) ?_ (by decide) (by decide)
      have hfn : fn1 q0 = (1 : Int32) := by simp only [fn1, if_pos hc13, if_pos hc14]
      exact ⟨by rw [hfn]; rfl, N0, e0⟩
    · refine Ends.via (fun _ k => XS.ifYes X0.here hx rfl (pc0 := 11) (pc' := 18) rfl (hb hby d1_11) rfl ((if0 _ _).trans (flt (mt (lw_lt _ _).mp hc14)).2.1) (by decide) (by decide) k) ?_
      show Ends p e below s ROOM1.cells ROOM1.slots (Q1 Z q0  h0 n0) (s₁.setTop (mkF m 18 #[.val (.long q0), .second] []))
      refine Ends.via (fun _ k => XS.iconst X0.here hx rfl (hb hby d1_18) k) ?_
      show Ends p e below s ROOM1.cells ROOM1.slots (Q1 Z q0  h0 n0) (s₁.setTop (mkF m 19 #[.val (.long q0), .second] [(.int (0 : Int32))]))
      refine Ends.ret X0 (v := some (.int (nar .boolean (0 : Int32)))) (fun h => by rw [Bd.returns] at h; cases h) Bd.notSynchronized (fun fs hr => retN X0 hx (t := .boolean) Bd.returns (by simp) (hb hby d1_19) hr) ?_ (by decide) (by decide)
      have hfn : fn1 q0 = (0 : Int32) := by simp only [fn1, if_pos hc13, if_neg hc14]
      exact ⟨by rw [hfn]; rfl, N0, e0⟩
  · refine Ends.via (fun _ k => XS.ifYes X0.here hx rfl (pc0 := 3) (pc' := 18) rfl (hb hby d1_3) rfl ((if0 _ _).trans (flt (mt (lw_gt _ _).mp hc13)).2.2.2) (by decide) (by decide) k) ?_
    show Ends p e below s ROOM1.cells ROOM1.slots (Q1 Z q0  h0 n0) (s₁.setTop (mkF m 18 #[.val (.long q0), .second] []))
    refine Ends.via (fun _ k => XS.iconst X0.here hx rfl (hb hby d1_18) k) ?_
    show Ends p e below s ROOM1.cells ROOM1.slots (Q1 Z q0  h0 n0) (s₁.setTop (mkF m 19 #[.val (.long q0), .second] [(.int (0 : Int32))]))
    refine Ends.ret X0 (v := some (.int (nar .boolean (0 : Int32)))) (fun h => by rw [Bd.returns] at h; cases h) Bd.notSynchronized (fun fs hr => retN X0 hx (t := .boolean) Bd.returns (by simp) (hb hby d1_19) hr) ?_ (by decide) (by decide)
    have hfn : fn1 q0 = (0 : Int32) := by simp only [fn1, if_neg hc13]
    exact ⟨by rw [hfn]; rfl, N0, e0⟩
theorem own_leaf1 (q0 : Int64) (p1 : Int32) (v1 : Int64) (v2 : Int32) (v7 : Int64) (v11 : Int32) (hv1 : ((((p1 >>> ((2 : Int32) &&& 31)) &&& (7 : Int32)).toInt64) - (4 : Int64)) = v1) (hv2 : (p1 &&& (3 : Int32)) = v2) (hv7 : (if v2 = (0 : Int32) then q0 else (if v2 = (1 : Int32) then v1 else (if v2 = (2 : Int32) then (((999999999999999999 : Int64) + (1 : Int64)) + v1) else (if ((p1 >>> ((5 : Int32) &&& 31)) &&& (1 : Int32)) = (0 : Int32) then ((-9223372036854775808 : Int64) + (v1 + (4 : Int64))) else ((9223372036854775807 : Int64) - (v1 + (4 : Int64))))))) = v7) (hv11 : (if v7 < (1 : Int64) then (0 : Int32) else (if (999999999999999999 : Int64) < v7 then (0 : Int32) else (1 : Int32))) = v11) (hc16 : ¬ ((fn1 v7) = v11)) : False := by
    apply hc16
    rw [← hv11]
    have e0 : (0 : Int64).toInt = 0 := rfl
    have e1 : (1 : Int64).toInt = 1 := rfl
    have e2 : (1000000000000000000 : Int64).toInt = 1000000000000000000 := rfl
    have e3 : (999999999999999999 : Int64).toInt = 999999999999999999 := rfl
    simp only [fn1, Int64.lt_iff_toInt_lt, e0, e1, e2, e3]
    repeat' split
    all_goals first | rfl | omega
theorem pn_0 : plainName "com/example/crossbook/crossbook/LimitsIsQuantityPinLaw" = true := by first | (simp [plainName, overriddenIn]; done) | decide +kernel
theorem ef_0 (m : MethodId) (q0 : Int64) (p1 : Int32) : entryFrame m #[(.long q0), (.int p1)] maxLocals = mkF m 0 #[.val (.long q0), .second, .val (.int p1), .unset, .unset, .unset, .unset, .unset, .unset, .unset, .unset] [] := by first | (simp [entryFrame, mkF, argsToLocals, Value.category, maxLocals]; done) | rfl
def Q0 (Z : State) (q0 : Int64) (p1 : Int32)  (h0 : Heap) (n0 : Nat) (v : Option Value) (h : Heap) (L : List Loc) : Prop := v = some (.int 1) ∧ Fr n0 L
set_option maxRecDepth 65536 in
set_option maxHeartbeats 40000000 in
theorem rm0 (l : Launch) (Z : State) (a0 : Array Value) (hw : ∀ d ∈ tables_1, d.before a0 Z = true) (ws : List Jvm.Cond) (q0 : Int64) (p1 : Int32)  (h0 : Heap) (n0 : Nat) (Z0 : n0 ≤ h0.size)  :
    MetFree l x (head1 (Jvm.Cond.code x code maxLocals ret :: ws) room_1) (fun a U => a = #[(.long q0), (.int p1)] ∧ Z.Warmed39 U.vm ∧ U.heap = h0) (fun _ _ _ _ _ => True) (fun _ U o U' => ∃ v L, o = .returned v ∧ Q0 Z q0 p1  h0 n0 v U'.heap L ∧ FrameEnd U o U' L 0 0) := by
  refine MetFree.of_bodySF (plainFor_of_name pn_0) hisR ?_
  intro p e s m args below meth c s₁ Bd hml0 hP hK
  obtain ⟨rfl, hZ, hh⟩ := hP
  have hx := Bd.exec
  have hby := Bd.bytes
  have hml : c.maxLocals = 11 := hml0
  have hown : s.vm.findClass "com/example/crossbook/crossbook/LimitsIsQuantityPinLaw" = some m.cls := findClass_of_methodNamed Bd.named
  have hnm := (name_of_methodNamed Bd.named Bd.method).1
  have X0 : Stand p l e room_1 s m #[(.long q0), (.int p1)] below meth c s₁ [] 0 0 := Stand.of_body Bd
  have e0 : s₁.heap = h0 := by rw [← hh, Bd.state]; rfl
  have N0 := Fr.nil n0
  refine Ends.via (A := s₁.setTop (mkF m 0 #[.val (.long q0), .second, .val (.int p1), .unset, .unset, .unset, .unset, .unset, .unset, .unset, .unset] [])) (kc := 0) (ks := 0) (Q := (Q0 Z q0 p1  h0 n0)) (fun t k => castTop (ef_0 m q0 p1) k) ?_
  show Ends p e below s 0 0 (Q0 Z q0 p1  h0 n0) (s₁.setTop (mkF m 0 #[.val (.long q0), .second, .val (.int p1), .unset, .unset, .unset, .unset, .unset, .unset, .unset, .unset] []))
  refine Ends.via (X0.ldc2Long hx hown (mvT hZ (hw _ (List.mem_of_getElem? (i := 0) rfl))) (g := (mkF m 0 #[.val (.long q0), .second, .val (.int p1), .unset, .unset, .unset, .unset, .unset, .unset, .unset, .unset] [])) rfl (hb hby at_0)) ?_
  show Ends p e below s 0 0 (Q0 Z q0 p1  h0 n0) (s₁.setTop (mkF m 3 #[.val (.long q0), .second, .val (.int p1), .unset, .unset, .unset, .unset, .unset, .unset, .unset, .unset] [(.long (999999999999999999 : Int64))]))
  refine Ends.via (fun _ k => XS.lstoreN X0.here hx rfl (hb hby at_3) rfl (l' := #[.val (.long q0), .second, .val (.int p1), .val (.long (999999999999999999 : Int64)), .second, .unset, .unset, .unset, .unset, .unset, .unset]) rfl k) ?_
  show Ends p e below s 0 0 (Q0 Z q0 p1  h0 n0) (s₁.setTop (mkF m 4 #[.val (.long q0), .second, .val (.int p1), .val (.long (999999999999999999 : Int64)), .second, .unset, .unset, .unset, .unset, .unset, .unset] []))
  refine Ends.via (fun _ k => XS.iloadN X0.here hx rfl (hb hby at_4) rfl k) ?_
  show Ends p e below s 0 0 (Q0 Z q0 p1  h0 n0) (s₁.setTop (mkF m 5 #[.val (.long q0), .second, .val (.int p1), .val (.long (999999999999999999 : Int64)), .second, .unset, .unset, .unset, .unset, .unset, .unset] [(.int p1)]))
  refine Ends.via (fun _ k => XS.iconst X0.here hx rfl (hb hby at_5) k) ?_
  show Ends p e below s 0 0 (Q0 Z q0 p1  h0 n0) (s₁.setTop (mkF m 6 #[.val (.long q0), .second, .val (.int p1), .val (.long (999999999999999999 : Int64)), .second, .unset, .unset, .unset, .unset, .unset, .unset] [(.int (2 : Int32)), (.int p1)]))
  refine Ends.via (fun _ k => XS.ishr X0.here hx rfl (hb hby at_6) rfl k) ?_
  show Ends p e below s 0 0 (Q0 Z q0 p1  h0 n0) (s₁.setTop (mkF m 7 #[.val (.long q0), .second, .val (.int p1), .val (.long (999999999999999999 : Int64)), .second, .unset, .unset, .unset, .unset, .unset, .unset] [(.int (p1 >>> ((2 : Int32) &&& 31)))]))
  refine Ends.via (fun _ k => XS.bipush X0.here hx rfl (hb hby at_7) k) ?_
  show Ends p e below s 0 0 (Q0 Z q0 p1  h0 n0) (s₁.setTop (mkF m 9 #[.val (.long q0), .second, .val (.int p1), .val (.long (999999999999999999 : Int64)), .second, .unset, .unset, .unset, .unset, .unset, .unset] [(.int (7 : Int32)), (.int (p1 >>> ((2 : Int32) &&& 31)))]))
  refine Ends.via (fun _ k => XS.iand X0.here hx rfl (hb hby at_9) rfl k) ?_
  show Ends p e below s 0 0 (Q0 Z q0 p1  h0 n0) (s₁.setTop (mkF m 10 #[.val (.long q0), .second, .val (.int p1), .val (.long (999999999999999999 : Int64)), .second, .unset, .unset, .unset, .unset, .unset, .unset] [(.int ((p1 >>> ((2 : Int32) &&& 31)) &&& (7 : Int32)))]))
  refine Ends.via (fun _ k => XS.i2l X0.here hx rfl (hb hby at_10) rfl k) ?_
  show Ends p e below s 0 0 (Q0 Z q0 p1  h0 n0) (s₁.setTop (mkF m 11 #[.val (.long q0), .second, .val (.int p1), .val (.long (999999999999999999 : Int64)), .second, .unset, .unset, .unset, .unset, .unset, .unset] [(.long (((p1 >>> ((2 : Int32) &&& 31)) &&& (7 : Int32)).toInt64))]))
  refine Ends.via (X0.ldc2Long hx hown (mvT hZ (hw _ (List.mem_of_getElem? (i := 1) rfl))) (g := (mkF m 11 #[.val (.long q0), .second, .val (.int p1), .val (.long (999999999999999999 : Int64)), .second, .unset, .unset, .unset, .unset, .unset, .unset] [(.long (((p1 >>> ((2 : Int32) &&& 31)) &&& (7 : Int32)).toInt64))])) rfl (hb hby at_11)) ?_
  show Ends p e below s 0 0 (Q0 Z q0 p1  h0 n0) (s₁.setTop (mkF m 14 #[.val (.long q0), .second, .val (.int p1), .val (.long (999999999999999999 : Int64)), .second, .unset, .unset, .unset, .unset, .unset, .unset] [(.long (4 : Int64)), (.long (((p1 >>> ((2 : Int32) &&& 31)) &&& (7 : Int32)).toInt64))]))
  refine Ends.via (fun _ k => XS.lsub X0.here hx rfl (hb hby at_14) rfl k) ?_
  show Ends p e below s 0 0 (Q0 Z q0 p1  h0 n0) (s₁.setTop (mkF m 15 #[.val (.long q0), .second, .val (.int p1), .val (.long (999999999999999999 : Int64)), .second, .unset, .unset, .unset, .unset, .unset, .unset] [(.long ((((p1 >>> ((2 : Int32) &&& 31)) &&& (7 : Int32)).toInt64) - (4 : Int64)))]))
  refine Ends.via (fun _ k => XS.lstore X0.here hx rfl (hb hby at_15) rfl (l' := #[.val (.long q0), .second, .val (.int p1), .val (.long (999999999999999999 : Int64)), .second, .val (.long ((((p1 >>> ((2 : Int32) &&& 31)) &&& (7 : Int32)).toInt64) - (4 : Int64))), .second, .unset, .unset, .unset, .unset]) rfl k) ?_
  show Ends p e below s 0 0 (Q0 Z q0 p1  h0 n0) (s₁.setTop (mkF m 17 #[.val (.long q0), .second, .val (.int p1), .val (.long (999999999999999999 : Int64)), .second, .val (.long ((((p1 >>> ((2 : Int32) &&& 31)) &&& (7 : Int32)).toInt64) - (4 : Int64))), .second, .unset, .unset, .unset, .unset] []))
  generalize hv1 : ((((p1 >>> ((2 : Int32) &&& 31)) &&& (7 : Int32)).toInt64) - (4 : Int64)) = v1
  refine Ends.via (fun _ k => XS.iloadN X0.here hx rfl (hb hby at_17) rfl k) ?_
  show Ends p e below s 0 0 (Q0 Z q0 p1  h0 n0) (s₁.setTop (mkF m 18 #[.val (.long q0), .second, .val (.int p1), .val (.long (999999999999999999 : Int64)), .second, .val (.long v1), .second, .unset, .unset, .unset, .unset] [(.int p1)]))
  refine Ends.via (fun _ k => XS.iconst X0.here hx rfl (hb hby at_18) k) ?_
  show Ends p e below s 0 0 (Q0 Z q0 p1  h0 n0) (s₁.setTop (mkF m 19 #[.val (.long q0), .second, .val (.int p1), .val (.long (999999999999999999 : Int64)), .second, .val (.long v1), .second, .unset, .unset, .unset, .unset] [(.int (3 : Int32)), (.int p1)]))
  refine Ends.via (fun _ k => XS.iand X0.here hx rfl (hb hby at_19) rfl k) ?_
  show Ends p e below s 0 0 (Q0 Z q0 p1  h0 n0) (s₁.setTop (mkF m 20 #[.val (.long q0), .second, .val (.int p1), .val (.long (999999999999999999 : Int64)), .second, .val (.long v1), .second, .unset, .unset, .unset, .unset] [(.int (p1 &&& (3 : Int32)))]))
  refine Ends.via (fun _ k => XS.istore X0.here hx rfl (hb hby at_20) rfl (l' := #[.val (.long q0), .second, .val (.int p1), .val (.long (999999999999999999 : Int64)), .second, .val (.long v1), .second, .val (.int (p1 &&& (3 : Int32))), .unset, .unset, .unset]) rfl k) ?_
  show Ends p e below s 0 0 (Q0 Z q0 p1  h0 n0) (s₁.setTop (mkF m 22 #[.val (.long q0), .second, .val (.int p1), .val (.long (999999999999999999 : Int64)), .second, .val (.long v1), .second, .val (.int (p1 &&& (3 : Int32))), .unset, .unset, .unset] []))
  generalize hv2 : (p1 &&& (3 : Int32)) = v2
  refine Ends.via (fun _ k => XS.iload X0.here hx rfl (hb hby at_22) rfl k) ?_
  show Ends p e below s 0 0 (Q0 Z q0 p1  h0 n0) (s₁.setTop (mkF m 24 #[.val (.long q0), .second, .val (.int p1), .val (.long (999999999999999999 : Int64)), .second, .val (.long v1), .second, .val (.int v2), .unset, .unset, .unset] [(.int v2)]))
  have J8 : ∀ (Tj8 : State) (Lj8 : List Loc) (Xj8 : Stand p l e room_1 s m #[(.long q0), (.int p1)] below meth c Tj8 Lj8 0 0) (ej8 : Tj8.heap = h0) (Nj8 : Fr n0 Lj8) (v7 : Int64), (if v2 = (0 : Int32) then q0 else (if v2 = (1 : Int32) then v1 else (if v2 = (2 : Int32) then (((999999999999999999 : Int64) + (1 : Int64)) + v1) else (if ((p1 >>> ((5 : Int32) &&& 31)) &&& (1 : Int32)) = (0 : Int32) then ((-9223372036854775808 : Int64) + (v1 + (4 : Int64))) else ((9223372036854775807 : Int64) - (v1 + (4 : Int64))))))) = v7 → Ends p e below s 0 0 (Q0 Z q0 p1  h0 n0) (Tj8.setTop (mkF m 98 #[.val (.long q0), .second, .val (.int p1), .val (.long (999999999999999999 : Int64)), .second, .val (.long v1), .second, .val (.int v2), .val (.long v7), .second, .unset] [])) := by
    intro Tj8 Lj8 Xj8 ej8 Nj8 v7 hv7
    refine Ends.via (fun _ k => XS.lload Xj8.here hx rfl (hb hby at_98) rfl k) ?_
    show Ends p e below s 0 0 (Q0 Z q0 p1  h0 n0) (Tj8.setTop (mkF m 100 #[.val (.long q0), .second, .val (.int p1), .val (.long (999999999999999999 : Int64)), .second, .val (.long v1), .second, .val (.int v2), .val (.long v7), .second, .unset] [(.long v7)]))
    refine Ends.via (fun _ k => XS.lconst Xj8.here hx rfl (hb hby at_100) k) ?_
    show Ends p e below s 0 0 (Q0 Z q0 p1  h0 n0) (Tj8.setTop (mkF m 101 #[.val (.long q0), .second, .val (.int p1), .val (.long (999999999999999999 : Int64)), .second, .val (.long v1), .second, .val (.int v2), .val (.long v7), .second, .unset] [(.long (1 : Int64)), (.long v7)]))
    refine Ends.via (fun _ k => XS.lcmp Xj8.here hx rfl (hb hby at_101) rfl k) ?_
    show Ends p e below s 0 0 (Q0 Z q0 p1  h0 n0) (Tj8.setTop (mkF m 102 #[.val (.long q0), .second, .val (.int p1), .val (.long (999999999999999999 : Int64)), .second, .val (.long v1), .second, .val (.int v2), .val (.long v7), .second, .unset] [(.int (lcmpW v7 (1 : Int64)))]))
    have J12 : ∀ (Tj12 : State) (Lj12 : List Loc) (Xj12 : Stand p l e room_1 s m #[(.long q0), (.int p1)] below meth c Tj12 Lj12 0 0) (ej12 : Tj12.heap = h0) (Nj12 : Fr n0 Lj12) (v11 : Int32), (if v7 < (1 : Int64) then (0 : Int32) else (if (999999999999999999 : Int64) < v7 then (0 : Int32) else (1 : Int32))) = v11 → Ends p e below s 0 0 (Q0 Z q0 p1  h0 n0) (Tj12.setTop (mkF m 117 #[.val (.long q0), .second, .val (.int p1), .val (.long (999999999999999999 : Int64)), .second, .val (.long v1), .second, .val (.int v2), .val (.long v7), .second, .unset] [(.int v11)])) := by
      intro Tj12 Lj12 Xj12 ej12 Nj12 v11 hv11
      refine Ends.via (fun _ k => XS.istore Xj12.here hx rfl (hb hby at_117) rfl (l' := #[.val (.long q0), .second, .val (.int p1), .val (.long (999999999999999999 : Int64)), .second, .val (.long v1), .second, .val (.int v2), .val (.long v7), .second, .val (.int v11)]) rfl k) ?_
      show Ends p e below s 0 0 (Q0 Z q0 p1  h0 n0) (Tj12.setTop (mkF m 119 #[.val (.long q0), .second, .val (.int p1), .val (.long (999999999999999999 : Int64)), .second, .val (.long v1), .second, .val (.int v2), .val (.long v7), .second, .val (.int v11)] []))
      refine Ends.via (fun _ k => XS.lload Xj12.here hx rfl (hb hby at_119) rfl k) ?_
      show Ends p e below s 0 0 (Q0 Z q0 p1  h0 n0) (Tj12.setTop (mkF m 121 #[.val (.long q0), .second, .val (.int p1), .val (.long (999999999999999999 : Int64)), .second, .val (.long v1), .second, .val (.int v2), .val (.long v7), .second, .val (.int v11)] [(.long v7)]))
      obtain ⟨_, _, ⟨T15, L15, k15, n15⟩, -, X15, ⟨Lc15, hQ15, l15, y15, z15⟩, st15⟩ := Jvm.LawKit.callS Xj12 hx (y := (⟨"com/example/crossbook/crossbook/Limits", "isQuantity", "(J)Z"⟩ : MethodName)) hown (mvT hZ (hw _ (List.mem_of_getElem? (i := 2) rfl))) (mvT hZ (hw _ (List.mem_of_getElem? (i := 3) rfl))) (mvT hZ (hw _ (List.mem_of_getElem? (i := 4) rfl))) (mvT hZ (hw _ (List.mem_of_getElem? (i := 5) rfl))) (by decide) (backOf (W := 0) (rm1 l Z _ hw [] v7 h0 n0 Z0) hZ (hw _ (List.mem_of_getElem? (i := 5) rfl)) (hw _ (List.mem_of_getElem? (i := 4) rfl)) (by decide) (by decide)) (g := (mkF m 121 #[.val (.long q0), .second, .val (.int p1), .val (.long (999999999999999999 : Int64)), .second, .val (.long v1), .second, .val (.int v2), .val (.long v7), .second, .val (.int v11)] [(.long v7)])) rfl (by rw [hml]; rfl) (argsL := [(.long v7)]) (rest := []) (lenOf own_pd0 rfl) rfl (by show 2 * 0 + _ ≤ _; exact Nat.le_of_eq rfl) (hb hby at_121) (fun _ _ => ⟨rfl, ej12, (by decide : 0 + 0 ≤ _), (by decide : 0 + 0 ≤ _)⟩)
      dsimp only [Pt.U, Pt.locs, Pt.cells, Pt.slots] at X15 l15 y15 z15 st15 hQ15
      subst l15 y15 z15
      obtain ⟨rfl, Nq15, e15⟩ := hQ15
      have N15 := Fr.app Nj12 Nq15
      refine Ends.via st15 ?_
      show Ends p e below s 0 0 (Q0 Z q0 p1  h0 n0) (T15.setTop (mkF m 124 #[.val (.long q0), .second, .val (.int p1), .val (.long (999999999999999999 : Int64)), .second, .val (.long v1), .second, .val (.int v2), .val (.long v7), .second, .val (.int v11)] [(.int (fn1 v7))]))
      refine Ends.via (fun _ k => XS.iload X15.here hx rfl (hb hby at_124) rfl k) ?_
      show Ends p e below s 0 0 (Q0 Z q0 p1  h0 n0) (T15.setTop (mkF m 126 #[.val (.long q0), .second, .val (.int p1), .val (.long (999999999999999999 : Int64)), .second, .val (.long v1), .second, .val (.int v2), .val (.long v7), .second, .val (.int v11)] [(.int v11), (.int (fn1 v7))]))
      by_cases hc16 : (fn1 v7) = v11
      · refine Ends.via (fun _ k => XS.icmpNo X15.here hx rfl (hb hby at_126) rfl (teq hc16).2 k) ?_
        show Ends p e below s 0 0 (Q0 Z q0 p1  h0 n0) (T15.setTop (mkF m 129 #[.val (.long q0), .second, .val (.int p1), .val (.long (999999999999999999 : Int64)), .second, .val (.long v1), .second, .val (.int v2), .val (.long v7), .second, .val (.int v11)] []))
        refine Ends.via (fun _ k => XS.iconst X15.here hx rfl (hb hby at_129) k) ?_
        show Ends p e below s 0 0 (Q0 Z q0 p1  h0 n0) (T15.setTop (mkF m 130 #[.val (.long q0), .second, .val (.int p1), .val (.long (999999999999999999 : Int64)), .second, .val (.long v1), .second, .val (.int v2), .val (.long v7), .second, .val (.int v11)] [(.int (1 : Int32))]))
        refine Ends.via (fun _ k => XS.goto X15.here hx rfl (pc0 := 130) (pc' := 134) rfl (hb hby at_130) (by decide) (by decide) k) ?_
        show Ends p e below s 0 0 (Q0 Z q0 p1  h0 n0) (T15.setTop (mkF m 134 #[.val (.long q0), .second, .val (.int p1), .val (.long (999999999999999999 : Int64)), .second, .val (.long v1), .second, .val (.int v2), .val (.long v7), .second, .val (.int v11)] [(.int (1 : Int32))]))
        refine Ends.ret X15 (v := some (.int (nar .boolean (1 : Int32)))) (fun h => by rw [Bd.returns] at h; cases h) Bd.notSynchronized (fun fs hr => retN X15 hx (t := .boolean) Bd.returns (by simp) (hb hby at_134) hr) ?_ (by decide) (by decide)
        exact ⟨rfl, N15⟩
      · refine Ends.via (fun _ k => XS.icmpYes X15.here hx rfl (pc0 := 126) (pc' := 133) rfl (hb hby at_126) rfl (feq hc16).2 (by decide) (by decide) k) ?_
        show Ends p e below s 0 0 (Q0 Z q0 p1  h0 n0) (T15.setTop (mkF m 133 #[.val (.long q0), .second, .val (.int p1), .val (.long (999999999999999999 : Int64)), .second, .val (.long v1), .second, .val (.int v2), .val (.long v7), .second, .val (.int v11)] []))
        refine Ends.via (fun _ k => XS.iconst X15.here hx rfl (hb hby at_133) k) ?_
        show Ends p e below s 0 0 (Q0 Z q0 p1  h0 n0) (T15.setTop (mkF m 134 #[.val (.long q0), .second, .val (.int p1), .val (.long (999999999999999999 : Int64)), .second, .val (.long v1), .second, .val (.int v2), .val (.long v7), .second, .val (.int v11)] [(.int (0 : Int32))]))
        refine Ends.ret X15 (v := some (.int (nar .boolean (0 : Int32)))) (fun h => by rw [Bd.returns] at h; cases h) Bd.notSynchronized (fun fs hr => retN X15 hx (t := .boolean) Bd.returns (by simp) (hb hby at_134) hr) ?_ (by decide) (by decide)
        exact absurd (own_leaf1 q0 p1 v1 v2 v7 v11 hv1 hv2 hv7 hv11 hc16) id
    by_cases hc17 : v7 < (1 : Int64)
    · refine Ends.via (fun _ k => XS.ifYes Xj8.here hx rfl (pc0 := 102) (pc' := 116) rfl (hb hby at_102) rfl ((if0 _ _).trans (tlt ((lw_lt _ _).mpr hc17)).1) (by decide) (by decide) k) ?_
      show Ends p e below s 0 0 (Q0 Z q0 p1  h0 n0) (Tj8.setTop (mkF m 116 #[.val (.long q0), .second, .val (.int p1), .val (.long (999999999999999999 : Int64)), .second, .val (.long v1), .second, .val (.int v2), .val (.long v7), .second, .unset] []))
      refine Ends.via (fun _ k => XS.iconst Xj8.here hx rfl (hb hby at_116) k) ?_
      show Ends p e below s 0 0 (Q0 Z q0 p1  h0 n0) (Tj8.setTop (mkF m 117 #[.val (.long q0), .second, .val (.int p1), .val (.long (999999999999999999 : Int64)), .second, .val (.long v1), .second, .val (.int v2), .val (.long v7), .second, .unset] [(.int (0 : Int32))]))
      exact J12 Tj8 _ Xj8 ej8 Nj8 (0 : Int32) (by first | (simp only [if_pos hc17]; done) | rfl)
    · refine Ends.via (fun _ k => XS.ifNo Xj8.here hx rfl (hb hby at_102) rfl ((if0 _ _).trans (flt (mt (lw_lt _ _).mp hc17)).1) k) ?_
      show Ends p e below s 0 0 (Q0 Z q0 p1  h0 n0) (Tj8.setTop (mkF m 105 #[.val (.long q0), .second, .val (.int p1), .val (.long (999999999999999999 : Int64)), .second, .val (.long v1), .second, .val (.int v2), .val (.long v7), .second, .unset] []))
      refine Ends.via (fun _ k => XS.lload Xj8.here hx rfl (hb hby at_105) rfl k) ?_
      show Ends p e below s 0 0 (Q0 Z q0 p1  h0 n0) (Tj8.setTop (mkF m 107 #[.val (.long q0), .second, .val (.int p1), .val (.long (999999999999999999 : Int64)), .second, .val (.long v1), .second, .val (.int v2), .val (.long v7), .second, .unset] [(.long v7)]))
      refine Ends.via (fun _ k => XS.lloadN Xj8.here hx rfl (hb hby at_107) rfl k) ?_
      show Ends p e below s 0 0 (Q0 Z q0 p1  h0 n0) (Tj8.setTop (mkF m 108 #[.val (.long q0), .second, .val (.int p1), .val (.long (999999999999999999 : Int64)), .second, .val (.long v1), .second, .val (.int v2), .val (.long v7), .second, .unset] [(.long (999999999999999999 : Int64)), (.long v7)]))
      refine Ends.via (fun _ k => XS.lcmp Xj8.here hx rfl (hb hby at_108) rfl k) ?_
      show Ends p e below s 0 0 (Q0 Z q0 p1  h0 n0) (Tj8.setTop (mkF m 109 #[.val (.long q0), .second, .val (.int p1), .val (.long (999999999999999999 : Int64)), .second, .val (.long v1), .second, .val (.int v2), .val (.long v7), .second, .unset] [(.int (lcmpW v7 (999999999999999999 : Int64)))]))
      by_cases hc18 : (999999999999999999 : Int64) < v7
      · refine Ends.via (fun _ k => XS.ifYes Xj8.here hx rfl (pc0 := 109) (pc' := 116) rfl (hb hby at_109) rfl ((if0 _ _).trans (tlt ((lw_gt _ _).mpr hc18)).2.2.1) (by decide) (by decide) k) ?_
        show Ends p e below s 0 0 (Q0 Z q0 p1  h0 n0) (Tj8.setTop (mkF m 116 #[.val (.long q0), .second, .val (.int p1), .val (.long (999999999999999999 : Int64)), .second, .val (.long v1), .second, .val (.int v2), .val (.long v7), .second, .unset] []))
        refine Ends.via (fun _ k => XS.iconst Xj8.here hx rfl (hb hby at_116) k) ?_
        show Ends p e below s 0 0 (Q0 Z q0 p1  h0 n0) (Tj8.setTop (mkF m 117 #[.val (.long q0), .second, .val (.int p1), .val (.long (999999999999999999 : Int64)), .second, .val (.long v1), .second, .val (.int v2), .val (.long v7), .second, .unset] [(.int (0 : Int32))]))
        exact J12 Tj8 _ Xj8 ej8 Nj8 (0 : Int32) (by first | (simp only [if_neg hc17, if_pos hc18]; done) | rfl)
      · refine Ends.via (fun _ k => XS.ifNo Xj8.here hx rfl (hb hby at_109) rfl ((if0 _ _).trans (flt (mt (lw_gt _ _).mp hc18)).2.2.1) k) ?_
        show Ends p e below s 0 0 (Q0 Z q0 p1  h0 n0) (Tj8.setTop (mkF m 112 #[.val (.long q0), .second, .val (.int p1), .val (.long (999999999999999999 : Int64)), .second, .val (.long v1), .second, .val (.int v2), .val (.long v7), .second, .unset] []))
        refine Ends.via (fun _ k => XS.iconst Xj8.here hx rfl (hb hby at_112) k) ?_
        show Ends p e below s 0 0 (Q0 Z q0 p1  h0 n0) (Tj8.setTop (mkF m 113 #[.val (.long q0), .second, .val (.int p1), .val (.long (999999999999999999 : Int64)), .second, .val (.long v1), .second, .val (.int v2), .val (.long v7), .second, .unset] [(.int (1 : Int32))]))
        refine Ends.via (fun _ k => XS.goto Xj8.here hx rfl (pc0 := 113) (pc' := 117) rfl (hb hby at_113) (by decide) (by decide) k) ?_
        show Ends p e below s 0 0 (Q0 Z q0 p1  h0 n0) (Tj8.setTop (mkF m 117 #[.val (.long q0), .second, .val (.int p1), .val (.long (999999999999999999 : Int64)), .second, .val (.long v1), .second, .val (.int v2), .val (.long v7), .second, .unset] [(.int (1 : Int32))]))
        exact J12 Tj8 _ Xj8 ej8 Nj8 (1 : Int32) (by first | (simp only [if_neg hc17, if_neg hc18]; done) | rfl)
  by_cases hc19 : v2 = (0 : Int32)
  · refine Ends.via (fun _ k => XS.ifNo X0.here hx rfl (hb hby at_24) rfl ((if0 _ _).trans (teq hc19).2) k) ?_
    show Ends p e below s 0 0 (Q0 Z q0 p1  h0 n0) (s₁.setTop (mkF m 27 #[.val (.long q0), .second, .val (.int p1), .val (.long (999999999999999999 : Int64)), .second, .val (.long v1), .second, .val (.int v2), .unset, .unset, .unset] []))
    refine Ends.via (fun _ k => XS.lloadN X0.here hx rfl (hb hby at_27) rfl k) ?_
    show Ends p e below s 0 0 (Q0 Z q0 p1  h0 n0) (s₁.setTop (mkF m 28 #[.val (.long q0), .second, .val (.int p1), .val (.long (999999999999999999 : Int64)), .second, .val (.long v1), .second, .val (.int v2), .unset, .unset, .unset] [(.long q0)]))
    refine Ends.via (fun _ k => XS.lstore X0.here hx rfl (hb hby at_28) rfl (l' := #[.val (.long q0), .second, .val (.int p1), .val (.long (999999999999999999 : Int64)), .second, .val (.long v1), .second, .val (.int v2), .val (.long q0), .second, .unset]) rfl k) ?_
    show Ends p e below s 0 0 (Q0 Z q0 p1  h0 n0) (s₁.setTop (mkF m 30 #[.val (.long q0), .second, .val (.int p1), .val (.long (999999999999999999 : Int64)), .second, .val (.long v1), .second, .val (.int v2), .val (.long q0), .second, .unset] []))
    refine Ends.via (fun _ k => XS.goto X0.here hx rfl (pc0 := 30) (pc' := 98) rfl (hb hby at_30) (by decide) (by decide) k) ?_
    show Ends p e below s 0 0 (Q0 Z q0 p1  h0 n0) (s₁.setTop (mkF m 98 #[.val (.long q0), .second, .val (.int p1), .val (.long (999999999999999999 : Int64)), .second, .val (.long v1), .second, .val (.int v2), .val (.long q0), .second, .unset] []))
    exact J8 s₁ _ X0 e0 N0 q0 (by first | (simp only [if_pos hc19]; done) | rfl)
  · refine Ends.via (fun _ k => XS.ifYes X0.here hx rfl (pc0 := 24) (pc' := 33) rfl (hb hby at_24) rfl ((if0 _ _).trans (feq hc19).2) (by decide) (by decide) k) ?_
    show Ends p e below s 0 0 (Q0 Z q0 p1  h0 n0) (s₁.setTop (mkF m 33 #[.val (.long q0), .second, .val (.int p1), .val (.long (999999999999999999 : Int64)), .second, .val (.long v1), .second, .val (.int v2), .unset, .unset, .unset] []))
    refine Ends.via (fun _ k => XS.iload X0.here hx rfl (hb hby at_33) rfl k) ?_
    show Ends p e below s 0 0 (Q0 Z q0 p1  h0 n0) (s₁.setTop (mkF m 35 #[.val (.long q0), .second, .val (.int p1), .val (.long (999999999999999999 : Int64)), .second, .val (.long v1), .second, .val (.int v2), .unset, .unset, .unset] [(.int v2)]))
    refine Ends.via (fun _ k => XS.iconst X0.here hx rfl (hb hby at_35) k) ?_
    show Ends p e below s 0 0 (Q0 Z q0 p1  h0 n0) (s₁.setTop (mkF m 36 #[.val (.long q0), .second, .val (.int p1), .val (.long (999999999999999999 : Int64)), .second, .val (.long v1), .second, .val (.int v2), .unset, .unset, .unset] [(.int (1 : Int32)), (.int v2)]))
    by_cases hc20 : v2 = (1 : Int32)
    · refine Ends.via (fun _ k => XS.icmpNo X0.here hx rfl (hb hby at_36) rfl (teq hc20).2 k) ?_
      show Ends p e below s 0 0 (Q0 Z q0 p1  h0 n0) (s₁.setTop (mkF m 39 #[.val (.long q0), .second, .val (.int p1), .val (.long (999999999999999999 : Int64)), .second, .val (.long v1), .second, .val (.int v2), .unset, .unset, .unset] []))
      refine Ends.via (fun _ k => XS.lload X0.here hx rfl (hb hby at_39) rfl k) ?_
      show Ends p e below s 0 0 (Q0 Z q0 p1  h0 n0) (s₁.setTop (mkF m 41 #[.val (.long q0), .second, .val (.int p1), .val (.long (999999999999999999 : Int64)), .second, .val (.long v1), .second, .val (.int v2), .unset, .unset, .unset] [(.long v1)]))
      refine Ends.via (fun _ k => XS.lstore X0.here hx rfl (hb hby at_41) rfl (l' := #[.val (.long q0), .second, .val (.int p1), .val (.long (999999999999999999 : Int64)), .second, .val (.long v1), .second, .val (.int v2), .val (.long v1), .second, .unset]) rfl k) ?_
      show Ends p e below s 0 0 (Q0 Z q0 p1  h0 n0) (s₁.setTop (mkF m 43 #[.val (.long q0), .second, .val (.int p1), .val (.long (999999999999999999 : Int64)), .second, .val (.long v1), .second, .val (.int v2), .val (.long v1), .second, .unset] []))
      refine Ends.via (fun _ k => XS.goto X0.here hx rfl (pc0 := 43) (pc' := 98) rfl (hb hby at_43) (by decide) (by decide) k) ?_
      show Ends p e below s 0 0 (Q0 Z q0 p1  h0 n0) (s₁.setTop (mkF m 98 #[.val (.long q0), .second, .val (.int p1), .val (.long (999999999999999999 : Int64)), .second, .val (.long v1), .second, .val (.int v2), .val (.long v1), .second, .unset] []))
      exact J8 s₁ _ X0 e0 N0 v1 (by first | (simp only [if_neg hc19, if_pos hc20]; done) | rfl)
    · refine Ends.via (fun _ k => XS.icmpYes X0.here hx rfl (pc0 := 36) (pc' := 46) rfl (hb hby at_36) rfl (feq hc20).2 (by decide) (by decide) k) ?_
      show Ends p e below s 0 0 (Q0 Z q0 p1  h0 n0) (s₁.setTop (mkF m 46 #[.val (.long q0), .second, .val (.int p1), .val (.long (999999999999999999 : Int64)), .second, .val (.long v1), .second, .val (.int v2), .unset, .unset, .unset] []))
      refine Ends.via (fun _ k => XS.iload X0.here hx rfl (hb hby at_46) rfl k) ?_
      show Ends p e below s 0 0 (Q0 Z q0 p1  h0 n0) (s₁.setTop (mkF m 48 #[.val (.long q0), .second, .val (.int p1), .val (.long (999999999999999999 : Int64)), .second, .val (.long v1), .second, .val (.int v2), .unset, .unset, .unset] [(.int v2)]))
      refine Ends.via (fun _ k => XS.iconst X0.here hx rfl (hb hby at_48) k) ?_
      show Ends p e below s 0 0 (Q0 Z q0 p1  h0 n0) (s₁.setTop (mkF m 49 #[.val (.long q0), .second, .val (.int p1), .val (.long (999999999999999999 : Int64)), .second, .val (.long v1), .second, .val (.int v2), .unset, .unset, .unset] [(.int (2 : Int32)), (.int v2)]))
      by_cases hc21 : v2 = (2 : Int32)
      · refine Ends.via (fun _ k => XS.icmpNo X0.here hx rfl (hb hby at_49) rfl (teq hc21).2 k) ?_
        show Ends p e below s 0 0 (Q0 Z q0 p1  h0 n0) (s₁.setTop (mkF m 52 #[.val (.long q0), .second, .val (.int p1), .val (.long (999999999999999999 : Int64)), .second, .val (.long v1), .second, .val (.int v2), .unset, .unset, .unset] []))
        refine Ends.via (fun _ k => XS.lloadN X0.here hx rfl (hb hby at_52) rfl k) ?_
        show Ends p e below s 0 0 (Q0 Z q0 p1  h0 n0) (s₁.setTop (mkF m 53 #[.val (.long q0), .second, .val (.int p1), .val (.long (999999999999999999 : Int64)), .second, .val (.long v1), .second, .val (.int v2), .unset, .unset, .unset] [(.long (999999999999999999 : Int64))]))
        refine Ends.via (fun _ k => XS.lconst X0.here hx rfl (hb hby at_53) k) ?_
        show Ends p e below s 0 0 (Q0 Z q0 p1  h0 n0) (s₁.setTop (mkF m 54 #[.val (.long q0), .second, .val (.int p1), .val (.long (999999999999999999 : Int64)), .second, .val (.long v1), .second, .val (.int v2), .unset, .unset, .unset] [(.long (1 : Int64)), (.long (999999999999999999 : Int64))]))
        refine Ends.via (fun _ k => XS.ladd X0.here hx rfl (hb hby at_54) rfl k) ?_
        show Ends p e below s 0 0 (Q0 Z q0 p1  h0 n0) (s₁.setTop (mkF m 55 #[.val (.long q0), .second, .val (.int p1), .val (.long (999999999999999999 : Int64)), .second, .val (.long v1), .second, .val (.int v2), .unset, .unset, .unset] [(.long ((999999999999999999 : Int64) + (1 : Int64)))]))
        refine Ends.via (fun _ k => XS.lload X0.here hx rfl (hb hby at_55) rfl k) ?_
        show Ends p e below s 0 0 (Q0 Z q0 p1  h0 n0) (s₁.setTop (mkF m 57 #[.val (.long q0), .second, .val (.int p1), .val (.long (999999999999999999 : Int64)), .second, .val (.long v1), .second, .val (.int v2), .unset, .unset, .unset] [(.long v1), (.long ((999999999999999999 : Int64) + (1 : Int64)))]))
        refine Ends.via (fun _ k => XS.ladd X0.here hx rfl (hb hby at_57) rfl k) ?_
        show Ends p e below s 0 0 (Q0 Z q0 p1  h0 n0) (s₁.setTop (mkF m 58 #[.val (.long q0), .second, .val (.int p1), .val (.long (999999999999999999 : Int64)), .second, .val (.long v1), .second, .val (.int v2), .unset, .unset, .unset] [(.long (((999999999999999999 : Int64) + (1 : Int64)) + v1))]))
        refine Ends.via (fun _ k => XS.lstore X0.here hx rfl (hb hby at_58) rfl (l' := #[.val (.long q0), .second, .val (.int p1), .val (.long (999999999999999999 : Int64)), .second, .val (.long v1), .second, .val (.int v2), .val (.long (((999999999999999999 : Int64) + (1 : Int64)) + v1)), .second, .unset]) rfl k) ?_
        show Ends p e below s 0 0 (Q0 Z q0 p1  h0 n0) (s₁.setTop (mkF m 60 #[.val (.long q0), .second, .val (.int p1), .val (.long (999999999999999999 : Int64)), .second, .val (.long v1), .second, .val (.int v2), .val (.long (((999999999999999999 : Int64) + (1 : Int64)) + v1)), .second, .unset] []))
        refine Ends.via (fun _ k => XS.goto X0.here hx rfl (pc0 := 60) (pc' := 98) rfl (hb hby at_60) (by decide) (by decide) k) ?_
        show Ends p e below s 0 0 (Q0 Z q0 p1  h0 n0) (s₁.setTop (mkF m 98 #[.val (.long q0), .second, .val (.int p1), .val (.long (999999999999999999 : Int64)), .second, .val (.long v1), .second, .val (.int v2), .val (.long (((999999999999999999 : Int64) + (1 : Int64)) + v1)), .second, .unset] []))
        exact J8 s₁ _ X0 e0 N0 (((999999999999999999 : Int64) + (1 : Int64)) + v1) (by first | (simp only [if_neg hc19, if_neg hc20, if_pos hc21]; done) | rfl)
      · refine Ends.via (fun _ k => XS.icmpYes X0.here hx rfl (pc0 := 49) (pc' := 63) rfl (hb hby at_49) rfl (feq hc21).2 (by decide) (by decide) k) ?_
        show Ends p e below s 0 0 (Q0 Z q0 p1  h0 n0) (s₁.setTop (mkF m 63 #[.val (.long q0), .second, .val (.int p1), .val (.long (999999999999999999 : Int64)), .second, .val (.long v1), .second, .val (.int v2), .unset, .unset, .unset] []))
        refine Ends.via (fun _ k => XS.iloadN X0.here hx rfl (hb hby at_63) rfl k) ?_
        show Ends p e below s 0 0 (Q0 Z q0 p1  h0 n0) (s₁.setTop (mkF m 64 #[.val (.long q0), .second, .val (.int p1), .val (.long (999999999999999999 : Int64)), .second, .val (.long v1), .second, .val (.int v2), .unset, .unset, .unset] [(.int p1)]))
        refine Ends.via (fun _ k => XS.iconst X0.here hx rfl (hb hby at_64) k) ?_
        show Ends p e below s 0 0 (Q0 Z q0 p1  h0 n0) (s₁.setTop (mkF m 65 #[.val (.long q0), .second, .val (.int p1), .val (.long (999999999999999999 : Int64)), .second, .val (.long v1), .second, .val (.int v2), .unset, .unset, .unset] [(.int (5 : Int32)), (.int p1)]))
        refine Ends.via (fun _ k => XS.ishr X0.here hx rfl (hb hby at_65) rfl k) ?_
        show Ends p e below s 0 0 (Q0 Z q0 p1  h0 n0) (s₁.setTop (mkF m 66 #[.val (.long q0), .second, .val (.int p1), .val (.long (999999999999999999 : Int64)), .second, .val (.long v1), .second, .val (.int v2), .unset, .unset, .unset] [(.int (p1 >>> ((5 : Int32) &&& 31)))]))
        refine Ends.via (fun _ k => XS.iconst X0.here hx rfl (hb hby at_66) k) ?_
        show Ends p e below s 0 0 (Q0 Z q0 p1  h0 n0) (s₁.setTop (mkF m 67 #[.val (.long q0), .second, .val (.int p1), .val (.long (999999999999999999 : Int64)), .second, .val (.long v1), .second, .val (.int v2), .unset, .unset, .unset] [(.int (1 : Int32)), (.int (p1 >>> ((5 : Int32) &&& 31)))]))
        refine Ends.via (fun _ k => XS.iand X0.here hx rfl (hb hby at_67) rfl k) ?_
        show Ends p e below s 0 0 (Q0 Z q0 p1  h0 n0) (s₁.setTop (mkF m 68 #[.val (.long q0), .second, .val (.int p1), .val (.long (999999999999999999 : Int64)), .second, .val (.long v1), .second, .val (.int v2), .unset, .unset, .unset] [(.int ((p1 >>> ((5 : Int32) &&& 31)) &&& (1 : Int32)))]))
        by_cases hc22 : ((p1 >>> ((5 : Int32) &&& 31)) &&& (1 : Int32)) = (0 : Int32)
        · refine Ends.via (fun _ k => XS.ifYes X0.here hx rfl (pc0 := 68) (pc' := 86) rfl (hb hby at_68) rfl ((if0 _ _).trans (teq hc22).1) (by decide) (by decide) k) ?_
          show Ends p e below s 0 0 (Q0 Z q0 p1  h0 n0) (s₁.setTop (mkF m 86 #[.val (.long q0), .second, .val (.int p1), .val (.long (999999999999999999 : Int64)), .second, .val (.long v1), .second, .val (.int v2), .unset, .unset, .unset] []))
          refine Ends.via (X0.ldc2Long hx hown (mvT hZ (hw _ (List.mem_of_getElem? (i := 7) rfl))) (g := (mkF m 86 #[.val (.long q0), .second, .val (.int p1), .val (.long (999999999999999999 : Int64)), .second, .val (.long v1), .second, .val (.int v2), .unset, .unset, .unset] [])) rfl (hb hby at_86)) ?_
          show Ends p e below s 0 0 (Q0 Z q0 p1  h0 n0) (s₁.setTop (mkF m 89 #[.val (.long q0), .second, .val (.int p1), .val (.long (999999999999999999 : Int64)), .second, .val (.long v1), .second, .val (.int v2), .unset, .unset, .unset] [(.long (-9223372036854775808 : Int64))]))
          refine Ends.via (fun _ k => XS.lload X0.here hx rfl (hb hby at_89) rfl k) ?_
          show Ends p e below s 0 0 (Q0 Z q0 p1  h0 n0) (s₁.setTop (mkF m 91 #[.val (.long q0), .second, .val (.int p1), .val (.long (999999999999999999 : Int64)), .second, .val (.long v1), .second, .val (.int v2), .unset, .unset, .unset] [(.long v1), (.long (-9223372036854775808 : Int64))]))
          refine Ends.via (X0.ldc2Long hx hown (mvT hZ (hw _ (List.mem_of_getElem? (i := 1) rfl))) (g := (mkF m 91 #[.val (.long q0), .second, .val (.int p1), .val (.long (999999999999999999 : Int64)), .second, .val (.long v1), .second, .val (.int v2), .unset, .unset, .unset] [(.long v1), (.long (-9223372036854775808 : Int64))])) rfl (hb hby at_91)) ?_
          show Ends p e below s 0 0 (Q0 Z q0 p1  h0 n0) (s₁.setTop (mkF m 94 #[.val (.long q0), .second, .val (.int p1), .val (.long (999999999999999999 : Int64)), .second, .val (.long v1), .second, .val (.int v2), .unset, .unset, .unset] [(.long (4 : Int64)), (.long v1), (.long (-9223372036854775808 : Int64))]))
          refine Ends.via (fun _ k => XS.ladd X0.here hx rfl (hb hby at_94) rfl k) ?_
          show Ends p e below s 0 0 (Q0 Z q0 p1  h0 n0) (s₁.setTop (mkF m 95 #[.val (.long q0), .second, .val (.int p1), .val (.long (999999999999999999 : Int64)), .second, .val (.long v1), .second, .val (.int v2), .unset, .unset, .unset] [(.long (v1 + (4 : Int64))), (.long (-9223372036854775808 : Int64))]))
          refine Ends.via (fun _ k => XS.ladd X0.here hx rfl (hb hby at_95) rfl k) ?_
          show Ends p e below s 0 0 (Q0 Z q0 p1  h0 n0) (s₁.setTop (mkF m 96 #[.val (.long q0), .second, .val (.int p1), .val (.long (999999999999999999 : Int64)), .second, .val (.long v1), .second, .val (.int v2), .unset, .unset, .unset] [(.long ((-9223372036854775808 : Int64) + (v1 + (4 : Int64))))]))
          refine Ends.via (fun _ k => XS.lstore X0.here hx rfl (hb hby at_96) rfl (l' := #[.val (.long q0), .second, .val (.int p1), .val (.long (999999999999999999 : Int64)), .second, .val (.long v1), .second, .val (.int v2), .val (.long ((-9223372036854775808 : Int64) + (v1 + (4 : Int64)))), .second, .unset]) rfl k) ?_
          show Ends p e below s 0 0 (Q0 Z q0 p1  h0 n0) (s₁.setTop (mkF m 98 #[.val (.long q0), .second, .val (.int p1), .val (.long (999999999999999999 : Int64)), .second, .val (.long v1), .second, .val (.int v2), .val (.long ((-9223372036854775808 : Int64) + (v1 + (4 : Int64)))), .second, .unset] []))
          exact J8 s₁ _ X0 e0 N0 ((-9223372036854775808 : Int64) + (v1 + (4 : Int64))) (by first | (simp only [if_neg hc19, if_neg hc20, if_neg hc21, if_pos hc22]; done) | rfl)
        · refine Ends.via (fun _ k => XS.ifNo X0.here hx rfl (hb hby at_68) rfl ((if0 _ _).trans (feq hc22).1) k) ?_
          show Ends p e below s 0 0 (Q0 Z q0 p1  h0 n0) (s₁.setTop (mkF m 71 #[.val (.long q0), .second, .val (.int p1), .val (.long (999999999999999999 : Int64)), .second, .val (.long v1), .second, .val (.int v2), .unset, .unset, .unset] []))
          refine Ends.via (X0.ldc2Long hx hown (mvT hZ (hw _ (List.mem_of_getElem? (i := 8) rfl))) (g := (mkF m 71 #[.val (.long q0), .second, .val (.int p1), .val (.long (999999999999999999 : Int64)), .second, .val (.long v1), .second, .val (.int v2), .unset, .unset, .unset] [])) rfl (hb hby at_71)) ?_
          show Ends p e below s 0 0 (Q0 Z q0 p1  h0 n0) (s₁.setTop (mkF m 74 #[.val (.long q0), .second, .val (.int p1), .val (.long (999999999999999999 : Int64)), .second, .val (.long v1), .second, .val (.int v2), .unset, .unset, .unset] [(.long (9223372036854775807 : Int64))]))
          refine Ends.via (fun _ k => XS.lload X0.here hx rfl (hb hby at_74) rfl k) ?_
          show Ends p e below s 0 0 (Q0 Z q0 p1  h0 n0) (s₁.setTop (mkF m 76 #[.val (.long q0), .second, .val (.int p1), .val (.long (999999999999999999 : Int64)), .second, .val (.long v1), .second, .val (.int v2), .unset, .unset, .unset] [(.long v1), (.long (9223372036854775807 : Int64))]))
          refine Ends.via (X0.ldc2Long hx hown (mvT hZ (hw _ (List.mem_of_getElem? (i := 1) rfl))) (g := (mkF m 76 #[.val (.long q0), .second, .val (.int p1), .val (.long (999999999999999999 : Int64)), .second, .val (.long v1), .second, .val (.int v2), .unset, .unset, .unset] [(.long v1), (.long (9223372036854775807 : Int64))])) rfl (hb hby at_76)) ?_
          show Ends p e below s 0 0 (Q0 Z q0 p1  h0 n0) (s₁.setTop (mkF m 79 #[.val (.long q0), .second, .val (.int p1), .val (.long (999999999999999999 : Int64)), .second, .val (.long v1), .second, .val (.int v2), .unset, .unset, .unset] [(.long (4 : Int64)), (.long v1), (.long (9223372036854775807 : Int64))]))
          refine Ends.via (fun _ k => XS.ladd X0.here hx rfl (hb hby at_79) rfl k) ?_
          show Ends p e below s 0 0 (Q0 Z q0 p1  h0 n0) (s₁.setTop (mkF m 80 #[.val (.long q0), .second, .val (.int p1), .val (.long (999999999999999999 : Int64)), .second, .val (.long v1), .second, .val (.int v2), .unset, .unset, .unset] [(.long (v1 + (4 : Int64))), (.long (9223372036854775807 : Int64))]))
          refine Ends.via (fun _ k => XS.lsub X0.here hx rfl (hb hby at_80) rfl k) ?_
          show Ends p e below s 0 0 (Q0 Z q0 p1  h0 n0) (s₁.setTop (mkF m 81 #[.val (.long q0), .second, .val (.int p1), .val (.long (999999999999999999 : Int64)), .second, .val (.long v1), .second, .val (.int v2), .unset, .unset, .unset] [(.long ((9223372036854775807 : Int64) - (v1 + (4 : Int64))))]))
          refine Ends.via (fun _ k => XS.lstore X0.here hx rfl (hb hby at_81) rfl (l' := #[.val (.long q0), .second, .val (.int p1), .val (.long (999999999999999999 : Int64)), .second, .val (.long v1), .second, .val (.int v2), .val (.long ((9223372036854775807 : Int64) - (v1 + (4 : Int64)))), .second, .unset]) rfl k) ?_
          show Ends p e below s 0 0 (Q0 Z q0 p1  h0 n0) (s₁.setTop (mkF m 83 #[.val (.long q0), .second, .val (.int p1), .val (.long (999999999999999999 : Int64)), .second, .val (.long v1), .second, .val (.int v2), .val (.long ((9223372036854775807 : Int64) - (v1 + (4 : Int64)))), .second, .unset] []))
          refine Ends.via (fun _ k => XS.goto X0.here hx rfl (pc0 := 83) (pc' := 98) rfl (hb hby at_83) (by decide) (by decide) k) ?_
          show Ends p e below s 0 0 (Q0 Z q0 p1  h0 n0) (s₁.setTop (mkF m 98 #[.val (.long q0), .second, .val (.int p1), .val (.long (999999999999999999 : Int64)), .second, .val (.long v1), .second, .val (.int v2), .val (.long ((9223372036854775807 : Int64) - (v1 + (4 : Int64)))), .second, .unset] []))
          exact J8 s₁ _ X0 e0 N0 ((9223372036854775807 : Int64) - (v1 + (4 : Int64))) (by first | (simp only [if_neg hc19, if_neg hc20, if_neg hc21, if_neg hc22]; done) | rfl)
set_option maxRecDepth 65536 in
set_option maxHeartbeats 40000000 in
theorem comes_1 {Post : Tables → Env → Array Value → State → Outcome → State → Prop} (hpost : ∀ tb e args s v u, (limb_1_1.after args s (.returned v) u = true ∧ limb_1_2.after args s (.returned v) u = true ∧ True) → FrameEnd s (.returned v) u (Jvm.fieldLocs frame_1_writes args s ++ Jvm.arrayLocs frame_1_arrays args s ++ Jvm.staticLocs frame_1_statics s) 0 0 → Post tb e args s (.returned v) u) :
    ArmFor flags0 classFile x code maxLocals ret World_1 tables_1 room_1 Calls_1 rest_1 Pre_1 Post := by
  intro l hfl _ _ p e ha hc hk s m args below hf hA hF happ hP
  obtain ⟨hcalls, hrest, hpre⟩ := hP
  obtain ⟨-, -, -, hnamed, -, -, -, hat⟩ := (Spec.applies_iff hf).mp happ
  obtain ⟨hg, hn⟩ := and_e (Cond.before_iff.mp (show (Jvm.Cond.and given_1 narrow_1).before args s = true from hpre))
  obtain ⟨hcnt, g0⟩ := and_e hg
  obtain ⟨t0, g1⟩ := and_e g0
  obtain ⟨w0, w1, rfl⟩ : ∃ w0 w1 : Value, args = #[w0, w1] := by
    have hs : args.size = 2 := by simpa [Cond.value, given_1] using hcnt
    obtain ⟨L⟩ := args
    match L, hs with
    | [w0, w1], _ => exact ⟨w0, w1, rfl⟩
  have hw := fun d (hd : d ∈ tables_1) => atoms_spec (ws := Jvm.Cond.code x code maxLocals ret :: tables_1) hat d (List.mem_cons_of_mem _ hd)
  obtain ⟨i0, ei0⟩ := isL_v t0
  obtain rfl : w0 = (.long i0) := Option.some.inj ei0
  obtain ⟨i1, ei1⟩ := is_v g1
  obtain rfl : w1 = (.int i1) := Option.some.inj ei1
  obtain ⟨n, o, h1, h2, h3, _, L, rfl, ⟨rfl, N⟩, hq⟩ := rm0 l s _ hw tables_1 i0 i1 s.heap s.heap.size (Nat.le_refl _) p e ha hc hk s m _ below hf ((Spec.applies_iff_loose hf).mp happ).1 ⟨rfl, State.Warmed39.refl s, rfl⟩ trivial
  refine ⟨n, _, h1, h2, h3, hpost _ _ _ _ _ _ ⟨Cond.after_iff.mpr rfl, Cond.after_iff.mpr (eq_i res_at (Term.int_eval (1)) rfl), trivial⟩ ⟨hq.1, hq.2.1, (hq.2.2.sift fun y hy => Or.inr (N y hy)).mono (by decide) (by decide)⟩⟩
theorem main_1_1 : Claimed_1_1 := comes_1 fun _ _ _ _ _ _ h hF => ⟨h.1, hF⟩
theorem main_1_2 : Claimed_1_2 := comes_1 fun _ _ _ _ _ _ h hF => ⟨h.2.1, hF⟩
end Jvm.Pilot.@@N@@
namespace Jvm.Pilot.@@N@@
open Jvm Jvm.ClassFile Sem Op Lib Jvm.Free Jvm.Stand Jvm.Pilot.@@N@@.Jvm.D
/-! MADE BY PROGRAM (witnessworld.py) out of the Statement's table words and the real class files: 9 classes; the members and pool entries that the words name. The judged class is class 1, her method 1. -/
namespace start1
open Jvm.ClassFile
def u (s : String) : CpInfo := .utf8 (stringToUtf16 s)
/-- a pool by its gaps: so many unusable entries, then the entry; so many at the end -/
def gap : Nat → List CpInfo → List CpInfo
  | 0, r => r
  | n + 1, r => .unusable :: gap n r
def poolList (es : List (Nat × CpInfo)) (last : Nat) : List CpInfo := es.foldr (fun e r => gap e.1 (e.2 :: r)) (gap last [])
def pool (es : List (Nat × CpInfo)) (last : Nat) : Array CpInfo := ⟨poolList es last⟩
def fileOf (pool : Array CpInfo) (this : Nat) (attrs : Array Attribute := #[]) (ms : Array MethodInfo := #[]) (fl : Nat := 33) (sup : Nat := 0) (ifs : Array Nat := #[]) (fds : Array FieldInfo := #[]) : ClassFile where
  minorVersion := 0
  majorVersion := 65
  constantPool := pool
  accessFlags := fl
  thisClass := this
  superClass := sup
  interfaces := ifs
  fields := fds
  methods := ms
  attributes := attrs
def plain (name : String) (sup : Option ClassId) : Class where
  name := name
  kind := .ordinary
  loader := none
  accessFlags := 33
  super := sup
  interfaces := #[]
  cf := none
  fields := #[]
  methods := #[]
  instanceTypes := #[]
  staticTypes := #[]
  resolved := #[]
  callSites := []
  init := .initialized
  statics := none
  mirror := none

def pool0 : Array CpInfo := pool [(5, u "<init>"), (0, u "()V"), (1, .class_ 10), (1, u "java/lang/Object")] 113

def k0m0 : Method := { name := "<init>", desc := "()V", sig := { parameters := [], returnType := none }, accessFlags := 1, code := none }
/-- java/lang/Object -/
def k0 : Class := { plain "java/lang/Object" none with
  accessFlags := 33
  interfaces := #[]
  cf := some (fileOf pool0 8 #[] #[{ accessFlags := 1, nameIndex := 5, descriptorIndex := 6, attributes := #[] }] 33 0 #[] #[])
  fields := #[]
  methods := #[k0m0]
  instanceTypes := #[]
  staticTypes := #[]
  resolved := Array.replicate 124 none
  statics := none }

def pool1 : Array CpInfo := pool [(2, .class_ 4), (1, u "java/lang/Object"), (0, u "<init>"), (0, u "()V"), (0, .long 999999999999999999), (1, .long 4), (3, .long 9223372036854775807), (1, .long 9223372036854775808), (1, .methodref 18 19), (0, .class_ 20), (0, .nameAndType 21 22), (0, u "com/example/crossbook/crossbook/Limits"), (0, u "isQuantity"), (0, u "(J)Z"), (0, .class_ 24), (0, u "com/example/crossbook/crossbook/LimitsIsQuantityPinLaw"), (2, u "law"), (0, u "(JI)Z")] 3

def k1m0 : Method := { name := "<init>", desc := "()V", sig := { parameters := [], returnType := none }, accessFlags := 2, code := none }
def k1c1 : Code := { maxStack := 6, maxLocals := 11, code := code, exceptionTable := #[], attributes := #[] }
def k1m1 : Method := { name := "law", desc := "(JI)Z", sig := { parameters := [.long, .int], returnType := some .boolean }, accessFlags := 9, code := some k1c1 }
/-- com/example/crossbook/crossbook/LimitsIsQuantityPinLaw -/
def k1 : Class := { plain "com/example/crossbook/crossbook/LimitsIsQuantityPinLaw" (some 0) with
  accessFlags := 49
  interfaces := #[]
  cf := some (fileOf pool1 23 #[] #[{ accessFlags := 2, nameIndex := 5, descriptorIndex := 6, attributes := #[] }, { accessFlags := 9, nameIndex := 27, descriptorIndex := 28, attributes := #[] }] 49 2 #[] #[])
  fields := #[]
  methods := #[k1m0, k1m1]
  instanceTypes := #[]
  staticTypes := #[]
  resolved := Array.replicate 32 none
  statics := none }

def pool2 : Array CpInfo := pool [(2, .class_ 4), (1, u "java/lang/Object"), (0, u "<init>"), (0, u "()V"), (0, .class_ 8), (0, u "com/example/crossbook/crossbook/Limits"), (0, .long 1000000000000000000), (7, u "isQuantity"), (0, u "(J)Z"), (37, u "QUANTITY_BOUND"), (0, u "J"), (1, u "MAX_ASSET_ID_LENGTH"), (0, u "I"), (1, u "MAX_ACCOUNT_ID_LENGTH"), (1, u "MAX_ORDER_ID_LENGTH")] 30

def k2m0 : Method := { name := "<init>", desc := "()V", sig := { parameters := [], returnType := none }, accessFlags := 2, code := none }
def k2c1 : Code := { maxStack := 4, maxLocals := 2, code := prog_16_method_2_code, exceptionTable := #[], attributes := #[] }
def k2m1 : Method := { name := "isQuantity", desc := "(J)Z", sig := { parameters := [.long], returnType := some .boolean }, accessFlags := 9, code := some k2c1 }
/-- com/example/crossbook/crossbook/Limits -/
def k2 : Class := { plain "com/example/crossbook/crossbook/Limits" (some 0) with
  accessFlags := 49
  interfaces := #[]
  cf := some (fileOf pool2 7 #[] #[{ accessFlags := 2, nameIndex := 5, descriptorIndex := 6, attributes := #[] }, { accessFlags := 9, nameIndex := 17, descriptorIndex := 18, attributes := #[] }] 49 2 #[] #[{ accessFlags := 26, nameIndex := 56, descriptorIndex := 57, attributes := #[] }, { accessFlags := 26, nameIndex := 59, descriptorIndex := 60, attributes := #[] }, { accessFlags := 26, nameIndex := 62, descriptorIndex := 60, attributes := #[] }, { accessFlags := 26, nameIndex := 64, descriptorIndex := 60, attributes := #[] }])
  fields := #[{ name := "QUANTITY_BOUND", type := .long, accessFlags := 26, slot := 0, constantValue := 0 }, { name := "MAX_ASSET_ID_LENGTH", type := .int, accessFlags := 26, slot := 1, constantValue := 0 }, { name := "MAX_ACCOUNT_ID_LENGTH", type := .int, accessFlags := 26, slot := 2, constantValue := 0 }, { name := "MAX_ORDER_ID_LENGTH", type := .int, accessFlags := 26, slot := 3, constantValue := 0 }]
  methods := #[k2m0, k2m1]
  instanceTypes := #[]
  staticTypes := #[.long, .int, .int, .int]
  resolved := Array.replicate 95 none
  statics := none }

def pool3 : Array CpInfo := pool [(1, u "java/lang/Cloneable"), (0, .class_ 1), (0, u "java/lang/Object"), (0, .class_ 3)] 3

/-- java/lang/Cloneable -/
def k3 : Class := { plain "java/lang/Cloneable" (some 0) with
  accessFlags := 1537
  interfaces := #[]
  cf := some (fileOf pool3 2 #[] #[] 1537 4 #[] #[])
  fields := #[]
  methods := #[]
  instanceTypes := #[]
  staticTypes := #[]
  resolved := Array.replicate 8 none
  statics := none }

def pool4 : Array CpInfo := pool [(1, u "java/io/Serializable"), (0, .class_ 1), (0, u "java/lang/Object"), (0, .class_ 3)] 3

/-- java/io/Serializable -/
def k4 : Class := { plain "java/io/Serializable" (some 0) with
  accessFlags := 1537
  interfaces := #[]
  cf := some (fileOf pool4 2 #[] #[] 1537 4 #[] #[])
  fields := #[]
  methods := #[]
  instanceTypes := #[]
  staticTypes := #[]
  resolved := Array.replicate 8 none
  statics := none }

/-- the primitive byte -/
def k5 : Class := { plain "byte" none with kind := .primitive 'B', accessFlags := 0x411 }
/-- [B -/
def k6 : Class := { plain "[B" (some 0) with kind := .array 5 .byte, interfaces := #[3, 4], accessFlags := 1041 }

/-- the primitive int -/
def k7 : Class := { plain "int" none with kind := .primitive 'I', accessFlags := 0x411 }
/-- [I -/
def k8 : Class := { plain "[I" (some 0) with kind := .array 7 .int, interfaces := #[3, 4], accessFlags := 1041 }

def heap : Heap := #[]
def classes : Array Class := #[k0, k1, k2, k3, k4, k5, k6, k7, k8]
def interned : List (Array UInt16 × Addr) := []
def slotsUsed : Nat := 0
def theMethod : MethodId := ⟨1, 1⟩
def args0 : Array Value := #[.long 5, .int 5]
def aboutOver (below : List Frame) : State where
  vm := { classes := classes, interned := interned.toArray }
  heap := heap
  slotsUsed := slotsUsed
  threads := #[{ frames := .invoking theMethod args0 :: below }]
def below0 : List Frame := [.native { method := ⟨0, 0⟩, args := #[] }]
def about1 : State := aboutOver below0
def p0 : Program := .bare "" "" ""
def e0 : Env := launch0.env 0 0 0
theorem w_frames : about1.frames = Frame.invoking theMethod args0 :: below0 := rfl
set_option maxRecDepth 65536 in
theorem w_args : argsFit about1.vm theMethod args0 = true := by decide +kernel
set_option maxRecDepth 65536 in
theorem w_heap : heapFits about1 = true := by decide +kernel
set_option maxRecDepth 65536 in
theorem w_runnable : about1.curStatus? = some .runnable := by decide +kernel
set_option maxRecDepth 65536 in
theorem w_alone : about1.alone = true := by decide +kernel
set_option maxRecDepth 65536 in
theorem w_named : about1.methodNamed? x = some theMethod := by decide +kernel
set_option maxRecDepth 65536 in
theorem w_hears : about1.hears theMethod below0 = true := by decide +kernel
set_option maxRecDepth 65536 in
theorem w_ripe : about1.ripe theMethod args0 below0 = true := by decide +kernel
theorem w_running : about1.status = .running := rfl
set_option maxRecDepth 65536 in
theorem w_room : about1.hasRoom e0.platform room_1 = true :=
  launch0.hasRoom_least _ room_1 (by decide +kernel) (by decide +kernel) (by decide +kernel) (by decide +kernel) (by decide +kernel) (by decide +kernel)
theorem allAtoms_all (ts : List Jvm.Cond) (a : Array Jvm.Value) (st : Jvm.State) : (allAtoms ts).before a st = ts.all (fun c => c.before a st) := by
  induction ts with
  | nil => rfl
  | cons c t ih =>
    show (Jvm.Cond.and c (allAtoms t)).before a st = _
    rw [Jvm.Cond.before_and, ih, List.all_cons]
def words1 : List Jvm.Cond := Jvm.Cond.code x code maxLocals ret :: tables_1
/-- a 'code' word, met by the world's own term for the bytes: nothing is compared byte by byte -/
theorem code_word {y : MethodName} {bytes : ByteArray} {mx : Nat} {rt : Option FieldType} {a : Array Value} {s : State} {m : MethodId} {meth : Method} {c : Code} (h1 : s.methodNamed? y = some m) (h2 : s.vm.method? m = some meth) (h3 : meth.code = some c) (h4 : c.code = bytes)
    (h5 : (c.maxLocals == mx && c.exceptionTable.isEmpty && decide (c.maxStack ≤ mostOperands) && decide (meth.sig.returnType = rt) && !meth.locks && decide (parseMethodDescriptor y.desc = some meth.sig)) = true) : (Jvm.Cond.code y bytes mx rt).before a s = true := by
  simp only [Bool.and_eq_true, beq_iff_eq, Bool.not_eq_true', decide_eq_true_eq] at h5
  obtain ⟨⟨⟨⟨⟨g1, g2⟩, g3⟩, g4⟩, g5⟩, g6⟩ := h5
  simp [Cond.before, Cond.holds, Cond.value, h1, h2, h3, h4, g1, g2, g3, g4, g5, g6]
def isCode : Jvm.Cond → Bool
  | .code _ _ _ _ => true
  | _ => false
theorem all_split {L : List Jvm.Cond} {P : Jvm.Cond → Bool} (h1 : L.all (fun c => isCode c || P c) = true) (h2 : ∀ c ∈ L.filter isCode, P c = true) : L.all P = true := by
  refine List.all_eq_true.mpr fun c hc => ?_
  have h := List.all_eq_true.mp h1 c hc
  rcases Bool.eq_false_or_eq_true (isCode c) with hi | hi
  · exact h2 c (List.mem_filter.mpr ⟨hc, hi⟩)
  · simpa [hi] using h
set_option maxRecDepth 65536 in
theorem w_c0 : (Jvm.Cond.code x code maxLocals ret).before args0 about1 = true := code_word (m := ⟨1, 1⟩) (meth := k1m1) (c := k1c1) (by decide +kernel) rfl rfl rfl (by decide +kernel)
set_option maxRecDepth 65536 in
theorem w_c1 : (Jvm.Cond.code ({ cls := "com/example/crossbook/crossbook/Limits", name := "isQuantity", desc := "(J)Z" } : Jvm.MethodName) prog_16_method_2_code (2 : Nat) (Option.some Jvm.ClassFile.FieldType.boolean)).before args0 about1 = true := code_word (m := ⟨2, 1⟩) (meth := k2m1) (c := k2c1) (by decide +kernel) rfl rfl rfl (by decide +kernel)
def codes1 : List Jvm.Cond := [Jvm.Cond.code x code maxLocals ret, Jvm.Cond.code ({ cls := "com/example/crossbook/crossbook/Limits", name := "isQuantity", desc := "(J)Z" } : Jvm.MethodName) prog_16_method_2_code (2 : Nat) (Option.some Jvm.ClassFile.FieldType.boolean)]
set_option maxRecDepth 65536 in
theorem codes_eq : words1.filter isCode = codes1 := rfl
theorem w_codes : ∀ c ∈ words1.filter isCode, c.before args0 about1 = true := by
  rw [codes_eq]
  intro c hc
  simp only [codes1, List.mem_cons, List.not_mem_nil, or_false] at hc
  rcases hc with rfl | rfl
  · exact w_c0
  · exact w_c1
set_option maxRecDepth 65536 in
theorem w_t1 : words1.all (fun c => isCode c || c.before args0 about1) = true := by decide +kernel
theorem w_tables : (allAtoms (Jvm.Cond.code x code maxLocals ret :: tables_1)).before args0 about1 = true := by
  rw [allAtoms_all]
  show words1.all (fun c => c.before args0 about1) = true
  refine all_split ?_ w_codes
  rw [w_t1]
set_option maxRecDepth 65536 in
theorem w_case : (Jvm.Cond.and given_1 narrow_1).before args0 about1 = true := by decide +kernel
theorem w_applies : (headSpec (Jvm.Cond.code x code maxLocals ret :: tables_1) room_1).applies x e0.platform about1 = true :=
  (Spec.applies_iff w_frames).mpr ⟨w_running, w_runnable, w_alone, w_named, w_hears, w_ripe, w_room, w_tables⟩
theorem atStart : AtStart classFile x code maxLocals ret World_1 tables_1 room_1 Calls_1 rest_1 Pre_1 launch0 p0 e0 about1 theMethod args0 below0 :=
  ⟨lists_1, trivial, launch0.admits_env _ _ _, launch0.least_env, fairChoices_fair.cas, fairChoices_fair.clock, w_frames, w_args, w_heap, w_applies, trivial, trivial, w_case⟩
end start1
theorem witness_1 : WitnessClaimed_1 := ⟨start1.p0, start1.e0, start1.about1, start1.theMethod, start1.args0, start1.below0, start1.atStart⟩
end Jvm.Pilot.@@N@@
