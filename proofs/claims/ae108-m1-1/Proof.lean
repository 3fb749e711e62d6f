import JvmDerived
import JvmDerived.Pilot.@@N@@Statement
import JvmDerived.Pilot.@@N@@Code
set_option linter.unusedVariables false
set_option linter.unusedSimpArgs false
namespace Jvm.RoadKit
open Sem ClassFile Op Lib Jvm.Stand Jvm.Free Jvm.LawKit
section New
variable {p : Program} {l : Launch} {e : Env} {R : Room} {s : State} {m : MethodId} {args : Array Value} {below : List Frame} {meth : Method} {c : Code} {T : State} {locs : List Loc} {cells slots : Nat}
theorem retI (X : Stand p l e R s m args below meth c T locs cells slots) (hx : p.tables.exec = Jvm.exec) {pc : Nat} {Ls : Array Slot} {z : Int32} {rest : List Value} (hret : meth.sig.returnType = some .int) (hd : decode c.code pc = .ok (.ireturn, 1)) {fs : List Frame}
    (hl : ∀ (f : JFrame) (acts : List Action), f.method = m → f.locked = none → f.entered = [] → (doReturn e (T.setTop f) acts (some (.int z))).1 = T.setFrames fs) : Steps p.tables e below (T.setTop (mkF m pc Ls (.int z :: rest))) (T.setFrames fs) := by
  have hm' : T.vm.method? m = some meth := X.method'
  have hn : narrow .int (.int z) = .int z := rfl
  show Steps p.tables e below (T.setTop { method := m, pc := pc, locals := Ls, stack := _ :: rest, locked := none }) _
  jvm_step X.here [X.here.top, hx, hd, hm', hret, hn]
  first | (intro acts; rw [hl _ acts rfl rfl rfl]) | rw [hl _ _ rfl rfl rfl]
  exact Steps.refl _
end New
end Jvm.RoadKit
namespace Jvm.Pilot.@@N@@
open Jvm Jvm.ClassFile Sem Op Lib Jvm.Free Jvm.Stand Jvm.LawKit Jvm.RoadKit Bundle Jvm.Pilot.@@N@@.Jvm.D
/-- from u the invocation ends, and what it returns and leaves is as Q says -/
def Ends (p : Program) (e : Env) (below : List Frame) (s : State) (kc ks : Nat) (Q : Option Value → Heap → List Loc → Prop) (u : State) : Prop :=
  ∃ s₂ o, Steps p.tables e below u s₂ ∧ s₂.status = .running ∧ Ended s₂ below o ∧ ∃ v L, o = .returned v ∧ Q v s₂.heap L ∧ FrameEnd s o s₂ L kc ks
theorem Ends.via {p : Program} {e : Env} {below : List Frame} {s : State} {kc ks : Nat} {Q : Option Value → Heap → List Loc → Prop} {A B : State} (h : ∀ t, Steps p.tables e below A t → Steps p.tables e below B t) (k : Ends p e below s kc ks Q A) : Ends p e below s kc ks Q B := by
  obtain ⟨s₂, o, h1, r⟩ := k
  exact ⟨s₂, o, h _ h1, r⟩
theorem Ends.ret {p : Program} {l : Launch} {e : Env} {R : Room} {s : State} {m : MethodId} {args : Array Value} {below : List Frame} {meth : Method} {c : Code} {T : State} {locs : List Loc} {cells slots kc ks : Nat} {Q : Option Value → Heap → List Loc → Prop} {u : State}
    (X : Stand p l e R s m args below meth c T locs cells slots) {v : Option Value} (hv : meth.sig.returnType = none → v = none) (hlocks : meth.locks = false)
    (hst : ∀ fs, (∀ (f : JFrame) (acts : List Action), f.method = m → f.locked = none → f.entered = [] → (doReturn e (T.setTop f) acts v).1 = T.setFrames fs) → Steps p.tables e below u (T.setFrames fs))
    (hQ : Q v T.heap locs) (h1 : cells ≤ kc) (h2 : slots ≤ ks) : Ends p e below s kc ks Q u := by
  obtain ⟨fs, hr, hrun, hended, hW, hsame⟩ := X.leave (v := v) hv hlocks
  exact ⟨_, _, hst fs hr, hrun, hended, _, _, rfl, hQ, ⟨_, rfl⟩, hW, hsame.mono h1 h2⟩

def own_edges : List Int32 := [0, 9, 10, 13, 31, 32, 55295, 55296, 57343, 57344, 65533, 65534, 65536, 1114111, -2147483648, 2147483647]
def own_edge (j : Int32) : Int32 := own_edges.getD j.toNatClampNeg 0
theorem own_edgeV (n : Nat) : ([.int (0 : Int32), .int (9 : Int32), .int (10 : Int32), .int (13 : Int32), .int (31 : Int32), .int (32 : Int32), .int (55295 : Int32), .int (55296 : Int32), .int (57343 : Int32), .int (57344 : Int32), .int (65533 : Int32), .int (65534 : Int32), .int (65536 : Int32), .int (1114111 : Int32), .int (-2147483648 : Int32), .int (2147483647 : Int32)] : List Value).getD n (.int (0 : Int32)) = .int (own_edges.getD n 0) := by
  have e : ([.int (0 : Int32), .int (9 : Int32), .int (10 : Int32), .int (13 : Int32), .int (31 : Int32), .int (32 : Int32), .int (55295 : Int32), .int (55296 : Int32), .int (57343 : Int32), .int (57344 : Int32), .int (65533 : Int32), .int (65534 : Int32), .int (65536 : Int32), .int (1114111 : Int32), .int (-2147483648 : Int32), .int (2147483647 : Int32)] : List Value) = own_edges.map Value.int := rfl
  rw [e, List.getD_eq_getElem?_getD, List.getD_eq_getElem?_getD, List.getElem?_map]
  cases own_edges[n]? <;> rfl
theorem own_k (p : Int32) : ¬ (p &&& (15 : Int32)) < 0 ∧ (p &&& (15 : Int32)) < 16 := by
  have h := c_mask p 15 4 (by decide) (by decide)
  have e0 : (0 : Int32).toInt = 0 := rfl
  have e1 : (16 : Int32).toInt = 16 := rfl
  rw [Int32.lt_iff_toInt_lt, Int32.lt_iff_toInt_lt]; omega
theorem own_pd0 : parseMethodDescriptor "(I)Z" = some ⟨[.int], some .boolean⟩ := by decide +kernel
theorem d1_0 : decode prog_144_method_3_code 0 = .ok (.iload_n 0, 1) := by decide +kernel
theorem d1_1 : decode prog_144_method_3_code 1 = .ok (.bipush 32, 2) := by decide +kernel
theorem d1_3 : decode prog_144_method_3_code 3 = .ok (.if_icmp .lt 9, 3) := by decide +kernel
theorem d1_6 : decode prog_144_method_3_code 6 = .ok (.iload_n 0, 1) := by decide +kernel
theorem d1_7 : decode prog_144_method_3_code 7 = .ok (.ldc 13, 2) := by decide +kernel
theorem d1_9 : decode prog_144_method_3_code 9 = .ok (.if_icmp .le 45, 3) := by decide +kernel
theorem d1_12 : decode prog_144_method_3_code 12 = .ok (.iload_n 0, 1) := by decide +kernel
theorem d1_13 : decode prog_144_method_3_code 13 = .ok (.bipush 9, 2) := by decide +kernel
theorem d1_15 : decode prog_144_method_3_code 15 = .ok (.if_icmp .eq 39, 3) := by decide +kernel
theorem d1_18 : decode prog_144_method_3_code 18 = .ok (.iload_n 0, 1) := by decide +kernel
theorem d1_19 : decode prog_144_method_3_code 19 = .ok (.bipush 10, 2) := by decide +kernel
theorem d1_21 : decode prog_144_method_3_code 21 = .ok (.if_icmp .eq 33, 3) := by decide +kernel
theorem d1_24 : decode prog_144_method_3_code 24 = .ok (.iload_n 0, 1) := by decide +kernel
theorem d1_25 : decode prog_144_method_3_code 25 = .ok (.bipush 13, 2) := by decide +kernel
theorem d1_27 : decode prog_144_method_3_code 27 = .ok (.if_icmp .eq 27, 3) := by decide +kernel
theorem d1_30 : decode prog_144_method_3_code 30 = .ok (.iload_n 0, 1) := by decide +kernel
theorem d1_31 : decode prog_144_method_3_code 31 = .ok (.ldc 14, 2) := by decide +kernel
theorem d1_33 : decode prog_144_method_3_code 33 = .ok (.if_icmp .lt 9, 3) := by decide +kernel
theorem d1_36 : decode prog_144_method_3_code 36 = .ok (.iload_n 0, 1) := by decide +kernel
theorem d1_37 : decode prog_144_method_3_code 37 = .ok (.ldc 15, 2) := by decide +kernel
theorem d1_39 : decode prog_144_method_3_code 39 = .ok (.if_icmp .le 15, 3) := by decide +kernel
theorem d1_42 : decode prog_144_method_3_code 42 = .ok (.iload_n 0, 1) := by decide +kernel
theorem d1_43 : decode prog_144_method_3_code 43 = .ok (.ldc 16, 2) := by decide +kernel
theorem d1_45 : decode prog_144_method_3_code 45 = .ok (.if_icmp .lt 13, 3) := by decide +kernel
theorem d1_48 : decode prog_144_method_3_code 48 = .ok (.iload_n 0, 1) := by decide +kernel
theorem d1_49 : decode prog_144_method_3_code 49 = .ok (.ldc 17, 2) := by decide +kernel
theorem d1_51 : decode prog_144_method_3_code 51 = .ok (.if_icmp .gt 7, 3) := by decide +kernel
theorem d1_54 : decode prog_144_method_3_code 54 = .ok (.iconst 1, 1) := by decide +kernel
theorem d1_55 : decode prog_144_method_3_code 55 = .ok (.goto 4, 3) := by decide +kernel
theorem d1_58 : decode prog_144_method_3_code 58 = .ok (.iconst 0, 1) := by decide +kernel
theorem d1_59 : decode prog_144_method_3_code 59 = .ok (.ireturn, 1) := by decide +kernel
theorem pn_1 : plainName "com/example/frugal_xpath/frugalxpath/XmlChars" = true := by first | (simp [plainName, overriddenIn]; done) | decide +kernel
theorem ef_1 (m : MethodId) (p0 : Int32) : entryFrame m #[(.int p0)] 1 = mkF m 0 #[.val (.int p0)] [] := by first | (simp [entryFrame, mkF, argsToLocals, Value.category]; done) | rfl
def fn1 (p0 : Int32) : Int32 := (if p0 < (32 : Int32) then (if p0 = (9 : Int32) then (1 : Int32) else (if p0 = (10 : Int32) then (1 : Int32) else (if p0 = (13 : Int32) then (1 : Int32) else (if p0 < (57344 : Int32) then (if p0 < (65536 : Int32) then (0 : Int32) else (if (1114111 : Int32) < p0 then (0 : Int32) else (1 : Int32))) else (if (65533 : Int32) < p0 then (if p0 < (65536 : Int32) then (0 : Int32) else (if (1114111 : Int32) < p0 then (0 : Int32) else (1 : Int32))) else (1 : Int32)))))) else (if (55295 : Int32) < p0 then (if p0 = (9 : Int32) then (1 : Int32) else (if p0 = (10 : Int32) then (1 : Int32) else (if p0 = (13 : Int32) then (1 : Int32) else (if p0 < (57344 : Int32) then (if p0 < (65536 : Int32) then (0 : Int32) else (if (1114111 : Int32) < p0 then (0 : Int32) else (1 : Int32))) else (if (65533 : Int32) < p0 then (if p0 < (65536 : Int32) then (0 : Int32) else (if (1114111 : Int32) < p0 then (0 : Int32) else (1 : Int32))) else (1 : Int32)))))) else (1 : Int32)))
abbrev ROOM1 : Room := { frames := 0, cells := 0, slots := 0, locals := 0 }
def Q1 (Z : State) (p0 : Int32)  (h0 : Heap) (n0 : Nat) (v : Option Value) (h : Heap) (L : List Loc) : Prop := v = some (.int (fn1 p0)) ∧ Fr n0 L ∧ h = h0
set_option maxRecDepth 65536 in
set_option maxHeartbeats 40000000 in
theorem rm1 (l : Launch) (Z : State) (a0 : Array Value) (hw : ∀ d ∈ tables_1, d.before a0 Z = true) (ws : List Jvm.Cond) (p0 : Int32)  (h0 : Heap) (n0 : Nat) (Z0 : n0 ≤ h0.size)  :
    MetFree l (⟨"com/example/frugal_xpath/frugalxpath/XmlChars", "isChar", "(I)Z"⟩ : MethodName) (head1 (Jvm.Cond.code (⟨"com/example/frugal_xpath/frugalxpath/XmlChars", "isChar", "(I)Z"⟩ : MethodName) prog_144_method_3_code 1 (some .boolean) :: ws) ROOM1) (fun a U => a = #[(.int p0)] ∧ Z.Warmed39 U.vm ∧ U.heap = h0) (fun _ _ _ _ _ => True) (fun _ U o U' => ∃ v L, o = .returned v ∧ Q1 Z p0  h0 n0 v U'.heap L ∧ FrameEnd U o U' L ROOM1.cells ROOM1.slots) := by
  refine MetFree.of_bodySF (plainFor_of_name pn_1) hisR ?_
  intro p e s m args below meth c s₁ Bd hml0 hP hK
  obtain ⟨rfl, hZ, hh⟩ := hP
  have hx := Bd.exec
  have hby := Bd.bytes
  have hml : c.maxLocals = 1 := hml0
  have hown : s.vm.findClass "com/example/frugal_xpath/frugalxpath/XmlChars" = some m.cls := findClass_of_methodNamed Bd.named
  have hnm := (name_of_methodNamed Bd.named Bd.method).1
  have X0 : Stand p l e ROOM1 s m #[(.int p0)] below meth c s₁ [] 0 0 := Stand.of_body Bd
  have e0 : s₁.heap = h0 := by rw [← hh, Bd.state]; rfl
  have N0 := Fr.nil n0
  refine Ends.via (A := s₁.setTop (mkF m 0 #[.val (.int p0)] [])) (kc := ROOM1.cells) (ks := ROOM1.slots) (Q := (Q1 Z p0  h0 n0)) (fun t k => castTop (ef_1 m p0) k) ?_
  show Ends p e below s ROOM1.cells ROOM1.slots (Q1 Z p0  h0 n0) (s₁.setTop (mkF m 0 #[.val (.int p0)] []))
  refine Ends.via (fun _ k => XS.iloadN X0.here hx rfl (hb hby d1_0) rfl k) ?_
  show Ends p e below s ROOM1.cells ROOM1.slots (Q1 Z p0  h0 n0) (s₁.setTop (mkF m 1 #[.val (.int p0)] [(.int p0)]))
  refine Ends.via (fun _ k => XS.bipush X0.here hx rfl (hb hby d1_1) k) ?_
  show Ends p e below s ROOM1.cells ROOM1.slots (Q1 Z p0  h0 n0) (s₁.setTop (mkF m 3 #[.val (.int p0)] [(.int (32 : Int32)), (.int p0)]))
  by_cases hc20 : p0 < (32 : Int32)
  · refine Ends.via (fun _ k => XS.icmpYes X0.here hx rfl (pc0 := 3) (pc' := 12) rfl (hb hby d1_3) rfl (tlt hc20).1 (by decide) (by decide) k) ?_
    show Ends p e below s ROOM1.cells ROOM1.slots (Q1 Z p0  h0 n0) (s₁.setTop (mkF m 12 #[.val (.int p0)] []))
    refine Ends.via (fun _ k => XS.iloadN X0.here hx rfl (hb hby d1_12) rfl k) ?_
    show Ends p e below s ROOM1.cells ROOM1.slots (Q1 Z p0  h0 n0) (s₁.setTop (mkF m 13 #[.val (.int p0)] [(.int p0)]))
    refine Ends.via (fun _ k => XS.bipush X0.here hx rfl (hb hby d1_13) k) ?_
    show Ends p e below s ROOM1.cells ROOM1.slots (Q1 Z p0  h0 n0) (s₁.setTop (mkF m 15 #[.val (.int p0)] [(.int (9 : Int32)), (.int p0)]))
    by_cases hc21 : p0 = (9 : Int32)
    · refine Ends.via (fun _ k => XS.icmpYes X0.here hx rfl (pc0 := 15) (pc' := 54) rfl (hb hby d1_15) rfl (teq hc21).1 (by decide) (by decide) k) ?_
      show Ends p e below s ROOM1.cells ROOM1.slots (Q1 Z p0  h0 n0) (s₁.setTop (mkF m 54 #[.val (.int p0)] []))
      refine Ends.via (fun _ k => XS.iconst X0.here hx rfl (hb hby d1_54) k) ?_
      show Ends p e below s ROOM1.cells ROOM1.slots (Q1 Z p0  h0 n0) (s₁.setTop (mkF m 55 #[.val (.int p0)] [(.int (1 : Int32))]))
      refine Ends.via (fun _ k => XS.goto X0.here hx rfl (pc0 := 55) (pc' := 59) rfl (hb hby d1_55) (by decide) (by decide) k) ?_
      show Ends p e below s ROOM1.cells ROOM1.slots (Q1 Z p0  h0 n0) (s₁.setTop (mkF m 59 #[.val (.int p0)] [(.int (1 : Int32))]))
      refine Ends.ret X0 (v := some (.int (nar .boolean (1 : Int32)))) (fun h => by rw [Bd.returns] at h; cases h) Bd.notSynchronized (fun fs hr => retN X0 hx (t := .boolean) Bd.returns (by simp) (hb hby d1_59) hr) ?_ (by decide) (by decide)
      have hfn : fn1 p0 = (1 : Int32) := by simp only [fn1, if_pos hc20, if_pos hc21]
      exact ⟨by rw [hfn]; rfl, N0, e0⟩
    · refine Ends.via (fun _ k => XS.icmpNo X0.here hx rfl (hb hby d1_15) rfl (feq hc21).1 k) ?_
      show Ends p e below s ROOM1.cells ROOM1.slots (Q1 Z p0  h0 n0) (s₁.setTop (mkF m 18 #[.val (.int p0)] []))
      refine Ends.via (fun _ k => XS.iloadN X0.here hx rfl (hb hby d1_18) rfl k) ?_
      show Ends p e below s ROOM1.cells ROOM1.slots (Q1 Z p0  h0 n0) (s₁.setTop (mkF m 19 #[.val (.int p0)] [(.int p0)]))
      refine Ends.via (fun _ k => XS.bipush X0.here hx rfl (hb hby d1_19) k) ?_
      show Ends p e below s ROOM1.cells ROOM1.slots (Q1 Z p0  h0 n0) (s₁.setTop (mkF m 21 #[.val (.int p0)] [(.int (10 : Int32)), (.int p0)]))
      by_cases hc22 : p0 = (10 : Int32)
      · refine Ends.via (fun _ k => XS.icmpYes X0.here hx rfl (pc0 := 21) (pc' := 54) rfl (hb hby d1_21) rfl (teq hc22).1 (by decide) (by decide) k) ?_
        show Ends p e below s ROOM1.cells ROOM1.slots (Q1 Z p0  h0 n0) (s₁.setTop (mkF m 54 #[.val (.int p0)] []))
        refine Ends.via (fun _ k => XS.iconst X0.here hx rfl (hb hby d1_54) k) ?_
        show Ends p e below s ROOM1.cells ROOM1.slots (Q1 Z p0  h0 n0) (s₁.setTop (mkF m 55 #[.val (.int p0)] [(.int (1 : Int32))]))
        refine Ends.via (fun _ k => XS.goto X0.here hx rfl (pc0 := 55) (pc' := 59) rfl (hb hby d1_55) (by decide) (by decide) k) ?_
        show Ends p e below s ROOM1.cells ROOM1.slots (Q1 Z p0  h0 n0) (s₁.setTop (mkF m 59 #[.val (.int p0)] [(.int (1 : Int32))]))
        refine Ends.ret X0 (v := some (.int (nar .boolean (1 : Int32)))) (fun h => by rw [Bd.returns] at h; cases h) Bd.notSynchronized (fun fs hr => retN X0 hx (t := .boolean) Bd.returns (by simp) (hb hby d1_59) hr) ?_ (by decide) (by decide)
        have hfn : fn1 p0 = (1 : Int32) := by simp only [fn1, if_pos hc20, if_neg hc21, if_pos hc22]
        exact ⟨by rw [hfn]; rfl, N0, e0⟩
      · refine Ends.via (fun _ k => XS.icmpNo X0.here hx rfl (hb hby d1_21) rfl (feq hc22).1 k) ?_
        show Ends p e below s ROOM1.cells ROOM1.slots (Q1 Z p0  h0 n0) (s₁.setTop (mkF m 24 #[.val (.int p0)] []))
        refine Ends.via (fun _ k => XS.iloadN X0.here hx rfl (hb hby d1_24) rfl k) ?_
        show Ends p e below s ROOM1.cells ROOM1.slots (Q1 Z p0  h0 n0) (s₁.setTop (mkF m 25 #[.val (.int p0)] [(.int p0)]))
        refine Ends.via (fun _ k => XS.bipush X0.here hx rfl (hb hby d1_25) k) ?_
        show Ends p e below s ROOM1.cells ROOM1.slots (Q1 Z p0  h0 n0) (s₁.setTop (mkF m 27 #[.val (.int p0)] [(.int (13 : Int32)), (.int p0)]))
        by_cases hc23 : p0 = (13 : Int32)
        · refine Ends.via (fun _ k => XS.icmpYes X0.here hx rfl (pc0 := 27) (pc' := 54) rfl (hb hby d1_27) rfl (teq hc23).1 (by decide) (by decide) k) ?_
          show Ends p e below s ROOM1.cells ROOM1.slots (Q1 Z p0  h0 n0) (s₁.setTop (mkF m 54 #[.val (.int p0)] []))
          refine Ends.via (fun _ k => XS.iconst X0.here hx rfl (hb hby d1_54) k) ?_
          show Ends p e below s ROOM1.cells ROOM1.slots (Q1 Z p0  h0 n0) (s₁.setTop (mkF m 55 #[.val (.int p0)] [(.int (1 : Int32))]))
          refine Ends.via (fun _ k => XS.goto X0.here hx rfl (pc0 := 55) (pc' := 59) rfl (hb hby d1_55) (by decide) (by decide) k) ?_
          show Ends p e below s ROOM1.cells ROOM1.slots (Q1 Z p0  h0 n0) (s₁.setTop (mkF m 59 #[.val (.int p0)] [(.int (1 : Int32))]))
          refine Ends.ret X0 (v := some (.int (nar .boolean (1 : Int32)))) (fun h => by rw [Bd.returns] at h; cases h) Bd.notSynchronized (fun fs hr => retN X0 hx (t := .boolean) Bd.returns (by simp) (hb hby d1_59) hr) ?_ (by decide) (by decide)
          have hfn : fn1 p0 = (1 : Int32) := by simp only [fn1, if_pos hc20, if_neg hc21, if_neg hc22, if_pos hc23]
          exact ⟨by rw [hfn]; rfl, N0, e0⟩
        · refine Ends.via (fun _ k => XS.icmpNo X0.here hx rfl (hb hby d1_27) rfl (feq hc23).1 k) ?_
          show Ends p e below s ROOM1.cells ROOM1.slots (Q1 Z p0  h0 n0) (s₁.setTop (mkF m 30 #[.val (.int p0)] []))
          refine Ends.via (fun _ k => XS.iloadN X0.here hx rfl (hb hby d1_30) rfl k) ?_
          show Ends p e below s ROOM1.cells ROOM1.slots (Q1 Z p0  h0 n0) (s₁.setTop (mkF m 31 #[.val (.int p0)] [(.int p0)]))
          refine Ends.via (X0.ldcInt hx hown (mvT hZ (hw _ (List.mem_of_getElem? (i := 15) rfl))) (g := (mkF m 31 #[.val (.int p0)] [(.int p0)])) rfl (hb hby d1_31)) ?_
          show Ends p e below s ROOM1.cells ROOM1.slots (Q1 Z p0  h0 n0) (s₁.setTop (mkF m 33 #[.val (.int p0)] [(.int (57344 : Int32)), (.int p0)]))
          by_cases hc24 : p0 < (57344 : Int32)
          · refine Ends.via (fun _ k => XS.icmpYes X0.here hx rfl (pc0 := 33) (pc' := 42) rfl (hb hby d1_33) rfl (tlt hc24).1 (by decide) (by decide) k) ?_
            show Ends p e below s ROOM1.cells ROOM1.slots (Q1 Z p0  h0 n0) (s₁.setTop (mkF m 42 #[.val (.int p0)] []))
            refine Ends.via (fun _ k => XS.iloadN X0.here hx rfl (hb hby d1_42) rfl k) ?_
            show Ends p e below s ROOM1.cells ROOM1.slots (Q1 Z p0  h0 n0) (s₁.setTop (mkF m 43 #[.val (.int p0)] [(.int p0)]))
            refine Ends.via (X0.ldcInt hx hown (mvT hZ (hw _ (List.mem_of_getElem? (i := 16) rfl))) (g := (mkF m 43 #[.val (.int p0)] [(.int p0)])) rfl (hb hby d1_43)) ?_
            show Ends p e below s ROOM1.cells ROOM1.slots (Q1 Z p0  h0 n0) (s₁.setTop (mkF m 45 #[.val (.int p0)] [(.int (65536 : Int32)), (.int p0)]))
            by_cases hc25 : p0 < (65536 : Int32)
            · refine Ends.via (fun _ k => XS.icmpYes X0.here hx rfl (pc0 := 45) (pc' := 58) rfl (hb hby d1_45) rfl (tlt hc25).1 (by decide) (by decide) k) ?_
              show Ends p e below s ROOM1.cells ROOM1.slots (Q1 Z p0  h0 n0) (s₁.setTop (mkF m 58 #[.val (.int p0)] []))
              refine Ends.via (fun _ k => XS.iconst X0.here hx rfl (hb hby d1_58) k) ?_
              show Ends p e below s ROOM1.cells ROOM1.slots (Q1 Z p0  h0 n0) (s₁.setTop (mkF m 59 #[.val (.int p0)] [(.int (0 : Int32))]))
              refine Ends.ret X0 (v := some (.int (nar .boolean (0 : Int32)))) (fun h => by rw [Bd.returns] at h; cases h) Bd.notSynchronized (fun fs hr => retN X0 hx (t := .boolean) Bd.returns (by simp) (hb hby d1_59) hr) ?_ (by decide) (by decide)
              have hfn : fn1 p0 = (0 : Int32) := by simp only [fn1, if_pos hc20, if_neg hc21, if_neg hc22, if_neg hc23, if_pos hc24, if_pos hc25]
              exact ⟨by rw [hfn]; rfl, N0, e0⟩
            · refine Ends.via (fun _ k => XS.icmpNo X0.here hx rfl (hb hby d1_45) rfl (flt hc25).1 k) ?_
              show Ends p e below s ROOM1.cells ROOM1.slots (Q1 Z p0  h0 n0) (s₁.setTop (mkF m 48 #[.val (.int p0)] []))
              refine Ends.via (fun _ k => XS.iloadN X0.here hx rfl (hb hby d1_48) rfl k) ?_
              show Ends p e below s ROOM1.cells ROOM1.slots (Q1 Z p0  h0 n0) (s₁.setTop (mkF m 49 #[.val (.int p0)] [(.int p0)]))
              refine Ends.via (X0.ldcInt hx hown (mvT hZ (hw _ (List.mem_of_getElem? (i := 24) rfl))) (g := (mkF m 49 #[.val (.int p0)] [(.int p0)])) rfl (hb hby d1_49)) ?_
              show Ends p e below s ROOM1.cells ROOM1.slots (Q1 Z p0  h0 n0) (s₁.setTop (mkF m 51 #[.val (.int p0)] [(.int (1114111 : Int32)), (.int p0)]))
              by_cases hc26 : (1114111 : Int32) < p0
              · refine Ends.via (fun _ k => XS.icmpYes X0.here hx rfl (pc0 := 51) (pc' := 58) rfl (hb hby d1_51) rfl (tlt hc26).2.2.1 (by decide) (by decide) k) ?_
                show Ends p e below s ROOM1.cells ROOM1.slots (Q1 Z p0  h0 n0) (s₁.setTop (mkF m 58 #[.val (.int p0)] []))
                refine Ends.via (fun _ k => XS.iconst X0.here hx rfl (hb hby d1_58) k) ?_
                show Ends p e below s ROOM1.cells ROOM1.slots (Q1 Z p0  h0 n0) (s₁.setTop (mkF m 59 #[.val (.int p0)] [(.int (0 : Int32))]))
                refine Ends.ret X0 (v := some (.int (nar .boolean (0 : Int32)))) (fun h => by rw [Bd.returns] at h; cases h) Bd.notSynchronized (fun fs hr => retN X0 hx (t := .boolean) Bd.returns (by simp) (hb hby d1_59) hr) ?_ (by decide) (by decide)
                have hfn : fn1 p0 = (0 : Int32) := by simp only [fn1, if_pos hc20, if_neg hc21, if_neg hc22, if_neg hc23, if_pos hc24, if_neg hc25, if_pos hc26]
                exact ⟨by rw [hfn]; rfl, N0, e0⟩
              · refine Ends.via (fun _ k => XS.icmpNo X0.here hx rfl (hb hby d1_51) rfl (flt hc26).2.2.1 k) ?_
                show Ends p e below s ROOM1.cells ROOM1.slots (Q1 Z p0  h0 n0) (s₁.setTop (mkF m 54 #[.val (.int p0)] []))
                refine Ends.via (fun _ k => XS.iconst X0.here hx rfl (hb hby d1_54) k) ?_
                show Ends p e below s ROOM1.cells ROOM1.slots (Q1 Z p0  h0 n0) (s₁.setTop (mkF m 55 #[.val (.int p0)] [(.int (1 : Int32))]))
                refine Ends.via (fun _ k => XS.goto X0.here hx rfl (pc0 := 55) (pc' := 59) rfl (hb hby d1_55) (by decide) (by decide) k) ?_
                show Ends p e below s ROOM1.cells ROOM1.slots (Q1 Z p0  h0 n0) (s₁.setTop (mkF m 59 #[.val (.int p0)] [(.int (1 : Int32))]))
                refine Ends.ret X0 (v := some (.int (nar .boolean (1 : Int32)))) (fun h => by rw [Bd.returns] at h; cases h) Bd.notSynchronized (fun fs hr => retN X0 hx (t := .boolean) Bd.returns (by simp) (hb hby d1_59) hr) ?_ (by decide) (by decide)
                have hfn : fn1 p0 = (1 : Int32) := by simp only [fn1, if_pos hc20, if_neg hc21, if_neg hc22, if_neg hc23, if_pos hc24, if_neg hc25, if_neg hc26]
                exact ⟨by rw [hfn]; rfl, N0, e0⟩
          · refine Ends.via (fun _ k => XS.icmpNo X0.here hx rfl (hb hby d1_33) rfl (flt hc24).1 k) ?_
            show Ends p e below s ROOM1.cells ROOM1.slots (Q1 Z p0  h0 n0) (s₁.setTop (mkF m 36 #[.val (.int p0)] []))
            refine Ends.via (fun _ k => XS.iloadN X0.here hx rfl (hb hby d1_36) rfl k) ?_
            show Ends p e below s ROOM1.cells ROOM1.slots (Q1 Z p0  h0 n0) (s₁.setTop (mkF m 37 #[.val (.int p0)] [(.int p0)]))
            refine Ends.via (X0.ldcInt hx hown (mvT hZ (hw _ (List.mem_of_getElem? (i := 23) rfl))) (g := (mkF m 37 #[.val (.int p0)] [(.int p0)])) rfl (hb hby d1_37)) ?_
            show Ends p e below s ROOM1.cells ROOM1.slots (Q1 Z p0  h0 n0) (s₁.setTop (mkF m 39 #[.val (.int p0)] [(.int (65533 : Int32)), (.int p0)]))
            by_cases hc27 : (65533 : Int32) < p0
            · refine Ends.via (fun _ k => XS.icmpNo X0.here hx rfl (hb hby d1_39) rfl (tlt hc27).2.2.2 k) ?_
              show Ends p e below s ROOM1.cells ROOM1.slots (Q1 Z p0  h0 n0) (s₁.setTop (mkF m 42 #[.val (.int p0)] []))
              refine Ends.via (fun _ k => XS.iloadN X0.here hx rfl (hb hby d1_42) rfl k) ?_
              show Ends p e below s ROOM1.cells ROOM1.slots (Q1 Z p0  h0 n0) (s₁.setTop (mkF m 43 #[.val (.int p0)] [(.int p0)]))
              refine Ends.via (X0.ldcInt hx hown (mvT hZ (hw _ (List.mem_of_getElem? (i := 16) rfl))) (g := (mkF m 43 #[.val (.int p0)] [(.int p0)])) rfl (hb hby d1_43)) ?_
              show Ends p e below s ROOM1.cells ROOM1.slots (Q1 Z p0  h0 n0) (s₁.setTop (mkF m 45 #[.val (.int p0)] [(.int (65536 : Int32)), (.int p0)]))
              by_cases hc28 : p0 < (65536 : Int32)
              · refine Ends.via (fun _ k => XS.icmpYes X0.here hx rfl (pc0 := 45) (pc' := 58) rfl (hb hby d1_45) rfl (tlt hc28).1 (by decide) (by decide) k) ?_
                show Ends p e below s ROOM1.cells ROOM1.slots (Q1 Z p0  h0 n0) (s₁.setTop (mkF m 58 #[.val (.int p0)] []))
                refine Ends.via (fun _ k => XS.iconst X0.here hx rfl (hb hby d1_58) k) ?_
                show Ends p e below s ROOM1.cells ROOM1.slots (Q1 Z p0  h0 n0) (s₁.setTop (mkF m 59 #[.val (.int p0)] [(.int (0 : Int32))]))
                refine Ends.ret X0 (v := some (.int (nar .boolean (0 : Int32)))) (fun h => by rw [Bd.returns] at h; cases h) Bd.notSynchronized (fun fs hr => retN X0 hx (t := .boolean) Bd.returns (by simp) (hb hby d1_59) hr) ?_ (by decide) (by decide)
                have hfn : fn1 p0 = (0 : Int32) := by simp only [fn1, if_pos hc20, if_neg hc21, if_neg hc22, if_neg hc23, if_neg hc24, if_pos hc27, if_pos hc28]
                exact ⟨by rw [hfn]; rfl, N0, e0⟩
              · refine Ends.via (fun _ k => XS.icmpNo X0.here hx rfl (hb hby d1_45) rfl (flt hc28).1 k) ?_
                show Ends p e below s ROOM1.cells ROOM1.slots (Q1 Z p0  h0 n0) (s₁.setTop (mkF m 48 #[.val (.int p0)] []))
                refine Ends.via (fun _ k => XS.iloadN X0.here hx rfl (hb hby d1_48) rfl k) ?_
                show Ends p e below s ROOM1.cells ROOM1.slots (Q1 Z p0  h0 n0) (s₁.setTop (mkF m 49 #[.val (.int p0)] [(.int p0)]))
                refine Ends.via (X0.ldcInt hx hown (mvT hZ (hw _ (List.mem_of_getElem? (i := 24) rfl))) (g := (mkF m 49 #[.val (.int p0)] [(.int p0)])) rfl (hb hby d1_49)) ?_
                show Ends p e below s ROOM1.cells ROOM1.slots (Q1 Z p0  h0 n0) (s₁.setTop (mkF m 51 #[.val (.int p0)] [(.int (1114111 : Int32)), (.int p0)]))
                by_cases hc29 : (1114111 : Int32) < p0
                · refine Ends.via (fun _ k => XS.icmpYes X0.here hx rfl (pc0 := 51) (pc' := 58) rfl (hb hby d1_51) rfl (tlt hc29).2.2.1 (by decide) (by decide) k) ?_
                  show Ends p e below s ROOM1.cells ROOM1.slots (Q1 Z p0  h0 n0) (s₁.setTop (mkF m 58 #[.val (.int p0)] []))
                  refine Ends.via (fun _ k => XS.iconst X0.here hx rfl (hb hby d1_58) k) ?_
                  show Ends p e below s ROOM1.cells ROOM1.slots (Q1 Z p0  h0 n0) (s₁.setTop (mkF m 59 #[.val (.int p0)] [(.int (0 : Int32))]))
                  refine Ends.ret X0 (v := some (.int (nar .boolean (0 : Int32)))) (fun h => by rw [Bd.returns] at h; cases h) Bd.notSynchronized (fun fs hr => retN X0 hx (t := .boolean) Bd.returns (by simp) (hb hby d1_59) hr) ?_ (by decide) (by decide)
                  have hfn : fn1 p0 = (0 : Int32) := by simp only [fn1, if_pos hc20, if_neg hc21, if_neg hc22, if_neg hc23, if_neg hc24, if_pos hc27, if_neg hc28, if_pos hc29]
                  exact ⟨by rw [hfn]; rfl, N0, e0⟩
                · refine Ends.via (fun _ k => XS.icmpNo X0.here hx rfl (hb hby d1_51) rfl (flt hc29).2.2.1 k) ?_
                  show Ends p e below s ROOM1.cells ROOM1.slots (Q1 Z p0  h0 n0) (s₁.setTop (mkF m 54 #[.val (.int p0)] []))
                  refine Ends.via (fun _ k => XS.iconst X0.here hx rfl (hb hby d1_54) k) ?_
                  show Ends p e below s ROOM1.cells ROOM1.slots (Q1 Z p0  h0 n0) (s₁.setTop (mkF m 55 #[.val (.int p0)] [(.int (1 : Int32))]))
                  refine Ends.via (fun _ k => XS.goto X0.here hx rfl (pc0 := 55) (pc' := 59) rfl (hb hby d1_55) (by decide) (by decide) k) ?_
                  show Ends p e below s ROOM1.cells ROOM1.slots (Q1 Z p0  h0 n0) (s₁.setTop (mkF m 59 #[.val (.int p0)] [(.int (1 : Int32))]))
                  refine Ends.ret X0 (v := some (.int (nar .boolean (1 : Int32)))) (fun h => by rw [Bd.returns] at h; cases h) Bd.notSynchronized (fun fs hr => retN X0 hx (t := .boolean) Bd.returns (by simp) (hb hby d1_59) hr) ?_ (by decide) (by decide)
                  have hfn : fn1 p0 = (1 : Int32) := by simp only [fn1, if_pos hc20, if_neg hc21, if_neg hc22, if_neg hc23, if_neg hc24, if_pos hc27, if_neg hc28, if_neg hc29]
                  exact ⟨by rw [hfn]; rfl, N0, e0⟩
            · refine Ends.via (fun _ k => XS.icmpYes X0.here hx rfl (pc0 := 39) (pc' := 54) rfl (hb hby d1_39) rfl (flt hc27).2.2.2 (by decide) (by decide) k) ?_
              show Ends p e below s ROOM1.cells ROOM1.slots (Q1 Z p0  h0 n0) (s₁.setTop (mkF m 54 #[.val (.int p0)] []))
              refine Ends.via (fun _ k => XS.iconst X0.here hx rfl (hb hby d1_54) k) ?_
              show Ends p e below s ROOM1.cells ROOM1.slots (Q1 Z p0  h0 n0) (s₁.setTop (mkF m 55 #[.val (.int p0)] [(.int (1 : Int32))]))
              refine Ends.via (fun _ k => XS.goto X0.here hx rfl (pc0 := 55) (pc' := 59) rfl (hb hby d1_55) (by decide) (by decide) k) ?_
              show Ends p e below s ROOM1.cells ROOM1.slots (Q1 Z p0  h0 n0) (s₁.setTop (mkF m 59 #[.val (.int p0)] [(.int (1 : Int32))]))
              refine Ends.ret X0 (v := some (.int (nar .boolean (1 : Int32)))) (fun h => by rw [Bd.returns] at h; cases h) Bd.notSynchronized (fun fs hr => retN X0 hx (t := .boolean) Bd.returns (by simp) (hb hby d1_59) hr) ?_ (by decide) (by decide)
              have hfn : fn1 p0 = (1 : Int32) := by simp only [fn1, if_pos hc20, if_neg hc21, if_neg hc22, if_neg hc23, if_neg hc24, if_neg hc27]
              exact ⟨by rw [hfn]; rfl, N0, e0⟩
  · refine Ends.via (fun _ k => XS.icmpNo X0.here hx rfl (hb hby d1_3) rfl (flt hc20).1 k) ?_
    show Ends p e below s ROOM1.cells ROOM1.slots (Q1 Z p0  h0 n0) (s₁.setTop (mkF m 6 #[.val (.int p0)] []))
    refine Ends.via (fun _ k => XS.iloadN X0.here hx rfl (hb hby d1_6) rfl k) ?_
    show Ends p e below s ROOM1.cells ROOM1.slots (Q1 Z p0  h0 n0) (s₁.setTop (mkF m 7 #[.val (.int p0)] [(.int p0)]))
    refine Ends.via (X0.ldcInt hx hown (mvT hZ (hw _ (List.mem_of_getElem? (i := 21) rfl))) (g := (mkF m 7 #[.val (.int p0)] [(.int p0)])) rfl (hb hby d1_7)) ?_
    show Ends p e below s ROOM1.cells ROOM1.slots (Q1 Z p0  h0 n0) (s₁.setTop (mkF m 9 #[.val (.int p0)] [(.int (55295 : Int32)), (.int p0)]))
    by_cases hc30 : (55295 : Int32) < p0
    · refine Ends.via (fun _ k => XS.icmpNo X0.here hx rfl (hb hby d1_9) rfl (tlt hc30).2.2.2 k) ?_
      show Ends p e below s ROOM1.cells ROOM1.slots (Q1 Z p0  h0 n0) (s₁.setTop (mkF m 12 #[.val (.int p0)] []))
      refine Ends.via (fun _ k => XS.iloadN X0.here hx rfl (hb hby d1_12) rfl k) ?_
      show Ends p e below s ROOM1.cells ROOM1.slots (Q1 Z p0  h0 n0) (s₁.setTop (mkF m 13 #[.val (.int p0)] [(.int p0)]))
      refine Ends.via (fun _ k => XS.bipush X0.here hx rfl (hb hby d1_13) k) ?_
      show Ends p e below s ROOM1.cells ROOM1.slots (Q1 Z p0  h0 n0) (s₁.setTop (mkF m 15 #[.val (.int p0)] [(.int (9 : Int32)), (.int p0)]))
      by_cases hc31 : p0 = (9 : Int32)
      · refine Ends.via (fun _ k => XS.icmpYes X0.here hx rfl (pc0 := 15) (pc' := 54) rfl (hb hby d1_15) rfl (teq hc31).1 (by decide) (by decide) k) ?_
        show Ends p e below s ROOM1.cells ROOM1.slots (Q1 Z p0  h0 n0) (s₁.setTop (mkF m 54 #[.val (.int p0)] []))
        refine Ends.via (fun _ k => XS.iconst X0.here hx rfl (hb hby d1_54) k) ?_
        show Ends p e below s ROOM1.cells ROOM1.slots (Q1 Z p0  h0 n0) (s₁.setTop (mkF m 55 #[.val (.int p0)] [(.int (1 : Int32))]))
        refine Ends.via (fun _ k => XS.goto X0.here hx rfl (pc0 := 55) (pc' := 59) rfl (hb hby d1_55) (by decide) (by decide) k) ?_
        show Ends p e below s ROOM1.cells ROOM1.slots (Q1 Z p0  h0 n0) (s₁.setTop (mkF m 59 #[.val (.int p0)] [(.int (1 : Int32))]))
        refine Ends.ret X0 (v := some (.int (nar .boolean (1 : Int32)))) (fun h => by rw [Bd.returns] at h; cases h) Bd.notSynchronized (fun fs hr => retN X0 hx (t := .boolean) Bd.returns (by simp) (hb hby d1_59) hr) ?_ (by decide) (by decide)
        have hfn : fn1 p0 = (1 : Int32) := by simp only [fn1, if_neg hc20, if_pos hc30, if_pos hc31]
        exact ⟨by rw [hfn]; rfl, N0, e0⟩
      · refine Ends.via (fun _ k => XS.icmpNo X0.here hx rfl (hb hby d1_15) rfl (feq hc31).1 k) ?_
        show Ends p e below s ROOM1.cells ROOM1.slots (Q1 Z p0  h0 n0) (s₁.setTop (mkF m 18 #[.val (.int p0)] []))
        refine Ends.via (fun _ k => XS.iloadN X0.here hx rfl (hb hby d1_18) rfl k) ?_
        show Ends p e below s ROOM1.cells ROOM1.slots (Q1 Z p0  h0 n0) (s₁.setTop (mkF m 19 #[.val (.int p0)] [(.int p0)]))
        refine Ends.via (fun _ k => XS.bipush X0.here hx rfl (hb hby d1_19) k) ?_
        show Ends p e below s ROOM1.cells ROOM1.slots (Q1 Z p0  h0 n0) (s₁.setTop (mkF m 21 #[.val (.int p0)] [(.int (10 : Int32)), (.int p0)]))
        by_cases hc32 : p0 = (10 : Int32)
        · refine Ends.via (fun _ k => XS.icmpYes X0.here hx rfl (pc0 := 21) (pc' := 54) rfl (hb hby d1_21) rfl (teq hc32).1 (by decide) (by decide) k) ?_
          show Ends p e below s ROOM1.cells ROOM1.slots (Q1 Z p0  h0 n0) (s₁.setTop (mkF m 54 #[.val (.int p0)] []))
          refine Ends.via (fun _ k => XS.iconst X0.here hx rfl (hb hby d1_54) k) ?_
          show Ends p e below s ROOM1.cells ROOM1.slots (Q1 Z p0  h0 n0) (s₁.setTop (mkF m 55 #[.val (.int p0)] [(.int (1 : Int32))]))
          refine Ends.via (fun _ k => XS.goto X0.here hx rfl (pc0 := 55) (pc' := 59) rfl (hb hby d1_55) (by decide) (by decide) k) ?_
          show Ends p e below s ROOM1.cells ROOM1.slots (Q1 Z p0  h0 n0) (s₁.setTop (mkF m 59 #[.val (.int p0)] [(.int (1 : Int32))]))
          refine Ends.ret X0 (v := some (.int (nar .boolean (1 : Int32)))) (fun h => by rw [Bd.returns] at h; cases h) Bd.notSynchronized (fun fs hr => retN X0 hx (t := .boolean) Bd.returns (by simp) (hb hby d1_59) hr) ?_ (by decide) (by decide)
          have hfn : fn1 p0 = (1 : Int32) := by simp only [fn1, if_neg hc20, if_pos hc30, if_neg hc31, if_pos hc32]
          exact ⟨by rw [hfn]; rfl, N0, e0⟩
        · refine Ends.via (fun _ k => XS.icmpNo X0.here hx rfl (hb hby d1_21) rfl (feq hc32).1 k) ?_
          show Ends p e below s ROOM1.cells ROOM1.slots (Q1 Z p0  h0 n0) (s₁.setTop (mkF m 24 #[.val (.int p0)] []))
          refine Ends.via (fun _ k => XS.iloadN X0.here hx rfl (hb hby d1_24) rfl k) ?_
          show Ends p e below s ROOM1.cells ROOM1.slots (Q1 Z p0  h0 n0) (s₁.setTop (mkF m 25 #[.val (.int p0)] [(.int p0)]))
          refine Ends.via (fun _ k => XS.bipush X0.here hx rfl (hb hby d1_25) k) ?_
          show Ends p e below s ROOM1.cells ROOM1.slots (Q1 Z p0  h0 n0) (s₁.setTop (mkF m 27 #[.val (.int p0)] [(.int (13 : Int32)), (.int p0)]))
          by_cases hc33 : p0 = (13 : Int32)
          · refine Ends.via (fun _ k => XS.icmpYes X0.here hx rfl (pc0 := 27) (pc' := 54) rfl (hb hby d1_27) rfl (teq hc33).1 (by decide) (by decide) k) ?_
            show Ends p e below s ROOM1.cells ROOM1.slots (Q1 Z p0  h0 n0) (s₁.setTop (mkF m 54 #[.val (.int p0)] []))
            refine Ends.via (fun _ k => XS.iconst X0.here hx rfl (hb hby d1_54) k) ?_
            show Ends p e below s ROOM1.cells ROOM1.slots (Q1 Z p0  h0 n0) (s₁.setTop (mkF m 55 #[.val (.int p0)] [(.int (1 : Int32))]))
            refine Ends.via (fun _ k => XS.goto X0.here hx rfl (pc0 := 55) (pc' := 59) rfl (hb hby d1_55) (by decide) (by decide) k) ?_
            show Ends p e below s ROOM1.cells ROOM1.slots (Q1 Z p0  h0 n0) (s₁.setTop (mkF m 59 #[.val (.int p0)] [(.int (1 : Int32))]))
            refine Ends.ret X0 (v := some (.int (nar .boolean (1 : Int32)))) (fun h => by rw [Bd.returns] at h; cases h) Bd.notSynchronized (fun fs hr => retN X0 hx (t := .boolean) Bd.returns (by simp) (hb hby d1_59) hr) ?_ (by decide) (by decide)
            have hfn : fn1 p0 = (1 : Int32) := by simp only [fn1, if_neg hc20, if_pos hc30, if_neg hc31, if_neg hc32, if_pos hc33]
            exact ⟨by rw [hfn]; rfl, N0, e0⟩
          · refine Ends.via (fun _ k => XS.icmpNo X0.here hx rfl (hb hby d1_27) rfl (feq hc33).1 k) ?_
            show Ends p e below s ROOM1.cells ROOM1.slots (Q1 Z p0  h0 n0) (s₁.setTop (mkF m 30 #[.val (.int p0)] []))
            refine Ends.via (fun _ k => XS.iloadN X0.here hx rfl (hb hby d1_30) rfl k) ?_
            show Ends p e below s ROOM1.cells ROOM1.slots (Q1 Z p0  h0 n0) (s₁.setTop (mkF m 31 #[.val (.int p0)] [(.int p0)]))
            refine Ends.via (X0.ldcInt hx hown (mvT hZ (hw _ (List.mem_of_getElem? (i := 15) rfl))) (g := (mkF m 31 #[.val (.int p0)] [(.int p0)])) rfl (hb hby d1_31)) ?_
            show Ends p e below s ROOM1.cells ROOM1.slots (Q1 Z p0  h0 n0) (s₁.setTop (mkF m 33 #[.val (.int p0)] [(.int (57344 : Int32)), (.int p0)]))
            by_cases hc34 : p0 < (57344 : Int32)
            · refine Ends.via (fun _ k => XS.icmpYes X0.here hx rfl (pc0 := 33) (pc' := 42) rfl (hb hby d1_33) rfl (tlt hc34).1 (by decide) (by decide) k) ?_
              show Ends p e below s ROOM1.cells ROOM1.slots (Q1 Z p0  h0 n0) (s₁.setTop (mkF m 42 #[.val (.int p0)] []))
              refine Ends.via (fun _ k => XS.iloadN X0.here hx rfl (hb hby d1_42) rfl k) ?_
              show Ends p e below s ROOM1.cells ROOM1.slots (Q1 Z p0  h0 n0) (s₁.setTop (mkF m 43 #[.val (.int p0)] [(.int p0)]))
              refine Ends.via (X0.ldcInt hx hown (mvT hZ (hw _ (List.mem_of_getElem? (i := 16) rfl))) (g := (mkF m 43 #[.val (.int p0)] [(.int p0)])) rfl (hb hby d1_43)) ?_
              show Ends p e below s ROOM1.cells ROOM1.slots (Q1 Z p0  h0 n0) (s₁.setTop (mkF m 45 #[.val (.int p0)] [(.int (65536 : Int32)), (.int p0)]))
              by_cases hc35 : p0 < (65536 : Int32)
              · refine Ends.via (fun _ k => XS.icmpYes X0.here hx rfl (pc0 := 45) (pc' := 58) rfl (hb hby d1_45) rfl (tlt hc35).1 (by decide) (by decide) k) ?_
                show Ends p e below s ROOM1.cells ROOM1.slots (Q1 Z p0  h0 n0) (s₁.setTop (mkF m 58 #[.val (.int p0)] []))
                refine Ends.via (fun _ k => XS.iconst X0.here hx rfl (hb hby d1_58) k) ?_
                show Ends p e below s ROOM1.cells ROOM1.slots (Q1 Z p0  h0 n0) (s₁.setTop (mkF m 59 #[.val (.int p0)] [(.int (0 : Int32))]))
                refine Ends.ret X0 (v := some (.int (nar .boolean (0 : Int32)))) (fun h => by rw [Bd.returns] at h; cases h) Bd.notSynchronized (fun fs hr => retN X0 hx (t := .boolean) Bd.returns (by simp) (hb hby d1_59) hr) ?_ (by decide) (by decide)
                have hfn : fn1 p0 = (0 : Int32) := by simp only [fn1, if_neg hc20, if_pos hc30, if_neg hc31, if_neg hc32, if_neg hc33, if_pos hc34, if_pos hc35]
                exact ⟨by rw [hfn]; rfl, N0, e0⟩
              · refine Ends.via (fun _ k => XS.icmpNo X0.here hx rfl (hb hby d1_45) rfl (flt hc35).1 k) ?_
                show Ends p e below s ROOM1.cells ROOM1.slots (Q1 Z p0  h0 n0) (s₁.setTop (mkF m 48 #[.val (.int p0)] []))
                refine Ends.via (fun _ k => XS.iloadN X0.here hx rfl (hb hby d1_48) rfl k) ?_
                show Ends p e below s ROOM1.cells ROOM1.slots (Q1 Z p0  h0 n0) (s₁.setTop (mkF m 49 #[.val (.int p0)] [(.int p0)]))
                refine Ends.via (X0.ldcInt hx hown (mvT hZ (hw _ (List.mem_of_getElem? (i := 24) rfl))) (g := (mkF m 49 #[.val (.int p0)] [(.int p0)])) rfl (hb hby d1_49)) ?_
                show Ends p e below s ROOM1.cells ROOM1.slots (Q1 Z p0  h0 n0) (s₁.setTop (mkF m 51 #[.val (.int p0)] [(.int (1114111 : Int32)), (.int p0)]))
                by_cases hc36 : (1114111 : Int32) < p0
                · refine Ends.via (fun _ k => XS.icmpYes X0.here hx rfl (pc0 := 51) (pc' := 58) rfl (hb hby d1_51) rfl (tlt hc36).2.2.1 (by decide) (by decide) k) ?_
                  show Ends p e below s ROOM1.cells ROOM1.slots (Q1 Z p0  h0 n0) (s₁.setTop (mkF m 58 #[.val (.int p0)] []))
                  refine Ends.via (fun _ k => XS.iconst X0.here hx rfl (hb hby d1_58) k) ?_
                  show Ends p e below s ROOM1.cells ROOM1.slots (Q1 Z p0  h0 n0) (s₁.setTop (mkF m 59 #[.val (.int p0)] [(.int (0 : Int32))]))
                  refine Ends.ret X0 (v := some (.int (nar .boolean (0 : Int32)))) (fun h => by rw [Bd.returns] at h; cases h) Bd.notSynchronized (fun fs hr => retN X0 hx (t := .boolean) Bd.returns (by simp) (hb hby d1_59) hr) ?_ (by decide) (by decide)
                  have hfn : fn1 p0 = (0 : Int32) := by simp only [fn1, if_neg hc20, if_pos hc30, if_neg hc31, if_neg hc32, if_neg hc33, if_pos hc34, if_neg hc35, if_pos hc36]
                  exact ⟨by rw [hfn]; rfl, N0, e0⟩
                · refine Ends.via (fun _ k => XS.icmpNo X0.here hx rfl (hb hby d1_51) rfl (flt hc36).2.2.1 k) ?_
                  show Ends p e below s ROOM1.cells ROOM1.slots (Q1 Z p0  h0 n0) (s₁.setTop (mkF m 54 #[.val (.int p0)] []))
                  refine Ends.via (fun _ k => XS.iconst X0.here hx rfl (hb hby d1_54) k) ?_
                  show Ends p e below s ROOM1.cells ROOM1.slots (Q1 Z p0  h0 n0) (s₁.setTop (mkF m 55 #[.val (.int p0)] [(.int (1 : Int32))]))
                  refine Ends.via (fun _ k => XS.goto X0.here hx rfl (pc0 := 55) (pc' := 59) rfl (hb hby d1_55) (by decide) (by decide) k) ?_
                  show Ends p e below s ROOM1.cells ROOM1.slots (Q1 Z p0  h0 n0) (s₁.setTop (mkF m 59 #[.val (.int p0)] [(.int (1 : Int32))]))
                  refine Ends.ret X0 (v := some (.int (nar .boolean (1 : Int32)))) (fun h => by rw [Bd.returns] at h; cases h) Bd.notSynchronized (fun fs hr => retN X0 hx (t := .boolean) Bd.returns (by simp) (hb hby d1_59) hr) ?_ (by decide) (by decide)
                  have hfn : fn1 p0 = (1 : Int32) := by simp only [fn1, if_neg hc20, if_pos hc30, if_neg hc31, if_neg hc32, if_neg hc33, if_pos hc34, if_neg hc35, if_neg hc36]
                  exact ⟨by rw [hfn]; rfl, N0, e0⟩
            · refine Ends.via (fun _ k => XS.icmpNo X0.here hx rfl (hb hby d1_33) rfl (flt hc34).1 k) ?_
              show Ends p e below s ROOM1.cells ROOM1.slots (Q1 Z p0  h0 n0) (s₁.setTop (mkF m 36 #[.val (.int p0)] []))
              refine Ends.via (fun _ k => XS.iloadN X0.here hx rfl (hb hby d1_36) rfl k) ?_
              show Ends p e below s ROOM1.cells ROOM1.slots (Q1 Z p0  h0 n0) (s₁.setTop (mkF m 37 #[.val (.int p0)] [(.int p0)]))
              refine Ends.via (X0.ldcInt hx hown (mvT hZ (hw _ (List.mem_of_getElem? (i := 23) rfl))) (g := (mkF m 37 #[.val (.int p0)] [(.int p0)])) rfl (hb hby d1_37)) ?_
              show Ends p e below s ROOM1.cells ROOM1.slots (Q1 Z p0  h0 n0) (s₁.setTop (mkF m 39 #[.val (.int p0)] [(.int (65533 : Int32)), (.int p0)]))
              by_cases hc37 : (65533 : Int32) < p0
              · refine Ends.via (fun _ k => XS.icmpNo X0.here hx rfl (hb hby d1_39) rfl (tlt hc37).2.2.2 k) ?_
                show Ends p e below s ROOM1.cells ROOM1.slots (Q1 Z p0  h0 n0) (s₁.setTop (mkF m 42 #[.val (.int p0)] []))
                refine Ends.via (fun _ k => XS.iloadN X0.here hx rfl (hb hby d1_42) rfl k) ?_
                show Ends p e below s ROOM1.cells ROOM1.slots (Q1 Z p0  h0 n0) (s₁.setTop (mkF m 43 #[.val (.int p0)] [(.int p0)]))
                refine Ends.via (X0.ldcInt hx hown (mvT hZ (hw _ (List.mem_of_getElem? (i := 16) rfl))) (g := (mkF m 43 #[.val (.int p0)] [(.int p0)])) rfl (hb hby d1_43)) ?_
                show Ends p e below s ROOM1.cells ROOM1.slots (Q1 Z p0  h0 n0) (s₁.setTop (mkF m 45 #[.val (.int p0)] [(.int (65536 : Int32)), (.int p0)]))
                by_cases hc38 : p0 < (65536 : Int32)
                · refine Ends.via (fun _ k => XS.icmpYes X0.here hx rfl (pc0 := 45) (pc' := 58) rfl (hb hby d1_45) rfl (tlt hc38).1 (by decide) (by decide) k) ?_
                  show Ends p e below s ROOM1.cells ROOM1.slots (Q1 Z p0  h0 n0) (s₁.setTop (mkF m 58 #[.val (.int p0)] []))
                  refine Ends.via (fun _ k => XS.iconst X0.here hx rfl (hb hby d1_58) k) ?_
                  show Ends p e below s ROOM1.cells ROOM1.slots (Q1 Z p0  h0 n0) (s₁.setTop (mkF m 59 #[.val (.int p0)] [(.int (0 : Int32))]))
                  refine Ends.ret X0 (v := some (.int (nar .boolean (0 : Int32)))) (fun h => by rw [Bd.returns] at h; cases h) Bd.notSynchronized (fun fs hr => retN X0 hx (t := .boolean) Bd.returns (by simp) (hb hby d1_59) hr) ?_ (by decide) (by decide)
                  have hfn : fn1 p0 = (0 : Int32) := by simp only [fn1, if_neg hc20, if_pos hc30, if_neg hc31, if_neg hc32, if_neg hc33, if_neg hc34, if_pos hc37, if_pos hc38]
                  exact ⟨by rw [hfn]; rfl, N0, e0⟩
                · refine Ends.via (fun _ k => XS.icmpNo X0.here hx rfl (hb hby d1_45) rfl (flt hc38).1 k) ?_
                  show Ends p e below s ROOM1.cells ROOM1.slots (Q1 Z p0  h0 n0) (s₁.setTop (mkF m 48 #[.val (.int p0)] []))
                  refine Ends.via (fun _ k => XS.iloadN X0.here hx rfl (hb hby d1_48) rfl k) ?_
                  show Ends p e below s ROOM1.cells ROOM1.slots (Q1 Z p0  h0 n0) (s₁.setTop (mkF m 49 #[.val (.int p0)] [(.int p0)]))
                  refine Ends.via (X0.ldcInt hx hown (mvT hZ (hw _ (List.mem_of_getElem? (i := 24) rfl))) (g := (mkF m 49 #[.val (.int p0)] [(.int p0)])) rfl (hb hby d1_49)) ?_
                  show Ends p e below s ROOM1.cells ROOM1.slots (Q1 Z p0  h0 n0) (s₁.setTop (mkF m 51 #[.val (.int p0)] [(.int (1114111 : Int32)), (.int p0)]))
                  by_cases hc39 : (1114111 : Int32) < p0
                  · refine Ends.via (fun _ k => XS.icmpYes X0.here hx rfl (pc0 := 51) (pc' := 58) rfl (hb hby d1_51) rfl (tlt hc39).2.2.1 (by decide) (by decide) k) ?_
                    show Ends p e below s ROOM1.cells ROOM1.slots (Q1 Z p0  h0 n0) (s₁.setTop (mkF m 58 #[.val (.int p0)] []))
                    refine Ends.via (fun _ k => XS.iconst X0.here hx rfl (hb hby d1_58) k) ?_
                    show Ends p e below s ROOM1.cells ROOM1.slots (Q1 Z p0  h0 n0) (s₁.setTop (mkF m 59 #[.val (.int p0)] [(.int (0 : Int32))]))
                    refine Ends.ret X0 (v := some (.int (nar .boolean (0 : Int32)))) (fun h => by rw [Bd.returns] at h; cases h) Bd.notSynchronized (fun fs hr => retN X0 hx (t := .boolean) Bd.returns (by simp) (hb hby d1_59) hr) ?_ (by decide) (by decide)
                    have hfn : fn1 p0 = (0 : Int32) := by simp only [fn1, if_neg hc20, if_pos hc30, if_neg hc31, if_neg hc32, if_neg hc33, if_neg hc34, if_pos hc37, if_neg hc38, if_pos hc39]
                    exact ⟨by rw [hfn]; rfl, N0, e0⟩
                  · refine Ends.via (fun _ k => XS.icmpNo X0.here hx rfl (hb hby d1_51) rfl (flt hc39).2.2.1 k) ?_
                    show Ends p e below s ROOM1.cells ROOM1.slots (Q1 Z p0  h0 n0) (s₁.setTop (mkF m 54 #[.val (.int p0)] []))
                    refine Ends.via (fun _ k => XS.iconst X0.here hx rfl (hb hby d1_54) k) ?_
                    show Ends p e below s ROOM1.cells ROOM1.slots (Q1 Z p0  h0 n0) (s₁.setTop (mkF m 55 #[.val (.int p0)] [(.int (1 : Int32))]))
                    refine Ends.via (fun _ k => XS.goto X0.here hx rfl (pc0 := 55) (pc' := 59) rfl (hb hby d1_55) (by decide) (by decide) k) ?_
                    show Ends p e below s ROOM1.cells ROOM1.slots (Q1 Z p0  h0 n0) (s₁.setTop (mkF m 59 #[.val (.int p0)] [(.int (1 : Int32))]))
                    refine Ends.ret X0 (v := some (.int (nar .boolean (1 : Int32)))) (fun h => by rw [Bd.returns] at h; cases h) Bd.notSynchronized (fun fs hr => retN X0 hx (t := .boolean) Bd.returns (by simp) (hb hby d1_59) hr) ?_ (by decide) (by decide)
                    have hfn : fn1 p0 = (1 : Int32) := by simp only [fn1, if_neg hc20, if_pos hc30, if_neg hc31, if_neg hc32, if_neg hc33, if_neg hc34, if_pos hc37, if_neg hc38, if_neg hc39]
                    exact ⟨by rw [hfn]; rfl, N0, e0⟩
              · refine Ends.via (fun _ k => XS.icmpYes X0.here hx rfl (pc0 := 39) (pc' := 54) rfl (hb hby d1_39) rfl (flt hc37).2.2.2 (by decide) (by decide) k) ?_
                show Ends p e below s ROOM1.cells ROOM1.slots (Q1 Z p0  h0 n0) (s₁.setTop (mkF m 54 #[.val (.int p0)] []))
                refine Ends.via (fun _ k => XS.iconst X0.here hx rfl (hb hby d1_54) k) ?_
                show Ends p e below s ROOM1.cells ROOM1.slots (Q1 Z p0  h0 n0) (s₁.setTop (mkF m 55 #[.val (.int p0)] [(.int (1 : Int32))]))
                refine Ends.via (fun _ k => XS.goto X0.here hx rfl (pc0 := 55) (pc' := 59) rfl (hb hby d1_55) (by decide) (by decide) k) ?_
                show Ends p e below s ROOM1.cells ROOM1.slots (Q1 Z p0  h0 n0) (s₁.setTop (mkF m 59 #[.val (.int p0)] [(.int (1 : Int32))]))
                refine Ends.ret X0 (v := some (.int (nar .boolean (1 : Int32)))) (fun h => by rw [Bd.returns] at h; cases h) Bd.notSynchronized (fun fs hr => retN X0 hx (t := .boolean) Bd.returns (by simp) (hb hby d1_59) hr) ?_ (by decide) (by decide)
                have hfn : fn1 p0 = (1 : Int32) := by simp only [fn1, if_neg hc20, if_pos hc30, if_neg hc31, if_neg hc32, if_neg hc33, if_neg hc34, if_neg hc37]
                exact ⟨by rw [hfn]; rfl, N0, e0⟩
    · refine Ends.via (fun _ k => XS.icmpYes X0.here hx rfl (pc0 := 9) (pc' := 54) rfl (hb hby d1_9) rfl (flt hc30).2.2.2 (by decide) (by decide) k) ?_
      show Ends p e below s ROOM1.cells ROOM1.slots (Q1 Z p0  h0 n0) (s₁.setTop (mkF m 54 #[.val (.int p0)] []))
      refine Ends.via (fun _ k => XS.iconst X0.here hx rfl (hb hby d1_54) k) ?_
      show Ends p e below s ROOM1.cells ROOM1.slots (Q1 Z p0  h0 n0) (s₁.setTop (mkF m 55 #[.val (.int p0)] [(.int (1 : Int32))]))
      refine Ends.via (fun _ k => XS.goto X0.here hx rfl (pc0 := 55) (pc' := 59) rfl (hb hby d1_55) (by decide) (by decide) k) ?_
      show Ends p e below s ROOM1.cells ROOM1.slots (Q1 Z p0  h0 n0) (s₁.setTop (mkF m 59 #[.val (.int p0)] [(.int (1 : Int32))]))
      refine Ends.ret X0 (v := some (.int (nar .boolean (1 : Int32)))) (fun h => by rw [Bd.returns] at h; cases h) Bd.notSynchronized (fun fs hr => retN X0 hx (t := .boolean) Bd.returns (by simp) (hb hby d1_59) hr) ?_ (by decide) (by decide)
      have hfn : fn1 p0 = (1 : Int32) := by simp only [fn1, if_neg hc20, if_neg hc30]
      exact ⟨by rw [hfn]; rfl, N0, e0⟩
theorem d2_0 : decode method_2_code 0 = .ok (.iload_n 0, 1) := by decide +kernel
theorem d2_1 : decode method_2_code 1 = .ok (.ifCond .lt 9, 3) := by decide +kernel
theorem d2_4 : decode method_2_code 4 = .ok (.iload_n 0, 1) := by decide +kernel
theorem d2_5 : decode method_2_code 5 = .ok (.ldc 7, 2) := by decide +kernel
theorem d2_7 : decode method_2_code 7 = .ok (.if_icmp .le 5, 3) := by decide +kernel
theorem d2_10 : decode method_2_code 10 = .ok (.iconst 0, 1) := by decide +kernel
theorem d2_11 : decode method_2_code 11 = .ok (.ireturn, 1) := by decide +kernel
theorem d2_12 : decode method_2_code 12 = .ok (.iload_n 0, 1) := by decide +kernel
theorem d2_13 : decode method_2_code 13 = .ok (.bipush 32, 2) := by decide +kernel
theorem d2_15 : decode method_2_code 15 = .ok (.if_icmp .ge 27, 3) := by decide +kernel
theorem d2_18 : decode method_2_code 18 = .ok (.iload_n 0, 1) := by decide +kernel
theorem d2_19 : decode method_2_code 19 = .ok (.bipush 9, 2) := by decide +kernel
theorem d2_21 : decode method_2_code 21 = .ok (.if_icmp .eq 15, 3) := by decide +kernel
theorem d2_24 : decode method_2_code 24 = .ok (.iload_n 0, 1) := by decide +kernel
theorem d2_25 : decode method_2_code 25 = .ok (.bipush 10, 2) := by decide +kernel
theorem d2_27 : decode method_2_code 27 = .ok (.if_icmp .eq 9, 3) := by decide +kernel
theorem d2_30 : decode method_2_code 30 = .ok (.iload_n 0, 1) := by decide +kernel
theorem d2_31 : decode method_2_code 31 = .ok (.bipush 13, 2) := by decide +kernel
theorem d2_33 : decode method_2_code 33 = .ok (.if_icmp .ne 7, 3) := by decide +kernel
theorem d2_36 : decode method_2_code 36 = .ok (.iconst 1, 1) := by decide +kernel
theorem d2_37 : decode method_2_code 37 = .ok (.goto 4, 3) := by decide +kernel
theorem d2_40 : decode method_2_code 40 = .ok (.iconst 0, 1) := by decide +kernel
theorem d2_41 : decode method_2_code 41 = .ok (.ireturn, 1) := by decide +kernel
theorem d2_42 : decode method_2_code 42 = .ok (.iload_n 0, 1) := by decide +kernel
theorem d2_43 : decode method_2_code 43 = .ok (.ldc 8, 2) := by decide +kernel
theorem d2_45 : decode method_2_code 45 = .ok (.if_icmp .lt 11, 3) := by decide +kernel
theorem d2_48 : decode method_2_code 48 = .ok (.iload_n 0, 1) := by decide +kernel
theorem d2_49 : decode method_2_code 49 = .ok (.ldc 9, 2) := by decide +kernel
theorem d2_51 : decode method_2_code 51 = .ok (.if_icmp .gt 5, 3) := by decide +kernel
theorem d2_54 : decode method_2_code 54 = .ok (.iconst 0, 1) := by decide +kernel
theorem d2_55 : decode method_2_code 55 = .ok (.ireturn, 1) := by decide +kernel
theorem d2_56 : decode method_2_code 56 = .ok (.iload_n 0, 1) := by decide +kernel
theorem d2_57 : decode method_2_code 57 = .ok (.ldc 10, 2) := by decide +kernel
theorem d2_59 : decode method_2_code 59 = .ok (.if_icmp .eq 13, 3) := by decide +kernel
theorem d2_62 : decode method_2_code 62 = .ok (.iload_n 0, 1) := by decide +kernel
theorem d2_63 : decode method_2_code 63 = .ok (.ldc 11, 2) := by decide +kernel
theorem d2_65 : decode method_2_code 65 = .ok (.if_icmp .eq 7, 3) := by decide +kernel
theorem d2_68 : decode method_2_code 68 = .ok (.iconst 1, 1) := by decide +kernel
theorem d2_69 : decode method_2_code 69 = .ok (.goto 4, 3) := by decide +kernel
theorem d2_72 : decode method_2_code 72 = .ok (.iconst 0, 1) := by decide +kernel
theorem d2_73 : decode method_2_code 73 = .ok (.ireturn, 1) := by decide +kernel
theorem pn_2 : plainName "com/example/frugal_xpath/frugalxpath/XmlCharsIsCharPinLaw" = true := by first | (simp [plainName, overriddenIn]; done) | decide +kernel
theorem ef_2 (m : MethodId) (p0 : Int32) : entryFrame m #[(.int p0)] 1 = mkF m 0 #[.val (.int p0)] [] := by first | (simp [entryFrame, mkF, argsToLocals, Value.category]; done) | rfl
def fn2 (p0 : Int32) : Int32 := (if p0 < (0 : Int32) then (0 : Int32) else (if (1114111 : Int32) < p0 then (0 : Int32) else (if p0 < (32 : Int32) then (if p0 = (9 : Int32) then (1 : Int32) else (if p0 = (10 : Int32) then (1 : Int32) else (if p0 = (13 : Int32) then (1 : Int32) else (0 : Int32)))) else (if p0 < (55296 : Int32) then (if p0 = (65534 : Int32) then (0 : Int32) else (if p0 = (65535 : Int32) then (0 : Int32) else (1 : Int32))) else (if (57343 : Int32) < p0 then (if p0 = (65534 : Int32) then (0 : Int32) else (if p0 = (65535 : Int32) then (0 : Int32) else (1 : Int32))) else (0 : Int32))))))
abbrev ROOM2 : Room := { frames := 0, cells := 0, slots := 0, locals := 0 }
def Q2 (Z : State) (p0 : Int32)  (h0 : Heap) (n0 : Nat) (v : Option Value) (h : Heap) (L : List Loc) : Prop := v = some (.int (fn2 p0)) ∧ Fr n0 L ∧ h = h0
set_option maxRecDepth 65536 in
set_option maxHeartbeats 40000000 in
theorem rm2 (l : Launch) (Z : State) (a0 : Array Value) (hw : ∀ d ∈ tables_1, d.before a0 Z = true) (ws : List Jvm.Cond) (p0 : Int32)  (h0 : Heap) (n0 : Nat) (Z0 : n0 ≤ h0.size)  :
    MetFree l (⟨"com/example/frugal_xpath/frugalxpath/XmlCharsIsCharPinLaw", "ref", "(I)Z"⟩ : MethodName) (head1 (Jvm.Cond.code (⟨"com/example/frugal_xpath/frugalxpath/XmlCharsIsCharPinLaw", "ref", "(I)Z"⟩ : MethodName) method_2_code 1 (some .boolean) :: ws) ROOM2) (fun a U => a = #[(.int p0)] ∧ Z.Warmed39 U.vm ∧ U.heap = h0) (fun _ _ _ _ _ => True) (fun _ U o U' => ∃ v L, o = .returned v ∧ Q2 Z p0  h0 n0 v U'.heap L ∧ FrameEnd U o U' L ROOM2.cells ROOM2.slots) := by
  refine MetFree.of_bodySF (plainFor_of_name pn_2) hisR ?_
  intro p e s m args below meth c s₁ Bd hml0 hP hK
  obtain ⟨rfl, hZ, hh⟩ := hP
  have hx := Bd.exec
  have hby := Bd.bytes
  have hml : c.maxLocals = 1 := hml0
  have hown : s.vm.findClass "com/example/frugal_xpath/frugalxpath/XmlCharsIsCharPinLaw" = some m.cls := findClass_of_methodNamed Bd.named
  have hnm := (name_of_methodNamed Bd.named Bd.method).1
  have X0 : Stand p l e ROOM2 s m #[(.int p0)] below meth c s₁ [] 0 0 := Stand.of_body Bd
  have e0 : s₁.heap = h0 := by rw [← hh, Bd.state]; rfl
  have N0 := Fr.nil n0
  refine Ends.via (A := s₁.setTop (mkF m 0 #[.val (.int p0)] [])) (kc := ROOM2.cells) (ks := ROOM2.slots) (Q := (Q2 Z p0  h0 n0)) (fun t k => castTop (ef_2 m p0) k) ?_
  show Ends p e below s ROOM2.cells ROOM2.slots (Q2 Z p0  h0 n0) (s₁.setTop (mkF m 0 #[.val (.int p0)] []))
  refine Ends.via (fun _ k => XS.iloadN X0.here hx rfl (hb hby d2_0) rfl k) ?_
  show Ends p e below s ROOM2.cells ROOM2.slots (Q2 Z p0  h0 n0) (s₁.setTop (mkF m 1 #[.val (.int p0)] [(.int p0)]))
  by_cases hc41 : p0 < (0 : Int32)
  · refine Ends.via (fun _ k => XS.ifYes X0.here hx rfl (pc0 := 1) (pc' := 10) rfl (hb hby d2_1) rfl ((if0 _ _).trans (tlt hc41).1) (by decide) (by decide) k) ?_
    show Ends p e below s ROOM2.cells ROOM2.slots (Q2 Z p0  h0 n0) (s₁.setTop (mkF m 10 #[.val (.int p0)] []))
    refine Ends.via (fun _ k => XS.iconst X0.here hx rfl (hb hby d2_10) k) ?_
    show Ends p e below s ROOM2.cells ROOM2.slots (Q2 Z p0  h0 n0) (s₁.setTop (mkF m 11 #[.val (.int p0)] [(.int (0 : Int32))]))
    refine Ends.ret X0 (v := some (.int (nar .boolean (0 : Int32)))) (fun h => by rw [Bd.returns] at h; cases h) Bd.notSynchronized (fun fs hr => retN X0 hx (t := .boolean) Bd.returns (by simp) (hb hby d2_11) hr) ?_ (by decide) (by decide)
    have hfn : fn2 p0 = (0 : Int32) := by simp only [fn2, if_pos hc41]
    exact ⟨by rw [hfn]; rfl, N0, e0⟩
  · refine Ends.via (fun _ k => XS.ifNo X0.here hx rfl (hb hby d2_1) rfl ((if0 _ _).trans (flt hc41).1) k) ?_
    show Ends p e below s ROOM2.cells ROOM2.slots (Q2 Z p0  h0 n0) (s₁.setTop (mkF m 4 #[.val (.int p0)] []))
    refine Ends.via (fun _ k => XS.iloadN X0.here hx rfl (hb hby d2_4) rfl k) ?_
    show Ends p e below s ROOM2.cells ROOM2.slots (Q2 Z p0  h0 n0) (s₁.setTop (mkF m 5 #[.val (.int p0)] [(.int p0)]))
    refine Ends.via (X0.ldcInt hx hown (mvT hZ (hw _ (List.mem_of_getElem? (i := 8) rfl))) (g := (mkF m 5 #[.val (.int p0)] [(.int p0)])) rfl (hb hby d2_5)) ?_
    show Ends p e below s ROOM2.cells ROOM2.slots (Q2 Z p0  h0 n0) (s₁.setTop (mkF m 7 #[.val (.int p0)] [(.int (1114111 : Int32)), (.int p0)]))
    by_cases hc42 : (1114111 : Int32) < p0
    · refine Ends.via (fun _ k => XS.icmpNo X0.here hx rfl (hb hby d2_7) rfl (tlt hc42).2.2.2 k) ?_
      show Ends p e below s ROOM2.cells ROOM2.slots (Q2 Z p0  h0 n0) (s₁.setTop (mkF m 10 #[.val (.int p0)] []))
      refine Ends.via (fun _ k => XS.iconst X0.here hx rfl (hb hby d2_10) k) ?_
      show Ends p e below s ROOM2.cells ROOM2.slots (Q2 Z p0  h0 n0) (s₁.setTop (mkF m 11 #[.val (.int p0)] [(.int (0 : Int32))]))
      refine Ends.ret X0 (v := some (.int (nar .boolean (0 : Int32)))) (fun h => by rw [Bd.returns] at h; cases h) Bd.notSynchronized (fun fs hr => retN X0 hx (t := .boolean) Bd.returns (by simp) (hb hby d2_11) hr) ?_ (by decide) (by decide)
      have hfn : fn2 p0 = (0 : Int32) := by simp only [fn2, if_neg hc41, if_pos hc42]
      exact ⟨by rw [hfn]; rfl, N0, e0⟩
    · refine Ends.via (fun _ k => XS.icmpYes X0.here hx rfl (pc0 := 7) (pc' := 12) rfl (hb hby d2_7) rfl (flt hc42).2.2.2 (by decide) (by decide) k) ?_
      show Ends p e below s ROOM2.cells ROOM2.slots (Q2 Z p0  h0 n0) (s₁.setTop (mkF m 12 #[.val (.int p0)] []))
      refine Ends.via (fun _ k => XS.iloadN X0.here hx rfl (hb hby d2_12) rfl k) ?_
      show Ends p e below s ROOM2.cells ROOM2.slots (Q2 Z p0  h0 n0) (s₁.setTop (mkF m 13 #[.val (.int p0)] [(.int p0)]))
      refine Ends.via (fun _ k => XS.bipush X0.here hx rfl (hb hby d2_13) k) ?_
      show Ends p e below s ROOM2.cells ROOM2.slots (Q2 Z p0  h0 n0) (s₁.setTop (mkF m 15 #[.val (.int p0)] [(.int (32 : Int32)), (.int p0)]))
      by_cases hc43 : p0 < (32 : Int32)
      · refine Ends.via (fun _ k => XS.icmpNo X0.here hx rfl (hb hby d2_15) rfl (tlt hc43).2.1 k) ?_
        show Ends p e below s ROOM2.cells ROOM2.slots (Q2 Z p0  h0 n0) (s₁.setTop (mkF m 18 #[.val (.int p0)] []))
        refine Ends.via (fun _ k => XS.iloadN X0.here hx rfl (hb hby d2_18) rfl k) ?_
        show Ends p e below s ROOM2.cells ROOM2.slots (Q2 Z p0  h0 n0) (s₁.setTop (mkF m 19 #[.val (.int p0)] [(.int p0)]))
        refine Ends.via (fun _ k => XS.bipush X0.here hx rfl (hb hby d2_19) k) ?_
        show Ends p e below s ROOM2.cells ROOM2.slots (Q2 Z p0  h0 n0) (s₁.setTop (mkF m 21 #[.val (.int p0)] [(.int (9 : Int32)), (.int p0)]))
        by_cases hc44 : p0 = (9 : Int32)
        · refine Ends.via (fun _ k => XS.icmpYes X0.here hx rfl (pc0 := 21) (pc' := 36) rfl (hb hby d2_21) rfl (teq hc44).1 (by decide) (by decide) k) ?_
          show Ends p e below s ROOM2.cells ROOM2.slots (Q2 Z p0  h0 n0) (s₁.setTop (mkF m 36 #[.val (.int p0)] []))
          refine Ends.via (fun _ k => XS.iconst X0.here hx rfl (hb hby d2_36) k) ?_
          show Ends p e below s ROOM2.cells ROOM2.slots (Q2 Z p0  h0 n0) (s₁.setTop (mkF m 37 #[.val (.int p0)] [(.int (1 : Int32))]))
          refine Ends.via (fun _ k => XS.goto X0.here hx rfl (pc0 := 37) (pc' := 41) rfl (hb hby d2_37) (by decide) (by decide) k) ?_
          show Ends p e below s ROOM2.cells ROOM2.slots (Q2 Z p0  h0 n0) (s₁.setTop (mkF m 41 #[.val (.int p0)] [(.int (1 : Int32))]))
          refine Ends.ret X0 (v := some (.int (nar .boolean (1 : Int32)))) (fun h => by rw [Bd.returns] at h; cases h) Bd.notSynchronized (fun fs hr => retN X0 hx (t := .boolean) Bd.returns (by simp) (hb hby d2_41) hr) ?_ (by decide) (by decide)
          have hfn : fn2 p0 = (1 : Int32) := by simp only [fn2, if_neg hc41, if_neg hc42, if_pos hc43, if_pos hc44]
          exact ⟨by rw [hfn]; rfl, N0, e0⟩
        · refine Ends.via (fun _ k => XS.icmpNo X0.here hx rfl (hb hby d2_21) rfl (feq hc44).1 k) ?_
          show Ends p e below s ROOM2.cells ROOM2.slots (Q2 Z p0  h0 n0) (s₁.setTop (mkF m 24 #[.val (.int p0)] []))
          refine Ends.via (fun _ k => XS.iloadN X0.here hx rfl (hb hby d2_24) rfl k) ?_
          show Ends p e below s ROOM2.cells ROOM2.slots (Q2 Z p0  h0 n0) (s₁.setTop (mkF m 25 #[.val (.int p0)] [(.int p0)]))
          refine Ends.via (fun _ k => XS.bipush X0.here hx rfl (hb hby d2_25) k) ?_
          show Ends p e below s ROOM2.cells ROOM2.slots (Q2 Z p0  h0 n0) (s₁.setTop (mkF m 27 #[.val (.int p0)] [(.int (10 : Int32)), (.int p0)]))
          by_cases hc45 : p0 = (10 : Int32)
          · refine Ends.via (fun _ k => XS.icmpYes X0.here hx rfl (pc0 := 27) (pc' := 36) rfl (hb hby d2_27) rfl (teq hc45).1 (by decide) (by decide) k) ?_
            show Ends p e below s ROOM2.cells ROOM2.slots (Q2 Z p0  h0 n0) (s₁.setTop (mkF m 36 #[.val (.int p0)] []))
            refine Ends.via (fun _ k => XS.iconst X0.here hx rfl (hb hby d2_36) k) ?_
            show Ends p e below s ROOM2.cells ROOM2.slots (Q2 Z p0  h0 n0) (s₁.setTop (mkF m 37 #[.val (.int p0)] [(.int (1 : Int32))]))
            refine Ends.via (fun _ k => XS.goto X0.here hx rfl (pc0 := 37) (pc' := 41) rfl (hb hby d2_37) (by decide) (by decide) k) ?_
            show Ends p e below s ROOM2.cells ROOM2.slots (Q2 Z p0  h0 n0) (s₁.setTop (mkF m 41 #[.val (.int p0)] [(.int (1 : Int32))]))
            refine Ends.ret X0 (v := some (.int (nar .boolean (1 : Int32)))) (fun h => by rw [Bd.returns] at h; cases h) Bd.notSynchronized (fun fs hr => retN X0 hx (t := .boolean) Bd.returns (by simp) (hb hby d2_41) hr) ?_ (by decide) (by decide)
            have hfn : fn2 p0 = (1 : Int32) := by simp only [fn2, if_neg hc41, if_neg hc42, if_pos hc43, if_neg hc44, if_pos hc45]
            exact ⟨by rw [hfn]; rfl, N0, e0⟩
          · refine Ends.via (fun _ k => XS.icmpNo X0.here hx rfl (hb hby d2_27) rfl (feq hc45).1 k) ?_
            show Ends p e below s ROOM2.cells ROOM2.slots (Q2 Z p0  h0 n0) (s₁.setTop (mkF m 30 #[.val (.int p0)] []))
            refine Ends.via (fun _ k => XS.iloadN X0.here hx rfl (hb hby d2_30) rfl k) ?_
            show Ends p e below s ROOM2.cells ROOM2.slots (Q2 Z p0  h0 n0) (s₁.setTop (mkF m 31 #[.val (.int p0)] [(.int p0)]))
            refine Ends.via (fun _ k => XS.bipush X0.here hx rfl (hb hby d2_31) k) ?_
            show Ends p e below s ROOM2.cells ROOM2.slots (Q2 Z p0  h0 n0) (s₁.setTop (mkF m 33 #[.val (.int p0)] [(.int (13 : Int32)), (.int p0)]))
            by_cases hc46 : p0 = (13 : Int32)
            · refine Ends.via (fun _ k => XS.icmpNo X0.here hx rfl (hb hby d2_33) rfl (teq hc46).2 k) ?_
              show Ends p e below s ROOM2.cells ROOM2.slots (Q2 Z p0  h0 n0) (s₁.setTop (mkF m 36 #[.val (.int p0)] []))
              refine Ends.via (fun _ k => XS.iconst X0.here hx rfl (hb hby d2_36) k) ?_
              show Ends p e below s ROOM2.cells ROOM2.slots (Q2 Z p0  h0 n0) (s₁.setTop (mkF m 37 #[.val (.int p0)] [(.int (1 : Int32))]))
              refine Ends.via (fun _ k => XS.goto X0.here hx rfl (pc0 := 37) (pc' := 41) rfl (hb hby d2_37) (by decide) (by decide) k) ?_
              show Ends p e below s ROOM2.cells ROOM2.slots (Q2 Z p0  h0 n0) (s₁.setTop (mkF m 41 #[.val (.int p0)] [(.int (1 : Int32))]))
              refine Ends.ret X0 (v := some (.int (nar .boolean (1 : Int32)))) (fun h => by rw [Bd.returns] at h; cases h) Bd.notSynchronized (fun fs hr => retN X0 hx (t := .boolean) Bd.returns (by simp) (hb hby d2_41) hr) ?_ (by decide) (by decide)
              have hfn : fn2 p0 = (1 : Int32) := by simp only [fn2, if_neg hc41, if_neg hc42, if_pos hc43, if_neg hc44, if_neg hc45, if_pos hc46]
              exact ⟨by rw [hfn]; rfl, N0, e0⟩
            · refine Ends.via (fun _ k => XS.icmpYes X0.here hx rfl (pc0 := 33) (pc' := 40) rfl (hb hby d2_33) rfl (feq hc46).2 (by decide) (by decide) k) ?_
              show Ends p e below s ROOM2.cells ROOM2.slots (Q2 Z p0  h0 n0) (s₁.setTop (mkF m 40 #[.val (.int p0)] []))
              refine Ends.via (fun _ k => XS.iconst X0.here hx rfl (hb hby d2_40) k) ?_
              show Ends p e below s ROOM2.cells ROOM2.slots (Q2 Z p0  h0 n0) (s₁.setTop (mkF m 41 #[.val (.int p0)] [(.int (0 : Int32))]))
              refine Ends.ret X0 (v := some (.int (nar .boolean (0 : Int32)))) (fun h => by rw [Bd.returns] at h; cases h) Bd.notSynchronized (fun fs hr => retN X0 hx (t := .boolean) Bd.returns (by simp) (hb hby d2_41) hr) ?_ (by decide) (by decide)
              have hfn : fn2 p0 = (0 : Int32) := by simp only [fn2, if_neg hc41, if_neg hc42, if_pos hc43, if_neg hc44, if_neg hc45, if_neg hc46]
              exact ⟨by rw [hfn]; rfl, N0, e0⟩
      · refine Ends.via (fun _ k => XS.icmpYes X0.here hx rfl (pc0 := 15) (pc' := 42) rfl (hb hby d2_15) rfl (flt hc43).2.1 (by decide) (by decide) k) ?_
        show Ends p e below s ROOM2.cells ROOM2.slots (Q2 Z p0  h0 n0) (s₁.setTop (mkF m 42 #[.val (.int p0)] []))
        refine Ends.via (fun _ k => XS.iloadN X0.here hx rfl (hb hby d2_42) rfl k) ?_
        show Ends p e below s ROOM2.cells ROOM2.slots (Q2 Z p0  h0 n0) (s₁.setTop (mkF m 43 #[.val (.int p0)] [(.int p0)]))
        refine Ends.via (X0.ldcInt hx hown (mvT hZ (hw _ (List.mem_of_getElem? (i := 2) rfl))) (g := (mkF m 43 #[.val (.int p0)] [(.int p0)])) rfl (hb hby d2_43)) ?_
        show Ends p e below s ROOM2.cells ROOM2.slots (Q2 Z p0  h0 n0) (s₁.setTop (mkF m 45 #[.val (.int p0)] [(.int (55296 : Int32)), (.int p0)]))
        by_cases hc47 : p0 < (55296 : Int32)
        · refine Ends.via (fun _ k => XS.icmpYes X0.here hx rfl (pc0 := 45) (pc' := 56) rfl (hb hby d2_45) rfl (tlt hc47).1 (by decide) (by decide) k) ?_
          show Ends p e below s ROOM2.cells ROOM2.slots (Q2 Z p0  h0 n0) (s₁.setTop (mkF m 56 #[.val (.int p0)] []))
          refine Ends.via (fun _ k => XS.iloadN X0.here hx rfl (hb hby d2_56) rfl k) ?_
          show Ends p e below s ROOM2.cells ROOM2.slots (Q2 Z p0  h0 n0) (s₁.setTop (mkF m 57 #[.val (.int p0)] [(.int p0)]))
          refine Ends.via (X0.ldcInt hx hown (mvT hZ (hw _ (List.mem_of_getElem? (i := 6) rfl))) (g := (mkF m 57 #[.val (.int p0)] [(.int p0)])) rfl (hb hby d2_57)) ?_
          show Ends p e below s ROOM2.cells ROOM2.slots (Q2 Z p0  h0 n0) (s₁.setTop (mkF m 59 #[.val (.int p0)] [(.int (65534 : Int32)), (.int p0)]))
          by_cases hc48 : p0 = (65534 : Int32)
          · refine Ends.via (fun _ k => XS.icmpYes X0.here hx rfl (pc0 := 59) (pc' := 72) rfl (hb hby d2_59) rfl (teq hc48).1 (by decide) (by decide) k) ?_
            show Ends p e below s ROOM2.cells ROOM2.slots (Q2 Z p0  h0 n0) (s₁.setTop (mkF m 72 #[.val (.int p0)] []))
            refine Ends.via (fun _ k => XS.iconst X0.here hx rfl (hb hby d2_72) k) ?_
            show Ends p e below s ROOM2.cells ROOM2.slots (Q2 Z p0  h0 n0) (s₁.setTop (mkF m 73 #[.val (.int p0)] [(.int (0 : Int32))]))
            refine Ends.ret X0 (v := some (.int (nar .boolean (0 : Int32)))) (fun h => by rw [Bd.returns] at h; cases h) Bd.notSynchronized (fun fs hr => retN X0 hx (t := .boolean) Bd.returns (by simp) (hb hby d2_73) hr) ?_ (by decide) (by decide)
            have hfn : fn2 p0 = (0 : Int32) := by simp only [fn2, if_neg hc41, if_neg hc42, if_neg hc43, if_pos hc47, if_pos hc48]
            exact ⟨by rw [hfn]; rfl, N0, e0⟩
          · refine Ends.via (fun _ k => XS.icmpNo X0.here hx rfl (hb hby d2_59) rfl (feq hc48).1 k) ?_
            show Ends p e below s ROOM2.cells ROOM2.slots (Q2 Z p0  h0 n0) (s₁.setTop (mkF m 62 #[.val (.int p0)] []))
            refine Ends.via (fun _ k => XS.iloadN X0.here hx rfl (hb hby d2_62) rfl k) ?_
            show Ends p e below s ROOM2.cells ROOM2.slots (Q2 Z p0  h0 n0) (s₁.setTop (mkF m 63 #[.val (.int p0)] [(.int p0)]))
            refine Ends.via (X0.ldcInt hx hown (mvT hZ (hw _ (List.mem_of_getElem? (i := 22) rfl))) (g := (mkF m 63 #[.val (.int p0)] [(.int p0)])) rfl (hb hby d2_63)) ?_
            show Ends p e below s ROOM2.cells ROOM2.slots (Q2 Z p0  h0 n0) (s₁.setTop (mkF m 65 #[.val (.int p0)] [(.int (65535 : Int32)), (.int p0)]))
            by_cases hc49 : p0 = (65535 : Int32)
            · refine Ends.via (fun _ k => XS.icmpYes X0.here hx rfl (pc0 := 65) (pc' := 72) rfl (hb hby d2_65) rfl (teq hc49).1 (by decide) (by decide) k) ?_
              show Ends p e below s ROOM2.cells ROOM2.slots (Q2 Z p0  h0 n0) (s₁.setTop (mkF m 72 #[.val (.int p0)] []))
              refine Ends.via (fun _ k => XS.iconst X0.here hx rfl (hb hby d2_72) k) ?_
              show Ends p e below s ROOM2.cells ROOM2.slots (Q2 Z p0  h0 n0) (s₁.setTop (mkF m 73 #[.val (.int p0)] [(.int (0 : Int32))]))
              refine Ends.ret X0 (v := some (.int (nar .boolean (0 : Int32)))) (fun h => by rw [Bd.returns] at h; cases h) Bd.notSynchronized (fun fs hr => retN X0 hx (t := .boolean) Bd.returns (by simp) (hb hby d2_73) hr) ?_ (by decide) (by decide)
              have hfn : fn2 p0 = (0 : Int32) := by simp only [fn2, if_neg hc41, if_neg hc42, if_neg hc43, if_pos hc47, if_neg hc48, if_pos hc49]
              exact ⟨by rw [hfn]; rfl, N0, e0⟩
            · refine Ends.via (fun _ k => XS.icmpNo X0.here hx rfl (hb hby d2_65) rfl (feq hc49).1 k) ?_
              show Ends p e below s ROOM2.cells ROOM2.slots (Q2 Z p0  h0 n0) (s₁.setTop (mkF m 68 #[.val (.int p0)] []))
              refine Ends.via (fun _ k => XS.iconst X0.here hx rfl (hb hby d2_68) k) ?_
              show Ends p e below s ROOM2.cells ROOM2.slots (Q2 Z p0  h0 n0) (s₁.setTop (mkF m 69 #[.val (.int p0)] [(.int (1 : Int32))]))
              refine Ends.via (fun _ k => XS.goto X0.here hx rfl (pc0 := 69) (pc' := 73) rfl (hb hby d2_69) (by decide) (by decide) k) ?_
              show Ends p e below s ROOM2.cells ROOM2.slots (Q2 Z p0  h0 n0) (s₁.setTop (mkF m 73 #[.val (.int p0)] [(.int (1 : Int32))]))
              refine Ends.ret X0 (v := some (.int (nar .boolean (1 : Int32)))) (fun h => by rw [Bd.returns] at h; cases h) Bd.notSynchronized (fun fs hr => retN X0 hx (t := .boolean) Bd.returns (by simp) (hb hby d2_73) hr) ?_ (by decide) (by decide)
              have hfn : fn2 p0 = (1 : Int32) := by simp only [fn2, if_neg hc41, if_neg hc42, if_neg hc43, if_pos hc47, if_neg hc48, if_neg hc49]
              exact ⟨by rw [hfn]; rfl, N0, e0⟩
        · refine Ends.via (fun _ k => XS.icmpNo X0.here hx rfl (hb hby d2_45) rfl (flt hc47).1 k) ?_
          show Ends p e below s ROOM2.cells ROOM2.slots (Q2 Z p0  h0 n0) (s₁.setTop (mkF m 48 #[.val (.int p0)] []))
          refine Ends.via (fun _ k => XS.iloadN X0.here hx rfl (hb hby d2_48) rfl k) ?_
          show Ends p e below s ROOM2.cells ROOM2.slots (Q2 Z p0  h0 n0) (s₁.setTop (mkF m 49 #[.val (.int p0)] [(.int p0)]))
          refine Ends.via (X0.ldcInt hx hown (mvT hZ (hw _ (List.mem_of_getElem? (i := 3) rfl))) (g := (mkF m 49 #[.val (.int p0)] [(.int p0)])) rfl (hb hby d2_49)) ?_
          show Ends p e below s ROOM2.cells ROOM2.slots (Q2 Z p0  h0 n0) (s₁.setTop (mkF m 51 #[.val (.int p0)] [(.int (57343 : Int32)), (.int p0)]))
          by_cases hc50 : (57343 : Int32) < p0
          · refine Ends.via (fun _ k => XS.icmpYes X0.here hx rfl (pc0 := 51) (pc' := 56) rfl (hb hby d2_51) rfl (tlt hc50).2.2.1 (by decide) (by decide) k) ?_
            show Ends p e below s ROOM2.cells ROOM2.slots (Q2 Z p0  h0 n0) (s₁.setTop (mkF m 56 #[.val (.int p0)] []))
            refine Ends.via (fun _ k => XS.iloadN X0.here hx rfl (hb hby d2_56) rfl k) ?_
            show Ends p e below s ROOM2.cells ROOM2.slots (Q2 Z p0  h0 n0) (s₁.setTop (mkF m 57 #[.val (.int p0)] [(.int p0)]))
            refine Ends.via (X0.ldcInt hx hown (mvT hZ (hw _ (List.mem_of_getElem? (i := 6) rfl))) (g := (mkF m 57 #[.val (.int p0)] [(.int p0)])) rfl (hb hby d2_57)) ?_
            show Ends p e below s ROOM2.cells ROOM2.slots (Q2 Z p0  h0 n0) (s₁.setTop (mkF m 59 #[.val (.int p0)] [(.int (65534 : Int32)), (.int p0)]))
            by_cases hc51 : p0 = (65534 : Int32)
            · refine Ends.via (fun _ k => XS.icmpYes X0.here hx rfl (pc0 := 59) (pc' := 72) rfl (hb hby d2_59) rfl (teq hc51).1 (by decide) (by decide) k) ?_
              show Ends p e below s ROOM2.cells ROOM2.slots (Q2 Z p0  h0 n0) (s₁.setTop (mkF m 72 #[.val (.int p0)] []))
              refine Ends.via (fun _ k => XS.iconst X0.here hx rfl (hb hby d2_72) k) ?_
              show Ends p e below s ROOM2.cells ROOM2.slots (Q2 Z p0  h0 n0) (s₁.setTop (mkF m 73 #[.val (.int p0)] [(.int (0 : Int32))]))
              refine Ends.ret X0 (v := some (.int (nar .boolean (0 : Int32)))) (fun h => by rw [Bd.returns] at h; cases h) Bd.notSynchronized (fun fs hr => retN X0 hx (t := .boolean) Bd.returns (by simp) (hb hby d2_73) hr) ?_ (by decide) (by decide)
              have hfn : fn2 p0 = (0 : Int32) := by simp only [fn2, if_neg hc41, if_neg hc42, if_neg hc43, if_neg hc47, if_pos hc50, if_pos hc51]
              exact ⟨by rw [hfn]; rfl, N0, e0⟩
            · refine Ends.via (fun _ k => XS.icmpNo X0.here hx rfl (hb hby d2_59) rfl (feq hc51).1 k) ?_
              show Ends p e below s ROOM2.cells ROOM2.slots (Q2 Z p0  h0 n0) (s₁.setTop (mkF m 62 #[.val (.int p0)] []))
              refine Ends.via (fun _ k => XS.iloadN X0.here hx rfl (hb hby d2_62) rfl k) ?_
              show Ends p e below s ROOM2.cells ROOM2.slots (Q2 Z p0  h0 n0) (s₁.setTop (mkF m 63 #[.val (.int p0)] [(.int p0)]))
              refine Ends.via (X0.ldcInt hx hown (mvT hZ (hw _ (List.mem_of_getElem? (i := 22) rfl))) (g := (mkF m 63 #[.val (.int p0)] [(.int p0)])) rfl (hb hby d2_63)) ?_
              show Ends p e below s ROOM2.cells ROOM2.slots (Q2 Z p0  h0 n0) (s₁.setTop (mkF m 65 #[.val (.int p0)] [(.int (65535 : Int32)), (.int p0)]))
              by_cases hc52 : p0 = (65535 : Int32)
              · refine Ends.via (fun _ k => XS.icmpYes X0.here hx rfl (pc0 := 65) (pc' := 72) rfl (hb hby d2_65) rfl (teq hc52).1 (by decide) (by decide) k) ?_
                show Ends p e below s ROOM2.cells ROOM2.slots (Q2 Z p0  h0 n0) (s₁.setTop (mkF m 72 #[.val (.int p0)] []))
                refine Ends.via (fun _ k => XS.iconst X0.here hx rfl (hb hby d2_72) k) ?_
                show Ends p e below s ROOM2.cells ROOM2.slots (Q2 Z p0  h0 n0) (s₁.setTop (mkF m 73 #[.val (.int p0)] [(.int (0 : Int32))]))
                refine Ends.ret X0 (v := some (.int (nar .boolean (0 : Int32)))) (fun h => by rw [Bd.returns] at h; cases h) Bd.notSynchronized (fun fs hr => retN X0 hx (t := .boolean) Bd.returns (by simp) (hb hby d2_73) hr) ?_ (by decide) (by decide)
                have hfn : fn2 p0 = (0 : Int32) := by simp only [fn2, if_neg hc41, if_neg hc42, if_neg hc43, if_neg hc47, if_pos hc50, if_neg hc51, if_pos hc52]
                exact ⟨by rw [hfn]; rfl, N0, e0⟩
              · refine Ends.via (fun _ k => XS.icmpNo X0.here hx rfl (hb hby d2_65) rfl (feq hc52).1 k) ?_
                show Ends p e below s ROOM2.cells ROOM2.slots (Q2 Z p0  h0 n0) (s₁.setTop (mkF m 68 #[.val (.int p0)] []))
                refine Ends.via (fun _ k => XS.iconst X0.here hx rfl (hb hby d2_68) k) ?_
                show Ends p e below s ROOM2.cells ROOM2.slots (Q2 Z p0  h0 n0) (s₁.setTop (mkF m 69 #[.val (.int p0)] [(.int (1 : Int32))]))
                refine Ends.via (fun _ k => XS.goto X0.here hx rfl (pc0 := 69) (pc' := 73) rfl (hb hby d2_69) (by decide) (by decide) k) ?_
                show Ends p e below s ROOM2.cells ROOM2.slots (Q2 Z p0  h0 n0) (s₁.setTop (mkF m 73 #[.val (.int p0)] [(.int (1 : Int32))]))
                refine Ends.ret X0 (v := some (.int (nar .boolean (1 : Int32)))) (fun h => by rw [Bd.returns] at h; cases h) Bd.notSynchronized (fun fs hr => retN X0 hx (t := .boolean) Bd.returns (by simp) (hb hby d2_73) hr) ?_ (by decide) (by decide)
                have hfn : fn2 p0 = (1 : Int32) := by simp only [fn2, if_neg hc41, if_neg hc42, if_neg hc43, if_neg hc47, if_pos hc50, if_neg hc51, if_neg hc52]
                exact ⟨by rw [hfn]; rfl, N0, e0⟩
          · refine Ends.via (fun _ k => XS.icmpNo X0.here hx rfl (hb hby d2_51) rfl (flt hc50).2.2.1 k) ?_
            show Ends p e below s ROOM2.cells ROOM2.slots (Q2 Z p0  h0 n0) (s₁.setTop (mkF m 54 #[.val (.int p0)] []))
            refine Ends.via (fun _ k => XS.iconst X0.here hx rfl (hb hby d2_54) k) ?_
            show Ends p e below s ROOM2.cells ROOM2.slots (Q2 Z p0  h0 n0) (s₁.setTop (mkF m 55 #[.val (.int p0)] [(.int (0 : Int32))]))
            refine Ends.ret X0 (v := some (.int (nar .boolean (0 : Int32)))) (fun h => by rw [Bd.returns] at h; cases h) Bd.notSynchronized (fun fs hr => retN X0 hx (t := .boolean) Bd.returns (by simp) (hb hby d2_55) hr) ?_ (by decide) (by decide)
            have hfn : fn2 p0 = (0 : Int32) := by simp only [fn2, if_neg hc41, if_neg hc42, if_neg hc43, if_neg hc47, if_neg hc50]
            exact ⟨by rw [hfn]; rfl, N0, e0⟩
def own_P (x : Int) : Prop := (32 ≤ x ∧ x ≤ 55295) ∨ x = 9 ∨ x = 10 ∨ x = 13 ∨ (57344 ≤ x ∧ x ≤ 65533) ∨ (65536 ≤ x ∧ x ≤ 1114111)
theorem own_f1 (p : Int32) : (fn1 p = 1 ∧ own_P p.toInt) ∨ (fn1 p = 0 ∧ ¬ own_P p.toInt) := by
  have k1 : (32 : Int32).toInt = 32 := rfl
  have k2 : (55295 : Int32).toInt = 55295 := rfl
  have k3 : (9 : Int32).toInt = 9 := rfl
  have k4 : (10 : Int32).toInt = 10 := rfl
  have k5 : (13 : Int32).toInt = 13 := rfl
  have k6 : (57344 : Int32).toInt = 57344 := rfl
  have k7 : (65533 : Int32).toInt = 65533 := rfl
  have k8 : (65536 : Int32).toInt = 65536 := rfl
  have k9 : (1114111 : Int32).toInt = 1114111 := rfl
  simp only [fn1, own_P, Int32.lt_iff_toInt_lt, ← Int32.toInt_inj, k1, k2, k3, k4, k5, k6, k7, k8, k9]
  repeat' split
  all_goals first | (left; exact ⟨rfl, by omega⟩) | (right; exact ⟨rfl, by omega⟩)
theorem own_f2 (p : Int32) : (fn2 p = 1 ∧ own_P p.toInt) ∨ (fn2 p = 0 ∧ ¬ own_P p.toInt) := by
  have k0 : (0 : Int32).toInt = 0 := rfl
  have k1 : (32 : Int32).toInt = 32 := rfl
  have k2 : (55296 : Int32).toInt = 55296 := rfl
  have k3 : (9 : Int32).toInt = 9 := rfl
  have k4 : (10 : Int32).toInt = 10 := rfl
  have k5 : (13 : Int32).toInt = 13 := rfl
  have k6 : (57343 : Int32).toInt = 57343 := rfl
  have k7 : (65534 : Int32).toInt = 65534 := rfl
  have k8 : (65535 : Int32).toInt = 65535 := rfl
  have k9 : (1114111 : Int32).toInt = 1114111 := rfl
  simp only [fn2, own_P, Int32.lt_iff_toInt_lt, ← Int32.toInt_inj, k0, k1, k2, k3, k4, k5, k6, k7, k8, k9]
  repeat' split
  all_goals first | (left; exact ⟨rfl, by omega⟩) | (right; exact ⟨rfl, by omega⟩)
theorem own_eq (p : Int32) : fn1 p = fn2 p := by
  rcases own_f1 p with ⟨a, b⟩ | ⟨a, b⟩ <;> rcases own_f2 p with ⟨c, d⟩ | ⟨c, d⟩ <;> first | exact a.trans c.symm | exact absurd b d | exact absurd d b
theorem own_leaf1 (p0 : Int32) (p1 : Int32) (v19 : Int32) (hv19 : (((own_edge (p1 &&& (15 : Int32))) + (((p1.toUInt32 >>> ((4 : Int32) &&& 31).toUInt32).toInt32) &&& (3 : Int32))) - (1 : Int32)) = v19) (hc54 : (fn1 p0) = (fn2 p0)) (hc57 : ¬ ((fn1 v19) = (fn2 v19))) : False := by
    exact hc57 (own_eq _)
theorem own_leaf2 (p0 : Int32) (p1 : Int32) (v19 : Int32) (hv19 : (((own_edge (p1 &&& (15 : Int32))) + (((p1.toUInt32 >>> ((4 : Int32) &&& 31).toUInt32).toInt32) &&& (3 : Int32))) - (1 : Int32)) = v19) (hc54 : ¬ ((fn1 p0) = (fn2 p0))) : False := by
    exact hc54 (own_eq _)
theorem pn_0 : plainName "com/example/frugal_xpath/frugalxpath/XmlCharsIsCharPinLaw" = true := by first | (simp [plainName, overriddenIn]; done) | decide +kernel
theorem ef_0 (m : MethodId) (p0 : Int32) (p1 : Int32) : entryFrame m #[(.int p0), (.int p1)] maxLocals = mkF m 0 #[.val (.int p0), .val (.int p1), .unset, .unset] [] := by first | (simp [entryFrame, mkF, argsToLocals, Value.category, maxLocals]; done) | rfl
def Q0 (Z : State) (p0 : Int32) (p1 : Int32)  (h0 : Heap) (n0 : Nat) (v : Option Value) (h : Heap) (L : List Loc) : Prop := v = some (.int 1) ∧ Fr n0 L
set_option maxRecDepth 65536 in
set_option maxHeartbeats 40000000 in
theorem rm0 (l : Launch) (Z : State) (a0 : Array Value) (hw : ∀ d ∈ tables_1, d.before a0 Z = true) (ws : List Jvm.Cond) (p0 : Int32) (p1 : Int32)  (h0 : Heap) (n0 : Nat) (Z0 : n0 ≤ h0.size)  :
    MetFree l x (head1 (Jvm.Cond.code x code maxLocals ret :: ws) room_1) (fun a U => a = #[(.int p0), (.int p1)] ∧ Z.Warmed39 U.vm ∧ U.heap = h0) (fun _ _ _ _ _ => True) (fun _ U o U' => ∃ v L, o = .returned v ∧ Q0 Z p0 p1  h0 n0 v U'.heap L ∧ FrameEnd U o U' L 16 128) := by
  refine MetFree.of_bodySF (plainFor_of_name pn_0) hisR ?_
  intro p e s m args below meth c s₁ Bd hml0 hP hK
  obtain ⟨rfl, hZ, hh⟩ := hP
  have hx := Bd.exec
  have hby := Bd.bytes
  have hml : c.maxLocals = 4 := hml0
  have hown : s.vm.findClass "com/example/frugal_xpath/frugalxpath/XmlCharsIsCharPinLaw" = some m.cls := findClass_of_methodNamed Bd.named
  have hnm := (name_of_methodNamed Bd.named Bd.method).1
  have X0 : Stand p l e room_1 s m #[(.int p0), (.int p1)] below meth c s₁ [] 0 0 := Stand.of_body Bd
  have e0 : s₁.heap = h0 := by rw [← hh, Bd.state]; rfl
  have N0 := Fr.nil n0
  refine Ends.via (A := s₁.setTop (mkF m 0 #[.val (.int p0), .val (.int p1), .unset, .unset] [])) (kc := 16) (ks := 128) (Q := (Q0 Z p0 p1  h0 n0)) (fun t k => castTop (ef_0 m p0 p1) k) ?_
  show Ends p e below s 16 128 (Q0 Z p0 p1  h0 n0) (s₁.setTop (mkF m 0 #[.val (.int p0), .val (.int p1), .unset, .unset] []))
  refine Ends.via (fun _ k => XS.bipush X0.here hx rfl (hb hby at_0) k) ?_
  show Ends p e below s 16 128 (Q0 Z p0 p1  h0 n0) (s₁.setTop (mkF m 2 #[.val (.int p0), .val (.int p1), .unset, .unset] [(.int (16 : Int32))]))
  obtain ⟨T1, h1, k1, X1, e1, E1, A1, st1⟩ := newP X0 hx hZ (hw _ (List.mem_of_getElem? (i := 0) rfl)) e0 (g := (mkF m 2 #[.val (.int p0), .val (.int p1), .unset, .unset] [(.int (16 : Int32))])) rfl (hb hby at_2) rfl (by decide) (cap := 16) (by decide) (by decide) (by decide) (by decide)
  obtain ⟨b1, g1⟩ : ∃ z, z = h0.size := ⟨_, rfl⟩
  rw [← g1] at A1 st1
  have g_b1 : n0 ≤ b1 := Nat.le_trans Z0 (Nat.le_of_eq g1.symm)
  have Z1 : n0 ≤ h1.size := Nat.le_trans Z0 E1.1
  have V1 : Arv Z h1 b1 k1 .int (16 : Int32) [(.int (0 : Int32)), (.int (0 : Int32)), (.int (0 : Int32)), (.int (0 : Int32)), (.int (0 : Int32)), (.int (0 : Int32)), (.int (0 : Int32)), (.int (0 : Int32)), (.int (0 : Int32)), (.int (0 : Int32)), (.int (0 : Int32)), (.int (0 : Int32)), (.int (0 : Int32)), (.int (0 : Int32)), (.int (0 : Int32)), (.int (0 : Int32))] (.int (0 : Int32)) := (Arv.new A1 (by decide)).pad (pad_rep [] (.int (0 : Int32)) 16)
  refine Ends.via st1 ?_
  show Ends p e below s 16 128 (Q0 Z p0 p1  h0 n0) (T1.setTop (mkF m 4 #[.val (.int p0), .val (.int p1), .unset, .unset] [(.ref b1)]))
  refine Ends.via (fun _ k => XS.dup X1.here hx rfl (hb hby at_4) rfl rfl k) ?_
  show Ends p e below s 16 128 (Q0 Z p0 p1  h0 n0) (T1.setTop (mkF m 5 #[.val (.int p0), .val (.int p1), .unset, .unset] [(.ref b1), (.ref b1)]))
  refine Ends.via (fun _ k => XS.iconst X1.here hx rfl (hb hby at_5) k) ?_
  show Ends p e below s 16 128 (Q0 Z p0 p1  h0 n0) (T1.setTop (mkF m 6 #[.val (.int p0), .val (.int p1), .unset, .unset] [(.int (0 : Int32)), (.ref b1), (.ref b1)]))
  refine Ends.via (fun _ k => XS.iconst X1.here hx rfl (hb hby at_6) k) ?_
  show Ends p e below s 16 128 (Q0 Z p0 p1  h0 n0) (T1.setTop (mkF m 7 #[.val (.int p0), .val (.int p1), .unset, .unset] [(.int (0 : Int32)), (.int (0 : Int32)), (.ref b1), (.ref b1)]))
  obtain ⟨cl2, Ar2, q2, S2, Ng2, Hs2, Gf2⟩ := V1
  have hin2 : ¬ ((0 : Int32) < 0 ∨ cl2.slots.size ≤ ((0 : Int32)).toNatClampNeg) := inb_of S2 ⟨by decide, by decide⟩
  obtain ⟨T2, h2, X2, e2, W2, st2⟩ := stI X1 hx hZ e1 Ar2 (j := (0 : Int32)) hin2 (g := (mkF m 7 #[.val (.int p0), .val (.int p1), .unset, .unset] [(.int (0 : Int32)), (.int (0 : Int32)), (.ref b1), (.ref b1)])) rfl rfl (hb hby at_7)
  have V2 : Arv Z h2 b1 k1 .int (16 : Int32) [(.int (0 : Int32)), (.int (0 : Int32)), (.int (0 : Int32)), (.int (0 : Int32)), (.int (0 : Int32)), (.int (0 : Int32)), (.int (0 : Int32)), (.int (0 : Int32)), (.int (0 : Int32)), (.int (0 : Int32)), (.int (0 : Int32)), (.int (0 : Int32)), (.int (0 : Int32)), (.int (0 : Int32)), (.int (0 : Int32)), (.int (0 : Int32))] (.int (0 : Int32)) := Arv.set Ar2 q2 S2 Ng2 Hs2 Gf2 rfl W2 0 rfl (Nat.le_of_ble_eq_true rfl)
  have Z2 : n0 ≤ h2.size := Nat.le_trans Z1 (Keep.of_wr W2).1
  have N2 := Fr.snoc X2 N0 g_b1
  refine Ends.via st2 ?_
  show Ends p e below s 16 128 (Q0 Z p0 p1  h0 n0) (T2.setTop (mkF m 8 #[.val (.int p0), .val (.int p1), .unset, .unset] [(.ref b1)]))
  refine Ends.via (fun _ k => XS.dup X2.here hx rfl (hb hby at_8) rfl rfl k) ?_
  show Ends p e below s 16 128 (Q0 Z p0 p1  h0 n0) (T2.setTop (mkF m 9 #[.val (.int p0), .val (.int p1), .unset, .unset] [(.ref b1), (.ref b1)]))
  refine Ends.via (fun _ k => XS.iconst X2.here hx rfl (hb hby at_9) k) ?_
  show Ends p e below s 16 128 (Q0 Z p0 p1  h0 n0) (T2.setTop (mkF m 10 #[.val (.int p0), .val (.int p1), .unset, .unset] [(.int (1 : Int32)), (.ref b1), (.ref b1)]))
  refine Ends.via (fun _ k => XS.bipush X2.here hx rfl (hb hby at_10) k) ?_
  show Ends p e below s 16 128 (Q0 Z p0 p1  h0 n0) (T2.setTop (mkF m 12 #[.val (.int p0), .val (.int p1), .unset, .unset] [(.int (9 : Int32)), (.int (1 : Int32)), (.ref b1), (.ref b1)]))
  obtain ⟨cl3, Ar3, q3, S3, Ng3, Hs3, Gf3⟩ := V2
  have hin3 : ¬ ((1 : Int32) < 0 ∨ cl3.slots.size ≤ ((1 : Int32)).toNatClampNeg) := inb_of S3 ⟨by decide, by decide⟩
  obtain ⟨T3, h3, X3, e3, W3, st3⟩ := stI X2 hx hZ e2 Ar3 (j := (1 : Int32)) hin3 (g := (mkF m 12 #[.val (.int p0), .val (.int p1), .unset, .unset] [(.int (9 : Int32)), (.int (1 : Int32)), (.ref b1), (.ref b1)])) rfl rfl (hb hby at_12)
  have V3 : Arv Z h3 b1 k1 .int (16 : Int32) [(.int (0 : Int32)), (.int (9 : Int32)), (.int (0 : Int32)), (.int (0 : Int32)), (.int (0 : Int32)), (.int (0 : Int32)), (.int (0 : Int32)), (.int (0 : Int32)), (.int (0 : Int32)), (.int (0 : Int32)), (.int (0 : Int32)), (.int (0 : Int32)), (.int (0 : Int32)), (.int (0 : Int32)), (.int (0 : Int32)), (.int (0 : Int32))] (.int (0 : Int32)) := Arv.set Ar3 q3 S3 Ng3 Hs3 Gf3 rfl W3 1 rfl (Nat.le_of_ble_eq_true rfl)
  have Z3 : n0 ≤ h3.size := Nat.le_trans Z2 (Keep.of_wr W3).1
  have N3 := Fr.snoc X3 N2 g_b1
  refine Ends.via st3 ?_
  show Ends p e below s 16 128 (Q0 Z p0 p1  h0 n0) (T3.setTop (mkF m 13 #[.val (.int p0), .val (.int p1), .unset, .unset] [(.ref b1)]))
  refine Ends.via (fun _ k => XS.dup X3.here hx rfl (hb hby at_13) rfl rfl k) ?_
  show Ends p e below s 16 128 (Q0 Z p0 p1  h0 n0) (T3.setTop (mkF m 14 #[.val (.int p0), .val (.int p1), .unset, .unset] [(.ref b1), (.ref b1)]))
  refine Ends.via (fun _ k => XS.iconst X3.here hx rfl (hb hby at_14) k) ?_
  show Ends p e below s 16 128 (Q0 Z p0 p1  h0 n0) (T3.setTop (mkF m 15 #[.val (.int p0), .val (.int p1), .unset, .unset] [(.int (2 : Int32)), (.ref b1), (.ref b1)]))
  refine Ends.via (fun _ k => XS.bipush X3.here hx rfl (hb hby at_15) k) ?_
  show Ends p e below s 16 128 (Q0 Z p0 p1  h0 n0) (T3.setTop (mkF m 17 #[.val (.int p0), .val (.int p1), .unset, .unset] [(.int (10 : Int32)), (.int (2 : Int32)), (.ref b1), (.ref b1)]))
  obtain ⟨cl4, Ar4, q4, S4, Ng4, Hs4, Gf4⟩ := V3
  have hin4 : ¬ ((2 : Int32) < 0 ∨ cl4.slots.size ≤ ((2 : Int32)).toNatClampNeg) := inb_of S4 ⟨by decide, by decide⟩
  obtain ⟨T4, h4, X4, e4, W4, st4⟩ := stI X3 hx hZ e3 Ar4 (j := (2 : Int32)) hin4 (g := (mkF m 17 #[.val (.int p0), .val (.int p1), .unset, .unset] [(.int (10 : Int32)), (.int (2 : Int32)), (.ref b1), (.ref b1)])) rfl rfl (hb hby at_17)
  have V4 : Arv Z h4 b1 k1 .int (16 : Int32) [(.int (0 : Int32)), (.int (9 : Int32)), (.int (10 : Int32)), (.int (0 : Int32)), (.int (0 : Int32)), (.int (0 : Int32)), (.int (0 : Int32)), (.int (0 : Int32)), (.int (0 : Int32)), (.int (0 : Int32)), (.int (0 : Int32)), (.int (0 : Int32)), (.int (0 : Int32)), (.int (0 : Int32)), (.int (0 : Int32)), (.int (0 : Int32))] (.int (0 : Int32)) := Arv.set Ar4 q4 S4 Ng4 Hs4 Gf4 rfl W4 2 rfl (Nat.le_of_ble_eq_true rfl)
  have Z4 : n0 ≤ h4.size := Nat.le_trans Z3 (Keep.of_wr W4).1
  have N4 := Fr.snoc X4 N3 g_b1
  refine Ends.via st4 ?_
  show Ends p e below s 16 128 (Q0 Z p0 p1  h0 n0) (T4.setTop (mkF m 18 #[.val (.int p0), .val (.int p1), .unset, .unset] [(.ref b1)]))
  refine Ends.via (fun _ k => XS.dup X4.here hx rfl (hb hby at_18) rfl rfl k) ?_
  show Ends p e below s 16 128 (Q0 Z p0 p1  h0 n0) (T4.setTop (mkF m 19 #[.val (.int p0), .val (.int p1), .unset, .unset] [(.ref b1), (.ref b1)]))
  refine Ends.via (fun _ k => XS.iconst X4.here hx rfl (hb hby at_19) k) ?_
  show Ends p e below s 16 128 (Q0 Z p0 p1  h0 n0) (T4.setTop (mkF m 20 #[.val (.int p0), .val (.int p1), .unset, .unset] [(.int (3 : Int32)), (.ref b1), (.ref b1)]))
  refine Ends.via (fun _ k => XS.bipush X4.here hx rfl (hb hby at_20) k) ?_
  show Ends p e below s 16 128 (Q0 Z p0 p1  h0 n0) (T4.setTop (mkF m 22 #[.val (.int p0), .val (.int p1), .unset, .unset] [(.int (13 : Int32)), (.int (3 : Int32)), (.ref b1), (.ref b1)]))
  obtain ⟨cl5, Ar5, q5, S5, Ng5, Hs5, Gf5⟩ := V4
  have hin5 : ¬ ((3 : Int32) < 0 ∨ cl5.slots.size ≤ ((3 : Int32)).toNatClampNeg) := inb_of S5 ⟨by decide, by decide⟩
  obtain ⟨T5, h5, X5, e5, W5, st5⟩ := stI X4 hx hZ e4 Ar5 (j := (3 : Int32)) hin5 (g := (mkF m 22 #[.val (.int p0), .val (.int p1), .unset, .unset] [(.int (13 : Int32)), (.int (3 : Int32)), (.ref b1), (.ref b1)])) rfl rfl (hb hby at_22)
  have V5 : Arv Z h5 b1 k1 .int (16 : Int32) [(.int (0 : Int32)), (.int (9 : Int32)), (.int (10 : Int32)), (.int (13 : Int32)), (.int (0 : Int32)), (.int (0 : Int32)), (.int (0 : Int32)), (.int (0 : Int32)), (.int (0 : Int32)), (.int (0 : Int32)), (.int (0 : Int32)), (.int (0 : Int32)), (.int (0 : Int32)), (.int (0 : Int32)), (.int (0 : Int32)), (.int (0 : Int32))] (.int (0 : Int32)) := Arv.set Ar5 q5 S5 Ng5 Hs5 Gf5 rfl W5 3 rfl (Nat.le_of_ble_eq_true rfl)
  have Z5 : n0 ≤ h5.size := Nat.le_trans Z4 (Keep.of_wr W5).1
  have N5 := Fr.snoc X5 N4 g_b1
  refine Ends.via st5 ?_
  show Ends p e below s 16 128 (Q0 Z p0 p1  h0 n0) (T5.setTop (mkF m 23 #[.val (.int p0), .val (.int p1), .unset, .unset] [(.ref b1)]))
  refine Ends.via (fun _ k => XS.dup X5.here hx rfl (hb hby at_23) rfl rfl k) ?_
  show Ends p e below s 16 128 (Q0 Z p0 p1  h0 n0) (T5.setTop (mkF m 24 #[.val (.int p0), .val (.int p1), .unset, .unset] [(.ref b1), (.ref b1)]))
  refine Ends.via (fun _ k => XS.iconst X5.here hx rfl (hb hby at_24) k) ?_
  show Ends p e below s 16 128 (Q0 Z p0 p1  h0 n0) (T5.setTop (mkF m 25 #[.val (.int p0), .val (.int p1), .unset, .unset] [(.int (4 : Int32)), (.ref b1), (.ref b1)]))
  refine Ends.via (fun _ k => XS.bipush X5.here hx rfl (hb hby at_25) k) ?_
  show Ends p e below s 16 128 (Q0 Z p0 p1  h0 n0) (T5.setTop (mkF m 27 #[.val (.int p0), .val (.int p1), .unset, .unset] [(.int (31 : Int32)), (.int (4 : Int32)), (.ref b1), (.ref b1)]))
  obtain ⟨cl6, Ar6, q6, S6, Ng6, Hs6, Gf6⟩ := V5
  have hin6 : ¬ ((4 : Int32) < 0 ∨ cl6.slots.size ≤ ((4 : Int32)).toNatClampNeg) := inb_of S6 ⟨by decide, by decide⟩
  obtain ⟨T6, h6, X6, e6, W6, st6⟩ := stI X5 hx hZ e5 Ar6 (j := (4 : Int32)) hin6 (g := (mkF m 27 #[.val (.int p0), .val (.int p1), .unset, .unset] [(.int (31 : Int32)), (.int (4 : Int32)), (.ref b1), (.ref b1)])) rfl rfl (hb hby at_27)
  have V6 : Arv Z h6 b1 k1 .int (16 : Int32) [(.int (0 : Int32)), (.int (9 : Int32)), (.int (10 : Int32)), (.int (13 : Int32)), (.int (31 : Int32)), (.int (0 : Int32)), (.int (0 : Int32)), (.int (0 : Int32)), (.int (0 : Int32)), (.int (0 : Int32)), (.int (0 : Int32)), (.int (0 : Int32)), (.int (0 : Int32)), (.int (0 : Int32)), (.int (0 : Int32)), (.int (0 : Int32))] (.int (0 : Int32)) := Arv.set Ar6 q6 S6 Ng6 Hs6 Gf6 rfl W6 4 rfl (Nat.le_of_ble_eq_true rfl)
  have Z6 : n0 ≤ h6.size := Nat.le_trans Z5 (Keep.of_wr W6).1
  have N6 := Fr.snoc X6 N5 g_b1
  refine Ends.via st6 ?_
  show Ends p e below s 16 128 (Q0 Z p0 p1  h0 n0) (T6.setTop (mkF m 28 #[.val (.int p0), .val (.int p1), .unset, .unset] [(.ref b1)]))
  refine Ends.via (fun _ k => XS.dup X6.here hx rfl (hb hby at_28) rfl rfl k) ?_
  show Ends p e below s 16 128 (Q0 Z p0 p1  h0 n0) (T6.setTop (mkF m 29 #[.val (.int p0), .val (.int p1), .unset, .unset] [(.ref b1), (.ref b1)]))
  refine Ends.via (fun _ k => XS.iconst X6.here hx rfl (hb hby at_29) k) ?_
  show Ends p e below s 16 128 (Q0 Z p0 p1  h0 n0) (T6.setTop (mkF m 30 #[.val (.int p0), .val (.int p1), .unset, .unset] [(.int (5 : Int32)), (.ref b1), (.ref b1)]))
  refine Ends.via (fun _ k => XS.bipush X6.here hx rfl (hb hby at_30) k) ?_
  show Ends p e below s 16 128 (Q0 Z p0 p1  h0 n0) (T6.setTop (mkF m 32 #[.val (.int p0), .val (.int p1), .unset, .unset] [(.int (32 : Int32)), (.int (5 : Int32)), (.ref b1), (.ref b1)]))
  obtain ⟨cl7, Ar7, q7, S7, Ng7, Hs7, Gf7⟩ := V6
  have hin7 : ¬ ((5 : Int32) < 0 ∨ cl7.slots.size ≤ ((5 : Int32)).toNatClampNeg) := inb_of S7 ⟨by decide, by decide⟩
  obtain ⟨T7, h7, X7, e7, W7, st7⟩ := stI X6 hx hZ e6 Ar7 (j := (5 : Int32)) hin7 (g := (mkF m 32 #[.val (.int p0), .val (.int p1), .unset, .unset] [(.int (32 : Int32)), (.int (5 : Int32)), (.ref b1), (.ref b1)])) rfl rfl (hb hby at_32)
  have V7 : Arv Z h7 b1 k1 .int (16 : Int32) [(.int (0 : Int32)), (.int (9 : Int32)), (.int (10 : Int32)), (.int (13 : Int32)), (.int (31 : Int32)), (.int (32 : Int32)), (.int (0 : Int32)), (.int (0 : Int32)), (.int (0 : Int32)), (.int (0 : Int32)), (.int (0 : Int32)), (.int (0 : Int32)), (.int (0 : Int32)), (.int (0 : Int32)), (.int (0 : Int32)), (.int (0 : Int32))] (.int (0 : Int32)) := Arv.set Ar7 q7 S7 Ng7 Hs7 Gf7 rfl W7 5 rfl (Nat.le_of_ble_eq_true rfl)
  have Z7 : n0 ≤ h7.size := Nat.le_trans Z6 (Keep.of_wr W7).1
  have N7 := Fr.snoc X7 N6 g_b1
  refine Ends.via st7 ?_
  show Ends p e below s 16 128 (Q0 Z p0 p1  h0 n0) (T7.setTop (mkF m 33 #[.val (.int p0), .val (.int p1), .unset, .unset] [(.ref b1)]))
  refine Ends.via (fun _ k => XS.dup X7.here hx rfl (hb hby at_33) rfl rfl k) ?_
  show Ends p e below s 16 128 (Q0 Z p0 p1  h0 n0) (T7.setTop (mkF m 34 #[.val (.int p0), .val (.int p1), .unset, .unset] [(.ref b1), (.ref b1)]))
  refine Ends.via (fun _ k => XS.bipush X7.here hx rfl (hb hby at_34) k) ?_
  show Ends p e below s 16 128 (Q0 Z p0 p1  h0 n0) (T7.setTop (mkF m 36 #[.val (.int p0), .val (.int p1), .unset, .unset] [(.int (6 : Int32)), (.ref b1), (.ref b1)]))
  refine Ends.via (X7.ldcInt hx hown (mvT hZ (hw _ (List.mem_of_getElem? (i := 1) rfl))) (g := (mkF m 36 #[.val (.int p0), .val (.int p1), .unset, .unset] [(.int (6 : Int32)), (.ref b1), (.ref b1)])) rfl (hb hby at_36)) ?_
  show Ends p e below s 16 128 (Q0 Z p0 p1  h0 n0) (T7.setTop (mkF m 38 #[.val (.int p0), .val (.int p1), .unset, .unset] [(.int (55295 : Int32)), (.int (6 : Int32)), (.ref b1), (.ref b1)]))
  obtain ⟨cl8, Ar8, q8, S8, Ng8, Hs8, Gf8⟩ := V7
  have hin8 : ¬ ((6 : Int32) < 0 ∨ cl8.slots.size ≤ ((6 : Int32)).toNatClampNeg) := inb_of S8 ⟨by decide, by decide⟩
  obtain ⟨T8, h8, X8, e8, W8, st8⟩ := stI X7 hx hZ e7 Ar8 (j := (6 : Int32)) hin8 (g := (mkF m 38 #[.val (.int p0), .val (.int p1), .unset, .unset] [(.int (55295 : Int32)), (.int (6 : Int32)), (.ref b1), (.ref b1)])) rfl rfl (hb hby at_38)
  have V8 : Arv Z h8 b1 k1 .int (16 : Int32) [(.int (0 : Int32)), (.int (9 : Int32)), (.int (10 : Int32)), (.int (13 : Int32)), (.int (31 : Int32)), (.int (32 : Int32)), (.int (55295 : Int32)), (.int (0 : Int32)), (.int (0 : Int32)), (.int (0 : Int32)), (.int (0 : Int32)), (.int (0 : Int32)), (.int (0 : Int32)), (.int (0 : Int32)), (.int (0 : Int32)), (.int (0 : Int32))] (.int (0 : Int32)) := Arv.set Ar8 q8 S8 Ng8 Hs8 Gf8 rfl W8 6 rfl (Nat.le_of_ble_eq_true rfl)
  have Z8 : n0 ≤ h8.size := Nat.le_trans Z7 (Keep.of_wr W8).1
  have N8 := Fr.snoc X8 N7 g_b1
  refine Ends.via st8 ?_
  show Ends p e below s 16 128 (Q0 Z p0 p1  h0 n0) (T8.setTop (mkF m 39 #[.val (.int p0), .val (.int p1), .unset, .unset] [(.ref b1)]))
  refine Ends.via (fun _ k => XS.dup X8.here hx rfl (hb hby at_39) rfl rfl k) ?_
  show Ends p e below s 16 128 (Q0 Z p0 p1  h0 n0) (T8.setTop (mkF m 40 #[.val (.int p0), .val (.int p1), .unset, .unset] [(.ref b1), (.ref b1)]))
  refine Ends.via (fun _ k => XS.bipush X8.here hx rfl (hb hby at_40) k) ?_
  show Ends p e below s 16 128 (Q0 Z p0 p1  h0 n0) (T8.setTop (mkF m 42 #[.val (.int p0), .val (.int p1), .unset, .unset] [(.int (7 : Int32)), (.ref b1), (.ref b1)]))
  refine Ends.via (X8.ldcInt hx hown (mvT hZ (hw _ (List.mem_of_getElem? (i := 2) rfl))) (g := (mkF m 42 #[.val (.int p0), .val (.int p1), .unset, .unset] [(.int (7 : Int32)), (.ref b1), (.ref b1)])) rfl (hb hby at_42)) ?_
  show Ends p e below s 16 128 (Q0 Z p0 p1  h0 n0) (T8.setTop (mkF m 44 #[.val (.int p0), .val (.int p1), .unset, .unset] [(.int (55296 : Int32)), (.int (7 : Int32)), (.ref b1), (.ref b1)]))
  obtain ⟨cl9, Ar9, q9, S9, Ng9, Hs9, Gf9⟩ := V8
  have hin9 : ¬ ((7 : Int32) < 0 ∨ cl9.slots.size ≤ ((7 : Int32)).toNatClampNeg) := inb_of S9 ⟨by decide, by decide⟩
  obtain ⟨T9, h9, X9, e9, W9, st9⟩ := stI X8 hx hZ e8 Ar9 (j := (7 : Int32)) hin9 (g := (mkF m 44 #[.val (.int p0), .val (.int p1), .unset, .unset] [(.int (55296 : Int32)), (.int (7 : Int32)), (.ref b1), (.ref b1)])) rfl rfl (hb hby at_44)
  have V9 : Arv Z h9 b1 k1 .int (16 : Int32) [(.int (0 : Int32)), (.int (9 : Int32)), (.int (10 : Int32)), (.int (13 : Int32)), (.int (31 : Int32)), (.int (32 : Int32)), (.int (55295 : Int32)), (.int (55296 : Int32)), (.int (0 : Int32)), (.int (0 : Int32)), (.int (0 : Int32)), (.int (0 : Int32)), (.int (0 : Int32)), (.int (0 : Int32)), (.int (0 : Int32)), (.int (0 : Int32))] (.int (0 : Int32)) := Arv.set Ar9 q9 S9 Ng9 Hs9 Gf9 rfl W9 7 rfl (Nat.le_of_ble_eq_true rfl)
  have Z9 : n0 ≤ h9.size := Nat.le_trans Z8 (Keep.of_wr W9).1
  have N9 := Fr.snoc X9 N8 g_b1
  refine Ends.via st9 ?_
  show Ends p e below s 16 128 (Q0 Z p0 p1  h0 n0) (T9.setTop (mkF m 45 #[.val (.int p0), .val (.int p1), .unset, .unset] [(.ref b1)]))
  refine Ends.via (fun _ k => XS.dup X9.here hx rfl (hb hby at_45) rfl rfl k) ?_
  show Ends p e below s 16 128 (Q0 Z p0 p1  h0 n0) (T9.setTop (mkF m 46 #[.val (.int p0), .val (.int p1), .unset, .unset] [(.ref b1), (.ref b1)]))
  refine Ends.via (fun _ k => XS.bipush X9.here hx rfl (hb hby at_46) k) ?_
  show Ends p e below s 16 128 (Q0 Z p0 p1  h0 n0) (T9.setTop (mkF m 48 #[.val (.int p0), .val (.int p1), .unset, .unset] [(.int (8 : Int32)), (.ref b1), (.ref b1)]))
  refine Ends.via (X9.ldcInt hx hown (mvT hZ (hw _ (List.mem_of_getElem? (i := 3) rfl))) (g := (mkF m 48 #[.val (.int p0), .val (.int p1), .unset, .unset] [(.int (8 : Int32)), (.ref b1), (.ref b1)])) rfl (hb hby at_48)) ?_
  show Ends p e below s 16 128 (Q0 Z p0 p1  h0 n0) (T9.setTop (mkF m 50 #[.val (.int p0), .val (.int p1), .unset, .unset] [(.int (57343 : Int32)), (.int (8 : Int32)), (.ref b1), (.ref b1)]))
  obtain ⟨cl10, Ar10, q10, S10, Ng10, Hs10, Gf10⟩ := V9
  have hin10 : ¬ ((8 : Int32) < 0 ∨ cl10.slots.size ≤ ((8 : Int32)).toNatClampNeg) := inb_of S10 ⟨by decide, by decide⟩
  obtain ⟨T10, h10, X10, e10, W10, st10⟩ := stI X9 hx hZ e9 Ar10 (j := (8 : Int32)) hin10 (g := (mkF m 50 #[.val (.int p0), .val (.int p1), .unset, .unset] [(.int (57343 : Int32)), (.int (8 : Int32)), (.ref b1), (.ref b1)])) rfl rfl (hb hby at_50)
  have V10 : Arv Z h10 b1 k1 .int (16 : Int32) [(.int (0 : Int32)), (.int (9 : Int32)), (.int (10 : Int32)), (.int (13 : Int32)), (.int (31 : Int32)), (.int (32 : Int32)), (.int (55295 : Int32)), (.int (55296 : Int32)), (.int (57343 : Int32)), (.int (0 : Int32)), (.int (0 : Int32)), (.int (0 : Int32)), (.int (0 : Int32)), (.int (0 : Int32)), (.int (0 : Int32)), (.int (0 : Int32))] (.int (0 : Int32)) := Arv.set Ar10 q10 S10 Ng10 Hs10 Gf10 rfl W10 8 rfl (Nat.le_of_ble_eq_true rfl)
  have Z10 : n0 ≤ h10.size := Nat.le_trans Z9 (Keep.of_wr W10).1
  have N10 := Fr.snoc X10 N9 g_b1
  refine Ends.via st10 ?_
  show Ends p e below s 16 128 (Q0 Z p0 p1  h0 n0) (T10.setTop (mkF m 51 #[.val (.int p0), .val (.int p1), .unset, .unset] [(.ref b1)]))
  refine Ends.via (fun _ k => XS.dup X10.here hx rfl (hb hby at_51) rfl rfl k) ?_
  show Ends p e below s 16 128 (Q0 Z p0 p1  h0 n0) (T10.setTop (mkF m 52 #[.val (.int p0), .val (.int p1), .unset, .unset] [(.ref b1), (.ref b1)]))
  refine Ends.via (fun _ k => XS.bipush X10.here hx rfl (hb hby at_52) k) ?_
  show Ends p e below s 16 128 (Q0 Z p0 p1  h0 n0) (T10.setTop (mkF m 54 #[.val (.int p0), .val (.int p1), .unset, .unset] [(.int (9 : Int32)), (.ref b1), (.ref b1)]))
  refine Ends.via (X10.ldcInt hx hown (mvT hZ (hw _ (List.mem_of_getElem? (i := 4) rfl))) (g := (mkF m 54 #[.val (.int p0), .val (.int p1), .unset, .unset] [(.int (9 : Int32)), (.ref b1), (.ref b1)])) rfl (hb hby at_54)) ?_
  show Ends p e below s 16 128 (Q0 Z p0 p1  h0 n0) (T10.setTop (mkF m 56 #[.val (.int p0), .val (.int p1), .unset, .unset] [(.int (57344 : Int32)), (.int (9 : Int32)), (.ref b1), (.ref b1)]))
  obtain ⟨cl11, Ar11, q11, S11, Ng11, Hs11, Gf11⟩ := V10
  have hin11 : ¬ ((9 : Int32) < 0 ∨ cl11.slots.size ≤ ((9 : Int32)).toNatClampNeg) := inb_of S11 ⟨by decide, by decide⟩
  obtain ⟨T11, h11, X11, e11, W11, st11⟩ := stI X10 hx hZ e10 Ar11 (j := (9 : Int32)) hin11 (g := (mkF m 56 #[.val (.int p0), .val (.int p1), .unset, .unset] [(.int (57344 : Int32)), (.int (9 : Int32)), (.ref b1), (.ref b1)])) rfl rfl (hb hby at_56)
  have V11 : Arv Z h11 b1 k1 .int (16 : Int32) [(.int (0 : Int32)), (.int (9 : Int32)), (.int (10 : Int32)), (.int (13 : Int32)), (.int (31 : Int32)), (.int (32 : Int32)), (.int (55295 : Int32)), (.int (55296 : Int32)), (.int (57343 : Int32)), (.int (57344 : Int32)), (.int (0 : Int32)), (.int (0 : Int32)), (.int (0 : Int32)), (.int (0 : Int32)), (.int (0 : Int32)), (.int (0 : Int32))] (.int (0 : Int32)) := Arv.set Ar11 q11 S11 Ng11 Hs11 Gf11 rfl W11 9 rfl (Nat.le_of_ble_eq_true rfl)
  have Z11 : n0 ≤ h11.size := Nat.le_trans Z10 (Keep.of_wr W11).1
  have N11 := Fr.snoc X11 N10 g_b1
  refine Ends.via st11 ?_
  show Ends p e below s 16 128 (Q0 Z p0 p1  h0 n0) (T11.setTop (mkF m 57 #[.val (.int p0), .val (.int p1), .unset, .unset] [(.ref b1)]))
  refine Ends.via (fun _ k => XS.dup X11.here hx rfl (hb hby at_57) rfl rfl k) ?_
  show Ends p e below s 16 128 (Q0 Z p0 p1  h0 n0) (T11.setTop (mkF m 58 #[.val (.int p0), .val (.int p1), .unset, .unset] [(.ref b1), (.ref b1)]))
  refine Ends.via (fun _ k => XS.bipush X11.here hx rfl (hb hby at_58) k) ?_
  show Ends p e below s 16 128 (Q0 Z p0 p1  h0 n0) (T11.setTop (mkF m 60 #[.val (.int p0), .val (.int p1), .unset, .unset] [(.int (10 : Int32)), (.ref b1), (.ref b1)]))
  refine Ends.via (X11.ldcInt hx hown (mvT hZ (hw _ (List.mem_of_getElem? (i := 5) rfl))) (g := (mkF m 60 #[.val (.int p0), .val (.int p1), .unset, .unset] [(.int (10 : Int32)), (.ref b1), (.ref b1)])) rfl (hb hby at_60)) ?_
  show Ends p e below s 16 128 (Q0 Z p0 p1  h0 n0) (T11.setTop (mkF m 62 #[.val (.int p0), .val (.int p1), .unset, .unset] [(.int (65533 : Int32)), (.int (10 : Int32)), (.ref b1), (.ref b1)]))
  obtain ⟨cl12, Ar12, q12, S12, Ng12, Hs12, Gf12⟩ := V11
  have hin12 : ¬ ((10 : Int32) < 0 ∨ cl12.slots.size ≤ ((10 : Int32)).toNatClampNeg) := inb_of S12 ⟨by decide, by decide⟩
  obtain ⟨T12, h12, X12, e12, W12, st12⟩ := stI X11 hx hZ e11 Ar12 (j := (10 : Int32)) hin12 (g := (mkF m 62 #[.val (.int p0), .val (.int p1), .unset, .unset] [(.int (65533 : Int32)), (.int (10 : Int32)), (.ref b1), (.ref b1)])) rfl rfl (hb hby at_62)
  have V12 : Arv Z h12 b1 k1 .int (16 : Int32) [(.int (0 : Int32)), (.int (9 : Int32)), (.int (10 : Int32)), (.int (13 : Int32)), (.int (31 : Int32)), (.int (32 : Int32)), (.int (55295 : Int32)), (.int (55296 : Int32)), (.int (57343 : Int32)), (.int (57344 : Int32)), (.int (65533 : Int32)), (.int (0 : Int32)), (.int (0 : Int32)), (.int (0 : Int32)), (.int (0 : Int32)), (.int (0 : Int32))] (.int (0 : Int32)) := Arv.set Ar12 q12 S12 Ng12 Hs12 Gf12 rfl W12 10 rfl (Nat.le_of_ble_eq_true rfl)
  have Z12 : n0 ≤ h12.size := Nat.le_trans Z11 (Keep.of_wr W12).1
  have N12 := Fr.snoc X12 N11 g_b1
  refine Ends.via st12 ?_
  show Ends p e below s 16 128 (Q0 Z p0 p1  h0 n0) (T12.setTop (mkF m 63 #[.val (.int p0), .val (.int p1), .unset, .unset] [(.ref b1)]))
  refine Ends.via (fun _ k => XS.dup X12.here hx rfl (hb hby at_63) rfl rfl k) ?_
  show Ends p e below s 16 128 (Q0 Z p0 p1  h0 n0) (T12.setTop (mkF m 64 #[.val (.int p0), .val (.int p1), .unset, .unset] [(.ref b1), (.ref b1)]))
  refine Ends.via (fun _ k => XS.bipush X12.here hx rfl (hb hby at_64) k) ?_
  show Ends p e below s 16 128 (Q0 Z p0 p1  h0 n0) (T12.setTop (mkF m 66 #[.val (.int p0), .val (.int p1), .unset, .unset] [(.int (11 : Int32)), (.ref b1), (.ref b1)]))
  refine Ends.via (X12.ldcInt hx hown (mvT hZ (hw _ (List.mem_of_getElem? (i := 6) rfl))) (g := (mkF m 66 #[.val (.int p0), .val (.int p1), .unset, .unset] [(.int (11 : Int32)), (.ref b1), (.ref b1)])) rfl (hb hby at_66)) ?_
  show Ends p e below s 16 128 (Q0 Z p0 p1  h0 n0) (T12.setTop (mkF m 68 #[.val (.int p0), .val (.int p1), .unset, .unset] [(.int (65534 : Int32)), (.int (11 : Int32)), (.ref b1), (.ref b1)]))
  obtain ⟨cl13, Ar13, q13, S13, Ng13, Hs13, Gf13⟩ := V12
  have hin13 : ¬ ((11 : Int32) < 0 ∨ cl13.slots.size ≤ ((11 : Int32)).toNatClampNeg) := inb_of S13 ⟨by decide, by decide⟩
  obtain ⟨T13, h13, X13, e13, W13, st13⟩ := stI X12 hx hZ e12 Ar13 (j := (11 : Int32)) hin13 (g := (mkF m 68 #[.val (.int p0), .val (.int p1), .unset, .unset] [(.int (65534 : Int32)), (.int (11 : Int32)), (.ref b1), (.ref b1)])) rfl rfl (hb hby at_68)
  have V13 : Arv Z h13 b1 k1 .int (16 : Int32) [(.int (0 : Int32)), (.int (9 : Int32)), (.int (10 : Int32)), (.int (13 : Int32)), (.int (31 : Int32)), (.int (32 : Int32)), (.int (55295 : Int32)), (.int (55296 : Int32)), (.int (57343 : Int32)), (.int (57344 : Int32)), (.int (65533 : Int32)), (.int (65534 : Int32)), (.int (0 : Int32)), (.int (0 : Int32)), (.int (0 : Int32)), (.int (0 : Int32))] (.int (0 : Int32)) := Arv.set Ar13 q13 S13 Ng13 Hs13 Gf13 rfl W13 11 rfl (Nat.le_of_ble_eq_true rfl)
  have Z13 : n0 ≤ h13.size := Nat.le_trans Z12 (Keep.of_wr W13).1
  have N13 := Fr.snoc X13 N12 g_b1
  refine Ends.via st13 ?_
  show Ends p e below s 16 128 (Q0 Z p0 p1  h0 n0) (T13.setTop (mkF m 69 #[.val (.int p0), .val (.int p1), .unset, .unset] [(.ref b1)]))
  refine Ends.via (fun _ k => XS.dup X13.here hx rfl (hb hby at_69) rfl rfl k) ?_
  show Ends p e below s 16 128 (Q0 Z p0 p1  h0 n0) (T13.setTop (mkF m 70 #[.val (.int p0), .val (.int p1), .unset, .unset] [(.ref b1), (.ref b1)]))
  refine Ends.via (fun _ k => XS.bipush X13.here hx rfl (hb hby at_70) k) ?_
  show Ends p e below s 16 128 (Q0 Z p0 p1  h0 n0) (T13.setTop (mkF m 72 #[.val (.int p0), .val (.int p1), .unset, .unset] [(.int (12 : Int32)), (.ref b1), (.ref b1)]))
  refine Ends.via (X13.ldcInt hx hown (mvT hZ (hw _ (List.mem_of_getElem? (i := 7) rfl))) (g := (mkF m 72 #[.val (.int p0), .val (.int p1), .unset, .unset] [(.int (12 : Int32)), (.ref b1), (.ref b1)])) rfl (hb hby at_72)) ?_
  show Ends p e below s 16 128 (Q0 Z p0 p1  h0 n0) (T13.setTop (mkF m 74 #[.val (.int p0), .val (.int p1), .unset, .unset] [(.int (65536 : Int32)), (.int (12 : Int32)), (.ref b1), (.ref b1)]))
  obtain ⟨cl14, Ar14, q14, S14, Ng14, Hs14, Gf14⟩ := V13
  have hin14 : ¬ ((12 : Int32) < 0 ∨ cl14.slots.size ≤ ((12 : Int32)).toNatClampNeg) := inb_of S14 ⟨by decide, by decide⟩
  obtain ⟨T14, h14, X14, e14, W14, st14⟩ := stI X13 hx hZ e13 Ar14 (j := (12 : Int32)) hin14 (g := (mkF m 74 #[.val (.int p0), .val (.int p1), .unset, .unset] [(.int (65536 : Int32)), (.int (12 : Int32)), (.ref b1), (.ref b1)])) rfl rfl (hb hby at_74)
  have V14 : Arv Z h14 b1 k1 .int (16 : Int32) [(.int (0 : Int32)), (.int (9 : Int32)), (.int (10 : Int32)), (.int (13 : Int32)), (.int (31 : Int32)), (.int (32 : Int32)), (.int (55295 : Int32)), (.int (55296 : Int32)), (.int (57343 : Int32)), (.int (57344 : Int32)), (.int (65533 : Int32)), (.int (65534 : Int32)), (.int (65536 : Int32)), (.int (0 : Int32)), (.int (0 : Int32)), (.int (0 : Int32))] (.int (0 : Int32)) := Arv.set Ar14 q14 S14 Ng14 Hs14 Gf14 rfl W14 12 rfl (Nat.le_of_ble_eq_true rfl)
  have Z14 : n0 ≤ h14.size := Nat.le_trans Z13 (Keep.of_wr W14).1
  have N14 := Fr.snoc X14 N13 g_b1
  refine Ends.via st14 ?_
  show Ends p e below s 16 128 (Q0 Z p0 p1  h0 n0) (T14.setTop (mkF m 75 #[.val (.int p0), .val (.int p1), .unset, .unset] [(.ref b1)]))
  refine Ends.via (fun _ k => XS.dup X14.here hx rfl (hb hby at_75) rfl rfl k) ?_
  show Ends p e below s 16 128 (Q0 Z p0 p1  h0 n0) (T14.setTop (mkF m 76 #[.val (.int p0), .val (.int p1), .unset, .unset] [(.ref b1), (.ref b1)]))
  refine Ends.via (fun _ k => XS.bipush X14.here hx rfl (hb hby at_76) k) ?_
  show Ends p e below s 16 128 (Q0 Z p0 p1  h0 n0) (T14.setTop (mkF m 78 #[.val (.int p0), .val (.int p1), .unset, .unset] [(.int (13 : Int32)), (.ref b1), (.ref b1)]))
  refine Ends.via (X14.ldcInt hx hown (mvT hZ (hw _ (List.mem_of_getElem? (i := 8) rfl))) (g := (mkF m 78 #[.val (.int p0), .val (.int p1), .unset, .unset] [(.int (13 : Int32)), (.ref b1), (.ref b1)])) rfl (hb hby at_78)) ?_
  show Ends p e below s 16 128 (Q0 Z p0 p1  h0 n0) (T14.setTop (mkF m 80 #[.val (.int p0), .val (.int p1), .unset, .unset] [(.int (1114111 : Int32)), (.int (13 : Int32)), (.ref b1), (.ref b1)]))
  obtain ⟨cl15, Ar15, q15, S15, Ng15, Hs15, Gf15⟩ := V14
  have hin15 : ¬ ((13 : Int32) < 0 ∨ cl15.slots.size ≤ ((13 : Int32)).toNatClampNeg) := inb_of S15 ⟨by decide, by decide⟩
  obtain ⟨T15, h15, X15, e15, W15, st15⟩ := stI X14 hx hZ e14 Ar15 (j := (13 : Int32)) hin15 (g := (mkF m 80 #[.val (.int p0), .val (.int p1), .unset, .unset] [(.int (1114111 : Int32)), (.int (13 : Int32)), (.ref b1), (.ref b1)])) rfl rfl (hb hby at_80)
  have V15 : Arv Z h15 b1 k1 .int (16 : Int32) [(.int (0 : Int32)), (.int (9 : Int32)), (.int (10 : Int32)), (.int (13 : Int32)), (.int (31 : Int32)), (.int (32 : Int32)), (.int (55295 : Int32)), (.int (55296 : Int32)), (.int (57343 : Int32)), (.int (57344 : Int32)), (.int (65533 : Int32)), (.int (65534 : Int32)), (.int (65536 : Int32)), (.int (1114111 : Int32)), (.int (0 : Int32)), (.int (0 : Int32))] (.int (0 : Int32)) := Arv.set Ar15 q15 S15 Ng15 Hs15 Gf15 rfl W15 13 rfl (Nat.le_of_ble_eq_true rfl)
  have Z15 : n0 ≤ h15.size := Nat.le_trans Z14 (Keep.of_wr W15).1
  have N15 := Fr.snoc X15 N14 g_b1
  refine Ends.via st15 ?_
  show Ends p e below s 16 128 (Q0 Z p0 p1  h0 n0) (T15.setTop (mkF m 81 #[.val (.int p0), .val (.int p1), .unset, .unset] [(.ref b1)]))
  refine Ends.via (fun _ k => XS.dup X15.here hx rfl (hb hby at_81) rfl rfl k) ?_
  show Ends p e below s 16 128 (Q0 Z p0 p1  h0 n0) (T15.setTop (mkF m 82 #[.val (.int p0), .val (.int p1), .unset, .unset] [(.ref b1), (.ref b1)]))
  refine Ends.via (fun _ k => XS.bipush X15.here hx rfl (hb hby at_82) k) ?_
  show Ends p e below s 16 128 (Q0 Z p0 p1  h0 n0) (T15.setTop (mkF m 84 #[.val (.int p0), .val (.int p1), .unset, .unset] [(.int (14 : Int32)), (.ref b1), (.ref b1)]))
  refine Ends.via (X15.ldcInt hx hown (mvT hZ (hw _ (List.mem_of_getElem? (i := 9) rfl))) (g := (mkF m 84 #[.val (.int p0), .val (.int p1), .unset, .unset] [(.int (14 : Int32)), (.ref b1), (.ref b1)])) rfl (hb hby at_84)) ?_
  show Ends p e below s 16 128 (Q0 Z p0 p1  h0 n0) (T15.setTop (mkF m 86 #[.val (.int p0), .val (.int p1), .unset, .unset] [(.int (-2147483648 : Int32)), (.int (14 : Int32)), (.ref b1), (.ref b1)]))
  obtain ⟨cl16, Ar16, q16, S16, Ng16, Hs16, Gf16⟩ := V15
  have hin16 : ¬ ((14 : Int32) < 0 ∨ cl16.slots.size ≤ ((14 : Int32)).toNatClampNeg) := inb_of S16 ⟨by decide, by decide⟩
  obtain ⟨T16, h16, X16, e16, W16, st16⟩ := stI X15 hx hZ e15 Ar16 (j := (14 : Int32)) hin16 (g := (mkF m 86 #[.val (.int p0), .val (.int p1), .unset, .unset] [(.int (-2147483648 : Int32)), (.int (14 : Int32)), (.ref b1), (.ref b1)])) rfl rfl (hb hby at_86)
  have V16 : Arv Z h16 b1 k1 .int (16 : Int32) [(.int (0 : Int32)), (.int (9 : Int32)), (.int (10 : Int32)), (.int (13 : Int32)), (.int (31 : Int32)), (.int (32 : Int32)), (.int (55295 : Int32)), (.int (55296 : Int32)), (.int (57343 : Int32)), (.int (57344 : Int32)), (.int (65533 : Int32)), (.int (65534 : Int32)), (.int (65536 : Int32)), (.int (1114111 : Int32)), (.int (-2147483648 : Int32)), (.int (0 : Int32))] (.int (0 : Int32)) := Arv.set Ar16 q16 S16 Ng16 Hs16 Gf16 rfl W16 14 rfl (Nat.le_of_ble_eq_true rfl)
  have Z16 : n0 ≤ h16.size := Nat.le_trans Z15 (Keep.of_wr W16).1
  have N16 := Fr.snoc X16 N15 g_b1
  refine Ends.via st16 ?_
  show Ends p e below s 16 128 (Q0 Z p0 p1  h0 n0) (T16.setTop (mkF m 87 #[.val (.int p0), .val (.int p1), .unset, .unset] [(.ref b1)]))
  refine Ends.via (fun _ k => XS.dup X16.here hx rfl (hb hby at_87) rfl rfl k) ?_
  show Ends p e below s 16 128 (Q0 Z p0 p1  h0 n0) (T16.setTop (mkF m 88 #[.val (.int p0), .val (.int p1), .unset, .unset] [(.ref b1), (.ref b1)]))
  refine Ends.via (fun _ k => XS.bipush X16.here hx rfl (hb hby at_88) k) ?_
  show Ends p e below s 16 128 (Q0 Z p0 p1  h0 n0) (T16.setTop (mkF m 90 #[.val (.int p0), .val (.int p1), .unset, .unset] [(.int (15 : Int32)), (.ref b1), (.ref b1)]))
  refine Ends.via (X16.ldcInt hx hown (mvT hZ (hw _ (List.mem_of_getElem? (i := 10) rfl))) (g := (mkF m 90 #[.val (.int p0), .val (.int p1), .unset, .unset] [(.int (15 : Int32)), (.ref b1), (.ref b1)])) rfl (hb hby at_90)) ?_
  show Ends p e below s 16 128 (Q0 Z p0 p1  h0 n0) (T16.setTop (mkF m 92 #[.val (.int p0), .val (.int p1), .unset, .unset] [(.int (2147483647 : Int32)), (.int (15 : Int32)), (.ref b1), (.ref b1)]))
  obtain ⟨cl17, Ar17, q17, S17, Ng17, Hs17, Gf17⟩ := V16
  have hin17 : ¬ ((15 : Int32) < 0 ∨ cl17.slots.size ≤ ((15 : Int32)).toNatClampNeg) := inb_of S17 ⟨by decide, by decide⟩
  obtain ⟨T17, h17, X17, e17, W17, st17⟩ := stI X16 hx hZ e16 Ar17 (j := (15 : Int32)) hin17 (g := (mkF m 92 #[.val (.int p0), .val (.int p1), .unset, .unset] [(.int (2147483647 : Int32)), (.int (15 : Int32)), (.ref b1), (.ref b1)])) rfl rfl (hb hby at_92)
  have V17 : Arv Z h17 b1 k1 .int (16 : Int32) [(.int (0 : Int32)), (.int (9 : Int32)), (.int (10 : Int32)), (.int (13 : Int32)), (.int (31 : Int32)), (.int (32 : Int32)), (.int (55295 : Int32)), (.int (55296 : Int32)), (.int (57343 : Int32)), (.int (57344 : Int32)), (.int (65533 : Int32)), (.int (65534 : Int32)), (.int (65536 : Int32)), (.int (1114111 : Int32)), (.int (-2147483648 : Int32)), (.int (2147483647 : Int32))] (.int (0 : Int32)) := Arv.set Ar17 q17 S17 Ng17 Hs17 Gf17 rfl W17 15 rfl (Nat.le_of_ble_eq_true rfl)
  have Z17 : n0 ≤ h17.size := Nat.le_trans Z16 (Keep.of_wr W17).1
  have N17 := Fr.snoc X17 N16 g_b1
  refine Ends.via st17 ?_
  show Ends p e below s 16 128 (Q0 Z p0 p1  h0 n0) (T17.setTop (mkF m 93 #[.val (.int p0), .val (.int p1), .unset, .unset] [(.ref b1)]))
  refine Ends.via (fun _ k => XS.astoreN X17.here hx rfl (hb hby at_93) rfl rfl (l' := #[.val (.int p0), .val (.int p1), .val (.ref b1), .unset]) rfl k) ?_
  show Ends p e below s 16 128 (Q0 Z p0 p1  h0 n0) (T17.setTop (mkF m 94 #[.val (.int p0), .val (.int p1), .val (.ref b1), .unset] []))
  refine Ends.via (fun _ k => XS.aloadN X17.here hx rfl (hb hby at_94) rfl rfl k) ?_
  show Ends p e below s 16 128 (Q0 Z p0 p1  h0 n0) (T17.setTop (mkF m 95 #[.val (.int p0), .val (.int p1), .val (.ref b1), .unset] [(.ref b1)]))
  refine Ends.via (fun _ k => XS.iloadN X17.here hx rfl (hb hby at_95) rfl k) ?_
  show Ends p e below s 16 128 (Q0 Z p0 p1  h0 n0) (T17.setTop (mkF m 96 #[.val (.int p0), .val (.int p1), .val (.ref b1), .unset] [(.int p1), (.ref b1)]))
  refine Ends.via (fun _ k => XS.bipush X17.here hx rfl (hb hby at_96) k) ?_
  show Ends p e below s 16 128 (Q0 Z p0 p1  h0 n0) (T17.setTop (mkF m 98 #[.val (.int p0), .val (.int p1), .val (.ref b1), .unset] [(.int (15 : Int32)), (.int p1), (.ref b1)]))
  refine Ends.via (fun _ k => XS.iand X17.here hx rfl (hb hby at_98) rfl k) ?_
  show Ends p e below s 16 128 (Q0 Z p0 p1  h0 n0) (T17.setTop (mkF m 99 #[.val (.int p0), .val (.int p1), .val (.ref b1), .unset] [(.int (p1 &&& (15 : Int32))), (.ref b1)]))
  obtain ⟨cl18, Ar18, q18, S18, Ng18, Hs18, Gf18⟩ := V17
  have hin18 : ¬ ((p1 &&& (15 : Int32)) < 0 ∨ cl18.slots.size ≤ ((p1 &&& (15 : Int32))).toNatClampNeg) := inb_of S18 (own_k p1)
  have hat18 : cl18.slots[((p1 &&& (15 : Int32))).toNatClampNeg]? = some (.int (own_edge (p1 &&& (15 : Int32)))) := Hs18.at hin18 (own_edgeV _)
  refine Ends.via (X17.iaload hx (j := (p1 &&& (15 : Int32))) (v := (.int (own_edge (p1 &&& (15 : Int32))))) (by rw [e17]; exact Ar18.1) (State.isArrayOf_alike hZ.alike Ar18.2.1) Ar18.2.2 hin18 hat18 (g := (mkF m 99 #[.val (.int p0), .val (.int p1), .val (.ref b1), .unset] [(.int (p1 &&& (15 : Int32))), (.ref b1)])) rfl rfl (hb hby at_99)) ?_
  show Ends p e below s 16 128 (Q0 Z p0 p1  h0 n0) (T17.setTop (mkF m 100 #[.val (.int p0), .val (.int p1), .val (.ref b1), .unset] [(.int (own_edge (p1 &&& (15 : Int32))))]))
  refine Ends.via (fun _ k => XS.iloadN X17.here hx rfl (hb hby at_100) rfl k) ?_
  show Ends p e below s 16 128 (Q0 Z p0 p1  h0 n0) (T17.setTop (mkF m 101 #[.val (.int p0), .val (.int p1), .val (.ref b1), .unset] [(.int p1), (.int (own_edge (p1 &&& (15 : Int32))))]))
  refine Ends.via (fun _ k => XS.iconst X17.here hx rfl (hb hby at_101) k) ?_
  show Ends p e below s 16 128 (Q0 Z p0 p1  h0 n0) (T17.setTop (mkF m 102 #[.val (.int p0), .val (.int p1), .val (.ref b1), .unset] [(.int (4 : Int32)), (.int p1), (.int (own_edge (p1 &&& (15 : Int32))))]))
  refine Ends.via (fun _ k => XS.iushr X17.here hx rfl (hb hby at_102) rfl k) ?_
  show Ends p e below s 16 128 (Q0 Z p0 p1  h0 n0) (T17.setTop (mkF m 103 #[.val (.int p0), .val (.int p1), .val (.ref b1), .unset] [(.int ((p1.toUInt32 >>> ((4 : Int32) &&& 31).toUInt32).toInt32)), (.int (own_edge (p1 &&& (15 : Int32))))]))
  refine Ends.via (fun _ k => XS.iconst X17.here hx rfl (hb hby at_103) k) ?_
  show Ends p e below s 16 128 (Q0 Z p0 p1  h0 n0) (T17.setTop (mkF m 104 #[.val (.int p0), .val (.int p1), .val (.ref b1), .unset] [(.int (3 : Int32)), (.int ((p1.toUInt32 >>> ((4 : Int32) &&& 31).toUInt32).toInt32)), (.int (own_edge (p1 &&& (15 : Int32))))]))
  refine Ends.via (fun _ k => XS.iand X17.here hx rfl (hb hby at_104) rfl k) ?_
  show Ends p e below s 16 128 (Q0 Z p0 p1  h0 n0) (T17.setTop (mkF m 105 #[.val (.int p0), .val (.int p1), .val (.ref b1), .unset] [(.int (((p1.toUInt32 >>> ((4 : Int32) &&& 31).toUInt32).toInt32) &&& (3 : Int32))), (.int (own_edge (p1 &&& (15 : Int32))))]))
  refine Ends.via (fun _ k => XS.iadd X17.here hx rfl (hb hby at_105) rfl k) ?_
  show Ends p e below s 16 128 (Q0 Z p0 p1  h0 n0) (T17.setTop (mkF m 106 #[.val (.int p0), .val (.int p1), .val (.ref b1), .unset] [(.int ((own_edge (p1 &&& (15 : Int32))) + (((p1.toUInt32 >>> ((4 : Int32) &&& 31).toUInt32).toInt32) &&& (3 : Int32))))]))
  refine Ends.via (fun _ k => XS.iconst X17.here hx rfl (hb hby at_106) k) ?_
  show Ends p e below s 16 128 (Q0 Z p0 p1  h0 n0) (T17.setTop (mkF m 107 #[.val (.int p0), .val (.int p1), .val (.ref b1), .unset] [(.int (1 : Int32)), (.int ((own_edge (p1 &&& (15 : Int32))) + (((p1.toUInt32 >>> ((4 : Int32) &&& 31).toUInt32).toInt32) &&& (3 : Int32))))]))
  refine Ends.via (fun _ k => XS.isub X17.here hx rfl (hb hby at_107) rfl k) ?_
  show Ends p e below s 16 128 (Q0 Z p0 p1  h0 n0) (T17.setTop (mkF m 108 #[.val (.int p0), .val (.int p1), .val (.ref b1), .unset] [(.int (((own_edge (p1 &&& (15 : Int32))) + (((p1.toUInt32 >>> ((4 : Int32) &&& 31).toUInt32).toInt32) &&& (3 : Int32))) - (1 : Int32)))]))
  refine Ends.via (fun _ k => XS.istoreN X17.here hx rfl (hb hby at_108) rfl (l' := #[.val (.int p0), .val (.int p1), .val (.ref b1), .val (.int (((own_edge (p1 &&& (15 : Int32))) + (((p1.toUInt32 >>> ((4 : Int32) &&& 31).toUInt32).toInt32) &&& (3 : Int32))) - (1 : Int32)))]) rfl k) ?_
  show Ends p e below s 16 128 (Q0 Z p0 p1  h0 n0) (T17.setTop (mkF m 109 #[.val (.int p0), .val (.int p1), .val (.ref b1), .val (.int (((own_edge (p1 &&& (15 : Int32))) + (((p1.toUInt32 >>> ((4 : Int32) &&& 31).toUInt32).toInt32) &&& (3 : Int32))) - (1 : Int32)))] []))
  generalize hv19 : (((own_edge (p1 &&& (15 : Int32))) + (((p1.toUInt32 >>> ((4 : Int32) &&& 31).toUInt32).toInt32) &&& (3 : Int32))) - (1 : Int32)) = v19
  refine Ends.via (fun _ k => XS.iloadN X17.here hx rfl (hb hby at_109) rfl k) ?_
  show Ends p e below s 16 128 (Q0 Z p0 p1  h0 n0) (T17.setTop (mkF m 110 #[.val (.int p0), .val (.int p1), .val (.ref b1), .val (.int v19)] [(.int p0)]))
  obtain ⟨_, _, ⟨T40, L40, k40, n40⟩, -, X40, ⟨Lc40, hQ40, l40, y40, z40⟩, st40⟩ := Jvm.LawKit.callS X17 hx (y := (⟨"com/example/frugal_xpath/frugalxpath/XmlChars", "isChar", "(I)Z"⟩ : MethodName)) hown (mvT hZ (hw _ (List.mem_of_getElem? (i := 11) rfl))) (mvT hZ (hw _ (List.mem_of_getElem? (i := 12) rfl))) (mvT hZ (hw _ (List.mem_of_getElem? (i := 13) rfl))) (mvT hZ (hw _ (List.mem_of_getElem? (i := 14) rfl))) (by decide) (backOf (W := 0) (rm1 l Z a0 hw [] p0 h17 n0 Z17) hZ (hw _ (List.mem_of_getElem? (i := 14) rfl)) (hw _ (List.mem_of_getElem? (i := 13) rfl)) (by decide) (by decide)) (g := (mkF m 110 #[.val (.int p0), .val (.int p1), .val (.ref b1), .val (.int v19)] [(.int p0)])) rfl (by rw [hml]; rfl) (argsL := [(.int p0)]) (rest := []) (lenOf own_pd0 rfl) rfl (by show 2 * 0 + _ ≤ _; exact Nat.le_of_eq rfl) (hb hby at_110) (fun _ _ => ⟨rfl, e17, (by decide : 1 + 0 ≤ _), (by decide : 16 + 0 ≤ _)⟩)
  dsimp only [Pt.U, Pt.locs, Pt.cells, Pt.slots] at X40 l40 y40 z40 st40 hQ40
  subst l40 y40 z40
  obtain ⟨rfl, Nq40, e40⟩ := hQ40
  have N40 := Fr.app N17 Nq40
  refine Ends.via st40 ?_
  show Ends p e below s 16 128 (Q0 Z p0 p1  h0 n0) (T40.setTop (mkF m 113 #[.val (.int p0), .val (.int p1), .val (.ref b1), .val (.int v19)] [(.int (fn1 p0))]))
  refine Ends.via (fun _ k => XS.iloadN X40.here hx rfl (hb hby at_113) rfl k) ?_
  show Ends p e below s 16 128 (Q0 Z p0 p1  h0 n0) (T40.setTop (mkF m 114 #[.val (.int p0), .val (.int p1), .val (.ref b1), .val (.int v19)] [(.int p0), (.int (fn1 p0))]))
  obtain ⟨_, _, ⟨T53, L53, k53, n53⟩, -, X53, ⟨Lc53, hQ53, l53, y53, z53⟩, st53⟩ := Jvm.LawKit.callS X40 hx (y := (⟨"com/example/frugal_xpath/frugalxpath/XmlCharsIsCharPinLaw", "ref", "(I)Z"⟩ : MethodName)) hown (mvT hZ (hw _ (List.mem_of_getElem? (i := 17) rfl))) (mvT hZ (hw _ (List.mem_of_getElem? (i := 18) rfl))) (mvT hZ (hw _ (List.mem_of_getElem? (i := 19) rfl))) (mvT hZ (hw _ (List.mem_of_getElem? (i := 20) rfl))) (by decide) (backOf (W := 1) (rm2 l Z a0 hw [] p0 h17 n0 Z17) hZ (hw _ (List.mem_of_getElem? (i := 20) rfl)) (hw _ (List.mem_of_getElem? (i := 19) rfl)) (by decide) (by decide)) (g := (mkF m 114 #[.val (.int p0), .val (.int p1), .val (.ref b1), .val (.int v19)] [(.int p0), (.int (fn1 p0))])) rfl (by rw [hml]; rfl) (argsL := [(.int p0)]) (rest := [(.int (fn1 p0))]) (lenOf own_pd0 rfl) rfl (by show 2 * 0 + _ ≤ _; exact Nat.le_of_eq rfl) (hb hby at_114) (fun _ _ => ⟨rfl, e40, (by decide : 1 + 0 ≤ _), (by decide : 16 + 0 ≤ _)⟩)
  dsimp only [Pt.U, Pt.locs, Pt.cells, Pt.slots] at X53 l53 y53 z53 st53 hQ53
  subst l53 y53 z53
  obtain ⟨rfl, Nq53, e53⟩ := hQ53
  have N53 := Fr.app N40 Nq53
  refine Ends.via st53 ?_
  show Ends p e below s 16 128 (Q0 Z p0 p1  h0 n0) (T53.setTop (mkF m 117 #[.val (.int p0), .val (.int p1), .val (.ref b1), .val (.int v19)] [(.int (fn2 p0)), (.int (fn1 p0))]))
  by_cases hc54 : (fn1 p0) = (fn2 p0)
  · refine Ends.via (fun _ k => XS.icmpNo X53.here hx rfl (hb hby at_117) rfl (teq hc54).2 k) ?_
    show Ends p e below s 16 128 (Q0 Z p0 p1  h0 n0) (T53.setTop (mkF m 120 #[.val (.int p0), .val (.int p1), .val (.ref b1), .val (.int v19)] []))
    refine Ends.via (fun _ k => XS.iloadN X53.here hx rfl (hb hby at_120) rfl k) ?_
    show Ends p e below s 16 128 (Q0 Z p0 p1  h0 n0) (T53.setTop (mkF m 121 #[.val (.int p0), .val (.int p1), .val (.ref b1), .val (.int v19)] [(.int v19)]))
    obtain ⟨_, _, ⟨T55, L55, k55, n55⟩, -, X55, ⟨Lc55, hQ55, l55, y55, z55⟩, st55⟩ := Jvm.LawKit.callS X53 hx (y := (⟨"com/example/frugal_xpath/frugalxpath/XmlChars", "isChar", "(I)Z"⟩ : MethodName)) hown (mvT hZ (hw _ (List.mem_of_getElem? (i := 11) rfl))) (mvT hZ (hw _ (List.mem_of_getElem? (i := 12) rfl))) (mvT hZ (hw _ (List.mem_of_getElem? (i := 13) rfl))) (mvT hZ (hw _ (List.mem_of_getElem? (i := 14) rfl))) (by decide) (backOf (W := 0) (rm1 l Z a0 hw [] v19 h17 n0 Z17) hZ (hw _ (List.mem_of_getElem? (i := 14) rfl)) (hw _ (List.mem_of_getElem? (i := 13) rfl)) (by decide) (by decide)) (g := (mkF m 121 #[.val (.int p0), .val (.int p1), .val (.ref b1), .val (.int v19)] [(.int v19)])) rfl (by rw [hml]; rfl) (argsL := [(.int v19)]) (rest := []) (lenOf own_pd0 rfl) rfl (by show 2 * 0 + _ ≤ _; exact Nat.le_of_eq rfl) (hb hby at_121) (fun _ _ => ⟨rfl, e53, (by decide : 1 + 0 ≤ _), (by decide : 16 + 0 ≤ _)⟩)
    dsimp only [Pt.U, Pt.locs, Pt.cells, Pt.slots] at X55 l55 y55 z55 st55 hQ55
    subst l55 y55 z55
    obtain ⟨rfl, Nq55, e55⟩ := hQ55
    have N55 := Fr.app N53 Nq55
    refine Ends.via st55 ?_
    show Ends p e below s 16 128 (Q0 Z p0 p1  h0 n0) (T55.setTop (mkF m 124 #[.val (.int p0), .val (.int p1), .val (.ref b1), .val (.int v19)] [(.int (fn1 v19))]))
    refine Ends.via (fun _ k => XS.iloadN X55.here hx rfl (hb hby at_124) rfl k) ?_
    show Ends p e below s 16 128 (Q0 Z p0 p1  h0 n0) (T55.setTop (mkF m 125 #[.val (.int p0), .val (.int p1), .val (.ref b1), .val (.int v19)] [(.int v19), (.int (fn1 v19))]))
    obtain ⟨_, _, ⟨T56, L56, k56, n56⟩, -, X56, ⟨Lc56, hQ56, l56, y56, z56⟩, st56⟩ := Jvm.LawKit.callS X55 hx (y := (⟨"com/example/frugal_xpath/frugalxpath/XmlCharsIsCharPinLaw", "ref", "(I)Z"⟩ : MethodName)) hown (mvT hZ (hw _ (List.mem_of_getElem? (i := 17) rfl))) (mvT hZ (hw _ (List.mem_of_getElem? (i := 18) rfl))) (mvT hZ (hw _ (List.mem_of_getElem? (i := 19) rfl))) (mvT hZ (hw _ (List.mem_of_getElem? (i := 20) rfl))) (by decide) (backOf (W := 1) (rm2 l Z a0 hw [] v19 h17 n0 Z17) hZ (hw _ (List.mem_of_getElem? (i := 20) rfl)) (hw _ (List.mem_of_getElem? (i := 19) rfl)) (by decide) (by decide)) (g := (mkF m 125 #[.val (.int p0), .val (.int p1), .val (.ref b1), .val (.int v19)] [(.int v19), (.int (fn1 v19))])) rfl (by rw [hml]; rfl) (argsL := [(.int v19)]) (rest := [(.int (fn1 v19))]) (lenOf own_pd0 rfl) rfl (by show 2 * 0 + _ ≤ _; exact Nat.le_of_eq rfl) (hb hby at_125) (fun _ _ => ⟨rfl, e55, (by decide : 1 + 0 ≤ _), (by decide : 16 + 0 ≤ _)⟩)
    dsimp only [Pt.U, Pt.locs, Pt.cells, Pt.slots] at X56 l56 y56 z56 st56 hQ56
    subst l56 y56 z56
    obtain ⟨rfl, Nq56, e56⟩ := hQ56
    have N56 := Fr.app N55 Nq56
    refine Ends.via st56 ?_
    show Ends p e below s 16 128 (Q0 Z p0 p1  h0 n0) (T56.setTop (mkF m 128 #[.val (.int p0), .val (.int p1), .val (.ref b1), .val (.int v19)] [(.int (fn2 v19)), (.int (fn1 v19))]))
    by_cases hc57 : (fn1 v19) = (fn2 v19)
    · refine Ends.via (fun _ k => XS.icmpNo X56.here hx rfl (hb hby at_128) rfl (teq hc57).2 k) ?_
      show Ends p e below s 16 128 (Q0 Z p0 p1  h0 n0) (T56.setTop (mkF m 131 #[.val (.int p0), .val (.int p1), .val (.ref b1), .val (.int v19)] []))
      refine Ends.via (fun _ k => XS.iconst X56.here hx rfl (hb hby at_131) k) ?_
      show Ends p e below s 16 128 (Q0 Z p0 p1  h0 n0) (T56.setTop (mkF m 132 #[.val (.int p0), .val (.int p1), .val (.ref b1), .val (.int v19)] [(.int (1 : Int32))]))
      refine Ends.via (fun _ k => XS.goto X56.here hx rfl (pc0 := 132) (pc' := 136) rfl (hb hby at_132) (by decide) (by decide) k) ?_
      show Ends p e below s 16 128 (Q0 Z p0 p1  h0 n0) (T56.setTop (mkF m 136 #[.val (.int p0), .val (.int p1), .val (.ref b1), .val (.int v19)] [(.int (1 : Int32))]))
      refine Ends.ret X56 (v := some (.int (nar .boolean (1 : Int32)))) (fun h => by rw [Bd.returns] at h; cases h) Bd.notSynchronized (fun fs hr => retN X56 hx (t := .boolean) Bd.returns (by simp) (hb hby at_136) hr) ?_ (by decide) (by decide)
      exact ⟨rfl, N56⟩
    · refine Ends.via (fun _ k => XS.icmpYes X56.here hx rfl (pc0 := 128) (pc' := 135) rfl (hb hby at_128) rfl (feq hc57).2 (by decide) (by decide) k) ?_
      show Ends p e below s 16 128 (Q0 Z p0 p1  h0 n0) (T56.setTop (mkF m 135 #[.val (.int p0), .val (.int p1), .val (.ref b1), .val (.int v19)] []))
      refine Ends.via (fun _ k => XS.iconst X56.here hx rfl (hb hby at_135) k) ?_
      show Ends p e below s 16 128 (Q0 Z p0 p1  h0 n0) (T56.setTop (mkF m 136 #[.val (.int p0), .val (.int p1), .val (.ref b1), .val (.int v19)] [(.int (0 : Int32))]))
      refine Ends.ret X56 (v := some (.int (nar .boolean (0 : Int32)))) (fun h => by rw [Bd.returns] at h; cases h) Bd.notSynchronized (fun fs hr => retN X56 hx (t := .boolean) Bd.returns (by simp) (hb hby at_136) hr) ?_ (by decide) (by decide)
      exact absurd (own_leaf1 p0 p1 v19 hv19 hc54 hc57) id
  · refine Ends.via (fun _ k => XS.icmpYes X53.here hx rfl (pc0 := 117) (pc' := 135) rfl (hb hby at_117) rfl (feq hc54).2 (by decide) (by decide) k) ?_
    show Ends p e below s 16 128 (Q0 Z p0 p1  h0 n0) (T53.setTop (mkF m 135 #[.val (.int p0), .val (.int p1), .val (.ref b1), .val (.int v19)] []))
    refine Ends.via (fun _ k => XS.iconst X53.here hx rfl (hb hby at_135) k) ?_
    show Ends p e below s 16 128 (Q0 Z p0 p1  h0 n0) (T53.setTop (mkF m 136 #[.val (.int p0), .val (.int p1), .val (.ref b1), .val (.int v19)] [(.int (0 : Int32))]))
    refine Ends.ret X53 (v := some (.int (nar .boolean (0 : Int32)))) (fun h => by rw [Bd.returns] at h; cases h) Bd.notSynchronized (fun fs hr => retN X53 hx (t := .boolean) Bd.returns (by simp) (hb hby at_136) hr) ?_ (by decide) (by decide)
    exact absurd (own_leaf2 p0 p1 v19 hv19 hc54) id
set_option maxRecDepth 65536 in
set_option maxHeartbeats 40000000 in
theorem comes_1 {Post : Tables → Env → Array Value → State → Outcome → State → Prop} (hpost : ∀ tb e args s v u, (limb_1_1.after args s (.returned v) u = true ∧ limb_1_2.after args s (.returned v) u = true ∧ True) → FrameEnd s (.returned v) u (Jvm.fieldLocs frame_1_writes args s ++ Jvm.arrayLocs frame_1_arrays args s ++ Jvm.staticLocs frame_1_statics s) 16 128 → Post tb e args s (.returned v) u) :
    ArmFor flags0 classFile x code maxLocals ret World_1 tables_1 room_1 Calls_1 rest_1 Pre_1 Post := by
  intro l hfl _ _ p e ha hc hk s m args below hf hA hF happ hP
  obtain ⟨hcalls, hrest, hpre⟩ := hP
  obtain ⟨-, -, -, hnamed, -, -, -, hat⟩ := (Spec.applies_iff hf).mp happ
  obtain ⟨hg, hn⟩ := and_e (Cond.before_iff.mp (show (Jvm.Cond.and given_1 narrow_1).before args s = true from hpre))
  obtain ⟨hcnt, g0⟩ := and_e hg
  obtain ⟨t0, g1⟩ := and_e g0
  obtain ⟨w0, w1, rfl⟩ : ∃ w0 w1 : Value, args = #[w0, w1] := by
    have hs : args.size = 2 := by simpa [Cond.value, given_1] using hcnt
    obtain ⟨L⟩ := args
    match L, hs with
    | [w0, w1], _ => exact ⟨w0, w1, rfl⟩
  have hw := fun d (hd : d ∈ tables_1) => atoms_spec (ws := Jvm.Cond.code x code maxLocals ret :: tables_1) hat d (List.mem_cons_of_mem _ hd)
  obtain ⟨i0, ei0⟩ := is_v t0
  obtain rfl : w0 = (.int i0) := Option.some.inj ei0
  obtain ⟨i1, ei1⟩ := is_v g1
  obtain rfl : w1 = (.int i1) := Option.some.inj ei1
  obtain ⟨n, o, h1, h2, h3, _, L, rfl, ⟨rfl, N⟩, hq⟩ := rm0 l s _ hw tables_1 i0 i1 s.heap s.heap.size (Nat.le_refl _) p e ha hc hk s m _ below hf ((Spec.applies_iff_loose hf).mp happ).1 ⟨rfl, State.Warmed39.refl s, rfl⟩ trivial
  refine ⟨n, _, h1, h2, h3, hpost _ _ _ _ _ _ ⟨Cond.after_iff.mpr rfl, Cond.after_iff.mpr (eq_i res_at (Term.int_eval (1)) rfl), trivial⟩ ⟨hq.1, hq.2.1, (hq.2.2.sift fun y hy => Or.inr (N y hy)).mono (by decide) (by decide)⟩⟩
theorem main_1_1 : Claimed_1_1 := comes_1 fun _ _ _ _ _ _ h hF => ⟨h.1, hF⟩
theorem main_1_2 : Claimed_1_2 := comes_1 fun _ _ _ _ _ _ h hF => ⟨h.2.1, hF⟩
end Jvm.Pilot.@@N@@
namespace Jvm.Pilot.@@N@@
open Jvm Jvm.ClassFile Sem Op Lib Jvm.Free Jvm.Stand Jvm.Pilot.@@N@@.Jvm.D
/-! MADE BY PROGRAM (witnessworld.py) out of the Statement's table words and the real class files: 9 classes; the members and pool entries that the words name. The judged class is class 1, her method 2. -/
namespace start1
open Jvm.ClassFile
def u (s : String) : CpInfo := .utf8 (stringToUtf16 s)
/-- a pool by its gaps: so many unusable entries, then the entry; so many at the end -/
def gap : Nat → List CpInfo → List CpInfo
  | 0, r => r
  | n + 1, r => .unusable :: gap n r
def poolList (es : List (Nat × CpInfo)) (last : Nat) : List CpInfo := es.foldr (fun e r => gap e.1 (e.2 :: r)) (gap last [])
def pool (es : List (Nat × CpInfo)) (last : Nat) : Array CpInfo := ⟨poolList es last⟩
def fileOf (pool : Array CpInfo) (this : Nat) (attrs : Array Attribute := #[]) (ms : Array MethodInfo := #[]) (fl : Nat := 33) (sup : Nat := 0) (ifs : Array Nat := #[]) (fds : Array FieldInfo := #[]) : ClassFile where
  minorVersion := 0
  majorVersion := 65
  constantPool := pool
  accessFlags := fl
  thisClass := this
  superClass := sup
  interfaces := ifs
  fields := fds
  methods := ms
  attributes := attrs
def plain (name : String) (sup : Option ClassId) : Class where
  name := name
  kind := .ordinary
  loader := none
  accessFlags := 33
  super := sup
  interfaces := #[]
  cf := none
  fields := #[]
  methods := #[]
  instanceTypes := #[]
  staticTypes := #[]
  resolved := #[]
  callSites := []
  init := .initialized
  statics := none
  mirror := none

def pool0 : Array CpInfo := pool [(5, u "<init>"), (0, u "()V"), (1, .class_ 10), (1, u "java/lang/Object")] 113

def k0m0 : Method := { name := "<init>", desc := "()V", sig := { parameters := [], returnType := none }, accessFlags := 1, code := none }
/-- java/lang/Object -/
def k0 : Class := { plain "java/lang/Object" none with
  accessFlags := 33
  interfaces := #[]
  cf := some (fileOf pool0 8 #[] #[{ accessFlags := 1, nameIndex := 5, descriptorIndex := 6, attributes := #[] }] 33 0 #[] #[])
  fields := #[]
  methods := #[k0m0]
  instanceTypes := #[]
  staticTypes := #[]
  resolved := Array.replicate 124 none
  statics := none }

def pool1 : Array CpInfo := pool [(2, .class_ 4), (1, u "java/lang/Object"), (0, u "<init>"), (0, u "()V"), (0, .integer 1114111), (0, .integer 55296), (0, .integer 57343), (0, .integer 65534), (0, .integer 65535), (0, .integer 55295), (0, .integer 57344), (0, .integer 65533), (0, .integer 65536), (2, .integer 2147483648), (0, .integer 2147483647), (0, .methodref 21 22), (0, .class_ 23), (0, .nameAndType 24 25), (0, u "com/example/frugal_xpath/frugalxpath/XmlChars"), (0, u "isChar"), (0, u "(I)Z"), (0, .methodref 27 28), (0, .class_ 29), (0, .nameAndType 30 25), (0, u "com/example/frugal_xpath/frugalxpath/XmlCharsIsCharPinLaw"), (0, u "ref"), (3, u "law"), (0, u "(II)Z")] 4

def k1m0 : Method := { name := "<init>", desc := "()V", sig := { parameters := [], returnType := none }, accessFlags := 2, code := none }
def k1c1 : Code := { maxStack := 2, maxLocals := 1, code := method_2_code, exceptionTable := #[], attributes := #[] }
def k1m1 : Method := { name := "ref", desc := "(I)Z", sig := { parameters := [.int], returnType := some .boolean }, accessFlags := 10, code := some k1c1 }
def k1c2 : Code := { maxStack := 4, maxLocals := 4, code := code, exceptionTable := #[], attributes := #[] }
def k1m2 : Method := { name := "law", desc := "(II)Z", sig := { parameters := [.int, .int], returnType := some .boolean }, accessFlags := 9, code := some k1c2 }
/-- com/example/frugal_xpath/frugalxpath/XmlCharsIsCharPinLaw -/
def k1 : Class := { plain "com/example/frugal_xpath/frugalxpath/XmlCharsIsCharPinLaw" (some 0) with
  accessFlags := 49
  interfaces := #[]
  cf := some (fileOf pool1 27 #[] #[{ accessFlags := 2, nameIndex := 5, descriptorIndex := 6, attributes := #[] }, { accessFlags := 10, nameIndex := 30, descriptorIndex := 25, attributes := #[] }, { accessFlags := 9, nameIndex := 34, descriptorIndex := 35, attributes := #[] }] 49 2 #[] #[])
  fields := #[]
  methods := #[k1m0, k1m1, k1m2]
  instanceTypes := #[]
  staticTypes := #[]
  resolved := Array.replicate 40 none
  statics := none }

def pool2 : Array CpInfo := pool [(2, .class_ 4), (1, u "java/lang/Object"), (0, u "<init>"), (0, u "()V"), (1, .class_ 10), (1, u "com/example/frugal_xpath/frugalxpath/XmlChars"), (0, u "BYTE_CLASSES"), (0, u "[S"), (0, .integer 55295), (0, .integer 57344), (0, .integer 65533), (0, .integer 65536), (0, .integer 1114111), (11, u "(I)Z"), (27, u "isChar"), (0, u "SPACE"), (0, u "I"), (2, u "NAME_START"), (1, u "NAME"), (1, u "TEXT"), (1, u "VALUE"), (1, u "CHAR"), (1, u "QUOTATION_MARK"), (1, u "APOSTROPHE")] 11

def k2m0 : Method := { name := "<init>", desc := "()V", sig := { parameters := [], returnType := none }, accessFlags := 2, code := none }
def k2c1 : Code := { maxStack := 2, maxLocals := 1, code := prog_144_method_3_code, exceptionTable := #[], attributes := #[] }
def k2m1 : Method := { name := "isChar", desc := "(I)Z", sig := { parameters := [.int], returnType := some .boolean }, accessFlags := 8, code := some k2c1 }
/-- com/example/frugal_xpath/frugalxpath/XmlChars -/
def k2 : Class := { plain "com/example/frugal_xpath/frugalxpath/XmlChars" (some 0) with
  accessFlags := 48
  interfaces := #[]
  cf := some (fileOf pool2 8 #[] #[{ accessFlags := 2, nameIndex := 5, descriptorIndex := 6, attributes := #[] }, { accessFlags := 8, nameIndex := 57, descriptorIndex := 29, attributes := #[] }] 48 2 #[] #[{ accessFlags := 24, nameIndex := 58, descriptorIndex := 59, attributes := #[] }, { accessFlags := 24, nameIndex := 62, descriptorIndex := 59, attributes := #[] }, { accessFlags := 24, nameIndex := 64, descriptorIndex := 59, attributes := #[] }, { accessFlags := 24, nameIndex := 66, descriptorIndex := 59, attributes := #[] }, { accessFlags := 24, nameIndex := 68, descriptorIndex := 59, attributes := #[] }, { accessFlags := 24, nameIndex := 70, descriptorIndex := 59, attributes := #[] }, { accessFlags := 24, nameIndex := 72, descriptorIndex := 59, attributes := #[] }, { accessFlags := 24, nameIndex := 74, descriptorIndex := 59, attributes := #[] }, { accessFlags := 26, nameIndex := 11, descriptorIndex := 12, attributes := #[] }])
  fields := #[{ name := "SPACE", type := .int, accessFlags := 24, slot := 0, constantValue := 0 }, { name := "NAME_START", type := .int, accessFlags := 24, slot := 1, constantValue := 0 }, { name := "NAME", type := .int, accessFlags := 24, slot := 2, constantValue := 0 }, { name := "TEXT", type := .int, accessFlags := 24, slot := 3, constantValue := 0 }, { name := "VALUE", type := .int, accessFlags := 24, slot := 4, constantValue := 0 }, { name := "CHAR", type := .int, accessFlags := 24, slot := 5, constantValue := 0 }, { name := "QUOTATION_MARK", type := .int, accessFlags := 24, slot := 6, constantValue := 0 }, { name := "APOSTROPHE", type := .int, accessFlags := 24, slot := 7, constantValue := 0 }, { name := "BYTE_CLASSES", type := (.array .short), accessFlags := 26, slot := 8, constantValue := 0 }]
  methods := #[k2m0, k2m1]
  instanceTypes := #[]
  staticTypes := #[.int, .int, .int, .int, .int, .int, .int, .int, (.array .short)]
  resolved := Array.replicate 86 none
  statics := none }

def pool3 : Array CpInfo := pool [(1, u "java/lang/Cloneable"), (0, .class_ 1), (0, u "java/lang/Object"), (0, .class_ 3)] 3

/-- java/lang/Cloneable -/
def k3 : Class := { plain "java/lang/Cloneable" (some 0) with
  accessFlags := 1537
  interfaces := #[]
  cf := some (fileOf pool3 2 #[] #[] 1537 4 #[] #[])
  fields := #[]
  methods := #[]
  instanceTypes := #[]
  staticTypes := #[]
  resolved := Array.replicate 8 none
  statics := none }

def pool4 : Array CpInfo := pool [(1, u "java/io/Serializable"), (0, .class_ 1), (0, u "java/lang/Object"), (0, .class_ 3)] 3

/-- java/io/Serializable -/
def k4 : Class := { plain "java/io/Serializable" (some 0) with
  accessFlags := 1537
  interfaces := #[]
  cf := some (fileOf pool4 2 #[] #[] 1537 4 #[] #[])
  fields := #[]
  methods := #[]
  instanceTypes := #[]
  staticTypes := #[]
  resolved := Array.replicate 8 none
  statics := none }

/-- the primitive byte -/
def k5 : Class := { plain "byte" none with kind := .primitive 'B', accessFlags := 0x411 }
/-- [B -/
def k6 : Class := { plain "[B" (some 0) with kind := .array 5 .byte, interfaces := #[3, 4], accessFlags := 1041 }

/-- the primitive int -/
def k7 : Class := { plain "int" none with kind := .primitive 'I', accessFlags := 0x411 }
/-- [I -/
def k8 : Class := { plain "[I" (some 0) with kind := .array 7 .int, interfaces := #[3, 4], accessFlags := 1041 }

def heap : Heap := #[]
def classes : Array Class := #[k0, k1, k2, k3, k4, k5, k6, k7, k8]
def interned : List (Array UInt16 × Addr) := []
def slotsUsed : Nat := 0
def theMethod : MethodId := ⟨1, 2⟩
def args0 : Array Value := #[.int 5, .int 5]
def aboutOver (below : List Frame) : State where
  vm := { classes := classes, interned := interned.toArray }
  heap := heap
  slotsUsed := slotsUsed
  threads := #[{ frames := .invoking theMethod args0 :: below }]
def below0 : List Frame := [.native { method := ⟨0, 0⟩, args := #[] }]
def about1 : State := aboutOver below0
def p0 : Program := .bare "" "" ""
def e0 : Env := launch0.env 0 0 0
theorem w_frames : about1.frames = Frame.invoking theMethod args0 :: below0 := rfl
set_option maxRecDepth 65536 in
theorem w_args : argsFit about1.vm theMethod args0 = true := by decide +kernel
set_option maxRecDepth 65536 in
theorem w_heap : heapFits about1 = true := by decide +kernel
set_option maxRecDepth 65536 in
theorem w_runnable : about1.curStatus? = some .runnable := by decide +kernel
set_option maxRecDepth 65536 in
theorem w_alone : about1.alone = true := by decide +kernel
set_option maxRecDepth 65536 in
theorem w_named : about1.methodNamed? x = some theMethod := by decide +kernel
set_option maxRecDepth 65536 in
theorem w_hears : about1.hears theMethod below0 = true := by decide +kernel
set_option maxRecDepth 65536 in
theorem w_ripe : about1.ripe theMethod args0 below0 = true := by decide +kernel
theorem w_running : about1.status = .running := rfl
set_option maxRecDepth 65536 in
theorem w_room : about1.hasRoom e0.platform room_1 = true :=
  launch0.hasRoom_least _ room_1 (by decide +kernel) (by decide +kernel) (by decide +kernel) (by decide +kernel) (by decide +kernel) (by decide +kernel)
theorem allAtoms_all (ts : List Jvm.Cond) (a : Array Jvm.Value) (st : Jvm.State) : (allAtoms ts).before a st = ts.all (fun c => c.before a st) := by
  induction ts with
  | nil => rfl
  | cons c t ih =>
    show (Jvm.Cond.and c (allAtoms t)).before a st = _
    rw [Jvm.Cond.before_and, ih, List.all_cons]
def words1 : List Jvm.Cond := Jvm.Cond.code x code maxLocals ret :: tables_1
/-- a 'code' word, met by the world's own term for the bytes: nothing is compared byte by byte -/
theorem code_word {y : MethodName} {bytes : ByteArray} {mx : Nat} {rt : Option FieldType} {a : Array Value} {s : State} {m : MethodId} {meth : Method} {c : Code} (h1 : s.methodNamed? y = some m) (h2 : s.vm.method? m = some meth) (h3 : meth.code = some c) (h4 : c.code = bytes)
    (h5 : (c.maxLocals == mx && c.exceptionTable.isEmpty && decide (c.maxStack ≤ mostOperands) && decide (meth.sig.returnType = rt) && !meth.locks && decide (parseMethodDescriptor y.desc = some meth.sig)) = true) : (Jvm.Cond.code y bytes mx rt).before a s = true := by
  simp only [Bool.and_eq_true, beq_iff_eq, Bool.not_eq_true', decide_eq_true_eq] at h5
  obtain ⟨⟨⟨⟨⟨g1, g2⟩, g3⟩, g4⟩, g5⟩, g6⟩ := h5
  simp [Cond.before, Cond.holds, Cond.value, h1, h2, h3, h4, g1, g2, g3, g4, g5, g6]
def isCode : Jvm.Cond → Bool
  | .code _ _ _ _ => true
  | _ => false
theorem all_split {L : List Jvm.Cond} {P : Jvm.Cond → Bool} (h1 : L.all (fun c => isCode c || P c) = true) (h2 : ∀ c ∈ L.filter isCode, P c = true) : L.all P = true := by
  refine List.all_eq_true.mpr fun c hc => ?_
  have h := List.all_eq_true.mp h1 c hc
  rcases Bool.eq_false_or_eq_true (isCode c) with hi | hi
  · exact h2 c (List.mem_filter.mpr ⟨hc, hi⟩)
  · simpa [hi] using h
set_option maxRecDepth 65536 in
theorem w_c0 : (Jvm.Cond.code x code maxLocals ret).before args0 about1 = true := code_word (m := ⟨1, 2⟩) (meth := k1m2) (c := k1c2) (by decide +kernel) rfl rfl rfl (by decide +kernel)
set_option maxRecDepth 65536 in
theorem w_c1 : (Jvm.Cond.code ({ cls := "com/example/frugal_xpath/frugalxpath/XmlChars", name := "isChar", desc := "(I)Z" } : Jvm.MethodName) prog_144_method_3_code (1 : Nat) (Option.some Jvm.ClassFile.FieldType.boolean)).before args0 about1 = true := code_word (m := ⟨2, 1⟩) (meth := k2m1) (c := k2c1) (by decide +kernel) rfl rfl rfl (by decide +kernel)
set_option maxRecDepth 65536 in
theorem w_c2 : (Jvm.Cond.code ({ cls := "com/example/frugal_xpath/frugalxpath/XmlCharsIsCharPinLaw", name := "ref", desc := "(I)Z" } : Jvm.MethodName) method_2_code (1 : Nat) (Option.some Jvm.ClassFile.FieldType.boolean)).before args0 about1 = true := code_word (m := ⟨1, 1⟩) (meth := k1m1) (c := k1c1) (by decide +kernel) rfl rfl rfl (by decide +kernel)
def codes1 : List Jvm.Cond := [Jvm.Cond.code x code maxLocals ret, Jvm.Cond.code ({ cls := "com/example/frugal_xpath/frugalxpath/XmlChars", name := "isChar", desc := "(I)Z" } : Jvm.MethodName) prog_144_method_3_code (1 : Nat) (Option.some Jvm.ClassFile.FieldType.boolean), Jvm.Cond.code ({ cls := "com/example/frugal_xpath/frugalxpath/XmlCharsIsCharPinLaw", name := "ref", desc := "(I)Z" } : Jvm.MethodName) method_2_code (1 : Nat) (Option.some Jvm.ClassFile.FieldType.boolean)]
set_option maxRecDepth 65536 in
theorem codes_eq : words1.filter isCode = codes1 := rfl
theorem w_codes : ∀ c ∈ words1.filter isCode, c.before args0 about1 = true := by
  rw [codes_eq]
  intro c hc
  simp only [codes1, List.mem_cons, List.not_mem_nil, or_false] at hc
  rcases hc with rfl | rfl | rfl
  · exact w_c0
  · exact w_c1
  · exact w_c2
set_option maxRecDepth 65536 in
theorem w_t1 : (words1.take 24).all (fun c => isCode c || c.before args0 about1) = true := by decide +kernel
set_option maxRecDepth 65536 in
theorem w_t2 : (words1.drop 24).all (fun c => isCode c || c.before args0 about1) = true := by decide +kernel
theorem w_tables : (allAtoms (Jvm.Cond.code x code maxLocals ret :: tables_1)).before args0 about1 = true := by
  rw [allAtoms_all]
  show words1.all (fun c => c.before args0 about1) = true
  refine all_split ?_ w_codes
  rw [← List.take_append_drop 24 words1, List.all_append, w_t1, w_t2]
  rfl
set_option maxRecDepth 65536 in
theorem w_case : (Jvm.Cond.and given_1 narrow_1).before args0 about1 = true := by decide +kernel
theorem w_applies : (headSpec (Jvm.Cond.code x code maxLocals ret :: tables_1) room_1).applies x e0.platform about1 = true :=
  (Spec.applies_iff w_frames).mpr ⟨w_running, w_runnable, w_alone, w_named, w_hears, w_ripe, w_room, w_tables⟩
theorem atStart : AtStart classFile x code maxLocals ret World_1 tables_1 room_1 Calls_1 rest_1 Pre_1 launch0 p0 e0 about1 theMethod args0 below0 :=
  ⟨lists_1, trivial, launch0.admits_env _ _ _, launch0.least_env, fairChoices_fair.cas, fairChoices_fair.clock, w_frames, w_args, w_heap, w_applies, trivial, trivial, w_case⟩
end start1
theorem witness_1 : WitnessClaimed_1 := ⟨start1.p0, start1.e0, start1.about1, start1.theMethod, start1.args0, start1.below0, start1.atStart⟩
end Jvm.Pilot.@@N@@
