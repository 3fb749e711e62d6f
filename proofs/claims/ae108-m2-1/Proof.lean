import JvmDerived
import JvmDerived.Pilot.@@N@@Statement
import JvmDerived.Pilot.@@N@@Code
set_option linter.unusedVariables false
set_option linter.unusedSimpArgs false
namespace Jvm.RoadKit
open Sem ClassFile Op Lib Jvm.Stand Jvm.Free Jvm.LawKit
section New
variable {p : Program} {l : Launch} {e : Env} {R : Room} {s : State} {m : MethodId} {args : Array Value} {below : List Frame} {meth : Method} {c : Code} {T : State} {locs : List Loc} {cells slots : Nat}
theorem retI (X : Stand p l e R s m args below meth c T locs cells slots) (hx : p.tables.exec = Jvm.exec) {pc : Nat} {Ls : Array Slot} {z : Int32} {rest : List Value} (hret : meth.sig.returnType = some .int) (hd : decode c.code pc = .ok (.ireturn, 1)) {fs : List Frame}
    (hl : ∀ (f : JFrame) (acts : List Action), f.method = m → f.locked = none → f.entered = [] → (doReturn e (T.setTop f) acts (some (.int z))).1 = T.setFrames fs) : Steps p.tables e below (T.setTop (mkF m pc Ls (.int z :: rest))) (T.setFrames fs) := by
  have hm' : T.vm.method? m = some meth := X.method'
  have hn : narrow .int (.int z) = .int z := rfl
  show Steps p.tables e below (T.setTop { method := m, pc := pc, locals := Ls, stack := _ :: rest, locked := none }) _
  jvm_step X.here [X.here.top, hx, hd, hm', hret, hn]
  first | (intro acts; rw [hl _ acts rfl rfl rfl]) | rw [hl _ _ rfl rfl rfl]
  exact Steps.refl _
end New
end Jvm.RoadKit
namespace Jvm.Pilot.@@N@@
open Jvm Jvm.ClassFile Sem Op Lib Jvm.Free Jvm.Stand Jvm.LawKit Jvm.RoadKit Bundle Jvm.Pilot.@@N@@.Jvm.D
/-- from u the invocation ends, and what it returns and leaves is as Q says -/
def Ends (p : Program) (e : Env) (below : List Frame) (s : State) (kc ks : Nat) (Q : Option Value → Heap → List Loc → Prop) (u : State) : Prop :=
  ∃ s₂ o, Steps p.tables e below u s₂ ∧ s₂.status = .running ∧ Ended s₂ below o ∧ ∃ v L, o = .returned v ∧ Q v s₂.heap L ∧ FrameEnd s o s₂ L kc ks
theorem Ends.via {p : Program} {e : Env} {below : List Frame} {s : State} {kc ks : Nat} {Q : Option Value → Heap → List Loc → Prop} {A B : State} (h : ∀ t, Steps p.tables e below A t → Steps p.tables e below B t) (k : Ends p e below s kc ks Q A) : Ends p e below s kc ks Q B := by
  obtain ⟨s₂, o, h1, r⟩ := k
  exact ⟨s₂, o, h _ h1, r⟩
theorem Ends.ret {p : Program} {l : Launch} {e : Env} {R : Room} {s : State} {m : MethodId} {args : Array Value} {below : List Frame} {meth : Method} {c : Code} {T : State} {locs : List Loc} {cells slots kc ks : Nat} {Q : Option Value → Heap → List Loc → Prop} {u : State}
    (X : Stand p l e R s m args below meth c T locs cells slots) {v : Option Value} (hv : meth.sig.returnType = none → v = none) (hlocks : meth.locks = false)
    (hst : ∀ fs, (∀ (f : JFrame) (acts : List Action), f.method = m → f.locked = none → f.entered = [] → (doReturn e (T.setTop f) acts v).1 = T.setFrames fs) → Steps p.tables e below u (T.setFrames fs))
    (hQ : Q v T.heap locs) (h1 : cells ≤ kc) (h2 : slots ≤ ks) : Ends p e below s kc ks Q u := by
  obtain ⟨fs, hr, hrun, hended, hW, hsame⟩ := X.leave (v := v) hv hlocks
  exact ⟨_, _, hst fs hr, hrun, hended, _, _, rfl, hQ, ⟨_, rfl⟩, hW, hsame.mono h1 h2⟩

theorem own_pd0 : parseMethodDescriptor "(II)I" = some ⟨[.int, .int], some .int⟩ := by decide +kernel
theorem own_pd1 : parseMethodDescriptor "()V" = some ⟨[], none⟩ := by decide +kernel
theorem own_pd2 : parseMethodDescriptor "(I[JJ[I[I)V" = some ⟨[.int, (.array .long), .long, (.array .int), (.array .int)], none⟩ := by decide +kernel
theorem own_pd3 : parseMethodDescriptor "(I)J" = some ⟨[.int], some .long⟩ := by decide +kernel
theorem d1_0 : decode jdk_29_method_65_code 0 = .ok (.iload_n 0, 1) := by decide +kernel
theorem d1_1 : decode jdk_29_method_65_code 1 = .ok (.iload_n 1, 1) := by decide +kernel
theorem d1_2 : decode jdk_29_method_65_code 2 = .ok (.if_icmp .lt 7, 3) := by decide +kernel
theorem d1_5 : decode jdk_29_method_65_code 5 = .ok (.iload_n 0, 1) := by decide +kernel
theorem d1_6 : decode jdk_29_method_65_code 6 = .ok (.goto 4, 3) := by decide +kernel
theorem d1_9 : decode jdk_29_method_65_code 9 = .ok (.iload_n 1, 1) := by decide +kernel
theorem d1_10 : decode jdk_29_method_65_code 10 = .ok (.ireturn, 1) := by decide +kernel
theorem ef_1 (m : MethodId) (p0 : Int32) (p1 : Int32) : entryFrame m #[(.int p0), (.int p1)] 2 = mkF m 0 #[.val (.int p0), .val (.int p1)] [] := by first | (simp [entryFrame, mkF, argsToLocals, Value.category]; done) | rfl
def fn1 (p0 : Int32) (p1 : Int32) : Int32 := (if p0 < p1 then p1 else p0)
abbrev ROOM1 : Room := { frames := 0, cells := 0, slots := 0, locals := 0 }
def Q1 (Z : State) (p0 : Int32) (p1 : Int32)  (h0 : Heap) (n0 : Nat) (v : Option Value) (h : Heap) (L : List Loc) : Prop := v = some (.int (fn1 p0 p1)) ∧ Fr n0 L ∧ h = h0
set_option maxRecDepth 65536 in
set_option maxHeartbeats 40000000 in
theorem rm1 (l : Launch) (Z : State) (a0 : Array Value) (hw : ∀ d ∈ tables_1, d.before a0 Z = true) (ws : List Jvm.Cond) (p0 : Int32) (p1 : Int32)  (h0 : Heap) (n0 : Nat) (Z0 : n0 ≤ h0.size)  :
    MetFree l (⟨"java/lang/Math", "max", "(II)I"⟩ : MethodName) (head1 (Jvm.Cond.code (⟨"java/lang/Math", "max", "(II)I"⟩ : MethodName) jdk_29_method_65_code 2 (some .int) :: ws) ROOM1) (fun a U => a = #[(.int p0), (.int p1)] ∧ Z.Warmed39 U.vm ∧ U.heap = h0) (fun _ _ _ _ _ => True) (fun _ U o U' => ∃ v L, o = .returned v ∧ Q1 Z p0 p1  h0 n0 v U'.heap L ∧ FrameEnd U o U' L ROOM1.cells ROOM1.slots) := by
  refine MetFree.of_bodySF (Jvm.Free.JP.mathPlain rfl (by decide +kernel)) hisR ?_
  intro p e s m args below meth c s₁ Bd hml0 hP hK
  obtain ⟨rfl, hZ, hh⟩ := hP
  have hx := Bd.exec
  have hby := Bd.bytes
  have hml : c.maxLocals = 2 := hml0
  have hown : s.vm.findClass "java/lang/Math" = some m.cls := findClass_of_methodNamed Bd.named
  have hnm := (name_of_methodNamed Bd.named Bd.method).1
  have X0 : Stand p l e ROOM1 s m #[(.int p0), (.int p1)] below meth c s₁ [] 0 0 := Stand.of_body Bd
  have e0 : s₁.heap = h0 := by rw [← hh, Bd.state]; rfl
  have N0 := Fr.nil n0
  refine Ends.via (A := s₁.setTop (mkF m 0 #[.val (.int p0), .val (.int p1)] [])) (kc := ROOM1.cells) (ks := ROOM1.slots) (Q := (Q1 Z p0 p1  h0 n0)) (fun t k => castTop (ef_1 m p0 p1) k) ?_
  show Ends p e below s ROOM1.cells ROOM1.slots (Q1 Z p0 p1  h0 n0) (s₁.setTop (mkF m 0 #[.val (.int p0), .val (.int p1)] []))
  refine Ends.via (fun _ k => XS.iloadN X0.here hx rfl (hb hby d1_0) rfl k) ?_
  show Ends p e below s ROOM1.cells ROOM1.slots (Q1 Z p0 p1  h0 n0) (s₁.setTop (mkF m 1 #[.val (.int p0), .val (.int p1)] [(.int p0)]))
  refine Ends.via (fun _ k => XS.iloadN X0.here hx rfl (hb hby d1_1) rfl k) ?_
  show Ends p e below s ROOM1.cells ROOM1.slots (Q1 Z p0 p1  h0 n0) (s₁.setTop (mkF m 2 #[.val (.int p0), .val (.int p1)] [(.int p1), (.int p0)]))
  by_cases hc9 : p0 < p1
  · refine Ends.via (fun _ k => XS.icmpYes X0.here hx rfl (pc0 := 2) (pc' := 9) rfl (hb hby d1_2) rfl (tlt hc9).1 (by decide) (by decide) k) ?_
    show Ends p e below s ROOM1.cells ROOM1.slots (Q1 Z p0 p1  h0 n0) (s₁.setTop (mkF m 9 #[.val (.int p0), .val (.int p1)] []))
    refine Ends.via (fun _ k => XS.iloadN X0.here hx rfl (hb hby d1_9) rfl k) ?_
    show Ends p e below s ROOM1.cells ROOM1.slots (Q1 Z p0 p1  h0 n0) (s₁.setTop (mkF m 10 #[.val (.int p0), .val (.int p1)] [(.int p1)]))
    refine Ends.ret X0 (v := some (.int p1)) (fun h => by rw [Bd.returns] at h; cases h) Bd.notSynchronized (fun fs hr => retI X0 hx Bd.returns (hb hby d1_10) hr) ?_ (by decide) (by decide)
    have hfn : fn1 p0 p1 = p1 := by simp only [fn1, if_pos hc9]
    exact ⟨by rw [hfn], N0, e0⟩
  · refine Ends.via (fun _ k => XS.icmpNo X0.here hx rfl (hb hby d1_2) rfl (flt hc9).1 k) ?_
    show Ends p e below s ROOM1.cells ROOM1.slots (Q1 Z p0 p1  h0 n0) (s₁.setTop (mkF m 5 #[.val (.int p0), .val (.int p1)] []))
    refine Ends.via (fun _ k => XS.iloadN X0.here hx rfl (hb hby d1_5) rfl k) ?_
    show Ends p e below s ROOM1.cells ROOM1.slots (Q1 Z p0 p1  h0 n0) (s₁.setTop (mkF m 6 #[.val (.int p0), .val (.int p1)] [(.int p0)]))
    refine Ends.via (fun _ k => XS.goto X0.here hx rfl (pc0 := 6) (pc' := 10) rfl (hb hby d1_6) (by decide) (by decide) k) ?_
    show Ends p e below s ROOM1.cells ROOM1.slots (Q1 Z p0 p1  h0 n0) (s₁.setTop (mkF m 10 #[.val (.int p0), .val (.int p1)] [(.int p0)]))
    refine Ends.ret X0 (v := some (.int p0)) (fun h => by rw [Bd.returns] at h; cases h) Bd.notSynchronized (fun fs hr => retI X0 hx Bd.returns (hb hby d1_10) hr) ?_ (by decide) (by decide)
    have hfn : fn1 p0 p1 = p0 := by simp only [fn1, if_neg hc9]
    exact ⟨by rw [hfn], N0, e0⟩
theorem d3_0 : decode jdk_30_method_1_code 0 = .ok (.aload_n 0, 1) := by decide +kernel
theorem d3_1 : decode jdk_30_method_1_code 1 = .ok (.invokespecial 1, 3) := by decide +kernel
theorem d3_4 : decode jdk_30_method_1_code 4 = .ok (.return_, 1) := by decide +kernel
theorem pn_3 : plainName "java/lang/Record" = true := by first | (simp [plainName, overriddenIn]; done) | decide +kernel
theorem ef_3 (m : MethodId) (a0 : Addr) : entryFrame m #[(.ref a0)] 1 = mkF m 0 #[.val (.ref a0)] [] := by first | (simp [entryFrame, mkF, argsToLocals, Value.category]; done) | rfl
abbrev ROOM3 : Room := { frames := 1, cells := 0, slots := 0, locals := 12 }
def Q3 (Z : State) (a0 : Addr)  (h0 : Heap) (n0 : Nat) (v : Option Value) (h : Heap) (L : List Loc) : Prop := v = none ∧ Fr n0 L ∧ h = h0
set_option maxRecDepth 65536 in
set_option maxHeartbeats 40000000 in
theorem rm3 (l : Launch) (Z : State) (a0 : Array Value) (hw : ∀ d ∈ tables_1, d.before a0 Z = true) (ws : List Jvm.Cond) (a0 : Addr)  (h0 : Heap) (n0 : Nat) (Z0 : n0 ≤ h0.size)  :
    MetFree l (⟨"java/lang/Record", "<init>", "()V"⟩ : MethodName) (head1 (Jvm.Cond.code (⟨"java/lang/Record", "<init>", "()V"⟩ : MethodName) jdk_30_method_1_code 1 none :: ws) ROOM3) (fun a U => a = #[(.ref a0)] ∧ Z.Warmed39 U.vm ∧ U.heap = h0) (fun _ _ _ _ _ => True) (fun _ U o U' => ∃ v L, o = .returned v ∧ Q3 Z a0  h0 n0 v U'.heap L ∧ FrameEnd U o U' L ROOM3.cells ROOM3.slots) := by
  refine MetFree.of_bodySF (plainFor_of_name pn_3) hisR ?_
  intro p e s m args below meth c s₁ Bd hml0 hP hK
  obtain ⟨rfl, hZ, hh⟩ := hP
  have hx := Bd.exec
  have hby := Bd.bytes
  have hml : c.maxLocals = 1 := hml0
  have hown : s.vm.findClass "java/lang/Record" = some m.cls := findClass_of_methodNamed Bd.named
  have hnm := (name_of_methodNamed Bd.named Bd.method).1
  have X0 : Stand p l e ROOM3 s m #[(.ref a0)] below meth c s₁ [] 0 0 := Stand.of_body Bd
  have e0 : s₁.heap = h0 := by rw [← hh, Bd.state]; rfl
  have N0 := Fr.nil n0
  refine Ends.via (A := s₁.setTop (mkF m 0 #[.val (.ref a0)] [])) (kc := ROOM3.cells) (ks := ROOM3.slots) (Q := (Q3 Z a0  h0 n0)) (fun t k => castTop (ef_3 m a0) k) ?_
  show Ends p e below s ROOM3.cells ROOM3.slots (Q3 Z a0  h0 n0) (s₁.setTop (mkF m 0 #[.val (.ref a0)] []))
  refine Ends.via (fun _ k => XS.aloadN X0.here hx rfl (hb hby d3_0) rfl rfl k) ?_
  show Ends p e below s ROOM3.cells ROOM3.slots (Q3 Z a0  h0 n0) (s₁.setTop (mkF m 1 #[.val (.ref a0)] [(.ref a0)]))
  obtain ⟨T17, X17, e17, st17⟩ := initO X0 hx hZ hown (hw _ (List.mem_of_getElem? (i := 18) rfl)) (hw _ (List.mem_of_getElem? (i := 19) rfl)) (hw _ (List.mem_of_getElem? (i := 20) rfl)) e0 (g := (mkF m 1 #[.val (.ref a0)] [(.ref a0)])) rfl (by rw [hml]; rfl) rfl (hb hby d3_1) (by decide) (W := 0) (by show 2 * 0 + _ ≤ _; exact Nat.le_of_eq rfl) (by decide)
  refine Ends.via st17 ?_
  show Ends p e below s ROOM3.cells ROOM3.slots (Q3 Z a0  h0 n0) (T17.setTop (mkF m 4 #[.val (.ref a0)] []))
  refine Ends.ret X17 (v := none) (fun _ => rfl) Bd.notSynchronized (fun fs hr => X17.returnOut hx Bd.returns (hb hby d3_4) hr) ?_ (by decide) (by decide)
  exact ⟨rfl, N0, e17⟩
theorem d2_0 : decode prog_73_method_1_code 0 = .ok (.aload_n 0, 1) := by decide +kernel
theorem d2_1 : decode prog_73_method_1_code 1 = .ok (.invokespecial 3, 3) := by decide +kernel
theorem d2_4 : decode prog_73_method_1_code 4 = .ok (.aload_n 0, 1) := by decide +kernel
theorem d2_5 : decode prog_73_method_1_code 5 = .ok (.iload_n 1, 1) := by decide +kernel
theorem d2_6 : decode prog_73_method_1_code 6 = .ok (.putfield 9, 3) := by decide +kernel
theorem d2_9 : decode prog_73_method_1_code 9 = .ok (.aload_n 0, 1) := by decide +kernel
theorem d2_10 : decode prog_73_method_1_code 10 = .ok (.aload_n 2, 1) := by decide +kernel
theorem d2_11 : decode prog_73_method_1_code 11 = .ok (.putfield 15, 3) := by decide +kernel
theorem d2_14 : decode prog_73_method_1_code 14 = .ok (.aload_n 0, 1) := by decide +kernel
theorem d2_15 : decode prog_73_method_1_code 15 = .ok (.lload_n 3, 1) := by decide +kernel
theorem d2_16 : decode prog_73_method_1_code 16 = .ok (.putfield 19, 3) := by decide +kernel
theorem d2_19 : decode prog_73_method_1_code 19 = .ok (.aload_n 0, 1) := by decide +kernel
theorem d2_20 : decode prog_73_method_1_code 20 = .ok (.aload 5, 2) := by decide +kernel
theorem d2_22 : decode prog_73_method_1_code 22 = .ok (.putfield 23, 3) := by decide +kernel
theorem d2_25 : decode prog_73_method_1_code 25 = .ok (.aload_n 0, 1) := by decide +kernel
theorem d2_26 : decode prog_73_method_1_code 26 = .ok (.aload 6, 2) := by decide +kernel
theorem d2_28 : decode prog_73_method_1_code 28 = .ok (.putfield 27, 3) := by decide +kernel
theorem d2_31 : decode prog_73_method_1_code 31 = .ok (.return_, 1) := by decide +kernel
theorem pn_2 : plainName "com/example/frugal_xpath/frugalxpath/ElementTree$Pieces" = true := by first | (simp [plainName, overriddenIn]; done) | decide +kernel
theorem ef_2 (m : MethodId) (a0 : Addr) (p1 : Int32) (a2 : Addr) (q3 : Int64) (a4 : Addr) (a5 : Addr) : entryFrame m #[(.ref a0), (.int p1), (.ref a2), (.long q3), (.ref a4), (.ref a5)] 7 = mkF m 0 #[.val (.ref a0), .val (.int p1), .val (.ref a2), .val (.long q3), .second, .val (.ref a4), .val (.ref a5)] [] := by first | (simp [entryFrame, mkF, argsToLocals, Value.category]; done) | rfl
abbrev ROOM2 : Room := { frames := 2, cells := 0, slots := 0, locals := 24 }
def Q2 (Z : State) (a0 : Addr) (p1 : Int32) (a2 : Addr) (q3 : Int64) (a4 : Addr) (a5 : Addr)  (u_size : Value) (u_chainPositions : Value) (u_firstPosition : Value) (u_cutNodes : Value) (u_openNodes : Value) (h0 : Heap) (n0 : Nat) (v : Option Value) (h : Heap) (L : List Loc) : Prop := v = none ∧ Fr n0 L ∧ Keep h0 h [a0] ∧ Exa Z h a0 "com/example/frugal_xpath/frugalxpath/ElementTree$Pieces" ∧ Fld Z h a0 "com/example/frugal_xpath/frugalxpath/ElementTree$Pieces" "size" "I" (.int p1) ∧ Fld Z h a0 "com/example/frugal_xpath/frugalxpath/ElementTree$Pieces" "chainPositions" "[J" (.ref a2) ∧ Fld Z h a0 "com/example/frugal_xpath/frugalxpath/ElementTree$Pieces" "firstPosition" "J" (.long q3) ∧ Fld Z h a0 "com/example/frugal_xpath/frugalxpath/ElementTree$Pieces" "cutNodes" "[I" (.ref a4) ∧ Fld Z h a0 "com/example/frugal_xpath/frugalxpath/ElementTree$Pieces" "openNodes" "[I" (.ref a5)
set_option maxRecDepth 65536 in
set_option maxHeartbeats 40000000 in
theorem rm2 (l : Launch) (Z : State) (a0 : Array Value) (hw : ∀ d ∈ tables_1, d.before a0 Z = true) (ws : List Jvm.Cond) (a0 : Addr) (p1 : Int32) (a2 : Addr) (q3 : Int64) (a4 : Addr) (a5 : Addr)  (u_size : Value) (u_chainPositions : Value) (u_firstPosition : Value) (u_cutNodes : Value) (u_openNodes : Value) (h0 : Heap) (n0 : Nat) (Z0 : n0 ≤ h0.size)  (g_a0 : n0 ≤ a0) (E_a0 : Exa Z h0 a0 "com/example/frugal_xpath/frugalxpath/ElementTree$Pieces") (F_size : Fld Z h0 a0 "com/example/frugal_xpath/frugalxpath/ElementTree$Pieces" "size" "I" u_size) (F_chainPositions : Fld Z h0 a0 "com/example/frugal_xpath/frugalxpath/ElementTree$Pieces" "chainPositions" "[J" u_chainPositions) (F_firstPosition : Fld Z h0 a0 "com/example/frugal_xpath/frugalxpath/ElementTree$Pieces" "firstPosition" "J" u_firstPosition) (F_cutNodes : Fld Z h0 a0 "com/example/frugal_xpath/frugalxpath/ElementTree$Pieces" "cutNodes" "[I" u_cutNodes) (F_openNodes : Fld Z h0 a0 "com/example/frugal_xpath/frugalxpath/ElementTree$Pieces" "openNodes" "[I" u_openNodes) :
    MetFree l (⟨"com/example/frugal_xpath/frugalxpath/ElementTree$Pieces", "<init>", "(I[JJ[I[I)V"⟩ : MethodName) (head1 (Jvm.Cond.code (⟨"com/example/frugal_xpath/frugalxpath/ElementTree$Pieces", "<init>", "(I[JJ[I[I)V"⟩ : MethodName) prog_73_method_1_code 7 none :: ws) ROOM2) (fun a U => a = #[(.ref a0), (.int p1), (.ref a2), (.long q3), (.ref a4), (.ref a5)] ∧ Z.Warmed39 U.vm ∧ U.heap = h0) (fun _ _ _ _ _ => True) (fun _ U o U' => ∃ v L, o = .returned v ∧ Q2 Z a0 p1 a2 q3 a4 a5  u_size u_chainPositions u_firstPosition u_cutNodes u_openNodes h0 n0 v U'.heap L ∧ FrameEnd U o U' L ROOM2.cells ROOM2.slots) := by
  refine MetFree.of_bodySF (plainFor_of_name pn_2) hisR ?_
  intro p e s m args below meth c s₁ Bd hml0 hP hK
  obtain ⟨rfl, hZ, hh⟩ := hP
  have hx := Bd.exec
  have hby := Bd.bytes
  have hml : c.maxLocals = 7 := hml0
  have hown : s.vm.findClass "com/example/frugal_xpath/frugalxpath/ElementTree$Pieces" = some m.cls := findClass_of_methodNamed Bd.named
  have hnm := (name_of_methodNamed Bd.named Bd.method).1
  have X0 : Stand p l e ROOM2 s m #[(.ref a0), (.int p1), (.ref a2), (.long q3), (.ref a4), (.ref a5)] below meth c s₁ [] 0 0 := Stand.of_body Bd
  have e0 : s₁.heap = h0 := by rw [← hh, Bd.state]; rfl
  have N0 := Fr.nil n0
  refine Ends.via (A := s₁.setTop (mkF m 0 #[.val (.ref a0), .val (.int p1), .val (.ref a2), .val (.long q3), .second, .val (.ref a4), .val (.ref a5)] [])) (kc := ROOM2.cells) (ks := ROOM2.slots) (Q := (Q2 Z a0 p1 a2 q3 a4 a5  u_size u_chainPositions u_firstPosition u_cutNodes u_openNodes h0 n0)) (fun t k => castTop (ef_2 m a0 p1 a2 q3 a4 a5) k) ?_
  show Ends p e below s ROOM2.cells ROOM2.slots (Q2 Z a0 p1 a2 q3 a4 a5  u_size u_chainPositions u_firstPosition u_cutNodes u_openNodes h0 n0) (s₁.setTop (mkF m 0 #[.val (.ref a0), .val (.int p1), .val (.ref a2), .val (.long q3), .second, .val (.ref a4), .val (.ref a5)] []))
  refine Ends.via (fun _ k => XS.aloadN X0.here hx rfl (hb hby d2_0) rfl rfl k) ?_
  show Ends p e below s ROOM2.cells ROOM2.slots (Q2 Z a0 p1 a2 q3 a4 a5  u_size u_chainPositions u_firstPosition u_cutNodes u_openNodes h0 n0) (s₁.setTop (mkF m 1 #[.val (.ref a0), .val (.int p1), .val (.ref a2), .val (.long q3), .second, .val (.ref a4), .val (.ref a5)] [(.ref a0)]))
  obtain ⟨_, _, ⟨T16, L16, k16, n16⟩, -, X16, ⟨Lc16, hQ16, l16, y16, z16⟩, st16⟩ := X0.specialBack hx (y := (⟨"java/lang/Record", "<init>", "()V"⟩ : MethodName)) rfl hown (mvT hZ (hw _ (List.mem_of_getElem? (i := 13) rfl))) (mvT hZ (hw _ (List.mem_of_getElem? (i := 14) rfl))) (mvT hZ (hw _ (List.mem_of_getElem? (i := 17) rfl))) (by decide) (backOf (W := 0) (rm3 l Z _ hw [] a0   h0 n0 Z0) hZ (hw _ (List.mem_of_getElem? (i := 17) rfl)) (hw _ (List.mem_of_getElem? (i := 16) rfl)) (by decide) (by decide)) (g := (mkF m 1 #[.val (.ref a0), .val (.int p1), .val (.ref a2), .val (.long q3), .second, .val (.ref a4), .val (.ref a5)] [(.ref a0)])) rfl (by rw [hml]; rfl) (Steps.refl _) (a := a0) (argsL := []) (rest := []) (lenOf own_pd1 rfl) rfl (by show 2 * 0 + _ ≤ _; exact Nat.le_of_eq rfl) (hb hby d2_1) (fun _ _ => ⟨rfl, e0, (by decide : 0 + 0 ≤ _), (by decide : 0 + 0 ≤ _)⟩)
  dsimp only [Pt.U, Pt.locs, Pt.cells, Pt.slots] at X16 l16 y16 z16 st16 hQ16
  subst l16 y16 z16
  obtain ⟨rfl, Nq16, e16⟩ := hQ16
  have N16 := Fr.app N0 Nq16
  refine Ends.via (fun _ k => st16.trans k) ?_
  show Ends p e below s ROOM2.cells ROOM2.slots (Q2 Z a0 p1 a2 q3 a4 a5  u_size u_chainPositions u_firstPosition u_cutNodes u_openNodes h0 n0) (T16.setTop (mkF m 4 #[.val (.ref a0), .val (.int p1), .val (.ref a2), .val (.long q3), .second, .val (.ref a4), .val (.ref a5)] []))
  refine Ends.via (fun _ k => XS.aloadN X16.here hx rfl (hb hby d2_4) rfl rfl k) ?_
  show Ends p e below s ROOM2.cells ROOM2.slots (Q2 Z a0 p1 a2 q3 a4 a5  u_size u_chainPositions u_firstPosition u_cutNodes u_openNodes h0 n0) (T16.setTop (mkF m 5 #[.val (.ref a0), .val (.int p1), .val (.ref a2), .val (.long q3), .second, .val (.ref a4), .val (.ref a5)] [(.ref a0)]))
  refine Ends.via (fun _ k => XS.iloadN X16.here hx rfl (hb hby d2_5) rfl k) ?_
  show Ends p e below s ROOM2.cells ROOM2.slots (Q2 Z a0 p1 a2 q3 a4 a5  u_size u_chainPositions u_firstPosition u_cutNodes u_openNodes h0 n0) (T16.setTop (mkF m 6 #[.val (.ref a0), .val (.int p1), .val (.ref a2), .val (.long q3), .second, .val (.ref a4), .val (.ref a5)] [(.int p1), (.ref a0)]))
  obtain ⟨T18, h18, X18, e18, W18, st18⟩ := putF X16 hx hZ hown (host := "") (Or.inl (hw _ (List.mem_of_getElem? (i := 21) rfl))) Via.refl e16 F_size E_a0 (Or.inr ⟨(hw _ (List.mem_of_getElem? (i := 22) rfl)), rfl, hnm⟩) (hw _ (List.mem_of_getElem? (i := 7) rfl)) (ty := .int) (by decide) rfl rfl (g := (mkF m 6 #[.val (.ref a0), .val (.int p1), .val (.ref a2), .val (.long q3), .second, .val (.ref a4), .val (.ref a5)] [(.int p1), (.ref a0)])) rfl rfl (hb hby d2_6)
  have f18_0 := E_a0.wr W18
  have f18_1 := F_size.same W18
  have f18_2 := F_chainPositions.other W18 (Or.inr (slot_ne (Or.inr (hw _ (List.mem_of_getElem? (i := 24) rfl))) (Or.inr (hw _ (List.mem_of_getElem? (i := 22) rfl))) (by decide) (t := (.array .long)) (t' := .int) (by decide) (by decide)))
  have f18_3 := F_firstPosition.other W18 (Or.inr (slot_ne (Or.inr (hw _ (List.mem_of_getElem? (i := 26) rfl))) (Or.inr (hw _ (List.mem_of_getElem? (i := 22) rfl))) (by decide) (t := .long) (t' := .int) (by decide) (by decide)))
  have f18_4 := F_cutNodes.other W18 (Or.inr (slot_ne (Or.inr (hw _ (List.mem_of_getElem? (i := 28) rfl))) (Or.inr (hw _ (List.mem_of_getElem? (i := 22) rfl))) (by decide) (t := (.array .int)) (t' := .int) (by decide) (by decide)))
  have f18_5 := F_openNodes.other W18 (Or.inr (slot_ne (Or.inr (hw _ (List.mem_of_getElem? (i := 30) rfl))) (Or.inr (hw _ (List.mem_of_getElem? (i := 22) rfl))) (by decide) (t := (.array .int)) (t' := .int) (by decide) (by decide)))
  have Z18 : n0 ≤ h18.size := Nat.le_trans Z0 (Keep.of_wr W18).1
  have K18 := Keep.wr (Keep.refl h0 [a0]) W18 (Or.inl (List.mem_of_getElem? (i := 0) rfl))
  have N18 := Fr.snoc X18 N16 g_a0
  refine Ends.via st18 ?_
  show Ends p e below s ROOM2.cells ROOM2.slots (Q2 Z a0 p1 a2 q3 a4 a5  u_size u_chainPositions u_firstPosition u_cutNodes u_openNodes h0 n0) (T18.setTop (mkF m 9 #[.val (.ref a0), .val (.int p1), .val (.ref a2), .val (.long q3), .second, .val (.ref a4), .val (.ref a5)] []))
  refine Ends.via (fun _ k => XS.aloadN X18.here hx rfl (hb hby d2_9) rfl rfl k) ?_
  show Ends p e below s ROOM2.cells ROOM2.slots (Q2 Z a0 p1 a2 q3 a4 a5  u_size u_chainPositions u_firstPosition u_cutNodes u_openNodes h0 n0) (T18.setTop (mkF m 10 #[.val (.ref a0), .val (.int p1), .val (.ref a2), .val (.long q3), .second, .val (.ref a4), .val (.ref a5)] [(.ref a0)]))
  refine Ends.via (fun _ k => XS.aloadN X18.here hx rfl (hb hby d2_10) rfl rfl k) ?_
  show Ends p e below s ROOM2.cells ROOM2.slots (Q2 Z a0 p1 a2 q3 a4 a5  u_size u_chainPositions u_firstPosition u_cutNodes u_openNodes h0 n0) (T18.setTop (mkF m 11 #[.val (.ref a0), .val (.int p1), .val (.ref a2), .val (.long q3), .second, .val (.ref a4), .val (.ref a5)] [(.ref a2), (.ref a0)]))
  obtain ⟨T19, h19, X19, e19, W19, st19⟩ := putF X18 hx hZ hown (host := "") (Or.inl (hw _ (List.mem_of_getElem? (i := 23) rfl))) Via.refl e18 f18_2 f18_0 (Or.inr ⟨(hw _ (List.mem_of_getElem? (i := 24) rfl)), rfl, hnm⟩) (hw _ (List.mem_of_getElem? (i := 7) rfl)) (ty := (.array .long)) (by decide) rfl rfl (g := (mkF m 11 #[.val (.ref a0), .val (.int p1), .val (.ref a2), .val (.long q3), .second, .val (.ref a4), .val (.ref a5)] [(.ref a2), (.ref a0)])) rfl rfl (hb hby d2_11)
  have f19_0 := f18_0.wr W19
  have f19_1 := f18_1.other W19 (Or.inr (slot_ne (Or.inr (hw _ (List.mem_of_getElem? (i := 22) rfl))) (Or.inr (hw _ (List.mem_of_getElem? (i := 24) rfl))) (by decide) (t := .int) (t' := (.array .long)) (by decide) (by decide)))
  have f19_2 := f18_2.same W19
  have f19_3 := f18_3.other W19 (Or.inr (slot_ne (Or.inr (hw _ (List.mem_of_getElem? (i := 26) rfl))) (Or.inr (hw _ (List.mem_of_getElem? (i := 24) rfl))) (by decide) (t := .long) (t' := (.array .long)) (by decide) (by decide)))
  have f19_4 := f18_4.other W19 (Or.inr (slot_ne (Or.inr (hw _ (List.mem_of_getElem? (i := 28) rfl))) (Or.inr (hw _ (List.mem_of_getElem? (i := 24) rfl))) (by decide) (t := (.array .int)) (t' := (.array .long)) (by decide) (by decide)))
  have f19_5 := f18_5.other W19 (Or.inr (slot_ne (Or.inr (hw _ (List.mem_of_getElem? (i := 30) rfl))) (Or.inr (hw _ (List.mem_of_getElem? (i := 24) rfl))) (by decide) (t := (.array .int)) (t' := (.array .long)) (by decide) (by decide)))
  have Z19 : n0 ≤ h19.size := Nat.le_trans Z18 (Keep.of_wr W19).1
  have K19 := Keep.wr K18 W19 (Or.inl (List.mem_of_getElem? (i := 0) rfl))
  have N19 := Fr.snoc X19 N18 g_a0
  refine Ends.via st19 ?_
  show Ends p e below s ROOM2.cells ROOM2.slots (Q2 Z a0 p1 a2 q3 a4 a5  u_size u_chainPositions u_firstPosition u_cutNodes u_openNodes h0 n0) (T19.setTop (mkF m 14 #[.val (.ref a0), .val (.int p1), .val (.ref a2), .val (.long q3), .second, .val (.ref a4), .val (.ref a5)] []))
  refine Ends.via (fun _ k => XS.aloadN X19.here hx rfl (hb hby d2_14) rfl rfl k) ?_
  show Ends p e below s ROOM2.cells ROOM2.slots (Q2 Z a0 p1 a2 q3 a4 a5  u_size u_chainPositions u_firstPosition u_cutNodes u_openNodes h0 n0) (T19.setTop (mkF m 15 #[.val (.ref a0), .val (.int p1), .val (.ref a2), .val (.long q3), .second, .val (.ref a4), .val (.ref a5)] [(.ref a0)]))
  refine Ends.via (fun _ k => XS.lloadN X19.here hx rfl (hb hby d2_15) rfl k) ?_
  show Ends p e below s ROOM2.cells ROOM2.slots (Q2 Z a0 p1 a2 q3 a4 a5  u_size u_chainPositions u_firstPosition u_cutNodes u_openNodes h0 n0) (T19.setTop (mkF m 16 #[.val (.ref a0), .val (.int p1), .val (.ref a2), .val (.long q3), .second, .val (.ref a4), .val (.ref a5)] [(.long q3), (.ref a0)]))
  obtain ⟨T20, h20, X20, e20, W20, st20⟩ := putF X19 hx hZ hown (host := "") (Or.inl (hw _ (List.mem_of_getElem? (i := 25) rfl))) Via.refl e19 f19_3 f19_0 (Or.inr ⟨(hw _ (List.mem_of_getElem? (i := 26) rfl)), rfl, hnm⟩) (hw _ (List.mem_of_getElem? (i := 7) rfl)) (ty := .long) (by decide) rfl rfl (g := (mkF m 16 #[.val (.ref a0), .val (.int p1), .val (.ref a2), .val (.long q3), .second, .val (.ref a4), .val (.ref a5)] [(.long q3), (.ref a0)])) rfl rfl (hb hby d2_16)
  have f20_0 := f19_0.wr W20
  have f20_1 := f19_1.other W20 (Or.inr (slot_ne (Or.inr (hw _ (List.mem_of_getElem? (i := 22) rfl))) (Or.inr (hw _ (List.mem_of_getElem? (i := 26) rfl))) (by decide) (t := .int) (t' := .long) (by decide) (by decide)))
  have f20_2 := f19_2.other W20 (Or.inr (slot_ne (Or.inr (hw _ (List.mem_of_getElem? (i := 24) rfl))) (Or.inr (hw _ (List.mem_of_getElem? (i := 26) rfl))) (by decide) (t := (.array .long)) (t' := .long) (by decide) (by decide)))
  have f20_3 := f19_3.same W20
  have f20_4 := f19_4.other W20 (Or.inr (slot_ne (Or.inr (hw _ (List.mem_of_getElem? (i := 28) rfl))) (Or.inr (hw _ (List.mem_of_getElem? (i := 26) rfl))) (by decide) (t := (.array .int)) (t' := .long) (by decide) (by decide)))
  have f20_5 := f19_5.other W20 (Or.inr (slot_ne (Or.inr (hw _ (List.mem_of_getElem? (i := 30) rfl))) (Or.inr (hw _ (List.mem_of_getElem? (i := 26) rfl))) (by decide) (t := (.array .int)) (t' := .long) (by decide) (by decide)))
  have Z20 : n0 ≤ h20.size := Nat.le_trans Z19 (Keep.of_wr W20).1
  have K20 := Keep.wr K19 W20 (Or.inl (List.mem_of_getElem? (i := 0) rfl))
  have N20 := Fr.snoc X20 N19 g_a0
  refine Ends.via st20 ?_
  show Ends p e below s ROOM2.cells ROOM2.slots (Q2 Z a0 p1 a2 q3 a4 a5  u_size u_chainPositions u_firstPosition u_cutNodes u_openNodes h0 n0) (T20.setTop (mkF m 19 #[.val (.ref a0), .val (.int p1), .val (.ref a2), .val (.long q3), .second, .val (.ref a4), .val (.ref a5)] []))
  refine Ends.via (fun _ k => XS.aloadN X20.here hx rfl (hb hby d2_19) rfl rfl k) ?_
  show Ends p e below s ROOM2.cells ROOM2.slots (Q2 Z a0 p1 a2 q3 a4 a5  u_size u_chainPositions u_firstPosition u_cutNodes u_openNodes h0 n0) (T20.setTop (mkF m 20 #[.val (.ref a0), .val (.int p1), .val (.ref a2), .val (.long q3), .second, .val (.ref a4), .val (.ref a5)] [(.ref a0)]))
  refine Ends.via (fun _ k => XS.aload X20.here hx rfl (hb hby d2_20) rfl rfl k) ?_
  show Ends p e below s ROOM2.cells ROOM2.slots (Q2 Z a0 p1 a2 q3 a4 a5  u_size u_chainPositions u_firstPosition u_cutNodes u_openNodes h0 n0) (T20.setTop (mkF m 22 #[.val (.ref a0), .val (.int p1), .val (.ref a2), .val (.long q3), .second, .val (.ref a4), .val (.ref a5)] [(.ref a4), (.ref a0)]))
  obtain ⟨T21, h21, X21, e21, W21, st21⟩ := putF X20 hx hZ hown (host := "") (Or.inl (hw _ (List.mem_of_getElem? (i := 27) rfl))) Via.refl e20 f20_4 f20_0 (Or.inr ⟨(hw _ (List.mem_of_getElem? (i := 28) rfl)), rfl, hnm⟩) (hw _ (List.mem_of_getElem? (i := 7) rfl)) (ty := (.array .int)) (by decide) rfl rfl (g := (mkF m 22 #[.val (.ref a0), .val (.int p1), .val (.ref a2), .val (.long q3), .second, .val (.ref a4), .val (.ref a5)] [(.ref a4), (.ref a0)])) rfl rfl (hb hby d2_22)
  have f21_0 := f20_0.wr W21
  have f21_1 := f20_1.other W21 (Or.inr (slot_ne (Or.inr (hw _ (List.mem_of_getElem? (i := 22) rfl))) (Or.inr (hw _ (List.mem_of_getElem? (i := 28) rfl))) (by decide) (t := .int) (t' := (.array .int)) (by decide) (by decide)))
  have f21_2 := f20_2.other W21 (Or.inr (slot_ne (Or.inr (hw _ (List.mem_of_getElem? (i := 24) rfl))) (Or.inr (hw _ (List.mem_of_getElem? (i := 28) rfl))) (by decide) (t := (.array .long)) (t' := (.array .int)) (by decide) (by decide)))
  have f21_3 := f20_3.other W21 (Or.inr (slot_ne (Or.inr (hw _ (List.mem_of_getElem? (i := 26) rfl))) (Or.inr (hw _ (List.mem_of_getElem? (i := 28) rfl))) (by decide) (t := .long) (t' := (.array .int)) (by decide) (by decide)))
  have f21_4 := f20_4.same W21
  have f21_5 := f20_5.other W21 (Or.inr (slot_ne (Or.inr (hw _ (List.mem_of_getElem? (i := 30) rfl))) (Or.inr (hw _ (List.mem_of_getElem? (i := 28) rfl))) (by decide) (t := (.array .int)) (t' := (.array .int)) (by decide) (by decide)))
  have Z21 : n0 ≤ h21.size := Nat.le_trans Z20 (Keep.of_wr W21).1
  have K21 := Keep.wr K20 W21 (Or.inl (List.mem_of_getElem? (i := 0) rfl))
  have N21 := Fr.snoc X21 N20 g_a0
  refine Ends.via st21 ?_
  show Ends p e below s ROOM2.cells ROOM2.slots (Q2 Z a0 p1 a2 q3 a4 a5  u_size u_chainPositions u_firstPosition u_cutNodes u_openNodes h0 n0) (T21.setTop (mkF m 25 #[.val (.ref a0), .val (.int p1), .val (.ref a2), .val (.long q3), .second, .val (.ref a4), .val (.ref a5)] []))
  refine Ends.via (fun _ k => XS.aloadN X21.here hx rfl (hb hby d2_25) rfl rfl k) ?_
  show Ends p e below s ROOM2.cells ROOM2.slots (Q2 Z a0 p1 a2 q3 a4 a5  u_size u_chainPositions u_firstPosition u_cutNodes u_openNodes h0 n0) (T21.setTop (mkF m 26 #[.val (.ref a0), .val (.int p1), .val (.ref a2), .val (.long q3), .second, .val (.ref a4), .val (.ref a5)] [(.ref a0)]))
  refine Ends.via (fun _ k => XS.aload X21.here hx rfl (hb hby d2_26) rfl rfl k) ?_
  show Ends p e below s ROOM2.cells ROOM2.slots (Q2 Z a0 p1 a2 q3 a4 a5  u_size u_chainPositions u_firstPosition u_cutNodes u_openNodes h0 n0) (T21.setTop (mkF m 28 #[.val (.ref a0), .val (.int p1), .val (.ref a2), .val (.long q3), .second, .val (.ref a4), .val (.ref a5)] [(.ref a5), (.ref a0)]))
  obtain ⟨T22, h22, X22, e22, W22, st22⟩ := putF X21 hx hZ hown (host := "") (Or.inl (hw _ (List.mem_of_getElem? (i := 29) rfl))) Via.refl e21 f21_5 f21_0 (Or.inr ⟨(hw _ (List.mem_of_getElem? (i := 30) rfl)), rfl, hnm⟩) (hw _ (List.mem_of_getElem? (i := 7) rfl)) (ty := (.array .int)) (by decide) rfl rfl (g := (mkF m 28 #[.val (.ref a0), .val (.int p1), .val (.ref a2), .val (.long q3), .second, .val (.ref a4), .val (.ref a5)] [(.ref a5), (.ref a0)])) rfl rfl (hb hby d2_28)
  have f22_0 := f21_0.wr W22
  have f22_1 := f21_1.other W22 (Or.inr (slot_ne (Or.inr (hw _ (List.mem_of_getElem? (i := 22) rfl))) (Or.inr (hw _ (List.mem_of_getElem? (i := 30) rfl))) (by decide) (t := .int) (t' := (.array .int)) (by decide) (by decide)))
  have f22_2 := f21_2.other W22 (Or.inr (slot_ne (Or.inr (hw _ (List.mem_of_getElem? (i := 24) rfl))) (Or.inr (hw _ (List.mem_of_getElem? (i := 30) rfl))) (by decide) (t := (.array .long)) (t' := (.array .int)) (by decide) (by decide)))
  have f22_3 := f21_3.other W22 (Or.inr (slot_ne (Or.inr (hw _ (List.mem_of_getElem? (i := 26) rfl))) (Or.inr (hw _ (List.mem_of_getElem? (i := 30) rfl))) (by decide) (t := .long) (t' := (.array .int)) (by decide) (by decide)))
  have f22_4 := f21_4.other W22 (Or.inr (slot_ne (Or.inr (hw _ (List.mem_of_getElem? (i := 28) rfl))) (Or.inr (hw _ (List.mem_of_getElem? (i := 30) rfl))) (by decide) (t := (.array .int)) (t' := (.array .int)) (by decide) (by decide)))
  have f22_5 := f21_5.same W22
  have Z22 : n0 ≤ h22.size := Nat.le_trans Z21 (Keep.of_wr W22).1
  have K22 := Keep.wr K21 W22 (Or.inl (List.mem_of_getElem? (i := 0) rfl))
  have N22 := Fr.snoc X22 N21 g_a0
  refine Ends.via st22 ?_
  show Ends p e below s ROOM2.cells ROOM2.slots (Q2 Z a0 p1 a2 q3 a4 a5  u_size u_chainPositions u_firstPosition u_cutNodes u_openNodes h0 n0) (T22.setTop (mkF m 31 #[.val (.ref a0), .val (.int p1), .val (.ref a2), .val (.long q3), .second, .val (.ref a4), .val (.ref a5)] []))
  refine Ends.ret X22 (v := none) (fun _ => rfl) Bd.notSynchronized (fun fs hr => X22.returnOut hx Bd.returns (hb hby d2_31) hr) ?_ (by decide) (by decide)
  rw [e22]
  exact ⟨rfl, N22, K22, f22_0, f22_1, f22_2, f22_3, f22_4, f22_5⟩
theorem d5_0 : decode prog_73_method_3_code 0 = .ok (.iload_n 1, 1) := by decide +kernel
theorem d5_1 : decode prog_73_method_3_code 1 = .ok (.ifCond .ne 10, 3) := by decide +kernel
theorem d5_4 : decode prog_73_method_3_code 4 = .ok (.ldc2_w 30, 3) := by decide +kernel
theorem d5_7 : decode prog_73_method_3_code 7 = .ok (.lstore_n 2, 1) := by decide +kernel
theorem d5_8 : decode prog_73_method_3_code 8 = .ok (.goto 41, 3) := by decide +kernel
theorem d5_11 : decode prog_73_method_3_code 11 = .ok (.iload_n 1, 1) := by decide +kernel
theorem d5_12 : decode prog_73_method_3_code 12 = .ok (.aload_n 0, 1) := by decide +kernel
theorem d5_13 : decode prog_73_method_3_code 13 = .ok (.getfield 15, 3) := by decide +kernel
theorem d5_16 : decode prog_73_method_3_code 16 = .ok (.arraylength, 1) := by decide +kernel
theorem d5_17 : decode prog_73_method_3_code 17 = .ok (.if_icmp .gt 15, 3) := by decide +kernel
theorem d5_20 : decode prog_73_method_3_code 20 = .ok (.aload_n 0, 1) := by decide +kernel
theorem d5_21 : decode prog_73_method_3_code 21 = .ok (.getfield 15, 3) := by decide +kernel
theorem d5_24 : decode prog_73_method_3_code 24 = .ok (.iload_n 1, 1) := by decide +kernel
theorem d5_25 : decode prog_73_method_3_code 25 = .ok (.iconst 1, 1) := by decide +kernel
theorem d5_26 : decode prog_73_method_3_code 26 = .ok (.isub, 1) := by decide +kernel
theorem d5_27 : decode prog_73_method_3_code 27 = .ok (.laload, 1) := by decide +kernel
theorem d5_28 : decode prog_73_method_3_code 28 = .ok (.lstore_n 2, 1) := by decide +kernel
theorem d5_29 : decode prog_73_method_3_code 29 = .ok (.goto 20, 3) := by decide +kernel
theorem d5_32 : decode prog_73_method_3_code 32 = .ok (.aload_n 0, 1) := by decide +kernel
theorem d5_33 : decode prog_73_method_3_code 33 = .ok (.getfield 19, 3) := by decide +kernel
theorem d5_36 : decode prog_73_method_3_code 36 = .ok (.iload_n 1, 1) := by decide +kernel
theorem d5_37 : decode prog_73_method_3_code 37 = .ok (.i2l, 1) := by decide +kernel
theorem d5_38 : decode prog_73_method_3_code 38 = .ok (.ladd, 1) := by decide +kernel
theorem d5_39 : decode prog_73_method_3_code 39 = .ok (.aload_n 0, 1) := by decide +kernel
theorem d5_40 : decode prog_73_method_3_code 40 = .ok (.getfield 15, 3) := by decide +kernel
theorem d5_43 : decode prog_73_method_3_code 43 = .ok (.arraylength, 1) := by decide +kernel
theorem d5_44 : decode prog_73_method_3_code 44 = .ok (.i2l, 1) := by decide +kernel
theorem d5_45 : decode prog_73_method_3_code 45 = .ok (.lsub, 1) := by decide +kernel
theorem d5_46 : decode prog_73_method_3_code 46 = .ok (.lconst 1, 1) := by decide +kernel
theorem d5_47 : decode prog_73_method_3_code 47 = .ok (.lsub, 1) := by decide +kernel
theorem d5_48 : decode prog_73_method_3_code 48 = .ok (.lstore_n 2, 1) := by decide +kernel
theorem d5_49 : decode prog_73_method_3_code 49 = .ok (.lload_n 2, 1) := by decide +kernel
theorem d5_50 : decode prog_73_method_3_code 50 = .ok (.lreturn, 1) := by decide +kernel
theorem pn_5 : plainName "com/example/frugal_xpath/frugalxpath/ElementTree$Pieces" = true := by first | (simp [plainName, overriddenIn]; done) | decide +kernel
theorem ef_5 (m : MethodId) (a0 : Addr) (p1 : Int32) : entryFrame m #[(.ref a0), (.int p1)] 4 = mkF m 0 #[.val (.ref a0), .val (.int p1), .unset, .unset] [] := by first | (simp [entryFrame, mkF, argsToLocals, Value.category]; done) | rfl
def fn5 (p1 : Int32) (zl : Int32) (wv : Int64) (w_firstPosition : Int64) : Int64 := (let v33 : Int64 := (if p1 = (0 : Int32) then (-1 : Int64) else (if zl < p1 then (((w_firstPosition + (p1.toInt64)) - (zl.toInt64)) - (1 : Int64)) else wv)); v33)
abbrev ROOM5 : Room := { frames := 0, cells := 0, slots := 0, locals := 0 }
def Q5 (Z : State) (a0 : Addr) (p1 : Int32) (k : ClassId) (zl : Int32) (vs : List Value) (d : Value) (wv : Int64) (w_chainPositions : Addr) (w_firstPosition : Int64) (h0 : Heap) (n0 : Nat) (v : Option Value) (h : Heap) (L : List Loc) : Prop := v = some (.long (fn5 p1 zl wv w_firstPosition)) ∧ Fr n0 L ∧ h = h0
set_option maxRecDepth 65536 in
set_option maxHeartbeats 40000000 in
theorem rm5 (l : Launch) (Z : State) (a0 : Array Value) (hw : ∀ d ∈ tables_1, d.before a0 Z = true) (ws : List Jvm.Cond) (a0 : Addr) (p1 : Int32) (k : ClassId) (zl : Int32) (vs : List Value) (d : Value) (wv : Int64) (w_chainPositions : Addr) (w_firstPosition : Int64) (h0 : Heap) (n0 : Nat) (Z0 : n0 ≤ h0.size) (Vc : Arv Z h0 w_chainPositions k .long zl vs d) (hel : ¬ (p1 = (0 : Int32)) → ¬ (zl < p1) → (¬ (p1 - (1 : Int32)) < 0 ∧ (p1 - (1 : Int32)) < zl ∧ vs.getD (p1 - (1 : Int32)).toNatClampNeg d = (.long wv))) (F_chainPositions : Fld Z h0 a0 "com/example/frugal_xpath/frugalxpath/ElementTree$Pieces" "chainPositions" "[J" (.ref w_chainPositions)) (F_firstPosition : Fld Z h0 a0 "com/example/frugal_xpath/frugalxpath/ElementTree$Pieces" "firstPosition" "J" (.long w_firstPosition)) :
    MetFree l (⟨"com/example/frugal_xpath/frugalxpath/ElementTree$Pieces", "position", "(I)J"⟩ : MethodName) (head1 (Jvm.Cond.code (⟨"com/example/frugal_xpath/frugalxpath/ElementTree$Pieces", "position", "(I)J"⟩ : MethodName) prog_73_method_3_code 4 (some .long) :: ws) ROOM5) (fun a U => a = #[(.ref a0), (.int p1)] ∧ Z.Warmed39 U.vm ∧ U.heap = h0) (fun _ _ _ _ _ => True) (fun _ U o U' => ∃ v L, o = .returned v ∧ Q5 Z a0 p1 k zl vs d wv w_chainPositions w_firstPosition h0 n0 v U'.heap L ∧ FrameEnd U o U' L ROOM5.cells ROOM5.slots) := by
  refine MetFree.of_bodySF (plainFor_of_name pn_5) hisR ?_
  intro p e s m args below meth c s₁ Bd hml0 hP hK
  obtain ⟨rfl, hZ, hh⟩ := hP
  have hx := Bd.exec
  have hby := Bd.bytes
  have hml : c.maxLocals = 4 := hml0
  have hown : s.vm.findClass "com/example/frugal_xpath/frugalxpath/ElementTree$Pieces" = some m.cls := findClass_of_methodNamed Bd.named
  have hnm := (name_of_methodNamed Bd.named Bd.method).1
  have X0 : Stand p l e ROOM5 s m #[(.ref a0), (.int p1)] below meth c s₁ [] 0 0 := Stand.of_body Bd
  have e0 : s₁.heap = h0 := by rw [← hh, Bd.state]; rfl
  have N0 := Fr.nil n0
  refine Ends.via (A := s₁.setTop (mkF m 0 #[.val (.ref a0), .val (.int p1), .unset, .unset] [])) (kc := ROOM5.cells) (ks := ROOM5.slots) (Q := (Q5 Z a0 p1 k zl vs d wv w_chainPositions w_firstPosition h0 n0)) (fun t k => castTop (ef_5 m a0 p1) k) ?_
  show Ends p e below s ROOM5.cells ROOM5.slots (Q5 Z a0 p1 k zl vs d wv w_chainPositions w_firstPosition h0 n0) (s₁.setTop (mkF m 0 #[.val (.ref a0), .val (.int p1), .unset, .unset] []))
  refine Ends.via (fun _ k => XS.iloadN X0.here hx rfl (hb hby d5_0) rfl k) ?_
  show Ends p e below s ROOM5.cells ROOM5.slots (Q5 Z a0 p1 k zl vs d wv w_chainPositions w_firstPosition h0 n0) (s₁.setTop (mkF m 1 #[.val (.ref a0), .val (.int p1), .unset, .unset] [(.int p1)]))
  have J34 : ∀ (Tj34 : State) (Lj34 : List Loc) (Xj34 : Stand p l e ROOM5 s m #[(.ref a0), (.int p1)] below meth c Tj34 Lj34 0 0) (ej34 : Tj34.heap = h0) (Nj34 : Fr n0 Lj34) (v33 : Int64), (if p1 = (0 : Int32) then (-1 : Int64) else (if zl < p1 then (((w_firstPosition + (p1.toInt64)) - (zl.toInt64)) - (1 : Int64)) else wv)) = v33 → Ends p e below s ROOM5.cells ROOM5.slots (Q5 Z a0 p1 k zl vs d wv w_chainPositions w_firstPosition h0 n0) (Tj34.setTop (mkF m 49 #[.val (.ref a0), .val (.int p1), .val (.long v33), .second] [])) := by
    intro Tj34 Lj34 Xj34 ej34 Nj34 v33 hv33
    refine Ends.via (fun _ k => XS.lloadN Xj34.here hx rfl (hb hby d5_49) rfl k) ?_
    show Ends p e below s ROOM5.cells ROOM5.slots (Q5 Z a0 p1 k zl vs d wv w_chainPositions w_firstPosition h0 n0) (Tj34.setTop (mkF m 50 #[.val (.ref a0), .val (.int p1), .val (.long v33), .second] [(.long v33)]))
    refine Ends.ret Xj34 (v := some (.long v33)) (fun h => by rw [Bd.returns] at h; cases h) Bd.notSynchronized (fun fs hr => retOut Xj34 hx Bd.returns rfl (Or.inr (Or.inl ⟨rfl, rfl, _, rfl⟩)) (hb hby d5_50) hr) ?_ (by decide) (by decide)
    have hfn : fn5 p1 zl wv w_firstPosition = v33 := by subst hv33; simp only [fn5]
    exact ⟨by rw [hfn], Nj34, ej34⟩
  by_cases hc35 : p1 = (0 : Int32)
  · refine Ends.via (fun _ k => XS.ifNo X0.here hx rfl (hb hby d5_1) rfl ((if0 _ _).trans (teq hc35).2) k) ?_
    show Ends p e below s ROOM5.cells ROOM5.slots (Q5 Z a0 p1 k zl vs d wv w_chainPositions w_firstPosition h0 n0) (s₁.setTop (mkF m 4 #[.val (.ref a0), .val (.int p1), .unset, .unset] []))
    refine Ends.via (X0.ldc2Long hx hown (mvT hZ (hw _ (List.mem_of_getElem? (i := 36) rfl))) (g := (mkF m 4 #[.val (.ref a0), .val (.int p1), .unset, .unset] [])) rfl (hb hby d5_4)) ?_
    show Ends p e below s ROOM5.cells ROOM5.slots (Q5 Z a0 p1 k zl vs d wv w_chainPositions w_firstPosition h0 n0) (s₁.setTop (mkF m 7 #[.val (.ref a0), .val (.int p1), .unset, .unset] [(.long (-1 : Int64))]))
    refine Ends.via (fun _ k => XS.lstoreN X0.here hx rfl (hb hby d5_7) rfl (l' := #[.val (.ref a0), .val (.int p1), .val (.long (-1 : Int64)), .second]) rfl k) ?_
    show Ends p e below s ROOM5.cells ROOM5.slots (Q5 Z a0 p1 k zl vs d wv w_chainPositions w_firstPosition h0 n0) (s₁.setTop (mkF m 8 #[.val (.ref a0), .val (.int p1), .val (.long (-1 : Int64)), .second] []))
    refine Ends.via (fun _ k => XS.goto X0.here hx rfl (pc0 := 8) (pc' := 49) rfl (hb hby d5_8) (by decide) (by decide) k) ?_
    show Ends p e below s ROOM5.cells ROOM5.slots (Q5 Z a0 p1 k zl vs d wv w_chainPositions w_firstPosition h0 n0) (s₁.setTop (mkF m 49 #[.val (.ref a0), .val (.int p1), .val (.long (-1 : Int64)), .second] []))
    exact J34 s₁ _ X0 e0 N0 (-1 : Int64) (by first | (simp only [if_pos hc35]; done) | rfl)
  · refine Ends.via (fun _ k => XS.ifYes X0.here hx rfl (pc0 := 1) (pc' := 11) rfl (hb hby d5_1) rfl ((if0 _ _).trans (feq hc35).2) (by decide) (by decide) k) ?_
    show Ends p e below s ROOM5.cells ROOM5.slots (Q5 Z a0 p1 k zl vs d wv w_chainPositions w_firstPosition h0 n0) (s₁.setTop (mkF m 11 #[.val (.ref a0), .val (.int p1), .unset, .unset] []))
    refine Ends.via (fun _ k => XS.iloadN X0.here hx rfl (hb hby d5_11) rfl k) ?_
    show Ends p e below s ROOM5.cells ROOM5.slots (Q5 Z a0 p1 k zl vs d wv w_chainPositions w_firstPosition h0 n0) (s₁.setTop (mkF m 12 #[.val (.ref a0), .val (.int p1), .unset, .unset] [(.int p1)]))
    refine Ends.via (fun _ k => XS.aloadN X0.here hx rfl (hb hby d5_12) rfl rfl k) ?_
    show Ends p e below s ROOM5.cells ROOM5.slots (Q5 Z a0 p1 k zl vs d wv w_chainPositions w_firstPosition h0 n0) (s₁.setTop (mkF m 13 #[.val (.ref a0), .val (.int p1), .unset, .unset] [(.ref a0), (.int p1)]))
    obtain ⟨T36, X36, e36, st36⟩ := getF X0 hx hZ hown (host := "") (Or.inl (hw _ (List.mem_of_getElem? (i := 23) rfl))) Via.refl e0 F_chainPositions (g := (mkF m 13 #[.val (.ref a0), .val (.int p1), .unset, .unset] [(.ref a0), (.int p1)])) rfl rfl (hb hby d5_13)
    refine Ends.via st36 ?_
    show Ends p e below s ROOM5.cells ROOM5.slots (Q5 Z a0 p1 k zl vs d wv w_chainPositions w_firstPosition h0 n0) (T36.setTop (mkF m 16 #[.val (.ref a0), .val (.int p1), .unset, .unset] [(.ref w_chainPositions), (.int p1)]))
    obtain ⟨cl37, Ar37, qk37, S37, Ng37, Hs37, Gf37⟩ := id Vc
    refine Ends.via (by have q := X36.arraylength hx (by rw [e36]; exact Ar37.1) (State.isArrayOf_alike hZ.alike Ar37.2.1) (g := (mkF m 16 #[.val (.ref a0), .val (.int p1), .unset, .unset] [(.ref w_chainPositions), (.int p1)])) rfl rfl (hb hby d5_16); rw [len_of S37 Ng37] at q; exact q) ?_
    show Ends p e below s ROOM5.cells ROOM5.slots (Q5 Z a0 p1 k zl vs d wv w_chainPositions w_firstPosition h0 n0) (T36.setTop (mkF m 17 #[.val (.ref a0), .val (.int p1), .unset, .unset] [(.int zl), (.int p1)]))
    by_cases hc38 : zl < p1
    · refine Ends.via (fun _ k => XS.icmpYes X36.here hx rfl (pc0 := 17) (pc' := 32) rfl (hb hby d5_17) rfl (tlt hc38).2.2.1 (by decide) (by decide) k) ?_
      show Ends p e below s ROOM5.cells ROOM5.slots (Q5 Z a0 p1 k zl vs d wv w_chainPositions w_firstPosition h0 n0) (T36.setTop (mkF m 32 #[.val (.ref a0), .val (.int p1), .unset, .unset] []))
      refine Ends.via (fun _ k => XS.aloadN X36.here hx rfl (hb hby d5_32) rfl rfl k) ?_
      show Ends p e below s ROOM5.cells ROOM5.slots (Q5 Z a0 p1 k zl vs d wv w_chainPositions w_firstPosition h0 n0) (T36.setTop (mkF m 33 #[.val (.ref a0), .val (.int p1), .unset, .unset] [(.ref a0)]))
      obtain ⟨T39, X39, e39, st39⟩ := getF X36 hx hZ hown (host := "") (Or.inl (hw _ (List.mem_of_getElem? (i := 25) rfl))) Via.refl e36 F_firstPosition (g := (mkF m 33 #[.val (.ref a0), .val (.int p1), .unset, .unset] [(.ref a0)])) rfl rfl (hb hby d5_33)
      refine Ends.via st39 ?_
      show Ends p e below s ROOM5.cells ROOM5.slots (Q5 Z a0 p1 k zl vs d wv w_chainPositions w_firstPosition h0 n0) (T39.setTop (mkF m 36 #[.val (.ref a0), .val (.int p1), .unset, .unset] [(.long w_firstPosition)]))
      refine Ends.via (fun _ k => XS.iloadN X39.here hx rfl (hb hby d5_36) rfl k) ?_
      show Ends p e below s ROOM5.cells ROOM5.slots (Q5 Z a0 p1 k zl vs d wv w_chainPositions w_firstPosition h0 n0) (T39.setTop (mkF m 37 #[.val (.ref a0), .val (.int p1), .unset, .unset] [(.int p1), (.long w_firstPosition)]))
      refine Ends.via (fun _ k => XS.i2l X39.here hx rfl (hb hby d5_37) rfl k) ?_
      show Ends p e below s ROOM5.cells ROOM5.slots (Q5 Z a0 p1 k zl vs d wv w_chainPositions w_firstPosition h0 n0) (T39.setTop (mkF m 38 #[.val (.ref a0), .val (.int p1), .unset, .unset] [(.long (p1.toInt64)), (.long w_firstPosition)]))
      refine Ends.via (fun _ k => XS.ladd X39.here hx rfl (hb hby d5_38) rfl k) ?_
      show Ends p e below s ROOM5.cells ROOM5.slots (Q5 Z a0 p1 k zl vs d wv w_chainPositions w_firstPosition h0 n0) (T39.setTop (mkF m 39 #[.val (.ref a0), .val (.int p1), .unset, .unset] [(.long (w_firstPosition + (p1.toInt64)))]))
      refine Ends.via (fun _ k => XS.aloadN X39.here hx rfl (hb hby d5_39) rfl rfl k) ?_
      show Ends p e below s ROOM5.cells ROOM5.slots (Q5 Z a0 p1 k zl vs d wv w_chainPositions w_firstPosition h0 n0) (T39.setTop (mkF m 40 #[.val (.ref a0), .val (.int p1), .unset, .unset] [(.ref a0), (.long (w_firstPosition + (p1.toInt64)))]))
      obtain ⟨T40, X40, e40, st40⟩ := getF X39 hx hZ hown (host := "") (Or.inl (hw _ (List.mem_of_getElem? (i := 23) rfl))) Via.refl e39 F_chainPositions (g := (mkF m 40 #[.val (.ref a0), .val (.int p1), .unset, .unset] [(.ref a0), (.long (w_firstPosition + (p1.toInt64)))])) rfl rfl (hb hby d5_40)
      refine Ends.via st40 ?_
      show Ends p e below s ROOM5.cells ROOM5.slots (Q5 Z a0 p1 k zl vs d wv w_chainPositions w_firstPosition h0 n0) (T40.setTop (mkF m 43 #[.val (.ref a0), .val (.int p1), .unset, .unset] [(.ref w_chainPositions), (.long (w_firstPosition + (p1.toInt64)))]))
      obtain ⟨cl41, Ar41, qk41, S41, Ng41, Hs41, Gf41⟩ := id Vc
      refine Ends.via (by have q := X40.arraylength hx (by rw [e40]; exact Ar41.1) (State.isArrayOf_alike hZ.alike Ar41.2.1) (g := (mkF m 43 #[.val (.ref a0), .val (.int p1), .unset, .unset] [(.ref w_chainPositions), (.long (w_firstPosition + (p1.toInt64)))])) rfl rfl (hb hby d5_43); rw [len_of S41 Ng41] at q; exact q) ?_
      show Ends p e below s ROOM5.cells ROOM5.slots (Q5 Z a0 p1 k zl vs d wv w_chainPositions w_firstPosition h0 n0) (T40.setTop (mkF m 44 #[.val (.ref a0), .val (.int p1), .unset, .unset] [(.int zl), (.long (w_firstPosition + (p1.toInt64)))]))
      refine Ends.via (fun _ k => XS.i2l X40.here hx rfl (hb hby d5_44) rfl k) ?_
      show Ends p e below s ROOM5.cells ROOM5.slots (Q5 Z a0 p1 k zl vs d wv w_chainPositions w_firstPosition h0 n0) (T40.setTop (mkF m 45 #[.val (.ref a0), .val (.int p1), .unset, .unset] [(.long (zl.toInt64)), (.long (w_firstPosition + (p1.toInt64)))]))
      refine Ends.via (fun _ k => XS.lsub X40.here hx rfl (hb hby d5_45) rfl k) ?_
      show Ends p e below s ROOM5.cells ROOM5.slots (Q5 Z a0 p1 k zl vs d wv w_chainPositions w_firstPosition h0 n0) (T40.setTop (mkF m 46 #[.val (.ref a0), .val (.int p1), .unset, .unset] [(.long ((w_firstPosition + (p1.toInt64)) - (zl.toInt64)))]))
      refine Ends.via (fun _ k => XS.lconst X40.here hx rfl (hb hby d5_46) k) ?_
      show Ends p e below s ROOM5.cells ROOM5.slots (Q5 Z a0 p1 k zl vs d wv w_chainPositions w_firstPosition h0 n0) (T40.setTop (mkF m 47 #[.val (.ref a0), .val (.int p1), .unset, .unset] [(.long (1 : Int64)), (.long ((w_firstPosition + (p1.toInt64)) - (zl.toInt64)))]))
      refine Ends.via (fun _ k => XS.lsub X40.here hx rfl (hb hby d5_47) rfl k) ?_
      show Ends p e below s ROOM5.cells ROOM5.slots (Q5 Z a0 p1 k zl vs d wv w_chainPositions w_firstPosition h0 n0) (T40.setTop (mkF m 48 #[.val (.ref a0), .val (.int p1), .unset, .unset] [(.long (((w_firstPosition + (p1.toInt64)) - (zl.toInt64)) - (1 : Int64)))]))
      refine Ends.via (fun _ k => XS.lstoreN X40.here hx rfl (hb hby d5_48) rfl (l' := #[.val (.ref a0), .val (.int p1), .val (.long (((w_firstPosition + (p1.toInt64)) - (zl.toInt64)) - (1 : Int64))), .second]) rfl k) ?_
      show Ends p e below s ROOM5.cells ROOM5.slots (Q5 Z a0 p1 k zl vs d wv w_chainPositions w_firstPosition h0 n0) (T40.setTop (mkF m 49 #[.val (.ref a0), .val (.int p1), .val (.long (((w_firstPosition + (p1.toInt64)) - (zl.toInt64)) - (1 : Int64))), .second] []))
      exact J34 T40 _ X40 e40 N0 (((w_firstPosition + (p1.toInt64)) - (zl.toInt64)) - (1 : Int64)) (by first | (simp only [if_neg hc35, if_pos hc38]; done) | rfl)
    · refine Ends.via (fun _ k => XS.icmpNo X36.here hx rfl (hb hby d5_17) rfl (flt hc38).2.2.1 k) ?_
      show Ends p e below s ROOM5.cells ROOM5.slots (Q5 Z a0 p1 k zl vs d wv w_chainPositions w_firstPosition h0 n0) (T36.setTop (mkF m 20 #[.val (.ref a0), .val (.int p1), .unset, .unset] []))
      refine Ends.via (fun _ k => XS.aloadN X36.here hx rfl (hb hby d5_20) rfl rfl k) ?_
      show Ends p e below s ROOM5.cells ROOM5.slots (Q5 Z a0 p1 k zl vs d wv w_chainPositions w_firstPosition h0 n0) (T36.setTop (mkF m 21 #[.val (.ref a0), .val (.int p1), .unset, .unset] [(.ref a0)]))
      obtain ⟨T42, X42, e42, st42⟩ := getF X36 hx hZ hown (host := "") (Or.inl (hw _ (List.mem_of_getElem? (i := 23) rfl))) Via.refl e36 F_chainPositions (g := (mkF m 21 #[.val (.ref a0), .val (.int p1), .unset, .unset] [(.ref a0)])) rfl rfl (hb hby d5_21)
      refine Ends.via st42 ?_
      show Ends p e below s ROOM5.cells ROOM5.slots (Q5 Z a0 p1 k zl vs d wv w_chainPositions w_firstPosition h0 n0) (T42.setTop (mkF m 24 #[.val (.ref a0), .val (.int p1), .unset, .unset] [(.ref w_chainPositions)]))
      refine Ends.via (fun _ k => XS.iloadN X42.here hx rfl (hb hby d5_24) rfl k) ?_
      show Ends p e below s ROOM5.cells ROOM5.slots (Q5 Z a0 p1 k zl vs d wv w_chainPositions w_firstPosition h0 n0) (T42.setTop (mkF m 25 #[.val (.ref a0), .val (.int p1), .unset, .unset] [(.int p1), (.ref w_chainPositions)]))
      refine Ends.via (fun _ k => XS.iconst X42.here hx rfl (hb hby d5_25) k) ?_
      show Ends p e below s ROOM5.cells ROOM5.slots (Q5 Z a0 p1 k zl vs d wv w_chainPositions w_firstPosition h0 n0) (T42.setTop (mkF m 26 #[.val (.ref a0), .val (.int p1), .unset, .unset] [(.int (1 : Int32)), (.int p1), (.ref w_chainPositions)]))
      refine Ends.via (fun _ k => XS.isub X42.here hx rfl (hb hby d5_26) rfl k) ?_
      show Ends p e below s ROOM5.cells ROOM5.slots (Q5 Z a0 p1 k zl vs d wv w_chainPositions w_firstPosition h0 n0) (T42.setTop (mkF m 27 #[.val (.ref a0), .val (.int p1), .unset, .unset] [(.int (p1 - (1 : Int32))), (.ref w_chainPositions)]))
      obtain ⟨cl43, Ar43, qk43, S43, Ng43, Hs43, Gf43⟩ := id Vc
      have hin43 : ¬ ((p1 - (1 : Int32)) < 0 ∨ cl43.slots.size ≤ ((p1 - (1 : Int32))).toNatClampNeg) := inb_of S43 ⟨(hel hc35 hc38).1, (hel hc35 hc38).2.1⟩
      have hat43 : cl43.slots[((p1 - (1 : Int32))).toNatClampNeg]? = some (.long wv) := Hs43.at hin43 (hel hc35 hc38).2.2
      refine Ends.via (X42.laload hx (j := (p1 - (1 : Int32))) (v := (.long wv)) (by rw [e42]; exact Ar43.1) (State.isArrayOf_alike hZ.alike Ar43.2.1) Ar43.2.2 hin43 hat43 (g := (mkF m 27 #[.val (.ref a0), .val (.int p1), .unset, .unset] [(.int (p1 - (1 : Int32))), (.ref w_chainPositions)])) rfl rfl (hb hby d5_27)) ?_
      show Ends p e below s ROOM5.cells ROOM5.slots (Q5 Z a0 p1 k zl vs d wv w_chainPositions w_firstPosition h0 n0) (T42.setTop (mkF m 28 #[.val (.ref a0), .val (.int p1), .unset, .unset] [(.long wv)]))
      refine Ends.via (fun _ k => XS.lstoreN X42.here hx rfl (hb hby d5_28) rfl (l' := #[.val (.ref a0), .val (.int p1), .val (.long wv), .second]) rfl k) ?_
      show Ends p e below s ROOM5.cells ROOM5.slots (Q5 Z a0 p1 k zl vs d wv w_chainPositions w_firstPosition h0 n0) (T42.setTop (mkF m 29 #[.val (.ref a0), .val (.int p1), .val (.long wv), .second] []))
      refine Ends.via (fun _ k => XS.goto X42.here hx rfl (pc0 := 29) (pc' := 49) rfl (hb hby d5_29) (by decide) (by decide) k) ?_
      show Ends p e below s ROOM5.cells ROOM5.slots (Q5 Z a0 p1 k zl vs d wv w_chainPositions w_firstPosition h0 n0) (T42.setTop (mkF m 49 #[.val (.ref a0), .val (.int p1), .val (.long wv), .second] []))
      exact J34 T42 _ X42 e42 N0 wv (by first | (simp only [if_neg hc35, if_neg hc38]; done) | rfl)
theorem own_c (p v : Int32) (h : (((p.toUInt32 >>> ((1 : Int32) &&& 31).toUInt32).toInt32) &&& (3 : Int32)) = v) : v = 0 ∨ v = 1 ∨ v = 2 ∨ v = 3 := by
  have h1 := c_mask ((p.toUInt32 >>> ((1 : Int32) &&& 31).toUInt32).toInt32) 3 2 (by decide) (by decide)
  rw [h] at h1
  have e0 : (0 : Int32).toInt = 0 := rfl
  have e1 : (1 : Int32).toInt = 1 := rfl
  have e2 : (2 : Int32).toInt = 2 := rfl
  have e3 : (3 : Int32).toInt = 3 := rfl
  simp only [← Int32.toInt_inj, e0, e1, e2, e3]; omega
theorem own_node (p0 p1 v : Int32) (h : (if (p0 &&& (1 : Int32)) = (0 : Int32) then (p1 &&& (1073741823 : Int32)) else (p1 &&& (3 : Int32))) = v) : 0 ≤ v.toInt := by
  have h1 := c_mask p1 1073741823 30 (by decide) (by decide)
  have h2 := c_mask p1 3 2 (by decide) (by decide)
  rw [← h]; split <;> omega
theorem own_els (node : Int32) (hn : 0 ≤ node.toInt) (h0 : ¬ node = (0 : Int32)) : (∀ c : Int32, ¬ c < node → c.toInt = 0 → False) ∧ (∀ c : Int32, ¬ c < node → c.toInt = 1 → node = 1) ∧ (∀ c : Int32, ¬ c < node → c.toInt = 2 → node = 1 ∨ node = 2) ∧ (∀ c : Int32, ¬ c < node → c.toInt = 3 → node = 1 ∨ node = 2 ∨ node = 3) := by
  have e0 : (0 : Int32).toInt = 0 := rfl
  have e1 : (1 : Int32).toInt = 1 := rfl
  have e2 : (2 : Int32).toInt = 2 := rfl
  have e3 : (3 : Int32).toInt = 3 := rfl
  have n0 : node.toInt ≠ 0 := fun h => h0 (Int32.toInt_inj.mp h)
  simp only [← Int32.toInt_inj, Int32.lt_iff_toInt_lt, e1, e2, e3]
  refine ⟨?_, ?_, ?_, ?_⟩ <;> intro c hc he <;> omega
theorem own_el0 (x y z : Int64) (node : Int32) (hn : 0 ≤ node.toInt) : ¬ (node = (0 : Int32)) → ¬ ((0 : Int32) < node) → (¬ (node - (1 : Int32)) < 0 ∧ (node - (1 : Int32)) < (0 : Int32) ∧ ([] : List Value).getD (node - (1 : Int32)).toNatClampNeg (.long (0 : Int64)) = (.long (if node = (1 : Int32) then x else (if node = (2 : Int32) then y else z)))) :=
  fun h0 hc => ((own_els node hn h0).1 0 hc rfl).elim
theorem own_el1 (x y z : Int64) (node : Int32) (hn : 0 ≤ node.toInt) : ¬ (node = (0 : Int32)) → ¬ ((1 : Int32) < node) → (¬ (node - (1 : Int32)) < 0 ∧ (node - (1 : Int32)) < (1 : Int32) ∧ ([(.long x)] : List Value).getD (node - (1 : Int32)).toNatClampNeg (.long (0 : Int64)) = (.long (if node = (1 : Int32) then x else (if node = (2 : Int32) then y else z)))) := fun h0 hc => by
  obtain rfl := (own_els node hn h0).2.1 1 hc rfl
  exact ⟨by decide, by decide, rfl⟩
theorem own_el2 (x y z : Int64) (node : Int32) (hn : 0 ≤ node.toInt) : ¬ (node = (0 : Int32)) → ¬ ((2 : Int32) < node) → (¬ (node - (1 : Int32)) < 0 ∧ (node - (1 : Int32)) < (2 : Int32) ∧ ([(.long x), (.long y)] : List Value).getD (node - (1 : Int32)).toNatClampNeg (.long (0 : Int64)) = (.long (if node = (1 : Int32) then x else (if node = (2 : Int32) then y else z)))) := fun h0 hc => by
  rcases (own_els node hn h0).2.2.1 2 hc rfl with rfl | rfl
  · exact ⟨by decide, by decide, rfl⟩
  · exact ⟨by decide, by decide, rfl⟩
theorem own_el3 (x y z : Int64) (node : Int32) (hn : 0 ≤ node.toInt) : ¬ (node = (0 : Int32)) → ¬ ((3 : Int32) < node) → (¬ (node - (1 : Int32)) < 0 ∧ (node - (1 : Int32)) < (3 : Int32) ∧ ([(.long x), (.long y), (.long z)] : List Value).getD (node - (1 : Int32)).toNatClampNeg (.long (0 : Int64)) = (.long (if node = (1 : Int32) then x else (if node = (2 : Int32) then y else z)))) := fun h0 hc => by
  rcases (own_els node hn h0).2.2.2 3 hc rfl with rfl | rfl | rfl
  · exact ⟨by decide, by decide, rfl⟩
  · exact ⟨by decide, by decide, rfl⟩
  · exact ⟨by decide, by decide, rfl⟩
theorem own_fin (node c : Int32) (wv f : Int64) (hn : 0 ≤ node.toInt) (hc : 0 ≤ c.toInt) : fn5 node c wv f = (if node = (0 : Int32) then (-1 : Int64) else (if c < node then (f + (((node - c) - (1 : Int32)).toInt64)) else wv)) := by
  simp only [fn5]
  by_cases h0 : node = 0
  · rw [if_pos h0, if_pos h0]
  · rw [if_neg h0, if_neg h0]
    by_cases h1 : c < node
    · rw [if_pos h1, if_pos h1]
      rw [Int32.lt_iff_toInt_lt] at h1
      apply Int64.toInt_inj.mp
      have e1 : (1 : Int64).toInt = 1 := rfl
      have e2 : (1 : Int32).toInt = 1 := rfl
      have a1 := c_lsub (f + node.toInt64 - c.toInt64) 1
      have a2 := c_lsub (f + node.toInt64) c.toInt64
      have a3 := c_ladd f node.toInt64
      have a4 := c_ladd f (node - c - 1).toInt64
      have a5 := c_isub (node - c) 1
      have a6 := c_isub node c
      rw [c_i2l] at a2 a3 a4
      have r1 := rng64 (f + node.toInt64 - c.toInt64 - 1)
      have r2 := rng64 (f + (node - c - 1).toInt64)
      have r3 := rng32 (node - c)
      have r4 := rng32 (node - c - 1)
      have r5 := rng32 node
      have r6 := rng32 c
      rw [e1] at a1
      rw [e2] at a5
      omega
    · rw [if_neg h1, if_neg h1]
theorem own_leaf1 (p0 : Int32) (p1 : Int32) (q2 : Int64) (q3 : Int64) (q4 : Int64) (q5 : Int64) (v7 : Int32) (v11 : Int32) (v44 : Int64) (v49 : Int64) (hv1 : (((p0.toUInt32 >>> ((1 : Int32) &&& 31).toUInt32).toInt32) &&& (3 : Int32)) = (0 : Int32)) (hv7 : (if (p0 &&& (1 : Int32)) = (0 : Int32) then (p1 &&& (1073741823 : Int32)) else (p1 &&& (3 : Int32))) = v7) (hv11 : ((fn1 v7 (0 : Int32)) + (1 : Int32)) = v11) (hv44 : (fn5 v7 (0 : Int32) (if v7 = (1 : Int32) then q2 else (if v7 = (2 : Int32) then q3 else q4)) q5) = v44) (hv49 : (if v7 = (0 : Int32) then (-1 : Int64) else (if (0 : Int32) < v7 then (q5 + (((v7 - (0 : Int32)) - (1 : Int32)).toInt64)) else (if v7 = (1 : Int32) then q2 else (if v7 = (2 : Int32) then q3 else q4)))) = v49) (hc52 : ¬ (v44 = v49)) : False := by
    exact hc52 (hv44.symm.trans ((own_fin _ _ _ _ (own_node p0 p1 _ hv7) (by decide)).trans hv49))
theorem own_leaf2 (p0 : Int32) (p1 : Int32) (q2 : Int64) (q3 : Int64) (q4 : Int64) (q5 : Int64) (v64 : Int32) (v67 : Int32) (v73 : Int64) (v78 : Int64) (hv1 : (((p0.toUInt32 >>> ((1 : Int32) &&& 31).toUInt32).toInt32) &&& (3 : Int32)) = (1 : Int32)) (hv64 : (if (p0 &&& (1 : Int32)) = (0 : Int32) then (p1 &&& (1073741823 : Int32)) else (p1 &&& (3 : Int32))) = v64) (hv67 : ((fn1 v64 (1 : Int32)) + (1 : Int32)) = v67) (hv73 : (fn5 v64 (1 : Int32) (if v64 = (1 : Int32) then q2 else (if v64 = (2 : Int32) then q3 else q4)) q5) = v73) (hv78 : (if v64 = (0 : Int32) then (-1 : Int64) else (if (1 : Int32) < v64 then (q5 + (((v64 - (1 : Int32)) - (1 : Int32)).toInt64)) else (if v64 = (1 : Int32) then q2 else (if v64 = (2 : Int32) then q3 else q4)))) = v78) (hc81 : ¬ (v73 = v78)) : False := by
    exact hc81 (hv73.symm.trans ((own_fin _ _ _ _ (own_node p0 p1 _ hv64) (by decide)).trans hv78))
theorem own_leaf3 (p0 : Int32) (p1 : Int32) (q2 : Int64) (q3 : Int64) (q4 : Int64) (q5 : Int64) (v94 : Int32) (v97 : Int32) (v103 : Int64) (v108 : Int64) (hv1 : (((p0.toUInt32 >>> ((1 : Int32) &&& 31).toUInt32).toInt32) &&& (3 : Int32)) = (2 : Int32)) (hv94 : (if (p0 &&& (1 : Int32)) = (0 : Int32) then (p1 &&& (1073741823 : Int32)) else (p1 &&& (3 : Int32))) = v94) (hv97 : ((fn1 v94 (2 : Int32)) + (1 : Int32)) = v97) (hv103 : (fn5 v94 (2 : Int32) (if v94 = (1 : Int32) then q2 else (if v94 = (2 : Int32) then q3 else q4)) q5) = v103) (hv108 : (if v94 = (0 : Int32) then (-1 : Int64) else (if (2 : Int32) < v94 then (q5 + (((v94 - (2 : Int32)) - (1 : Int32)).toInt64)) else (if v94 = (1 : Int32) then q2 else (if v94 = (2 : Int32) then q3 else q4)))) = v108) (hc111 : ¬ (v103 = v108)) : False := by
    exact hc111 (hv103.symm.trans ((own_fin _ _ _ _ (own_node p0 p1 _ hv94) (by decide)).trans hv108))
theorem own_leaf4 (p0 : Int32) (p1 : Int32) (q2 : Int64) (q3 : Int64) (q4 : Int64) (q5 : Int64) (v125 : Int32) (v128 : Int32) (v134 : Int64) (v139 : Int64) (hv1 : (((p0.toUInt32 >>> ((1 : Int32) &&& 31).toUInt32).toInt32) &&& (3 : Int32)) = (3 : Int32)) (hv125 : (if (p0 &&& (1 : Int32)) = (0 : Int32) then (p1 &&& (1073741823 : Int32)) else (p1 &&& (3 : Int32))) = v125) (hv128 : ((fn1 v125 (3 : Int32)) + (1 : Int32)) = v128) (hv134 : (fn5 v125 (3 : Int32) (if v125 = (1 : Int32) then q2 else (if v125 = (2 : Int32) then q3 else q4)) q5) = v134) (hv139 : (if v125 = (0 : Int32) then (-1 : Int64) else (if (3 : Int32) < v125 then (q5 + (((v125 - (3 : Int32)) - (1 : Int32)).toInt64)) else (if v125 = (1 : Int32) then q2 else (if v125 = (2 : Int32) then q3 else q4)))) = v139) (hc142 : ¬ (v134 = v139)) : False := by
    exact hc142 (hv134.symm.trans ((own_fin _ _ _ _ (own_node p0 p1 _ hv125) (by decide)).trans hv139))
theorem pn_0 : plainName "com/example/frugal_xpath/frugalxpath/PiecesPositionPinLaw" = true := by first | (simp [plainName, overriddenIn]; done) | decide +kernel
theorem ef_0 (m : MethodId) (p0 : Int32) (p1 : Int32) (q2 : Int64) (q3 : Int64) (q4 : Int64) (q5 : Int64) : entryFrame m #[(.int p0), (.int p1), (.long q2), (.long q3), (.long q4), (.long q5)] maxLocals = mkF m 0 #[.val (.int p0), .val (.int p1), .val (.long q2), .second, .val (.long q3), .second, .val (.long q4), .second, .val (.long q5), .second, .unset, .unset, .unset, .unset, .unset, .unset, .unset, .unset, .unset, .unset] [] := by first | (simp [entryFrame, mkF, argsToLocals, Value.category, maxLocals]; done) | rfl
def Q0 (Z : State) (p0 : Int32) (p1 : Int32) (q2 : Int64) (q3 : Int64) (q4 : Int64) (q5 : Int64)  (h0 : Heap) (n0 : Nat) (v : Option Value) (h : Heap) (L : List Loc) : Prop := v = some (.int 1) ∧ Fr n0 L
set_option maxRecDepth 65536 in
set_option maxHeartbeats 40000000 in
theorem rm0 (l : Launch) (Z : State) (a0 : Array Value) (hw : ∀ d ∈ tables_1, d.before a0 Z = true) (ws : List Jvm.Cond) (p0 : Int32) (p1 : Int32) (q2 : Int64) (q3 : Int64) (q4 : Int64) (q5 : Int64)  (h0 : Heap) (n0 : Nat) (Z0 : n0 ≤ h0.size)  :
    MetFree l x (head1 (Jvm.Cond.code x code maxLocals ret :: ws) room_1) (fun a U => a = #[(.int p0), (.int p1), (.long q2), (.long q3), (.long q4), (.long q5)] ∧ Z.Warmed39 U.vm ∧ U.heap = h0) (fun _ _ _ _ _ => True) (fun _ U o U' => ∃ v L, o = .returned v ∧ Q0 Z p0 p1 q2 q3 q4 q5  h0 n0 v U'.heap L ∧ FrameEnd U o U' L 16 128) := by
  refine MetFree.of_bodySF (plainFor_of_name pn_0) hisR ?_
  intro p e s m args below meth c s₁ Bd hml0 hP hK
  obtain ⟨rfl, hZ, hh⟩ := hP
  have hx := Bd.exec
  have hby := Bd.bytes
  have hml : c.maxLocals = 20 := hml0
  have hown : s.vm.findClass "com/example/frugal_xpath/frugalxpath/PiecesPositionPinLaw" = some m.cls := findClass_of_methodNamed Bd.named
  have hnm := (name_of_methodNamed Bd.named Bd.method).1
  have X0 : Stand p l e room_1 s m #[(.int p0), (.int p1), (.long q2), (.long q3), (.long q4), (.long q5)] below meth c s₁ [] 0 0 := Stand.of_body Bd
  have e0 : s₁.heap = h0 := by rw [← hh, Bd.state]; rfl
  have N0 := Fr.nil n0
  refine Ends.via (A := s₁.setTop (mkF m 0 #[.val (.int p0), .val (.int p1), .val (.long q2), .second, .val (.long q3), .second, .val (.long q4), .second, .val (.long q5), .second, .unset, .unset, .unset, .unset, .unset, .unset, .unset, .unset, .unset, .unset] [])) (kc := 16) (ks := 128) (Q := (Q0 Z p0 p1 q2 q3 q4 q5  h0 n0)) (fun t k => castTop (ef_0 m p0 p1 q2 q3 q4 q5) k) ?_
  show Ends p e below s 16 128 (Q0 Z p0 p1 q2 q3 q4 q5  h0 n0) (s₁.setTop (mkF m 0 #[.val (.int p0), .val (.int p1), .val (.long q2), .second, .val (.long q3), .second, .val (.long q4), .second, .val (.long q5), .second, .unset, .unset, .unset, .unset, .unset, .unset, .unset, .unset, .unset, .unset] []))
  refine Ends.via (fun _ k => XS.iloadN X0.here hx rfl (hb hby at_0) rfl k) ?_
  show Ends p e below s 16 128 (Q0 Z p0 p1 q2 q3 q4 q5  h0 n0) (s₁.setTop (mkF m 1 #[.val (.int p0), .val (.int p1), .val (.long q2), .second, .val (.long q3), .second, .val (.long q4), .second, .val (.long q5), .second, .unset, .unset, .unset, .unset, .unset, .unset, .unset, .unset, .unset, .unset] [(.int p0)]))
  refine Ends.via (fun _ k => XS.iconst X0.here hx rfl (hb hby at_1) k) ?_
  show Ends p e below s 16 128 (Q0 Z p0 p1 q2 q3 q4 q5  h0 n0) (s₁.setTop (mkF m 2 #[.val (.int p0), .val (.int p1), .val (.long q2), .second, .val (.long q3), .second, .val (.long q4), .second, .val (.long q5), .second, .unset, .unset, .unset, .unset, .unset, .unset, .unset, .unset, .unset, .unset] [(.int (1 : Int32)), (.int p0)]))
  refine Ends.via (fun _ k => XS.iushr X0.here hx rfl (hb hby at_2) rfl k) ?_
  show Ends p e below s 16 128 (Q0 Z p0 p1 q2 q3 q4 q5  h0 n0) (s₁.setTop (mkF m 3 #[.val (.int p0), .val (.int p1), .val (.long q2), .second, .val (.long q3), .second, .val (.long q4), .second, .val (.long q5), .second, .unset, .unset, .unset, .unset, .unset, .unset, .unset, .unset, .unset, .unset] [(.int ((p0.toUInt32 >>> ((1 : Int32) &&& 31).toUInt32).toInt32))]))
  refine Ends.via (fun _ k => XS.iconst X0.here hx rfl (hb hby at_3) k) ?_
  show Ends p e below s 16 128 (Q0 Z p0 p1 q2 q3 q4 q5  h0 n0) (s₁.setTop (mkF m 4 #[.val (.int p0), .val (.int p1), .val (.long q2), .second, .val (.long q3), .second, .val (.long q4), .second, .val (.long q5), .second, .unset, .unset, .unset, .unset, .unset, .unset, .unset, .unset, .unset, .unset] [(.int (3 : Int32)), (.int ((p0.toUInt32 >>> ((1 : Int32) &&& 31).toUInt32).toInt32))]))
  refine Ends.via (fun _ k => XS.iand X0.here hx rfl (hb hby at_4) rfl k) ?_
  show Ends p e below s 16 128 (Q0 Z p0 p1 q2 q3 q4 q5  h0 n0) (s₁.setTop (mkF m 5 #[.val (.int p0), .val (.int p1), .val (.long q2), .second, .val (.long q3), .second, .val (.long q4), .second, .val (.long q5), .second, .unset, .unset, .unset, .unset, .unset, .unset, .unset, .unset, .unset, .unset] [(.int (((p0.toUInt32 >>> ((1 : Int32) &&& 31).toUInt32).toInt32) &&& (3 : Int32)))]))
  refine Ends.via (fun _ k => XS.istore X0.here hx rfl (hb hby at_5) rfl (l' := #[.val (.int p0), .val (.int p1), .val (.long q2), .second, .val (.long q3), .second, .val (.long q4), .second, .val (.long q5), .second, .val (.int (((p0.toUInt32 >>> ((1 : Int32) &&& 31).toUInt32).toInt32) &&& (3 : Int32))), .unset, .unset, .unset, .unset, .unset, .unset, .unset, .unset, .unset]) rfl k) ?_
  show Ends p e below s 16 128 (Q0 Z p0 p1 q2 q3 q4 q5  h0 n0) (s₁.setTop (mkF m 7 #[.val (.int p0), .val (.int p1), .val (.long q2), .second, .val (.long q3), .second, .val (.long q4), .second, .val (.long q5), .second, .val (.int (((p0.toUInt32 >>> ((1 : Int32) &&& 31).toUInt32).toInt32) &&& (3 : Int32))), .unset, .unset, .unset, .unset, .unset, .unset, .unset, .unset, .unset] []))
  generalize hv1 : (((p0.toUInt32 >>> ((1 : Int32) &&& 31).toUInt32).toInt32) &&& (3 : Int32)) = v1
  rcases own_c p0 v1 hv1 with rfl | rfl | rfl | rfl
  · show Ends p e below s 16 128 (Q0 Z p0 p1 q2 q3 q4 q5  h0 n0) (s₁.setTop (mkF m 7 #[.val (.int p0), .val (.int p1), .val (.long q2), .second, .val (.long q3), .second, .val (.long q4), .second, .val (.long q5), .second, .val (.int (0 : Int32)), .unset, .unset, .unset, .unset, .unset, .unset, .unset, .unset, .unset] []))
    refine Ends.via (fun _ k => XS.iload X0.here hx rfl (hb hby at_7) rfl k) ?_
    show Ends p e below s 16 128 (Q0 Z p0 p1 q2 q3 q4 q5  h0 n0) (s₁.setTop (mkF m 9 #[.val (.int p0), .val (.int p1), .val (.long q2), .second, .val (.long q3), .second, .val (.long q4), .second, .val (.long q5), .second, .val (.int (0 : Int32)), .unset, .unset, .unset, .unset, .unset, .unset, .unset, .unset, .unset] [(.int (0 : Int32))]))
    obtain ⟨T2, h2, k2, X2, e2, E2, A2, st2⟩ := newP X0 hx hZ (hw _ (List.mem_of_getElem? (i := 0) rfl)) e0 (g := (mkF m 9 #[.val (.int p0), .val (.int p1), .val (.long q2), .second, .val (.long q3), .second, .val (.long q4), .second, .val (.long q5), .second, .val (.int (0 : Int32)), .unset, .unset, .unset, .unset, .unset, .unset, .unset, .unset, .unset] [(.int (0 : Int32))])) rfl (hb hby at_9) rfl (by decide) (cap := 0) (by decide) (by decide) (by decide) (by decide)
    obtain ⟨b2, g2⟩ : ∃ z, z = h0.size := ⟨_, rfl⟩
    rw [← g2] at A2 st2
    have g_b2 : n0 ≤ b2 := Nat.le_trans Z0 (Nat.le_of_eq g2.symm)
    have Z2 : n0 ≤ h2.size := Nat.le_trans Z0 E2.1
    have V2 : Arv Z h2 b2 k2 .long (0 : Int32) [] (.long (0 : Int64)) := (Arv.new A2 (by decide)).pad (pad_rep [] (.long (0 : Int64)) 0)
    refine Ends.via st2 ?_
    show Ends p e below s 16 128 (Q0 Z p0 p1 q2 q3 q4 q5  h0 n0) (T2.setTop (mkF m 11 #[.val (.int p0), .val (.int p1), .val (.long q2), .second, .val (.long q3), .second, .val (.long q4), .second, .val (.long q5), .second, .val (.int (0 : Int32)), .unset, .unset, .unset, .unset, .unset, .unset, .unset, .unset, .unset] [(.ref b2)]))
    refine Ends.via (fun _ k => XS.astore X2.here hx rfl (hb hby at_11) rfl rfl (l' := #[.val (.int p0), .val (.int p1), .val (.long q2), .second, .val (.long q3), .second, .val (.long q4), .second, .val (.long q5), .second, .val (.int (0 : Int32)), .val (.ref b2), .unset, .unset, .unset, .unset, .unset, .unset, .unset, .unset]) rfl k) ?_
    show Ends p e below s 16 128 (Q0 Z p0 p1 q2 q3 q4 q5  h0 n0) (T2.setTop (mkF m 13 #[.val (.int p0), .val (.int p1), .val (.long q2), .second, .val (.long q3), .second, .val (.long q4), .second, .val (.long q5), .second, .val (.int (0 : Int32)), .val (.ref b2), .unset, .unset, .unset, .unset, .unset, .unset, .unset, .unset] []))
    refine Ends.via (fun _ k => XS.iload X2.here hx rfl (hb hby at_13) rfl k) ?_
    show Ends p e below s 16 128 (Q0 Z p0 p1 q2 q3 q4 q5  h0 n0) (T2.setTop (mkF m 15 #[.val (.int p0), .val (.int p1), .val (.long q2), .second, .val (.long q3), .second, .val (.long q4), .second, .val (.long q5), .second, .val (.int (0 : Int32)), .val (.ref b2), .unset, .unset, .unset, .unset, .unset, .unset, .unset, .unset] [(.int (0 : Int32))]))
    have hf3 : ¬ ((0 : Int32) < (0 : Int32)) := by decide
    refine Ends.via (fun _ k => XS.ifYes X2.here hx rfl (pc0 := 15) (pc' := 23) rfl (hb hby at_15) rfl ((if0 _ _).trans (flt hf3).2.2.2) (by decide) (by decide) k) ?_
    show Ends p e below s 16 128 (Q0 Z p0 p1 q2 q3 q4 q5  h0 n0) (T2.setTop (mkF m 23 #[.val (.int p0), .val (.int p1), .val (.long q2), .second, .val (.long q3), .second, .val (.long q4), .second, .val (.long q5), .second, .val (.int (0 : Int32)), .val (.ref b2), .unset, .unset, .unset, .unset, .unset, .unset, .unset, .unset] []))
    refine Ends.via (fun _ k => XS.iload X2.here hx rfl (hb hby at_23) rfl k) ?_
    show Ends p e below s 16 128 (Q0 Z p0 p1 q2 q3 q4 q5  h0 n0) (T2.setTop (mkF m 25 #[.val (.int p0), .val (.int p1), .val (.long q2), .second, .val (.long q3), .second, .val (.long q4), .second, .val (.long q5), .second, .val (.int (0 : Int32)), .val (.ref b2), .unset, .unset, .unset, .unset, .unset, .unset, .unset, .unset] [(.int (0 : Int32))]))
    refine Ends.via (fun _ k => XS.iconst X2.here hx rfl (hb hby at_25) k) ?_
    show Ends p e below s 16 128 (Q0 Z p0 p1 q2 q3 q4 q5  h0 n0) (T2.setTop (mkF m 26 #[.val (.int p0), .val (.int p1), .val (.long q2), .second, .val (.long q3), .second, .val (.long q4), .second, .val (.long q5), .second, .val (.int (0 : Int32)), .val (.ref b2), .unset, .unset, .unset, .unset, .unset, .unset, .unset, .unset] [(.int (1 : Int32)), (.int (0 : Int32))]))
    have hf4 : ¬ ((1 : Int32) < (0 : Int32)) := by decide
    refine Ends.via (fun _ k => XS.icmpYes X2.here hx rfl (pc0 := 26) (pc' := 35) rfl (hb hby at_26) rfl (flt hf4).2.2.2 (by decide) (by decide) k) ?_
    show Ends p e below s 16 128 (Q0 Z p0 p1 q2 q3 q4 q5  h0 n0) (T2.setTop (mkF m 35 #[.val (.int p0), .val (.int p1), .val (.long q2), .second, .val (.long q3), .second, .val (.long q4), .second, .val (.long q5), .second, .val (.int (0 : Int32)), .val (.ref b2), .unset, .unset, .unset, .unset, .unset, .unset, .unset, .unset] []))
    refine Ends.via (fun _ k => XS.iload X2.here hx rfl (hb hby at_35) rfl k) ?_
    show Ends p e below s 16 128 (Q0 Z p0 p1 q2 q3 q4 q5  h0 n0) (T2.setTop (mkF m 37 #[.val (.int p0), .val (.int p1), .val (.long q2), .second, .val (.long q3), .second, .val (.long q4), .second, .val (.long q5), .second, .val (.int (0 : Int32)), .val (.ref b2), .unset, .unset, .unset, .unset, .unset, .unset, .unset, .unset] [(.int (0 : Int32))]))
    refine Ends.via (fun _ k => XS.iconst X2.here hx rfl (hb hby at_37) k) ?_
    show Ends p e below s 16 128 (Q0 Z p0 p1 q2 q3 q4 q5  h0 n0) (T2.setTop (mkF m 38 #[.val (.int p0), .val (.int p1), .val (.long q2), .second, .val (.long q3), .second, .val (.long q4), .second, .val (.long q5), .second, .val (.int (0 : Int32)), .val (.ref b2), .unset, .unset, .unset, .unset, .unset, .unset, .unset, .unset] [(.int (2 : Int32)), (.int (0 : Int32))]))
    have hf5 : ¬ ((2 : Int32) < (0 : Int32)) := by decide
    refine Ends.via (fun _ k => XS.icmpYes X2.here hx rfl (pc0 := 38) (pc' := 47) rfl (hb hby at_38) rfl (flt hf5).2.2.2 (by decide) (by decide) k) ?_
    show Ends p e below s 16 128 (Q0 Z p0 p1 q2 q3 q4 q5  h0 n0) (T2.setTop (mkF m 47 #[.val (.int p0), .val (.int p1), .val (.long q2), .second, .val (.long q3), .second, .val (.long q4), .second, .val (.long q5), .second, .val (.int (0 : Int32)), .val (.ref b2), .unset, .unset, .unset, .unset, .unset, .unset, .unset, .unset] []))
    refine Ends.via (fun _ k => XS.iloadN X2.here hx rfl (hb hby at_47) rfl k) ?_
    show Ends p e below s 16 128 (Q0 Z p0 p1 q2 q3 q4 q5  h0 n0) (T2.setTop (mkF m 48 #[.val (.int p0), .val (.int p1), .val (.long q2), .second, .val (.long q3), .second, .val (.long q4), .second, .val (.long q5), .second, .val (.int (0 : Int32)), .val (.ref b2), .unset, .unset, .unset, .unset, .unset, .unset, .unset, .unset] [(.int p0)]))
    refine Ends.via (fun _ k => XS.iconst X2.here hx rfl (hb hby at_48) k) ?_
    show Ends p e below s 16 128 (Q0 Z p0 p1 q2 q3 q4 q5  h0 n0) (T2.setTop (mkF m 49 #[.val (.int p0), .val (.int p1), .val (.long q2), .second, .val (.long q3), .second, .val (.long q4), .second, .val (.long q5), .second, .val (.int (0 : Int32)), .val (.ref b2), .unset, .unset, .unset, .unset, .unset, .unset, .unset, .unset] [(.int (1 : Int32)), (.int p0)]))
    refine Ends.via (fun _ k => XS.iand X2.here hx rfl (hb hby at_49) rfl k) ?_
    show Ends p e below s 16 128 (Q0 Z p0 p1 q2 q3 q4 q5  h0 n0) (T2.setTop (mkF m 50 #[.val (.int p0), .val (.int p1), .val (.long q2), .second, .val (.long q3), .second, .val (.long q4), .second, .val (.long q5), .second, .val (.int (0 : Int32)), .val (.ref b2), .unset, .unset, .unset, .unset, .unset, .unset, .unset, .unset] [(.int (p0 &&& (1 : Int32)))]))
    have J8 : ∀ (Tj8 : State) (Lj8 : List Loc) (Xj8 : Stand p l e room_1 s m #[(.int p0), (.int p1), (.long q2), (.long q3), (.long q4), (.long q5)] below meth c Tj8 Lj8 1 0) (ej8 : Tj8.heap = h2) (Nj8 : Fr n0 Lj8) (v7 : Int32), (if (p0 &&& (1 : Int32)) = (0 : Int32) then (p1 &&& (1073741823 : Int32)) else (p1 &&& (3 : Int32))) = v7 → Ends p e below s 16 128 (Q0 Z p0 p1 q2 q3 q4 q5  h0 n0) (Tj8.setTop (mkF m 63 #[.val (.int p0), .val (.int p1), .val (.long q2), .second, .val (.long q3), .second, .val (.long q4), .second, .val (.long q5), .second, .val (.int (0 : Int32)), .val (.ref b2), .unset, .unset, .unset, .unset, .unset, .unset, .unset, .unset] [(.int v7)])) := by
      intro Tj8 Lj8 Xj8 ej8 Nj8 v7 hv7
      refine Ends.via (fun _ k => XS.istore Xj8.here hx rfl (hb hby at_63) rfl (l' := #[.val (.int p0), .val (.int p1), .val (.long q2), .second, .val (.long q3), .second, .val (.long q4), .second, .val (.long q5), .second, .val (.int (0 : Int32)), .val (.ref b2), .val (.int v7), .unset, .unset, .unset, .unset, .unset, .unset, .unset]) rfl k) ?_
      show Ends p e below s 16 128 (Q0 Z p0 p1 q2 q3 q4 q5  h0 n0) (Tj8.setTop (mkF m 65 #[.val (.int p0), .val (.int p1), .val (.long q2), .second, .val (.long q3), .second, .val (.long q4), .second, .val (.long q5), .second, .val (.int (0 : Int32)), .val (.ref b2), .val (.int v7), .unset, .unset, .unset, .unset, .unset, .unset, .unset] []))
      refine Ends.via (fun _ k => XS.iload Xj8.here hx rfl (hb hby at_65) rfl k) ?_
      show Ends p e below s 16 128 (Q0 Z p0 p1 q2 q3 q4 q5  h0 n0) (Tj8.setTop (mkF m 67 #[.val (.int p0), .val (.int p1), .val (.long q2), .second, .val (.long q3), .second, .val (.long q4), .second, .val (.long q5), .second, .val (.int (0 : Int32)), .val (.ref b2), .val (.int v7), .unset, .unset, .unset, .unset, .unset, .unset, .unset] [(.int v7)]))
      refine Ends.via (fun _ k => XS.iload Xj8.here hx rfl (hb hby at_67) rfl k) ?_
      show Ends p e below s 16 128 (Q0 Z p0 p1 q2 q3 q4 q5  h0 n0) (Tj8.setTop (mkF m 69 #[.val (.int p0), .val (.int p1), .val (.long q2), .second, .val (.long q3), .second, .val (.long q4), .second, .val (.long q5), .second, .val (.int (0 : Int32)), .val (.ref b2), .val (.int v7), .unset, .unset, .unset, .unset, .unset, .unset, .unset] [(.int (0 : Int32)), (.int v7)]))
      obtain ⟨_, _, ⟨T10, L10, k10, n10⟩, -, X10, ⟨Lc10, hQ10, l10, y10, z10⟩, st10⟩ := Jvm.LawKit.callS Xj8 hx (y := (⟨"java/lang/Math", "max", "(II)I"⟩ : MethodName)) hown (mvT hZ (hw _ (List.mem_of_getElem? (i := 2) rfl))) (mvT hZ (hw _ (List.mem_of_getElem? (i := 3) rfl))) (mvT hZ (hw _ (List.mem_of_getElem? (i := 4) rfl))) (mvT hZ (hw _ (List.mem_of_getElem? (i := 5) rfl))) (by decide) (backOf (W := 0) (rm1 l Z _ hw [] v7 (0 : Int32) h2 n0 Z2) hZ (hw _ (List.mem_of_getElem? (i := 5) rfl)) (hw _ (List.mem_of_getElem? (i := 4) rfl)) (by decide) (by decide)) (g := (mkF m 69 #[.val (.int p0), .val (.int p1), .val (.long q2), .second, .val (.long q3), .second, .val (.long q4), .second, .val (.long q5), .second, .val (.int (0 : Int32)), .val (.ref b2), .val (.int v7), .unset, .unset, .unset, .unset, .unset, .unset, .unset] [(.int (0 : Int32)), (.int v7)])) rfl (by rw [hml]; rfl) (argsL := [(.int v7), (.int (0 : Int32))]) (rest := []) (lenOf own_pd0 rfl) rfl (by show 2 * 0 + _ ≤ _; exact Nat.le_of_eq rfl) (hb hby at_69) (fun _ _ => ⟨rfl, ej8, (by decide : 1 + 0 ≤ _), (by decide : 0 + 0 ≤ _)⟩)
      dsimp only [Pt.U, Pt.locs, Pt.cells, Pt.slots] at X10 l10 y10 z10 st10 hQ10
      subst l10 y10 z10
      obtain ⟨rfl, Nq10, e10⟩ := hQ10
      have N10 := Fr.app Nj8 Nq10
      refine Ends.via st10 ?_
      show Ends p e below s 16 128 (Q0 Z p0 p1 q2 q3 q4 q5  h0 n0) (T10.setTop (mkF m 72 #[.val (.int p0), .val (.int p1), .val (.long q2), .second, .val (.long q3), .second, .val (.long q4), .second, .val (.long q5), .second, .val (.int (0 : Int32)), .val (.ref b2), .val (.int v7), .unset, .unset, .unset, .unset, .unset, .unset, .unset] [(.int (fn1 v7 (0 : Int32)))]))
      refine Ends.via (fun _ k => XS.iconst X10.here hx rfl (hb hby at_72) k) ?_
      show Ends p e below s 16 128 (Q0 Z p0 p1 q2 q3 q4 q5  h0 n0) (T10.setTop (mkF m 73 #[.val (.int p0), .val (.int p1), .val (.long q2), .second, .val (.long q3), .second, .val (.long q4), .second, .val (.long q5), .second, .val (.int (0 : Int32)), .val (.ref b2), .val (.int v7), .unset, .unset, .unset, .unset, .unset, .unset, .unset] [(.int (1 : Int32)), (.int (fn1 v7 (0 : Int32)))]))
      refine Ends.via (fun _ k => XS.iadd X10.here hx rfl (hb hby at_73) rfl k) ?_
      show Ends p e below s 16 128 (Q0 Z p0 p1 q2 q3 q4 q5  h0 n0) (T10.setTop (mkF m 74 #[.val (.int p0), .val (.int p1), .val (.long q2), .second, .val (.long q3), .second, .val (.long q4), .second, .val (.long q5), .second, .val (.int (0 : Int32)), .val (.ref b2), .val (.int v7), .unset, .unset, .unset, .unset, .unset, .unset, .unset] [(.int ((fn1 v7 (0 : Int32)) + (1 : Int32)))]))
      refine Ends.via (fun _ k => XS.istore X10.here hx rfl (hb hby at_74) rfl (l' := #[.val (.int p0), .val (.int p1), .val (.long q2), .second, .val (.long q3), .second, .val (.long q4), .second, .val (.long q5), .second, .val (.int (0 : Int32)), .val (.ref b2), .val (.int v7), .val (.int ((fn1 v7 (0 : Int32)) + (1 : Int32))), .unset, .unset, .unset, .unset, .unset, .unset]) rfl k) ?_
      show Ends p e below s 16 128 (Q0 Z p0 p1 q2 q3 q4 q5  h0 n0) (T10.setTop (mkF m 76 #[.val (.int p0), .val (.int p1), .val (.long q2), .second, .val (.long q3), .second, .val (.long q4), .second, .val (.long q5), .second, .val (.int (0 : Int32)), .val (.ref b2), .val (.int v7), .val (.int ((fn1 v7 (0 : Int32)) + (1 : Int32))), .unset, .unset, .unset, .unset, .unset, .unset] []))
      generalize hv11 : ((fn1 v7 (0 : Int32)) + (1 : Int32)) = v11
      obtain ⟨T12, h12, X12, e12, E12, A12, D12, -, st12⟩ := newO X10 hx hZ hown (hw _ (List.mem_of_getElem? (i := 6) rfl)) (hw _ (List.mem_of_getElem? (i := 7) rfl)) (hw _ (List.mem_of_getElem? (i := 8) rfl)) e10 (g := (mkF m 76 #[.val (.int p0), .val (.int p1), .val (.long q2), .second, .val (.long q3), .second, .val (.long q4), .second, .val (.long q5), .second, .val (.int (0 : Int32)), .val (.ref b2), .val (.int v7), .val (.int v11), .unset, .unset, .unset, .unset, .unset, .unset] [])) rfl (hb hby at_76) (by decide) (by decide)
      obtain ⟨b12, g12⟩ : ∃ z, z = h2.size := ⟨_, rfl⟩
      rw [← g12] at A12 D12 st12
      have g_b12 : n0 ≤ b12 := Nat.le_trans Z2 (Nat.le_of_eq g12.symm)
      have ne_b2_b12 : b2 ≠ b12 := Nat.ne_of_lt (Nat.lt_of_lt_of_le V2.lt (Nat.le_of_eq g12.symm))
      have f12_0 := V2.ext E12
      have Z12 : n0 ≤ h12.size := Nat.le_trans Z2 E12.1
      have F12_size : Fld Z h12 b12 "com/example/frugal_xpath/frugalxpath/ElementTree$Pieces" "size" "I" (.int (0 : Int32)) := D12 (Or.inr (hw _ (List.mem_of_getElem? (i := 22) rfl))) (ty := .int) (by decide)
      have F12_chainPositions : Fld Z h12 b12 "com/example/frugal_xpath/frugalxpath/ElementTree$Pieces" "chainPositions" "[J" .null := D12 (Or.inr (hw _ (List.mem_of_getElem? (i := 24) rfl))) (ty := (.array .long)) (by decide)
      have F12_firstPosition : Fld Z h12 b12 "com/example/frugal_xpath/frugalxpath/ElementTree$Pieces" "firstPosition" "J" (.long (0 : Int64)) := D12 (Or.inr (hw _ (List.mem_of_getElem? (i := 26) rfl))) (ty := .long) (by decide)
      have F12_cutNodes : Fld Z h12 b12 "com/example/frugal_xpath/frugalxpath/ElementTree$Pieces" "cutNodes" "[I" .null := D12 (Or.inr (hw _ (List.mem_of_getElem? (i := 28) rfl))) (ty := (.array .int)) (by decide)
      have F12_openNodes : Fld Z h12 b12 "com/example/frugal_xpath/frugalxpath/ElementTree$Pieces" "openNodes" "[I" .null := D12 (Or.inr (hw _ (List.mem_of_getElem? (i := 30) rfl))) (ty := (.array .int)) (by decide)
      refine Ends.via st12 ?_
      show Ends p e below s 16 128 (Q0 Z p0 p1 q2 q3 q4 q5  h0 n0) (T12.setTop (mkF m 79 #[.val (.int p0), .val (.int p1), .val (.long q2), .second, .val (.long q3), .second, .val (.long q4), .second, .val (.long q5), .second, .val (.int (0 : Int32)), .val (.ref b2), .val (.int v7), .val (.int v11), .unset, .unset, .unset, .unset, .unset, .unset] [(.ref b12)]))
      refine Ends.via (fun _ k => XS.dup X12.here hx rfl (hb hby at_79) rfl rfl k) ?_
      show Ends p e below s 16 128 (Q0 Z p0 p1 q2 q3 q4 q5  h0 n0) (T12.setTop (mkF m 80 #[.val (.int p0), .val (.int p1), .val (.long q2), .second, .val (.long q3), .second, .val (.long q4), .second, .val (.long q5), .second, .val (.int (0 : Int32)), .val (.ref b2), .val (.int v7), .val (.int v11), .unset, .unset, .unset, .unset, .unset, .unset] [(.ref b12), (.ref b12)]))
      refine Ends.via (fun _ k => XS.iload X12.here hx rfl (hb hby at_80) rfl k) ?_
      show Ends p e below s 16 128 (Q0 Z p0 p1 q2 q3 q4 q5  h0 n0) (T12.setTop (mkF m 82 #[.val (.int p0), .val (.int p1), .val (.long q2), .second, .val (.long q3), .second, .val (.long q4), .second, .val (.long q5), .second, .val (.int (0 : Int32)), .val (.ref b2), .val (.int v7), .val (.int v11), .unset, .unset, .unset, .unset, .unset, .unset] [(.int v11), (.ref b12), (.ref b12)]))
      refine Ends.via (fun _ k => XS.aload X12.here hx rfl (hb hby at_82) rfl rfl k) ?_
      show Ends p e below s 16 128 (Q0 Z p0 p1 q2 q3 q4 q5  h0 n0) (T12.setTop (mkF m 84 #[.val (.int p0), .val (.int p1), .val (.long q2), .second, .val (.long q3), .second, .val (.long q4), .second, .val (.long q5), .second, .val (.int (0 : Int32)), .val (.ref b2), .val (.int v7), .val (.int v11), .unset, .unset, .unset, .unset, .unset, .unset] [(.ref b2), (.int v11), (.ref b12), (.ref b12)]))
      refine Ends.via (fun _ k => XS.lload X12.here hx rfl (hb hby at_84) rfl k) ?_
      show Ends p e below s 16 128 (Q0 Z p0 p1 q2 q3 q4 q5  h0 n0) (T12.setTop (mkF m 86 #[.val (.int p0), .val (.int p1), .val (.long q2), .second, .val (.long q3), .second, .val (.long q4), .second, .val (.long q5), .second, .val (.int (0 : Int32)), .val (.ref b2), .val (.int v7), .val (.int v11), .unset, .unset, .unset, .unset, .unset, .unset] [(.long q5), (.ref b2), (.int v11), (.ref b12), (.ref b12)]))
      refine Ends.via (fun _ k => XS.iconst X12.here hx rfl (hb hby at_86) k) ?_
      show Ends p e below s 16 128 (Q0 Z p0 p1 q2 q3 q4 q5  h0 n0) (T12.setTop (mkF m 87 #[.val (.int p0), .val (.int p1), .val (.long q2), .second, .val (.long q3), .second, .val (.long q4), .second, .val (.long q5), .second, .val (.int (0 : Int32)), .val (.ref b2), .val (.int v7), .val (.int v11), .unset, .unset, .unset, .unset, .unset, .unset] [(.int (0 : Int32)), (.long q5), (.ref b2), (.int v11), (.ref b12), (.ref b12)]))
      obtain ⟨T13, h13, k13, X13, e13, E13, A13, st13⟩ := newP X12 hx hZ (hw _ (List.mem_of_getElem? (i := 9) rfl)) e12 (g := (mkF m 87 #[.val (.int p0), .val (.int p1), .val (.long q2), .second, .val (.long q3), .second, .val (.long q4), .second, .val (.long q5), .second, .val (.int (0 : Int32)), .val (.ref b2), .val (.int v7), .val (.int v11), .unset, .unset, .unset, .unset, .unset, .unset] [(.int (0 : Int32)), (.long q5), (.ref b2), (.int v11), (.ref b12), (.ref b12)])) rfl (hb hby at_87) rfl (by decide) (cap := 0) (by decide) (by decide) (by decide) (by decide)
      obtain ⟨b13, g13⟩ : ∃ z, z = h12.size := ⟨_, rfl⟩
      rw [← g13] at A13 st13
      have g_b13 : n0 ≤ b13 := Nat.le_trans Z12 (Nat.le_of_eq g13.symm)
      have ne_b2_b13 : b2 ≠ b13 := Nat.ne_of_lt (Nat.lt_of_lt_of_le f12_0.lt (Nat.le_of_eq g13.symm))
      have ne_b12_b13 : b12 ≠ b13 := Nat.ne_of_lt (Nat.lt_of_lt_of_le A12.lt (Nat.le_of_eq g13.symm))
      have f13_0 := f12_0.ext E13
      have f13_1 := A12.ext E13
      have f13_2 := F12_size.ext E13
      have f13_3 := F12_chainPositions.ext E13
      have f13_4 := F12_firstPosition.ext E13
      have f13_5 := F12_cutNodes.ext E13
      have f13_6 := F12_openNodes.ext E13
      have Z13 : n0 ≤ h13.size := Nat.le_trans Z12 E13.1
      have V13 : Arv Z h13 b13 k13 .int (0 : Int32) [] (.int (0 : Int32)) := (Arv.new A13 (by decide)).pad (pad_rep [] (.int (0 : Int32)) 0)
      refine Ends.via st13 ?_
      show Ends p e below s 16 128 (Q0 Z p0 p1 q2 q3 q4 q5  h0 n0) (T13.setTop (mkF m 89 #[.val (.int p0), .val (.int p1), .val (.long q2), .second, .val (.long q3), .second, .val (.long q4), .second, .val (.long q5), .second, .val (.int (0 : Int32)), .val (.ref b2), .val (.int v7), .val (.int v11), .unset, .unset, .unset, .unset, .unset, .unset] [(.ref b13), (.long q5), (.ref b2), (.int v11), (.ref b12), (.ref b12)]))
      refine Ends.via (fun _ k => XS.iconst X13.here hx rfl (hb hby at_89) k) ?_
      show Ends p e below s 16 128 (Q0 Z p0 p1 q2 q3 q4 q5  h0 n0) (T13.setTop (mkF m 90 #[.val (.int p0), .val (.int p1), .val (.long q2), .second, .val (.long q3), .second, .val (.long q4), .second, .val (.long q5), .second, .val (.int (0 : Int32)), .val (.ref b2), .val (.int v7), .val (.int v11), .unset, .unset, .unset, .unset, .unset, .unset] [(.int (0 : Int32)), (.ref b13), (.long q5), (.ref b2), (.int v11), (.ref b12), (.ref b12)]))
      obtain ⟨T14, h14, k14, X14, e14, E14, A14, st14⟩ := newP X13 hx hZ (hw _ (List.mem_of_getElem? (i := 9) rfl)) e13 (g := (mkF m 90 #[.val (.int p0), .val (.int p1), .val (.long q2), .second, .val (.long q3), .second, .val (.long q4), .second, .val (.long q5), .second, .val (.int (0 : Int32)), .val (.ref b2), .val (.int v7), .val (.int v11), .unset, .unset, .unset, .unset, .unset, .unset] [(.int (0 : Int32)), (.ref b13), (.long q5), (.ref b2), (.int v11), (.ref b12), (.ref b12)])) rfl (hb hby at_90) rfl (by decide) (cap := 0) (by decide) (by decide) (by decide) (by decide)
      obtain ⟨b14, g14⟩ : ∃ z, z = h13.size := ⟨_, rfl⟩
      rw [← g14] at A14 st14
      have g_b14 : n0 ≤ b14 := Nat.le_trans Z13 (Nat.le_of_eq g14.symm)
      have ne_b2_b14 : b2 ≠ b14 := Nat.ne_of_lt (Nat.lt_of_lt_of_le f13_0.lt (Nat.le_of_eq g14.symm))
      have ne_b12_b14 : b12 ≠ b14 := Nat.ne_of_lt (Nat.lt_of_lt_of_le f13_1.lt (Nat.le_of_eq g14.symm))
      have ne_b13_b14 : b13 ≠ b14 := Nat.ne_of_lt (Nat.lt_of_lt_of_le V13.lt (Nat.le_of_eq g14.symm))
      have f14_0 := f13_0.ext E14
      have f14_1 := f13_1.ext E14
      have f14_2 := f13_2.ext E14
      have f14_3 := f13_3.ext E14
      have f14_4 := f13_4.ext E14
      have f14_5 := f13_5.ext E14
      have f14_6 := f13_6.ext E14
      have f14_7 := V13.ext E14
      have Z14 : n0 ≤ h14.size := Nat.le_trans Z13 E14.1
      have V14 : Arv Z h14 b14 k14 .int (0 : Int32) [] (.int (0 : Int32)) := (Arv.new A14 (by decide)).pad (pad_rep [] (.int (0 : Int32)) 0)
      refine Ends.via st14 ?_
      show Ends p e below s 16 128 (Q0 Z p0 p1 q2 q3 q4 q5  h0 n0) (T14.setTop (mkF m 92 #[.val (.int p0), .val (.int p1), .val (.long q2), .second, .val (.long q3), .second, .val (.long q4), .second, .val (.long q5), .second, .val (.int (0 : Int32)), .val (.ref b2), .val (.int v7), .val (.int v11), .unset, .unset, .unset, .unset, .unset, .unset] [(.ref b14), (.ref b13), (.long q5), (.ref b2), (.int v11), (.ref b12), (.ref b12)]))
      obtain ⟨_, _, ⟨T15, L15, k15, n15⟩, -, X15, ⟨Lc15, hQ15, l15, y15, z15⟩, st15⟩ := X14.specialBack hx (y := (⟨"com/example/frugal_xpath/frugalxpath/ElementTree$Pieces", "<init>", "(I[JJ[I[I)V"⟩ : MethodName)) rfl hown (mvT hZ (hw _ (List.mem_of_getElem? (i := 10) rfl))) (mvT hZ (hw _ (List.mem_of_getElem? (i := 11) rfl))) (mvT hZ (hw _ (List.mem_of_getElem? (i := 12) rfl))) (by decide) (backOf (W := 1) (rm2 l Z _ hw [] b12 v11 b2 q5 b13 b14 (.int (0 : Int32)) .null (.long (0 : Int64)) .null .null h14 n0 Z14 g_b12 f14_1 f14_2 f14_3 f14_4 f14_5 f14_6) hZ (hw _ (List.mem_of_getElem? (i := 12) rfl)) (hw _ (List.mem_of_getElem? (i := 8) rfl)) (by decide) (by decide)) (g := (mkF m 92 #[.val (.int p0), .val (.int p1), .val (.long q2), .second, .val (.long q3), .second, .val (.long q4), .second, .val (.long q5), .second, .val (.int (0 : Int32)), .val (.ref b2), .val (.int v7), .val (.int v11), .unset, .unset, .unset, .unset, .unset, .unset] [(.ref b14), (.ref b13), (.long q5), (.ref b2), (.int v11), (.ref b12), (.ref b12)])) rfl (by rw [hml]; rfl) (Steps.refl _) (a := b12) (argsL := [(.int v11), (.ref b2), (.long q5), (.ref b13), (.ref b14)]) (rest := [(.ref b12)]) (lenOf own_pd2 rfl) rfl (by show 2 * 0 + _ ≤ _; exact Nat.le_of_eq rfl) (hb hby at_92) (fun _ _ => ⟨rfl, e14, (by decide : 4 + 0 ≤ _), (by decide : 5 + 0 ≤ _)⟩)
      dsimp only [Pt.U, Pt.locs, Pt.cells, Pt.slots] at X15 l15 y15 z15 st15 hQ15
      subst l15 y15 z15
      obtain ⟨rfl, Nq15, Kq15, Eq15, Fq15_0, Fq15_1, Fq15_2, Fq15_3, Fq15_4⟩ := hQ15
      have N15 := Fr.app N10 Nq15
      have f15_0 := f14_0.keep Kq15 (ninS ne_b2_b12 nin0)
      have f15_7 := f14_7.keep Kq15 (ninS (Ne.symm ne_b12_b13) nin0)
      have f15_8 := V14.keep Kq15 (ninS (Ne.symm ne_b12_b14) nin0)
      have Z15 : n0 ≤ T15.heap.size := Nat.le_trans Z14 Kq15.1
      refine Ends.via (fun _ k => st15.trans k) ?_
      show Ends p e below s 16 128 (Q0 Z p0 p1 q2 q3 q4 q5  h0 n0) (T15.setTop (mkF m 95 #[.val (.int p0), .val (.int p1), .val (.long q2), .second, .val (.long q3), .second, .val (.long q4), .second, .val (.long q5), .second, .val (.int (0 : Int32)), .val (.ref b2), .val (.int v7), .val (.int v11), .unset, .unset, .unset, .unset, .unset, .unset] [(.ref b12)]))
      refine Ends.via (fun _ k => XS.astore X15.here hx rfl (hb hby at_95) rfl rfl (l' := #[.val (.int p0), .val (.int p1), .val (.long q2), .second, .val (.long q3), .second, .val (.long q4), .second, .val (.long q5), .second, .val (.int (0 : Int32)), .val (.ref b2), .val (.int v7), .val (.int v11), .val (.ref b12), .unset, .unset, .unset, .unset, .unset]) rfl k) ?_
      show Ends p e below s 16 128 (Q0 Z p0 p1 q2 q3 q4 q5  h0 n0) (T15.setTop (mkF m 97 #[.val (.int p0), .val (.int p1), .val (.long q2), .second, .val (.long q3), .second, .val (.long q4), .second, .val (.long q5), .second, .val (.int (0 : Int32)), .val (.ref b2), .val (.int v7), .val (.int v11), .val (.ref b12), .unset, .unset, .unset, .unset, .unset] []))
      refine Ends.via (fun _ k => XS.aload X15.here hx rfl (hb hby at_97) rfl rfl k) ?_
      show Ends p e below s 16 128 (Q0 Z p0 p1 q2 q3 q4 q5  h0 n0) (T15.setTop (mkF m 99 #[.val (.int p0), .val (.int p1), .val (.long q2), .second, .val (.long q3), .second, .val (.long q4), .second, .val (.long q5), .second, .val (.int (0 : Int32)), .val (.ref b2), .val (.int v7), .val (.int v11), .val (.ref b12), .unset, .unset, .unset, .unset, .unset] [(.ref b12)]))
      refine Ends.via (fun _ k => XS.iload X15.here hx rfl (hb hby at_99) rfl k) ?_
      show Ends p e below s 16 128 (Q0 Z p0 p1 q2 q3 q4 q5  h0 n0) (T15.setTop (mkF m 101 #[.val (.int p0), .val (.int p1), .val (.long q2), .second, .val (.long q3), .second, .val (.long q4), .second, .val (.long q5), .second, .val (.int (0 : Int32)), .val (.ref b2), .val (.int v7), .val (.int v11), .val (.ref b12), .unset, .unset, .unset, .unset, .unset] [(.int v7), (.ref b12)]))
      obtain ⟨cq23, kq23, qa23, qb23, qc23⟩ := isOf hZ rfl Eq15
      obtain ⟨_, _, ⟨T23, L23, k23, n23⟩, -, X23, ⟨Lc23, hQ23, l23, y23, z23⟩, st23⟩ := X15.virtualBack hx (y := (⟨"com/example/frugal_xpath/frugalxpath/ElementTree$Pieces", "position", "(I)J"⟩ : MethodName)) (z := (⟨"com/example/frugal_xpath/frugalxpath/ElementTree$Pieces", "position", "(I)J"⟩ : MethodName)) hown (mvT hZ (hw _ (List.mem_of_getElem? (i := 31) rfl))) (mvT hZ (hw _ (List.mem_of_getElem? (i := 32) rfl))) (notFace_of_selects (args := #[]) (mvT hZ (hw _ (List.mem_of_getElem? (i := 34) rfl)))) (mvT hZ (hw _ (List.mem_of_getElem? (i := 34) rfl))) (mvT hZ (hw _ (List.mem_of_getElem? (i := 33) rfl))) (by decide) (backOf (W := 0) (rm5 l Z _ hw [] b12 v7 k2 (0 : Int32) [] (.long (0 : Int64)) (if v7 = (1 : Int32) then q2 else (if v7 = (2 : Int32) then q3 else q4)) b2 q5 T15.heap n0 Z15 f15_0 (own_el0 q2 q3 q4 v7 (own_node p0 p1 v7 hv7)) Fq15_1 Fq15_2) hZ (hw _ (List.mem_of_getElem? (i := 35) rfl)) (hw _ (List.mem_of_getElem? (i := 8) rfl)) (by decide) (by decide)) qa23 qc23 (g := (mkF m 101 #[.val (.int p0), .val (.int p1), .val (.long q2), .second, .val (.long q3), .second, .val (.long q4), .second, .val (.long q5), .second, .val (.int (0 : Int32)), .val (.ref b2), .val (.int v7), .val (.int v11), .val (.ref b12), .unset, .unset, .unset, .unset, .unset] [(.int v7), (.ref b12)])) rfl (by rw [hml]; rfl) (Steps.refl _) (argsL := [(.int v7)]) (rest := []) (lenOf own_pd3 rfl) rfl (by show 2 * 0 + _ ≤ _; exact Nat.le_of_eq rfl) (hb hby at_101) (fun _ _ => ⟨rfl, rfl, (by decide : 4 + 0 ≤ _), (by decide : 5 + 0 ≤ _)⟩)
      dsimp only [Pt.U, Pt.locs, Pt.cells, Pt.slots] at X23 l23 y23 z23 st23 hQ23
      subst l23 y23 z23
      obtain ⟨rfl, Nq23, e23⟩ := hQ23
      have N23 := Fr.app N15 Nq23
      refine Ends.via (fun _ k => st23.trans k) ?_
      show Ends p e below s 16 128 (Q0 Z p0 p1 q2 q3 q4 q5  h0 n0) (T23.setTop (mkF m 104 #[.val (.int p0), .val (.int p1), .val (.long q2), .second, .val (.long q3), .second, .val (.long q4), .second, .val (.long q5), .second, .val (.int (0 : Int32)), .val (.ref b2), .val (.int v7), .val (.int v11), .val (.ref b12), .unset, .unset, .unset, .unset, .unset] [(.long (fn5 v7 (0 : Int32) (if v7 = (1 : Int32) then q2 else (if v7 = (2 : Int32) then q3 else q4)) q5))]))
      refine Ends.via (fun _ k => XS.lstore X23.here hx rfl (hb hby at_104) rfl (l' := #[.val (.int p0), .val (.int p1), .val (.long q2), .second, .val (.long q3), .second, .val (.long q4), .second, .val (.long q5), .second, .val (.int (0 : Int32)), .val (.ref b2), .val (.int v7), .val (.int v11), .val (.ref b12), .val (.long (fn5 v7 (0 : Int32) (if v7 = (1 : Int32) then q2 else (if v7 = (2 : Int32) then q3 else q4)) q5)), .second, .unset, .unset, .unset]) rfl k) ?_
      show Ends p e below s 16 128 (Q0 Z p0 p1 q2 q3 q4 q5  h0 n0) (T23.setTop (mkF m 106 #[.val (.int p0), .val (.int p1), .val (.long q2), .second, .val (.long q3), .second, .val (.long q4), .second, .val (.long q5), .second, .val (.int (0 : Int32)), .val (.ref b2), .val (.int v7), .val (.int v11), .val (.ref b12), .val (.long (fn5 v7 (0 : Int32) (if v7 = (1 : Int32) then q2 else (if v7 = (2 : Int32) then q3 else q4)) q5)), .second, .unset, .unset, .unset] []))
      generalize hv44 : (fn5 v7 (0 : Int32) (if v7 = (1 : Int32) then q2 else (if v7 = (2 : Int32) then q3 else q4)) q5) = v44
      refine Ends.via (fun _ k => XS.iload X23.here hx rfl (hb hby at_106) rfl k) ?_
      show Ends p e below s 16 128 (Q0 Z p0 p1 q2 q3 q4 q5  h0 n0) (T23.setTop (mkF m 108 #[.val (.int p0), .val (.int p1), .val (.long q2), .second, .val (.long q3), .second, .val (.long q4), .second, .val (.long q5), .second, .val (.int (0 : Int32)), .val (.ref b2), .val (.int v7), .val (.int v11), .val (.ref b12), .val (.long v44), .second, .unset, .unset, .unset] [(.int v7)]))
      have J51 : ∀ (Tj51 : State) (Lj51 : List Loc) (Xj51 : Stand p l e room_1 s m #[(.int p0), (.int p1), (.long q2), (.long q3), (.long q4), (.long q5)] below meth c Tj51 Lj51 4 5) (ej51 : Tj51.heap = T15.heap) (Nj51 : Fr n0 Lj51) (sl50 : Slot) (v49 : Int64), (if v7 = (0 : Int32) then (-1 : Int64) else (if (0 : Int32) < v7 then (q5 + (((v7 - (0 : Int32)) - (1 : Int32)).toInt64)) else (if v7 = (1 : Int32) then q2 else (if v7 = (2 : Int32) then q3 else q4)))) = v49 → Ends p e below s 16 128 (Q0 Z p0 p1 q2 q3 q4 q5  h0 n0) (Tj51.setTop (mkF m 175 #[.val (.int p0), .val (.int p1), .val (.long q2), .second, .val (.long q3), .second, .val (.long q4), .second, .val (.long q5), .second, .val (.int (0 : Int32)), .val (.ref b2), .val (.int v7), .val (.int v11), .val (.ref b12), .val (.long v44), .second, .val (.long v49), .second, sl50] [])) := by
        intro Tj51 Lj51 Xj51 ej51 Nj51 sl50 v49 hv49
        refine Ends.via (fun _ k => XS.lload Xj51.here hx rfl (hb hby at_175) rfl k) ?_
        show Ends p e below s 16 128 (Q0 Z p0 p1 q2 q3 q4 q5  h0 n0) (Tj51.setTop (mkF m 177 #[.val (.int p0), .val (.int p1), .val (.long q2), .second, .val (.long q3), .second, .val (.long q4), .second, .val (.long q5), .second, .val (.int (0 : Int32)), .val (.ref b2), .val (.int v7), .val (.int v11), .val (.ref b12), .val (.long v44), .second, .val (.long v49), .second, sl50] [(.long v44)]))
        refine Ends.via (fun _ k => XS.lload Xj51.here hx rfl (hb hby at_177) rfl k) ?_
        show Ends p e below s 16 128 (Q0 Z p0 p1 q2 q3 q4 q5  h0 n0) (Tj51.setTop (mkF m 179 #[.val (.int p0), .val (.int p1), .val (.long q2), .second, .val (.long q3), .second, .val (.long q4), .second, .val (.long q5), .second, .val (.int (0 : Int32)), .val (.ref b2), .val (.int v7), .val (.int v11), .val (.ref b12), .val (.long v44), .second, .val (.long v49), .second, sl50] [(.long v49), (.long v44)]))
        refine Ends.via (fun _ k => XS.lcmp Xj51.here hx rfl (hb hby at_179) rfl k) ?_
        show Ends p e below s 16 128 (Q0 Z p0 p1 q2 q3 q4 q5  h0 n0) (Tj51.setTop (mkF m 180 #[.val (.int p0), .val (.int p1), .val (.long q2), .second, .val (.long q3), .second, .val (.long q4), .second, .val (.long q5), .second, .val (.int (0 : Int32)), .val (.ref b2), .val (.int v7), .val (.int v11), .val (.ref b12), .val (.long v44), .second, .val (.long v49), .second, sl50] [(.int (lcmpW v44 v49))]))
        by_cases hc52 : v44 = v49
        · refine Ends.via (fun _ k => XS.ifNo Xj51.here hx rfl (hb hby at_180) rfl ((if0 _ _).trans (teq ((lw_eq _ _).mpr hc52)).2) k) ?_
          show Ends p e below s 16 128 (Q0 Z p0 p1 q2 q3 q4 q5  h0 n0) (Tj51.setTop (mkF m 183 #[.val (.int p0), .val (.int p1), .val (.long q2), .second, .val (.long q3), .second, .val (.long q4), .second, .val (.long q5), .second, .val (.int (0 : Int32)), .val (.ref b2), .val (.int v7), .val (.int v11), .val (.ref b12), .val (.long v44), .second, .val (.long v49), .second, sl50] []))
          refine Ends.via (fun _ k => XS.iconst Xj51.here hx rfl (hb hby at_183) k) ?_
          show Ends p e below s 16 128 (Q0 Z p0 p1 q2 q3 q4 q5  h0 n0) (Tj51.setTop (mkF m 184 #[.val (.int p0), .val (.int p1), .val (.long q2), .second, .val (.long q3), .second, .val (.long q4), .second, .val (.long q5), .second, .val (.int (0 : Int32)), .val (.ref b2), .val (.int v7), .val (.int v11), .val (.ref b12), .val (.long v44), .second, .val (.long v49), .second, sl50] [(.int (1 : Int32))]))
          refine Ends.via (fun _ k => XS.goto Xj51.here hx rfl (pc0 := 184) (pc' := 188) rfl (hb hby at_184) (by decide) (by decide) k) ?_
          show Ends p e below s 16 128 (Q0 Z p0 p1 q2 q3 q4 q5  h0 n0) (Tj51.setTop (mkF m 188 #[.val (.int p0), .val (.int p1), .val (.long q2), .second, .val (.long q3), .second, .val (.long q4), .second, .val (.long q5), .second, .val (.int (0 : Int32)), .val (.ref b2), .val (.int v7), .val (.int v11), .val (.ref b12), .val (.long v44), .second, .val (.long v49), .second, sl50] [(.int (1 : Int32))]))
          refine Ends.ret Xj51 (v := some (.int (nar .boolean (1 : Int32)))) (fun h => by rw [Bd.returns] at h; cases h) Bd.notSynchronized (fun fs hr => retN Xj51 hx (t := .boolean) Bd.returns (by simp) (hb hby at_188) hr) ?_ (by decide) (by decide)
          exact ⟨rfl, Nj51⟩
        · refine Ends.via (fun _ k => XS.ifYes Xj51.here hx rfl (pc0 := 180) (pc' := 187) rfl (hb hby at_180) rfl ((if0 _ _).trans (feq (mt (lw_eq _ _).mp hc52)).2) (by decide) (by decide) k) ?_
          show Ends p e below s 16 128 (Q0 Z p0 p1 q2 q3 q4 q5  h0 n0) (Tj51.setTop (mkF m 187 #[.val (.int p0), .val (.int p1), .val (.long q2), .second, .val (.long q3), .second, .val (.long q4), .second, .val (.long q5), .second, .val (.int (0 : Int32)), .val (.ref b2), .val (.int v7), .val (.int v11), .val (.ref b12), .val (.long v44), .second, .val (.long v49), .second, sl50] []))
          refine Ends.via (fun _ k => XS.iconst Xj51.here hx rfl (hb hby at_187) k) ?_
          show Ends p e below s 16 128 (Q0 Z p0 p1 q2 q3 q4 q5  h0 n0) (Tj51.setTop (mkF m 188 #[.val (.int p0), .val (.int p1), .val (.long q2), .second, .val (.long q3), .second, .val (.long q4), .second, .val (.long q5), .second, .val (.int (0 : Int32)), .val (.ref b2), .val (.int v7), .val (.int v11), .val (.ref b12), .val (.long v44), .second, .val (.long v49), .second, sl50] [(.int (0 : Int32))]))
          refine Ends.ret Xj51 (v := some (.int (nar .boolean (0 : Int32)))) (fun h => by rw [Bd.returns] at h; cases h) Bd.notSynchronized (fun fs hr => retN Xj51 hx (t := .boolean) Bd.returns (by simp) (hb hby at_188) hr) ?_ (by decide) (by decide)
          exact absurd (own_leaf1 p0 p1 q2 q3 q4 q5 v7 v11 v44 v49 hv1 hv7 hv11 hv44 hv49 hc52) id
      by_cases hc53 : v7 = (0 : Int32)
      · refine Ends.via (fun _ k => XS.ifNo X23.here hx rfl (hb hby at_108) rfl ((if0 _ _).trans (teq hc53).2) k) ?_
        show Ends p e below s 16 128 (Q0 Z p0 p1 q2 q3 q4 q5  h0 n0) (T23.setTop (mkF m 111 #[.val (.int p0), .val (.int p1), .val (.long q2), .second, .val (.long q3), .second, .val (.long q4), .second, .val (.long q5), .second, .val (.int (0 : Int32)), .val (.ref b2), .val (.int v7), .val (.int v11), .val (.ref b12), .val (.long v44), .second, .unset, .unset, .unset] []))
        refine Ends.via (X23.ldc2Long hx hown (mvT hZ (hw _ (List.mem_of_getElem? (i := 37) rfl))) (g := (mkF m 111 #[.val (.int p0), .val (.int p1), .val (.long q2), .second, .val (.long q3), .second, .val (.long q4), .second, .val (.long q5), .second, .val (.int (0 : Int32)), .val (.ref b2), .val (.int v7), .val (.int v11), .val (.ref b12), .val (.long v44), .second, .unset, .unset, .unset] [])) rfl (hb hby at_111)) ?_
        show Ends p e below s 16 128 (Q0 Z p0 p1 q2 q3 q4 q5  h0 n0) (T23.setTop (mkF m 114 #[.val (.int p0), .val (.int p1), .val (.long q2), .second, .val (.long q3), .second, .val (.long q4), .second, .val (.long q5), .second, .val (.int (0 : Int32)), .val (.ref b2), .val (.int v7), .val (.int v11), .val (.ref b12), .val (.long v44), .second, .unset, .unset, .unset] [(.long (-1 : Int64))]))
        refine Ends.via (fun _ k => XS.lstore X23.here hx rfl (hb hby at_114) rfl (l' := #[.val (.int p0), .val (.int p1), .val (.long q2), .second, .val (.long q3), .second, .val (.long q4), .second, .val (.long q5), .second, .val (.int (0 : Int32)), .val (.ref b2), .val (.int v7), .val (.int v11), .val (.ref b12), .val (.long v44), .second, .val (.long (-1 : Int64)), .second, .unset]) rfl k) ?_
        show Ends p e below s 16 128 (Q0 Z p0 p1 q2 q3 q4 q5  h0 n0) (T23.setTop (mkF m 116 #[.val (.int p0), .val (.int p1), .val (.long q2), .second, .val (.long q3), .second, .val (.long q4), .second, .val (.long q5), .second, .val (.int (0 : Int32)), .val (.ref b2), .val (.int v7), .val (.int v11), .val (.ref b12), .val (.long v44), .second, .val (.long (-1 : Int64)), .second, .unset] []))
        refine Ends.via (fun _ k => XS.goto X23.here hx rfl (pc0 := 116) (pc' := 175) rfl (hb hby at_116) (by decide) (by decide) k) ?_
        show Ends p e below s 16 128 (Q0 Z p0 p1 q2 q3 q4 q5  h0 n0) (T23.setTop (mkF m 175 #[.val (.int p0), .val (.int p1), .val (.long q2), .second, .val (.long q3), .second, .val (.long q4), .second, .val (.long q5), .second, .val (.int (0 : Int32)), .val (.ref b2), .val (.int v7), .val (.int v11), .val (.ref b12), .val (.long v44), .second, .val (.long (-1 : Int64)), .second, .unset] []))
        exact J51 T23 _ X23 e23 N23 (.unset) (-1 : Int64) (by first | (simp only [if_pos hc53]; done) | rfl)
      · refine Ends.via (fun _ k => XS.ifYes X23.here hx rfl (pc0 := 108) (pc' := 119) rfl (hb hby at_108) rfl ((if0 _ _).trans (feq hc53).2) (by decide) (by decide) k) ?_
        show Ends p e below s 16 128 (Q0 Z p0 p1 q2 q3 q4 q5  h0 n0) (T23.setTop (mkF m 119 #[.val (.int p0), .val (.int p1), .val (.long q2), .second, .val (.long q3), .second, .val (.long q4), .second, .val (.long q5), .second, .val (.int (0 : Int32)), .val (.ref b2), .val (.int v7), .val (.int v11), .val (.ref b12), .val (.long v44), .second, .unset, .unset, .unset] []))
        refine Ends.via (fun _ k => XS.iload X23.here hx rfl (hb hby at_119) rfl k) ?_
        show Ends p e below s 16 128 (Q0 Z p0 p1 q2 q3 q4 q5  h0 n0) (T23.setTop (mkF m 121 #[.val (.int p0), .val (.int p1), .val (.long q2), .second, .val (.long q3), .second, .val (.long q4), .second, .val (.long q5), .second, .val (.int (0 : Int32)), .val (.ref b2), .val (.int v7), .val (.int v11), .val (.ref b12), .val (.long v44), .second, .unset, .unset, .unset] [(.int v7)]))
        refine Ends.via (fun _ k => XS.iload X23.here hx rfl (hb hby at_121) rfl k) ?_
        show Ends p e below s 16 128 (Q0 Z p0 p1 q2 q3 q4 q5  h0 n0) (T23.setTop (mkF m 123 #[.val (.int p0), .val (.int p1), .val (.long q2), .second, .val (.long q3), .second, .val (.long q4), .second, .val (.long q5), .second, .val (.int (0 : Int32)), .val (.ref b2), .val (.int v7), .val (.int v11), .val (.ref b12), .val (.long v44), .second, .unset, .unset, .unset] [(.int (0 : Int32)), (.int v7)]))
        by_cases hc54 : (0 : Int32) < v7
        · refine Ends.via (fun _ k => XS.icmpYes X23.here hx rfl (pc0 := 123) (pc' := 158) rfl (hb hby at_123) rfl (tlt hc54).2.2.1 (by decide) (by decide) k) ?_
          show Ends p e below s 16 128 (Q0 Z p0 p1 q2 q3 q4 q5  h0 n0) (T23.setTop (mkF m 158 #[.val (.int p0), .val (.int p1), .val (.long q2), .second, .val (.long q3), .second, .val (.long q4), .second, .val (.long q5), .second, .val (.int (0 : Int32)), .val (.ref b2), .val (.int v7), .val (.int v11), .val (.ref b12), .val (.long v44), .second, .unset, .unset, .unset] []))
          refine Ends.via (fun _ k => XS.iload X23.here hx rfl (hb hby at_158) rfl k) ?_
          show Ends p e below s 16 128 (Q0 Z p0 p1 q2 q3 q4 q5  h0 n0) (T23.setTop (mkF m 160 #[.val (.int p0), .val (.int p1), .val (.long q2), .second, .val (.long q3), .second, .val (.long q4), .second, .val (.long q5), .second, .val (.int (0 : Int32)), .val (.ref b2), .val (.int v7), .val (.int v11), .val (.ref b12), .val (.long v44), .second, .unset, .unset, .unset] [(.int v7)]))
          refine Ends.via (fun _ k => XS.iload X23.here hx rfl (hb hby at_160) rfl k) ?_
          show Ends p e below s 16 128 (Q0 Z p0 p1 q2 q3 q4 q5  h0 n0) (T23.setTop (mkF m 162 #[.val (.int p0), .val (.int p1), .val (.long q2), .second, .val (.long q3), .second, .val (.long q4), .second, .val (.long q5), .second, .val (.int (0 : Int32)), .val (.ref b2), .val (.int v7), .val (.int v11), .val (.ref b12), .val (.long v44), .second, .unset, .unset, .unset] [(.int (0 : Int32)), (.int v7)]))
          refine Ends.via (fun _ k => XS.isub X23.here hx rfl (hb hby at_162) rfl k) ?_
          show Ends p e below s 16 128 (Q0 Z p0 p1 q2 q3 q4 q5  h0 n0) (T23.setTop (mkF m 163 #[.val (.int p0), .val (.int p1), .val (.long q2), .second, .val (.long q3), .second, .val (.long q4), .second, .val (.long q5), .second, .val (.int (0 : Int32)), .val (.ref b2), .val (.int v7), .val (.int v11), .val (.ref b12), .val (.long v44), .second, .unset, .unset, .unset] [(.int (v7 - (0 : Int32)))]))
          refine Ends.via (fun _ k => XS.istore X23.here hx rfl (hb hby at_163) rfl (l' := #[.val (.int p0), .val (.int p1), .val (.long q2), .second, .val (.long q3), .second, .val (.long q4), .second, .val (.long q5), .second, .val (.int (0 : Int32)), .val (.ref b2), .val (.int v7), .val (.int v11), .val (.ref b12), .val (.long v44), .second, .unset, .unset, .val (.int (v7 - (0 : Int32)))]) rfl k) ?_
          show Ends p e below s 16 128 (Q0 Z p0 p1 q2 q3 q4 q5  h0 n0) (T23.setTop (mkF m 165 #[.val (.int p0), .val (.int p1), .val (.long q2), .second, .val (.long q3), .second, .val (.long q4), .second, .val (.long q5), .second, .val (.int (0 : Int32)), .val (.ref b2), .val (.int v7), .val (.int v11), .val (.ref b12), .val (.long v44), .second, .unset, .unset, .val (.int (v7 - (0 : Int32)))] []))
          refine Ends.via (fun _ k => XS.lload X23.here hx rfl (hb hby at_165) rfl k) ?_
          show Ends p e below s 16 128 (Q0 Z p0 p1 q2 q3 q4 q5  h0 n0) (T23.setTop (mkF m 167 #[.val (.int p0), .val (.int p1), .val (.long q2), .second, .val (.long q3), .second, .val (.long q4), .second, .val (.long q5), .second, .val (.int (0 : Int32)), .val (.ref b2), .val (.int v7), .val (.int v11), .val (.ref b12), .val (.long v44), .second, .unset, .unset, .val (.int (v7 - (0 : Int32)))] [(.long q5)]))
          refine Ends.via (fun _ k => XS.iload X23.here hx rfl (hb hby at_167) rfl k) ?_
          show Ends p e below s 16 128 (Q0 Z p0 p1 q2 q3 q4 q5  h0 n0) (T23.setTop (mkF m 169 #[.val (.int p0), .val (.int p1), .val (.long q2), .second, .val (.long q3), .second, .val (.long q4), .second, .val (.long q5), .second, .val (.int (0 : Int32)), .val (.ref b2), .val (.int v7), .val (.int v11), .val (.ref b12), .val (.long v44), .second, .unset, .unset, .val (.int (v7 - (0 : Int32)))] [(.int (v7 - (0 : Int32))), (.long q5)]))
          refine Ends.via (fun _ k => XS.iconst X23.here hx rfl (hb hby at_169) k) ?_
          show Ends p e below s 16 128 (Q0 Z p0 p1 q2 q3 q4 q5  h0 n0) (T23.setTop (mkF m 170 #[.val (.int p0), .val (.int p1), .val (.long q2), .second, .val (.long q3), .second, .val (.long q4), .second, .val (.long q5), .second, .val (.int (0 : Int32)), .val (.ref b2), .val (.int v7), .val (.int v11), .val (.ref b12), .val (.long v44), .second, .unset, .unset, .val (.int (v7 - (0 : Int32)))] [(.int (1 : Int32)), (.int (v7 - (0 : Int32))), (.long q5)]))
          refine Ends.via (fun _ k => XS.isub X23.here hx rfl (hb hby at_170) rfl k) ?_
          show Ends p e below s 16 128 (Q0 Z p0 p1 q2 q3 q4 q5  h0 n0) (T23.setTop (mkF m 171 #[.val (.int p0), .val (.int p1), .val (.long q2), .second, .val (.long q3), .second, .val (.long q4), .second, .val (.long q5), .second, .val (.int (0 : Int32)), .val (.ref b2), .val (.int v7), .val (.int v11), .val (.ref b12), .val (.long v44), .second, .unset, .unset, .val (.int (v7 - (0 : Int32)))] [(.int ((v7 - (0 : Int32)) - (1 : Int32))), (.long q5)]))
          refine Ends.via (fun _ k => XS.i2l X23.here hx rfl (hb hby at_171) rfl k) ?_
          show Ends p e below s 16 128 (Q0 Z p0 p1 q2 q3 q4 q5  h0 n0) (T23.setTop (mkF m 172 #[.val (.int p0), .val (.int p1), .val (.long q2), .second, .val (.long q3), .second, .val (.long q4), .second, .val (.long q5), .second, .val (.int (0 : Int32)), .val (.ref b2), .val (.int v7), .val (.int v11), .val (.ref b12), .val (.long v44), .second, .unset, .unset, .val (.int (v7 - (0 : Int32)))] [(.long (((v7 - (0 : Int32)) - (1 : Int32)).toInt64)), (.long q5)]))
          refine Ends.via (fun _ k => XS.ladd X23.here hx rfl (hb hby at_172) rfl k) ?_
          show Ends p e below s 16 128 (Q0 Z p0 p1 q2 q3 q4 q5  h0 n0) (T23.setTop (mkF m 173 #[.val (.int p0), .val (.int p1), .val (.long q2), .second, .val (.long q3), .second, .val (.long q4), .second, .val (.long q5), .second, .val (.int (0 : Int32)), .val (.ref b2), .val (.int v7), .val (.int v11), .val (.ref b12), .val (.long v44), .second, .unset, .unset, .val (.int (v7 - (0 : Int32)))] [(.long (q5 + (((v7 - (0 : Int32)) - (1 : Int32)).toInt64)))]))
          refine Ends.via (fun _ k => XS.lstore X23.here hx rfl (hb hby at_173) rfl (l' := #[.val (.int p0), .val (.int p1), .val (.long q2), .second, .val (.long q3), .second, .val (.long q4), .second, .val (.long q5), .second, .val (.int (0 : Int32)), .val (.ref b2), .val (.int v7), .val (.int v11), .val (.ref b12), .val (.long v44), .second, .val (.long (q5 + (((v7 - (0 : Int32)) - (1 : Int32)).toInt64))), .second, .val (.int (v7 - (0 : Int32)))]) rfl k) ?_
          show Ends p e below s 16 128 (Q0 Z p0 p1 q2 q3 q4 q5  h0 n0) (T23.setTop (mkF m 175 #[.val (.int p0), .val (.int p1), .val (.long q2), .second, .val (.long q3), .second, .val (.long q4), .second, .val (.long q5), .second, .val (.int (0 : Int32)), .val (.ref b2), .val (.int v7), .val (.int v11), .val (.ref b12), .val (.long v44), .second, .val (.long (q5 + (((v7 - (0 : Int32)) - (1 : Int32)).toInt64))), .second, .val (.int (v7 - (0 : Int32)))] []))
          exact J51 T23 _ X23 e23 N23 (.val (.int (v7 - (0 : Int32)))) (q5 + (((v7 - (0 : Int32)) - (1 : Int32)).toInt64)) (by first | (simp only [if_neg hc53, if_pos hc54]; done) | rfl)
        · refine Ends.via (fun _ k => XS.icmpNo X23.here hx rfl (hb hby at_123) rfl (flt hc54).2.2.1 k) ?_
          show Ends p e below s 16 128 (Q0 Z p0 p1 q2 q3 q4 q5  h0 n0) (T23.setTop (mkF m 126 #[.val (.int p0), .val (.int p1), .val (.long q2), .second, .val (.long q3), .second, .val (.long q4), .second, .val (.long q5), .second, .val (.int (0 : Int32)), .val (.ref b2), .val (.int v7), .val (.int v11), .val (.ref b12), .val (.long v44), .second, .unset, .unset, .unset] []))
          refine Ends.via (fun _ k => XS.iload X23.here hx rfl (hb hby at_126) rfl k) ?_
          show Ends p e below s 16 128 (Q0 Z p0 p1 q2 q3 q4 q5  h0 n0) (T23.setTop (mkF m 128 #[.val (.int p0), .val (.int p1), .val (.long q2), .second, .val (.long q3), .second, .val (.long q4), .second, .val (.long q5), .second, .val (.int (0 : Int32)), .val (.ref b2), .val (.int v7), .val (.int v11), .val (.ref b12), .val (.long v44), .second, .unset, .unset, .unset] [(.int v7)]))
          refine Ends.via (fun _ k => XS.iconst X23.here hx rfl (hb hby at_128) k) ?_
          show Ends p e below s 16 128 (Q0 Z p0 p1 q2 q3 q4 q5  h0 n0) (T23.setTop (mkF m 129 #[.val (.int p0), .val (.int p1), .val (.long q2), .second, .val (.long q3), .second, .val (.long q4), .second, .val (.long q5), .second, .val (.int (0 : Int32)), .val (.ref b2), .val (.int v7), .val (.int v11), .val (.ref b12), .val (.long v44), .second, .unset, .unset, .unset] [(.int (1 : Int32)), (.int v7)]))
          by_cases hc55 : v7 = (1 : Int32)
          · refine Ends.via (fun _ k => XS.icmpNo X23.here hx rfl (hb hby at_129) rfl (teq hc55).2 k) ?_
            show Ends p e below s 16 128 (Q0 Z p0 p1 q2 q3 q4 q5  h0 n0) (T23.setTop (mkF m 132 #[.val (.int p0), .val (.int p1), .val (.long q2), .second, .val (.long q3), .second, .val (.long q4), .second, .val (.long q5), .second, .val (.int (0 : Int32)), .val (.ref b2), .val (.int v7), .val (.int v11), .val (.ref b12), .val (.long v44), .second, .unset, .unset, .unset] []))
            refine Ends.via (fun _ k => XS.lloadN X23.here hx rfl (hb hby at_132) rfl k) ?_
            show Ends p e below s 16 128 (Q0 Z p0 p1 q2 q3 q4 q5  h0 n0) (T23.setTop (mkF m 133 #[.val (.int p0), .val (.int p1), .val (.long q2), .second, .val (.long q3), .second, .val (.long q4), .second, .val (.long q5), .second, .val (.int (0 : Int32)), .val (.ref b2), .val (.int v7), .val (.int v11), .val (.ref b12), .val (.long v44), .second, .unset, .unset, .unset] [(.long q2)]))
            refine Ends.via (fun _ k => XS.lstore X23.here hx rfl (hb hby at_133) rfl (l' := #[.val (.int p0), .val (.int p1), .val (.long q2), .second, .val (.long q3), .second, .val (.long q4), .second, .val (.long q5), .second, .val (.int (0 : Int32)), .val (.ref b2), .val (.int v7), .val (.int v11), .val (.ref b12), .val (.long v44), .second, .val (.long q2), .second, .unset]) rfl k) ?_
            show Ends p e below s 16 128 (Q0 Z p0 p1 q2 q3 q4 q5  h0 n0) (T23.setTop (mkF m 135 #[.val (.int p0), .val (.int p1), .val (.long q2), .second, .val (.long q3), .second, .val (.long q4), .second, .val (.long q5), .second, .val (.int (0 : Int32)), .val (.ref b2), .val (.int v7), .val (.int v11), .val (.ref b12), .val (.long v44), .second, .val (.long q2), .second, .unset] []))
            refine Ends.via (fun _ k => XS.goto X23.here hx rfl (pc0 := 135) (pc' := 175) rfl (hb hby at_135) (by decide) (by decide) k) ?_
            show Ends p e below s 16 128 (Q0 Z p0 p1 q2 q3 q4 q5  h0 n0) (T23.setTop (mkF m 175 #[.val (.int p0), .val (.int p1), .val (.long q2), .second, .val (.long q3), .second, .val (.long q4), .second, .val (.long q5), .second, .val (.int (0 : Int32)), .val (.ref b2), .val (.int v7), .val (.int v11), .val (.ref b12), .val (.long v44), .second, .val (.long q2), .second, .unset] []))
            exact J51 T23 _ X23 e23 N23 (.unset) q2 (by first | (simp only [if_neg hc53, if_neg hc54, if_pos hc55]; done) | rfl)
          · refine Ends.via (fun _ k => XS.icmpYes X23.here hx rfl (pc0 := 129) (pc' := 138) rfl (hb hby at_129) rfl (feq hc55).2 (by decide) (by decide) k) ?_
            show Ends p e below s 16 128 (Q0 Z p0 p1 q2 q3 q4 q5  h0 n0) (T23.setTop (mkF m 138 #[.val (.int p0), .val (.int p1), .val (.long q2), .second, .val (.long q3), .second, .val (.long q4), .second, .val (.long q5), .second, .val (.int (0 : Int32)), .val (.ref b2), .val (.int v7), .val (.int v11), .val (.ref b12), .val (.long v44), .second, .unset, .unset, .unset] []))
            refine Ends.via (fun _ k => XS.iload X23.here hx rfl (hb hby at_138) rfl k) ?_
            show Ends p e below s 16 128 (Q0 Z p0 p1 q2 q3 q4 q5  h0 n0) (T23.setTop (mkF m 140 #[.val (.int p0), .val (.int p1), .val (.long q2), .second, .val (.long q3), .second, .val (.long q4), .second, .val (.long q5), .second, .val (.int (0 : Int32)), .val (.ref b2), .val (.int v7), .val (.int v11), .val (.ref b12), .val (.long v44), .second, .unset, .unset, .unset] [(.int v7)]))
            refine Ends.via (fun _ k => XS.iconst X23.here hx rfl (hb hby at_140) k) ?_
            show Ends p e below s 16 128 (Q0 Z p0 p1 q2 q3 q4 q5  h0 n0) (T23.setTop (mkF m 141 #[.val (.int p0), .val (.int p1), .val (.long q2), .second, .val (.long q3), .second, .val (.long q4), .second, .val (.long q5), .second, .val (.int (0 : Int32)), .val (.ref b2), .val (.int v7), .val (.int v11), .val (.ref b12), .val (.long v44), .second, .unset, .unset, .unset] [(.int (2 : Int32)), (.int v7)]))
            by_cases hc56 : v7 = (2 : Int32)
            · refine Ends.via (fun _ k => XS.icmpNo X23.here hx rfl (hb hby at_141) rfl (teq hc56).2 k) ?_
              show Ends p e below s 16 128 (Q0 Z p0 p1 q2 q3 q4 q5  h0 n0) (T23.setTop (mkF m 144 #[.val (.int p0), .val (.int p1), .val (.long q2), .second, .val (.long q3), .second, .val (.long q4), .second, .val (.long q5), .second, .val (.int (0 : Int32)), .val (.ref b2), .val (.int v7), .val (.int v11), .val (.ref b12), .val (.long v44), .second, .unset, .unset, .unset] []))
              refine Ends.via (fun _ k => XS.lload X23.here hx rfl (hb hby at_144) rfl k) ?_
              show Ends p e below s 16 128 (Q0 Z p0 p1 q2 q3 q4 q5  h0 n0) (T23.setTop (mkF m 146 #[.val (.int p0), .val (.int p1), .val (.long q2), .second, .val (.long q3), .second, .val (.long q4), .second, .val (.long q5), .second, .val (.int (0 : Int32)), .val (.ref b2), .val (.int v7), .val (.int v11), .val (.ref b12), .val (.long v44), .second, .unset, .unset, .unset] [(.long q3)]))
              refine Ends.via (fun _ k => XS.lstore X23.here hx rfl (hb hby at_146) rfl (l' := #[.val (.int p0), .val (.int p1), .val (.long q2), .second, .val (.long q3), .second, .val (.long q4), .second, .val (.long q5), .second, .val (.int (0 : Int32)), .val (.ref b2), .val (.int v7), .val (.int v11), .val (.ref b12), .val (.long v44), .second, .val (.long q3), .second, .unset]) rfl k) ?_
              show Ends p e below s 16 128 (Q0 Z p0 p1 q2 q3 q4 q5  h0 n0) (T23.setTop (mkF m 148 #[.val (.int p0), .val (.int p1), .val (.long q2), .second, .val (.long q3), .second, .val (.long q4), .second, .val (.long q5), .second, .val (.int (0 : Int32)), .val (.ref b2), .val (.int v7), .val (.int v11), .val (.ref b12), .val (.long v44), .second, .val (.long q3), .second, .unset] []))
              refine Ends.via (fun _ k => XS.goto X23.here hx rfl (pc0 := 148) (pc' := 175) rfl (hb hby at_148) (by decide) (by decide) k) ?_
              show Ends p e below s 16 128 (Q0 Z p0 p1 q2 q3 q4 q5  h0 n0) (T23.setTop (mkF m 175 #[.val (.int p0), .val (.int p1), .val (.long q2), .second, .val (.long q3), .second, .val (.long q4), .second, .val (.long q5), .second, .val (.int (0 : Int32)), .val (.ref b2), .val (.int v7), .val (.int v11), .val (.ref b12), .val (.long v44), .second, .val (.long q3), .second, .unset] []))
              exact J51 T23 _ X23 e23 N23 (.unset) q3 (by first | (simp only [if_neg hc53, if_neg hc54, if_neg hc55, if_pos hc56]; done) | rfl)
            · refine Ends.via (fun _ k => XS.icmpYes X23.here hx rfl (pc0 := 141) (pc' := 151) rfl (hb hby at_141) rfl (feq hc56).2 (by decide) (by decide) k) ?_
              show Ends p e below s 16 128 (Q0 Z p0 p1 q2 q3 q4 q5  h0 n0) (T23.setTop (mkF m 151 #[.val (.int p0), .val (.int p1), .val (.long q2), .second, .val (.long q3), .second, .val (.long q4), .second, .val (.long q5), .second, .val (.int (0 : Int32)), .val (.ref b2), .val (.int v7), .val (.int v11), .val (.ref b12), .val (.long v44), .second, .unset, .unset, .unset] []))
              refine Ends.via (fun _ k => XS.lload X23.here hx rfl (hb hby at_151) rfl k) ?_
              show Ends p e below s 16 128 (Q0 Z p0 p1 q2 q3 q4 q5  h0 n0) (T23.setTop (mkF m 153 #[.val (.int p0), .val (.int p1), .val (.long q2), .second, .val (.long q3), .second, .val (.long q4), .second, .val (.long q5), .second, .val (.int (0 : Int32)), .val (.ref b2), .val (.int v7), .val (.int v11), .val (.ref b12), .val (.long v44), .second, .unset, .unset, .unset] [(.long q4)]))
              refine Ends.via (fun _ k => XS.lstore X23.here hx rfl (hb hby at_153) rfl (l' := #[.val (.int p0), .val (.int p1), .val (.long q2), .second, .val (.long q3), .second, .val (.long q4), .second, .val (.long q5), .second, .val (.int (0 : Int32)), .val (.ref b2), .val (.int v7), .val (.int v11), .val (.ref b12), .val (.long v44), .second, .val (.long q4), .second, .unset]) rfl k) ?_
              show Ends p e below s 16 128 (Q0 Z p0 p1 q2 q3 q4 q5  h0 n0) (T23.setTop (mkF m 155 #[.val (.int p0), .val (.int p1), .val (.long q2), .second, .val (.long q3), .second, .val (.long q4), .second, .val (.long q5), .second, .val (.int (0 : Int32)), .val (.ref b2), .val (.int v7), .val (.int v11), .val (.ref b12), .val (.long v44), .second, .val (.long q4), .second, .unset] []))
              refine Ends.via (fun _ k => XS.goto X23.here hx rfl (pc0 := 155) (pc' := 175) rfl (hb hby at_155) (by decide) (by decide) k) ?_
              show Ends p e below s 16 128 (Q0 Z p0 p1 q2 q3 q4 q5  h0 n0) (T23.setTop (mkF m 175 #[.val (.int p0), .val (.int p1), .val (.long q2), .second, .val (.long q3), .second, .val (.long q4), .second, .val (.long q5), .second, .val (.int (0 : Int32)), .val (.ref b2), .val (.int v7), .val (.int v11), .val (.ref b12), .val (.long v44), .second, .val (.long q4), .second, .unset] []))
              exact J51 T23 _ X23 e23 N23 (.unset) q4 (by first | (simp only [if_neg hc53, if_neg hc54, if_neg hc55, if_neg hc56]; done) | rfl)
    by_cases hc57 : (p0 &&& (1 : Int32)) = (0 : Int32)
    · refine Ends.via (fun _ k => XS.ifYes X2.here hx rfl (pc0 := 50) (pc' := 59) rfl (hb hby at_50) rfl ((if0 _ _).trans (teq hc57).1) (by decide) (by decide) k) ?_
      show Ends p e below s 16 128 (Q0 Z p0 p1 q2 q3 q4 q5  h0 n0) (T2.setTop (mkF m 59 #[.val (.int p0), .val (.int p1), .val (.long q2), .second, .val (.long q3), .second, .val (.long q4), .second, .val (.long q5), .second, .val (.int (0 : Int32)), .val (.ref b2), .unset, .unset, .unset, .unset, .unset, .unset, .unset, .unset] []))
      refine Ends.via (fun _ k => XS.iloadN X2.here hx rfl (hb hby at_59) rfl k) ?_
      show Ends p e below s 16 128 (Q0 Z p0 p1 q2 q3 q4 q5  h0 n0) (T2.setTop (mkF m 60 #[.val (.int p0), .val (.int p1), .val (.long q2), .second, .val (.long q3), .second, .val (.long q4), .second, .val (.long q5), .second, .val (.int (0 : Int32)), .val (.ref b2), .unset, .unset, .unset, .unset, .unset, .unset, .unset, .unset] [(.int p1)]))
      refine Ends.via (X2.ldcInt hx hown (mvT hZ (hw _ (List.mem_of_getElem? (i := 1) rfl))) (g := (mkF m 60 #[.val (.int p0), .val (.int p1), .val (.long q2), .second, .val (.long q3), .second, .val (.long q4), .second, .val (.long q5), .second, .val (.int (0 : Int32)), .val (.ref b2), .unset, .unset, .unset, .unset, .unset, .unset, .unset, .unset] [(.int p1)])) rfl (hb hby at_60)) ?_
      show Ends p e below s 16 128 (Q0 Z p0 p1 q2 q3 q4 q5  h0 n0) (T2.setTop (mkF m 62 #[.val (.int p0), .val (.int p1), .val (.long q2), .second, .val (.long q3), .second, .val (.long q4), .second, .val (.long q5), .second, .val (.int (0 : Int32)), .val (.ref b2), .unset, .unset, .unset, .unset, .unset, .unset, .unset, .unset] [(.int (1073741823 : Int32)), (.int p1)]))
      refine Ends.via (fun _ k => XS.iand X2.here hx rfl (hb hby at_62) rfl k) ?_
      show Ends p e below s 16 128 (Q0 Z p0 p1 q2 q3 q4 q5  h0 n0) (T2.setTop (mkF m 63 #[.val (.int p0), .val (.int p1), .val (.long q2), .second, .val (.long q3), .second, .val (.long q4), .second, .val (.long q5), .second, .val (.int (0 : Int32)), .val (.ref b2), .unset, .unset, .unset, .unset, .unset, .unset, .unset, .unset] [(.int (p1 &&& (1073741823 : Int32)))]))
      exact J8 T2 _ X2 e2 N0 (p1 &&& (1073741823 : Int32)) (by first | (simp only [if_pos hc57]; done) | rfl)
    · refine Ends.via (fun _ k => XS.ifNo X2.here hx rfl (hb hby at_50) rfl ((if0 _ _).trans (feq hc57).1) k) ?_
      show Ends p e below s 16 128 (Q0 Z p0 p1 q2 q3 q4 q5  h0 n0) (T2.setTop (mkF m 53 #[.val (.int p0), .val (.int p1), .val (.long q2), .second, .val (.long q3), .second, .val (.long q4), .second, .val (.long q5), .second, .val (.int (0 : Int32)), .val (.ref b2), .unset, .unset, .unset, .unset, .unset, .unset, .unset, .unset] []))
      refine Ends.via (fun _ k => XS.iloadN X2.here hx rfl (hb hby at_53) rfl k) ?_
      show Ends p e below s 16 128 (Q0 Z p0 p1 q2 q3 q4 q5  h0 n0) (T2.setTop (mkF m 54 #[.val (.int p0), .val (.int p1), .val (.long q2), .second, .val (.long q3), .second, .val (.long q4), .second, .val (.long q5), .second, .val (.int (0 : Int32)), .val (.ref b2), .unset, .unset, .unset, .unset, .unset, .unset, .unset, .unset] [(.int p1)]))
      refine Ends.via (fun _ k => XS.iconst X2.here hx rfl (hb hby at_54) k) ?_
      show Ends p e below s 16 128 (Q0 Z p0 p1 q2 q3 q4 q5  h0 n0) (T2.setTop (mkF m 55 #[.val (.int p0), .val (.int p1), .val (.long q2), .second, .val (.long q3), .second, .val (.long q4), .second, .val (.long q5), .second, .val (.int (0 : Int32)), .val (.ref b2), .unset, .unset, .unset, .unset, .unset, .unset, .unset, .unset] [(.int (3 : Int32)), (.int p1)]))
      refine Ends.via (fun _ k => XS.iand X2.here hx rfl (hb hby at_55) rfl k) ?_
      show Ends p e below s 16 128 (Q0 Z p0 p1 q2 q3 q4 q5  h0 n0) (T2.setTop (mkF m 56 #[.val (.int p0), .val (.int p1), .val (.long q2), .second, .val (.long q3), .second, .val (.long q4), .second, .val (.long q5), .second, .val (.int (0 : Int32)), .val (.ref b2), .unset, .unset, .unset, .unset, .unset, .unset, .unset, .unset] [(.int (p1 &&& (3 : Int32)))]))
      refine Ends.via (fun _ k => XS.goto X2.here hx rfl (pc0 := 56) (pc' := 63) rfl (hb hby at_56) (by decide) (by decide) k) ?_
      show Ends p e below s 16 128 (Q0 Z p0 p1 q2 q3 q4 q5  h0 n0) (T2.setTop (mkF m 63 #[.val (.int p0), .val (.int p1), .val (.long q2), .second, .val (.long q3), .second, .val (.long q4), .second, .val (.long q5), .second, .val (.int (0 : Int32)), .val (.ref b2), .unset, .unset, .unset, .unset, .unset, .unset, .unset, .unset] [(.int (p1 &&& (3 : Int32)))]))
      exact J8 T2 _ X2 e2 N0 (p1 &&& (3 : Int32)) (by first | (simp only [if_neg hc57]; done) | rfl)
  · show Ends p e below s 16 128 (Q0 Z p0 p1 q2 q3 q4 q5  h0 n0) (s₁.setTop (mkF m 7 #[.val (.int p0), .val (.int p1), .val (.long q2), .second, .val (.long q3), .second, .val (.long q4), .second, .val (.long q5), .second, .val (.int (1 : Int32)), .unset, .unset, .unset, .unset, .unset, .unset, .unset, .unset, .unset] []))
    refine Ends.via (fun _ k => XS.iload X0.here hx rfl (hb hby at_7) rfl k) ?_
    show Ends p e below s 16 128 (Q0 Z p0 p1 q2 q3 q4 q5  h0 n0) (s₁.setTop (mkF m 9 #[.val (.int p0), .val (.int p1), .val (.long q2), .second, .val (.long q3), .second, .val (.long q4), .second, .val (.long q5), .second, .val (.int (1 : Int32)), .unset, .unset, .unset, .unset, .unset, .unset, .unset, .unset, .unset] [(.int (1 : Int32))]))
    obtain ⟨T58, h58, k58, X58, e58, E58, A58, st58⟩ := newP X0 hx hZ (hw _ (List.mem_of_getElem? (i := 0) rfl)) e0 (g := (mkF m 9 #[.val (.int p0), .val (.int p1), .val (.long q2), .second, .val (.long q3), .second, .val (.long q4), .second, .val (.long q5), .second, .val (.int (1 : Int32)), .unset, .unset, .unset, .unset, .unset, .unset, .unset, .unset, .unset] [(.int (1 : Int32))])) rfl (hb hby at_9) rfl (by decide) (cap := 1) (by decide) (by decide) (by decide) (by decide)
    obtain ⟨b58, g58⟩ : ∃ z, z = h0.size := ⟨_, rfl⟩
    rw [← g58] at A58 st58
    have g_b58 : n0 ≤ b58 := Nat.le_trans Z0 (Nat.le_of_eq g58.symm)
    have Z58 : n0 ≤ h58.size := Nat.le_trans Z0 E58.1
    have V58 : Arv Z h58 b58 k58 .long (1 : Int32) [(.long (0 : Int64))] (.long (0 : Int64)) := (Arv.new A58 (by decide)).pad (pad_rep [] (.long (0 : Int64)) 1)
    refine Ends.via st58 ?_
    show Ends p e below s 16 128 (Q0 Z p0 p1 q2 q3 q4 q5  h0 n0) (T58.setTop (mkF m 11 #[.val (.int p0), .val (.int p1), .val (.long q2), .second, .val (.long q3), .second, .val (.long q4), .second, .val (.long q5), .second, .val (.int (1 : Int32)), .unset, .unset, .unset, .unset, .unset, .unset, .unset, .unset, .unset] [(.ref b58)]))
    refine Ends.via (fun _ k => XS.astore X58.here hx rfl (hb hby at_11) rfl rfl (l' := #[.val (.int p0), .val (.int p1), .val (.long q2), .second, .val (.long q3), .second, .val (.long q4), .second, .val (.long q5), .second, .val (.int (1 : Int32)), .val (.ref b58), .unset, .unset, .unset, .unset, .unset, .unset, .unset, .unset]) rfl k) ?_
    show Ends p e below s 16 128 (Q0 Z p0 p1 q2 q3 q4 q5  h0 n0) (T58.setTop (mkF m 13 #[.val (.int p0), .val (.int p1), .val (.long q2), .second, .val (.long q3), .second, .val (.long q4), .second, .val (.long q5), .second, .val (.int (1 : Int32)), .val (.ref b58), .unset, .unset, .unset, .unset, .unset, .unset, .unset, .unset] []))
    refine Ends.via (fun _ k => XS.iload X58.here hx rfl (hb hby at_13) rfl k) ?_
    show Ends p e below s 16 128 (Q0 Z p0 p1 q2 q3 q4 q5  h0 n0) (T58.setTop (mkF m 15 #[.val (.int p0), .val (.int p1), .val (.long q2), .second, .val (.long q3), .second, .val (.long q4), .second, .val (.long q5), .second, .val (.int (1 : Int32)), .val (.ref b58), .unset, .unset, .unset, .unset, .unset, .unset, .unset, .unset] [(.int (1 : Int32))]))
    have hf59 : (0 : Int32) < (1 : Int32) := by decide
    refine Ends.via (fun _ k => XS.ifNo X58.here hx rfl (hb hby at_15) rfl ((if0 _ _).trans (tlt hf59).2.2.2) k) ?_
    show Ends p e below s 16 128 (Q0 Z p0 p1 q2 q3 q4 q5  h0 n0) (T58.setTop (mkF m 18 #[.val (.int p0), .val (.int p1), .val (.long q2), .second, .val (.long q3), .second, .val (.long q4), .second, .val (.long q5), .second, .val (.int (1 : Int32)), .val (.ref b58), .unset, .unset, .unset, .unset, .unset, .unset, .unset, .unset] []))
    refine Ends.via (fun _ k => XS.aload X58.here hx rfl (hb hby at_18) rfl rfl k) ?_
    show Ends p e below s 16 128 (Q0 Z p0 p1 q2 q3 q4 q5  h0 n0) (T58.setTop (mkF m 20 #[.val (.int p0), .val (.int p1), .val (.long q2), .second, .val (.long q3), .second, .val (.long q4), .second, .val (.long q5), .second, .val (.int (1 : Int32)), .val (.ref b58), .unset, .unset, .unset, .unset, .unset, .unset, .unset, .unset] [(.ref b58)]))
    refine Ends.via (fun _ k => XS.iconst X58.here hx rfl (hb hby at_20) k) ?_
    show Ends p e below s 16 128 (Q0 Z p0 p1 q2 q3 q4 q5  h0 n0) (T58.setTop (mkF m 21 #[.val (.int p0), .val (.int p1), .val (.long q2), .second, .val (.long q3), .second, .val (.long q4), .second, .val (.long q5), .second, .val (.int (1 : Int32)), .val (.ref b58), .unset, .unset, .unset, .unset, .unset, .unset, .unset, .unset] [(.int (0 : Int32)), (.ref b58)]))
    refine Ends.via (fun _ k => XS.lloadN X58.here hx rfl (hb hby at_21) rfl k) ?_
    show Ends p e below s 16 128 (Q0 Z p0 p1 q2 q3 q4 q5  h0 n0) (T58.setTop (mkF m 22 #[.val (.int p0), .val (.int p1), .val (.long q2), .second, .val (.long q3), .second, .val (.long q4), .second, .val (.long q5), .second, .val (.int (1 : Int32)), .val (.ref b58), .unset, .unset, .unset, .unset, .unset, .unset, .unset, .unset] [(.long q2), (.int (0 : Int32)), (.ref b58)]))
    obtain ⟨cl60, Ar60, qk60, S60, Ng60, Hs60, Gf60⟩ := id V58
    have hin60 : ¬ ((0 : Int32) < 0 ∨ cl60.slots.size ≤ ((0 : Int32)).toNatClampNeg) := inb_of S60 ⟨by decide, by decide⟩
    obtain ⟨T60, h60, X60, e60, W60, st60⟩ := stJ X58 hx hZ e58 Ar60 (j := (0 : Int32)) hin60 (g := (mkF m 22 #[.val (.int p0), .val (.int p1), .val (.long q2), .second, .val (.long q3), .second, .val (.long q4), .second, .val (.long q5), .second, .val (.int (1 : Int32)), .val (.ref b58), .unset, .unset, .unset, .unset, .unset, .unset, .unset, .unset] [(.long q2), (.int (0 : Int32)), (.ref b58)])) rfl rfl (hb hby at_22)
    have V60 : Arv Z h60 b58 k58 .long (1 : Int32) [(.long q2)] (.long (0 : Int64)) := Arv.set Ar60 qk60 S60 Ng60 Hs60 Gf60 rfl W60 0 rfl (Nat.le_of_ble_eq_true rfl)
    have Z60 : n0 ≤ h60.size := Nat.le_trans Z58 (Keep.of_wr W60).1
    have N60 := Fr.snoc X60 N0 g_b58
    refine Ends.via st60 ?_
    show Ends p e below s 16 128 (Q0 Z p0 p1 q2 q3 q4 q5  h0 n0) (T60.setTop (mkF m 23 #[.val (.int p0), .val (.int p1), .val (.long q2), .second, .val (.long q3), .second, .val (.long q4), .second, .val (.long q5), .second, .val (.int (1 : Int32)), .val (.ref b58), .unset, .unset, .unset, .unset, .unset, .unset, .unset, .unset] []))
    refine Ends.via (fun _ k => XS.iload X60.here hx rfl (hb hby at_23) rfl k) ?_
    show Ends p e below s 16 128 (Q0 Z p0 p1 q2 q3 q4 q5  h0 n0) (T60.setTop (mkF m 25 #[.val (.int p0), .val (.int p1), .val (.long q2), .second, .val (.long q3), .second, .val (.long q4), .second, .val (.long q5), .second, .val (.int (1 : Int32)), .val (.ref b58), .unset, .unset, .unset, .unset, .unset, .unset, .unset, .unset] [(.int (1 : Int32))]))
    refine Ends.via (fun _ k => XS.iconst X60.here hx rfl (hb hby at_25) k) ?_
    show Ends p e below s 16 128 (Q0 Z p0 p1 q2 q3 q4 q5  h0 n0) (T60.setTop (mkF m 26 #[.val (.int p0), .val (.int p1), .val (.long q2), .second, .val (.long q3), .second, .val (.long q4), .second, .val (.long q5), .second, .val (.int (1 : Int32)), .val (.ref b58), .unset, .unset, .unset, .unset, .unset, .unset, .unset, .unset] [(.int (1 : Int32)), (.int (1 : Int32))]))
    have hf61 : ¬ ((1 : Int32) < (1 : Int32)) := by decide
    refine Ends.via (fun _ k => XS.icmpYes X60.here hx rfl (pc0 := 26) (pc' := 35) rfl (hb hby at_26) rfl (flt hf61).2.2.2 (by decide) (by decide) k) ?_
    show Ends p e below s 16 128 (Q0 Z p0 p1 q2 q3 q4 q5  h0 n0) (T60.setTop (mkF m 35 #[.val (.int p0), .val (.int p1), .val (.long q2), .second, .val (.long q3), .second, .val (.long q4), .second, .val (.long q5), .second, .val (.int (1 : Int32)), .val (.ref b58), .unset, .unset, .unset, .unset, .unset, .unset, .unset, .unset] []))
    refine Ends.via (fun _ k => XS.iload X60.here hx rfl (hb hby at_35) rfl k) ?_
    show Ends p e below s 16 128 (Q0 Z p0 p1 q2 q3 q4 q5  h0 n0) (T60.setTop (mkF m 37 #[.val (.int p0), .val (.int p1), .val (.long q2), .second, .val (.long q3), .second, .val (.long q4), .second, .val (.long q5), .second, .val (.int (1 : Int32)), .val (.ref b58), .unset, .unset, .unset, .unset, .unset, .unset, .unset, .unset] [(.int (1 : Int32))]))
    refine Ends.via (fun _ k => XS.iconst X60.here hx rfl (hb hby at_37) k) ?_
    show Ends p e below s 16 128 (Q0 Z p0 p1 q2 q3 q4 q5  h0 n0) (T60.setTop (mkF m 38 #[.val (.int p0), .val (.int p1), .val (.long q2), .second, .val (.long q3), .second, .val (.long q4), .second, .val (.long q5), .second, .val (.int (1 : Int32)), .val (.ref b58), .unset, .unset, .unset, .unset, .unset, .unset, .unset, .unset] [(.int (2 : Int32)), (.int (1 : Int32))]))
    have hf62 : ¬ ((2 : Int32) < (1 : Int32)) := by decide
    refine Ends.via (fun _ k => XS.icmpYes X60.here hx rfl (pc0 := 38) (pc' := 47) rfl (hb hby at_38) rfl (flt hf62).2.2.2 (by decide) (by decide) k) ?_
    show Ends p e below s 16 128 (Q0 Z p0 p1 q2 q3 q4 q5  h0 n0) (T60.setTop (mkF m 47 #[.val (.int p0), .val (.int p1), .val (.long q2), .second, .val (.long q3), .second, .val (.long q4), .second, .val (.long q5), .second, .val (.int (1 : Int32)), .val (.ref b58), .unset, .unset, .unset, .unset, .unset, .unset, .unset, .unset] []))
    refine Ends.via (fun _ k => XS.iloadN X60.here hx rfl (hb hby at_47) rfl k) ?_
    show Ends p e below s 16 128 (Q0 Z p0 p1 q2 q3 q4 q5  h0 n0) (T60.setTop (mkF m 48 #[.val (.int p0), .val (.int p1), .val (.long q2), .second, .val (.long q3), .second, .val (.long q4), .second, .val (.long q5), .second, .val (.int (1 : Int32)), .val (.ref b58), .unset, .unset, .unset, .unset, .unset, .unset, .unset, .unset] [(.int p0)]))
    refine Ends.via (fun _ k => XS.iconst X60.here hx rfl (hb hby at_48) k) ?_
    show Ends p e below s 16 128 (Q0 Z p0 p1 q2 q3 q4 q5  h0 n0) (T60.setTop (mkF m 49 #[.val (.int p0), .val (.int p1), .val (.long q2), .second, .val (.long q3), .second, .val (.long q4), .second, .val (.long q5), .second, .val (.int (1 : Int32)), .val (.ref b58), .unset, .unset, .unset, .unset, .unset, .unset, .unset, .unset] [(.int (1 : Int32)), (.int p0)]))
    refine Ends.via (fun _ k => XS.iand X60.here hx rfl (hb hby at_49) rfl k) ?_
    show Ends p e below s 16 128 (Q0 Z p0 p1 q2 q3 q4 q5  h0 n0) (T60.setTop (mkF m 50 #[.val (.int p0), .val (.int p1), .val (.long q2), .second, .val (.long q3), .second, .val (.long q4), .second, .val (.long q5), .second, .val (.int (1 : Int32)), .val (.ref b58), .unset, .unset, .unset, .unset, .unset, .unset, .unset, .unset] [(.int (p0 &&& (1 : Int32)))]))
    have J65 : ∀ (Tj65 : State) (Lj65 : List Loc) (Xj65 : Stand p l e room_1 s m #[(.int p0), (.int p1), (.long q2), (.long q3), (.long q4), (.long q5)] below meth c Tj65 Lj65 1 1) (ej65 : Tj65.heap = h60) (Nj65 : Fr n0 Lj65) (v64 : Int32), (if (p0 &&& (1 : Int32)) = (0 : Int32) then (p1 &&& (1073741823 : Int32)) else (p1 &&& (3 : Int32))) = v64 → Ends p e below s 16 128 (Q0 Z p0 p1 q2 q3 q4 q5  h0 n0) (Tj65.setTop (mkF m 63 #[.val (.int p0), .val (.int p1), .val (.long q2), .second, .val (.long q3), .second, .val (.long q4), .second, .val (.long q5), .second, .val (.int (1 : Int32)), .val (.ref b58), .unset, .unset, .unset, .unset, .unset, .unset, .unset, .unset] [(.int v64)])) := by
      intro Tj65 Lj65 Xj65 ej65 Nj65 v64 hv64
      refine Ends.via (fun _ k => XS.istore Xj65.here hx rfl (hb hby at_63) rfl (l' := #[.val (.int p0), .val (.int p1), .val (.long q2), .second, .val (.long q3), .second, .val (.long q4), .second, .val (.long q5), .second, .val (.int (1 : Int32)), .val (.ref b58), .val (.int v64), .unset, .unset, .unset, .unset, .unset, .unset, .unset]) rfl k) ?_
      show Ends p e below s 16 128 (Q0 Z p0 p1 q2 q3 q4 q5  h0 n0) (Tj65.setTop (mkF m 65 #[.val (.int p0), .val (.int p1), .val (.long q2), .second, .val (.long q3), .second, .val (.long q4), .second, .val (.long q5), .second, .val (.int (1 : Int32)), .val (.ref b58), .val (.int v64), .unset, .unset, .unset, .unset, .unset, .unset, .unset] []))
      refine Ends.via (fun _ k => XS.iload Xj65.here hx rfl (hb hby at_65) rfl k) ?_
      show Ends p e below s 16 128 (Q0 Z p0 p1 q2 q3 q4 q5  h0 n0) (Tj65.setTop (mkF m 67 #[.val (.int p0), .val (.int p1), .val (.long q2), .second, .val (.long q3), .second, .val (.long q4), .second, .val (.long q5), .second, .val (.int (1 : Int32)), .val (.ref b58), .val (.int v64), .unset, .unset, .unset, .unset, .unset, .unset, .unset] [(.int v64)]))
      refine Ends.via (fun _ k => XS.iload Xj65.here hx rfl (hb hby at_67) rfl k) ?_
      show Ends p e below s 16 128 (Q0 Z p0 p1 q2 q3 q4 q5  h0 n0) (Tj65.setTop (mkF m 69 #[.val (.int p0), .val (.int p1), .val (.long q2), .second, .val (.long q3), .second, .val (.long q4), .second, .val (.long q5), .second, .val (.int (1 : Int32)), .val (.ref b58), .val (.int v64), .unset, .unset, .unset, .unset, .unset, .unset, .unset] [(.int (1 : Int32)), (.int v64)]))
      obtain ⟨_, _, ⟨T66, L66, k66, n66⟩, -, X66, ⟨Lc66, hQ66, l66, y66, z66⟩, st66⟩ := Jvm.LawKit.callS Xj65 hx (y := (⟨"java/lang/Math", "max", "(II)I"⟩ : MethodName)) hown (mvT hZ (hw _ (List.mem_of_getElem? (i := 2) rfl))) (mvT hZ (hw _ (List.mem_of_getElem? (i := 3) rfl))) (mvT hZ (hw _ (List.mem_of_getElem? (i := 4) rfl))) (mvT hZ (hw _ (List.mem_of_getElem? (i := 5) rfl))) (by decide) (backOf (W := 0) (rm1 l Z _ hw [] v64 (1 : Int32) h60 n0 Z60) hZ (hw _ (List.mem_of_getElem? (i := 5) rfl)) (hw _ (List.mem_of_getElem? (i := 4) rfl)) (by decide) (by decide)) (g := (mkF m 69 #[.val (.int p0), .val (.int p1), .val (.long q2), .second, .val (.long q3), .second, .val (.long q4), .second, .val (.long q5), .second, .val (.int (1 : Int32)), .val (.ref b58), .val (.int v64), .unset, .unset, .unset, .unset, .unset, .unset, .unset] [(.int (1 : Int32)), (.int v64)])) rfl (by rw [hml]; rfl) (argsL := [(.int v64), (.int (1 : Int32))]) (rest := []) (lenOf own_pd0 rfl) rfl (by show 2 * 0 + _ ≤ _; exact Nat.le_of_eq rfl) (hb hby at_69) (fun _ _ => ⟨rfl, ej65, (by decide : 1 + 0 ≤ _), (by decide : 1 + 0 ≤ _)⟩)
      dsimp only [Pt.U, Pt.locs, Pt.cells, Pt.slots] at X66 l66 y66 z66 st66 hQ66
      subst l66 y66 z66
      obtain ⟨rfl, Nq66, e66⟩ := hQ66
      have N66 := Fr.app Nj65 Nq66
      refine Ends.via st66 ?_
      show Ends p e below s 16 128 (Q0 Z p0 p1 q2 q3 q4 q5  h0 n0) (T66.setTop (mkF m 72 #[.val (.int p0), .val (.int p1), .val (.long q2), .second, .val (.long q3), .second, .val (.long q4), .second, .val (.long q5), .second, .val (.int (1 : Int32)), .val (.ref b58), .val (.int v64), .unset, .unset, .unset, .unset, .unset, .unset, .unset] [(.int (fn1 v64 (1 : Int32)))]))
      refine Ends.via (fun _ k => XS.iconst X66.here hx rfl (hb hby at_72) k) ?_
      show Ends p e below s 16 128 (Q0 Z p0 p1 q2 q3 q4 q5  h0 n0) (T66.setTop (mkF m 73 #[.val (.int p0), .val (.int p1), .val (.long q2), .second, .val (.long q3), .second, .val (.long q4), .second, .val (.long q5), .second, .val (.int (1 : Int32)), .val (.ref b58), .val (.int v64), .unset, .unset, .unset, .unset, .unset, .unset, .unset] [(.int (1 : Int32)), (.int (fn1 v64 (1 : Int32)))]))
      refine Ends.via (fun _ k => XS.iadd X66.here hx rfl (hb hby at_73) rfl k) ?_
      show Ends p e below s 16 128 (Q0 Z p0 p1 q2 q3 q4 q5  h0 n0) (T66.setTop (mkF m 74 #[.val (.int p0), .val (.int p1), .val (.long q2), .second, .val (.long q3), .second, .val (.long q4), .second, .val (.long q5), .second, .val (.int (1 : Int32)), .val (.ref b58), .val (.int v64), .unset, .unset, .unset, .unset, .unset, .unset, .unset] [(.int ((fn1 v64 (1 : Int32)) + (1 : Int32)))]))
      refine Ends.via (fun _ k => XS.istore X66.here hx rfl (hb hby at_74) rfl (l' := #[.val (.int p0), .val (.int p1), .val (.long q2), .second, .val (.long q3), .second, .val (.long q4), .second, .val (.long q5), .second, .val (.int (1 : Int32)), .val (.ref b58), .val (.int v64), .val (.int ((fn1 v64 (1 : Int32)) + (1 : Int32))), .unset, .unset, .unset, .unset, .unset, .unset]) rfl k) ?_
      show Ends p e below s 16 128 (Q0 Z p0 p1 q2 q3 q4 q5  h0 n0) (T66.setTop (mkF m 76 #[.val (.int p0), .val (.int p1), .val (.long q2), .second, .val (.long q3), .second, .val (.long q4), .second, .val (.long q5), .second, .val (.int (1 : Int32)), .val (.ref b58), .val (.int v64), .val (.int ((fn1 v64 (1 : Int32)) + (1 : Int32))), .unset, .unset, .unset, .unset, .unset, .unset] []))
      generalize hv67 : ((fn1 v64 (1 : Int32)) + (1 : Int32)) = v67
      obtain ⟨T68, h68, X68, e68, E68, A68, D68, -, st68⟩ := newO X66 hx hZ hown (hw _ (List.mem_of_getElem? (i := 6) rfl)) (hw _ (List.mem_of_getElem? (i := 7) rfl)) (hw _ (List.mem_of_getElem? (i := 8) rfl)) e66 (g := (mkF m 76 #[.val (.int p0), .val (.int p1), .val (.long q2), .second, .val (.long q3), .second, .val (.long q4), .second, .val (.long q5), .second, .val (.int (1 : Int32)), .val (.ref b58), .val (.int v64), .val (.int v67), .unset, .unset, .unset, .unset, .unset, .unset] [])) rfl (hb hby at_76) (by decide) (by decide)
      obtain ⟨b68, g68⟩ : ∃ z, z = h60.size := ⟨_, rfl⟩
      rw [← g68] at A68 D68 st68
      have g_b68 : n0 ≤ b68 := Nat.le_trans Z60 (Nat.le_of_eq g68.symm)
      have ne_b58_b68 : b58 ≠ b68 := Nat.ne_of_lt (Nat.lt_of_lt_of_le V60.lt (Nat.le_of_eq g68.symm))
      have f68_0 := V60.ext E68
      have Z68 : n0 ≤ h68.size := Nat.le_trans Z60 E68.1
      have F68_size : Fld Z h68 b68 "com/example/frugal_xpath/frugalxpath/ElementTree$Pieces" "size" "I" (.int (0 : Int32)) := D68 (Or.inr (hw _ (List.mem_of_getElem? (i := 22) rfl))) (ty := .int) (by decide)
      have F68_chainPositions : Fld Z h68 b68 "com/example/frugal_xpath/frugalxpath/ElementTree$Pieces" "chainPositions" "[J" .null := D68 (Or.inr (hw _ (List.mem_of_getElem? (i := 24) rfl))) (ty := (.array .long)) (by decide)
      have F68_firstPosition : Fld Z h68 b68 "com/example/frugal_xpath/frugalxpath/ElementTree$Pieces" "firstPosition" "J" (.long (0 : Int64)) := D68 (Or.inr (hw _ (List.mem_of_getElem? (i := 26) rfl))) (ty := .long) (by decide)
      have F68_cutNodes : Fld Z h68 b68 "com/example/frugal_xpath/frugalxpath/ElementTree$Pieces" "cutNodes" "[I" .null := D68 (Or.inr (hw _ (List.mem_of_getElem? (i := 28) rfl))) (ty := (.array .int)) (by decide)
      have F68_openNodes : Fld Z h68 b68 "com/example/frugal_xpath/frugalxpath/ElementTree$Pieces" "openNodes" "[I" .null := D68 (Or.inr (hw _ (List.mem_of_getElem? (i := 30) rfl))) (ty := (.array .int)) (by decide)
      refine Ends.via st68 ?_
      show Ends p e below s 16 128 (Q0 Z p0 p1 q2 q3 q4 q5  h0 n0) (T68.setTop (mkF m 79 #[.val (.int p0), .val (.int p1), .val (.long q2), .second, .val (.long q3), .second, .val (.long q4), .second, .val (.long q5), .second, .val (.int (1 : Int32)), .val (.ref b58), .val (.int v64), .val (.int v67), .unset, .unset, .unset, .unset, .unset, .unset] [(.ref b68)]))
      refine Ends.via (fun _ k => XS.dup X68.here hx rfl (hb hby at_79) rfl rfl k) ?_
      show Ends p e below s 16 128 (Q0 Z p0 p1 q2 q3 q4 q5  h0 n0) (T68.setTop (mkF m 80 #[.val (.int p0), .val (.int p1), .val (.long q2), .second, .val (.long q3), .second, .val (.long q4), .second, .val (.long q5), .second, .val (.int (1 : Int32)), .val (.ref b58), .val (.int v64), .val (.int v67), .unset, .unset, .unset, .unset, .unset, .unset] [(.ref b68), (.ref b68)]))
      refine Ends.via (fun _ k => XS.iload X68.here hx rfl (hb hby at_80) rfl k) ?_
      show Ends p e below s 16 128 (Q0 Z p0 p1 q2 q3 q4 q5  h0 n0) (T68.setTop (mkF m 82 #[.val (.int p0), .val (.int p1), .val (.long q2), .second, .val (.long q3), .second, .val (.long q4), .second, .val (.long q5), .second, .val (.int (1 : Int32)), .val (.ref b58), .val (.int v64), .val (.int v67), .unset, .unset, .unset, .unset, .unset, .unset] [(.int v67), (.ref b68), (.ref b68)]))
      refine Ends.via (fun _ k => XS.aload X68.here hx rfl (hb hby at_82) rfl rfl k) ?_
      show Ends p e below s 16 128 (Q0 Z p0 p1 q2 q3 q4 q5  h0 n0) (T68.setTop (mkF m 84 #[.val (.int p0), .val (.int p1), .val (.long q2), .second, .val (.long q3), .second, .val (.long q4), .second, .val (.long q5), .second, .val (.int (1 : Int32)), .val (.ref b58), .val (.int v64), .val (.int v67), .unset, .unset, .unset, .unset, .unset, .unset] [(.ref b58), (.int v67), (.ref b68), (.ref b68)]))
      refine Ends.via (fun _ k => XS.lload X68.here hx rfl (hb hby at_84) rfl k) ?_
      show Ends p e below s 16 128 (Q0 Z p0 p1 q2 q3 q4 q5  h0 n0) (T68.setTop (mkF m 86 #[.val (.int p0), .val (.int p1), .val (.long q2), .second, .val (.long q3), .second, .val (.long q4), .second, .val (.long q5), .second, .val (.int (1 : Int32)), .val (.ref b58), .val (.int v64), .val (.int v67), .unset, .unset, .unset, .unset, .unset, .unset] [(.long q5), (.ref b58), (.int v67), (.ref b68), (.ref b68)]))
      refine Ends.via (fun _ k => XS.iconst X68.here hx rfl (hb hby at_86) k) ?_
      show Ends p e below s 16 128 (Q0 Z p0 p1 q2 q3 q4 q5  h0 n0) (T68.setTop (mkF m 87 #[.val (.int p0), .val (.int p1), .val (.long q2), .second, .val (.long q3), .second, .val (.long q4), .second, .val (.long q5), .second, .val (.int (1 : Int32)), .val (.ref b58), .val (.int v64), .val (.int v67), .unset, .unset, .unset, .unset, .unset, .unset] [(.int (0 : Int32)), (.long q5), (.ref b58), (.int v67), (.ref b68), (.ref b68)]))
      obtain ⟨T69, h69, k69, X69, e69, E69, A69, st69⟩ := newP X68 hx hZ (hw _ (List.mem_of_getElem? (i := 9) rfl)) e68 (g := (mkF m 87 #[.val (.int p0), .val (.int p1), .val (.long q2), .second, .val (.long q3), .second, .val (.long q4), .second, .val (.long q5), .second, .val (.int (1 : Int32)), .val (.ref b58), .val (.int v64), .val (.int v67), .unset, .unset, .unset, .unset, .unset, .unset] [(.int (0 : Int32)), (.long q5), (.ref b58), (.int v67), (.ref b68), (.ref b68)])) rfl (hb hby at_87) rfl (by decide) (cap := 0) (by decide) (by decide) (by decide) (by decide)
      obtain ⟨b69, g69⟩ : ∃ z, z = h68.size := ⟨_, rfl⟩
      rw [← g69] at A69 st69
      have g_b69 : n0 ≤ b69 := Nat.le_trans Z68 (Nat.le_of_eq g69.symm)
      have ne_b58_b69 : b58 ≠ b69 := Nat.ne_of_lt (Nat.lt_of_lt_of_le f68_0.lt (Nat.le_of_eq g69.symm))
      have ne_b68_b69 : b68 ≠ b69 := Nat.ne_of_lt (Nat.lt_of_lt_of_le A68.lt (Nat.le_of_eq g69.symm))
      have f69_0 := f68_0.ext E69
      have f69_1 := A68.ext E69
      have f69_2 := F68_size.ext E69
      have f69_3 := F68_chainPositions.ext E69
      have f69_4 := F68_firstPosition.ext E69
      have f69_5 := F68_cutNodes.ext E69
      have f69_6 := F68_openNodes.ext E69
      have Z69 : n0 ≤ h69.size := Nat.le_trans Z68 E69.1
      have V69 : Arv Z h69 b69 k69 .int (0 : Int32) [] (.int (0 : Int32)) := (Arv.new A69 (by decide)).pad (pad_rep [] (.int (0 : Int32)) 0)
      refine Ends.via st69 ?_
      show Ends p e below s 16 128 (Q0 Z p0 p1 q2 q3 q4 q5  h0 n0) (T69.setTop (mkF m 89 #[.val (.int p0), .val (.int p1), .val (.long q2), .second, .val (.long q3), .second, .val (.long q4), .second, .val (.long q5), .second, .val (.int (1 : Int32)), .val (.ref b58), .val (.int v64), .val (.int v67), .unset, .unset, .unset, .unset, .unset, .unset] [(.ref b69), (.long q5), (.ref b58), (.int v67), (.ref b68), (.ref b68)]))
      refine Ends.via (fun _ k => XS.iconst X69.here hx rfl (hb hby at_89) k) ?_
      show Ends p e below s 16 128 (Q0 Z p0 p1 q2 q3 q4 q5  h0 n0) (T69.setTop (mkF m 90 #[.val (.int p0), .val (.int p1), .val (.long q2), .second, .val (.long q3), .second, .val (.long q4), .second, .val (.long q5), .second, .val (.int (1 : Int32)), .val (.ref b58), .val (.int v64), .val (.int v67), .unset, .unset, .unset, .unset, .unset, .unset] [(.int (0 : Int32)), (.ref b69), (.long q5), (.ref b58), (.int v67), (.ref b68), (.ref b68)]))
      obtain ⟨T70, h70, k70, X70, e70, E70, A70, st70⟩ := newP X69 hx hZ (hw _ (List.mem_of_getElem? (i := 9) rfl)) e69 (g := (mkF m 90 #[.val (.int p0), .val (.int p1), .val (.long q2), .second, .val (.long q3), .second, .val (.long q4), .second, .val (.long q5), .second, .val (.int (1 : Int32)), .val (.ref b58), .val (.int v64), .val (.int v67), .unset, .unset, .unset, .unset, .unset, .unset] [(.int (0 : Int32)), (.ref b69), (.long q5), (.ref b58), (.int v67), (.ref b68), (.ref b68)])) rfl (hb hby at_90) rfl (by decide) (cap := 0) (by decide) (by decide) (by decide) (by decide)
      obtain ⟨b70, g70⟩ : ∃ z, z = h69.size := ⟨_, rfl⟩
      rw [← g70] at A70 st70
      have g_b70 : n0 ≤ b70 := Nat.le_trans Z69 (Nat.le_of_eq g70.symm)
      have ne_b58_b70 : b58 ≠ b70 := Nat.ne_of_lt (Nat.lt_of_lt_of_le f69_0.lt (Nat.le_of_eq g70.symm))
      have ne_b68_b70 : b68 ≠ b70 := Nat.ne_of_lt (Nat.lt_of_lt_of_le f69_1.lt (Nat.le_of_eq g70.symm))
      have ne_b69_b70 : b69 ≠ b70 := Nat.ne_of_lt (Nat.lt_of_lt_of_le V69.lt (Nat.le_of_eq g70.symm))
      have f70_0 := f69_0.ext E70
      have f70_1 := f69_1.ext E70
      have f70_2 := f69_2.ext E70
      have f70_3 := f69_3.ext E70
      have f70_4 := f69_4.ext E70
      have f70_5 := f69_5.ext E70
      have f70_6 := f69_6.ext E70
      have f70_7 := V69.ext E70
      have Z70 : n0 ≤ h70.size := Nat.le_trans Z69 E70.1
      have V70 : Arv Z h70 b70 k70 .int (0 : Int32) [] (.int (0 : Int32)) := (Arv.new A70 (by decide)).pad (pad_rep [] (.int (0 : Int32)) 0)
      refine Ends.via st70 ?_
      show Ends p e below s 16 128 (Q0 Z p0 p1 q2 q3 q4 q5  h0 n0) (T70.setTop (mkF m 92 #[.val (.int p0), .val (.int p1), .val (.long q2), .second, .val (.long q3), .second, .val (.long q4), .second, .val (.long q5), .second, .val (.int (1 : Int32)), .val (.ref b58), .val (.int v64), .val (.int v67), .unset, .unset, .unset, .unset, .unset, .unset] [(.ref b70), (.ref b69), (.long q5), (.ref b58), (.int v67), (.ref b68), (.ref b68)]))
      obtain ⟨_, _, ⟨T71, L71, k71, n71⟩, -, X71, ⟨Lc71, hQ71, l71, y71, z71⟩, st71⟩ := X70.specialBack hx (y := (⟨"com/example/frugal_xpath/frugalxpath/ElementTree$Pieces", "<init>", "(I[JJ[I[I)V"⟩ : MethodName)) rfl hown (mvT hZ (hw _ (List.mem_of_getElem? (i := 10) rfl))) (mvT hZ (hw _ (List.mem_of_getElem? (i := 11) rfl))) (mvT hZ (hw _ (List.mem_of_getElem? (i := 12) rfl))) (by decide) (backOf (W := 1) (rm2 l Z _ hw [] b68 v67 b58 q5 b69 b70 (.int (0 : Int32)) .null (.long (0 : Int64)) .null .null h70 n0 Z70 g_b68 f70_1 f70_2 f70_3 f70_4 f70_5 f70_6) hZ (hw _ (List.mem_of_getElem? (i := 12) rfl)) (hw _ (List.mem_of_getElem? (i := 8) rfl)) (by decide) (by decide)) (g := (mkF m 92 #[.val (.int p0), .val (.int p1), .val (.long q2), .second, .val (.long q3), .second, .val (.long q4), .second, .val (.long q5), .second, .val (.int (1 : Int32)), .val (.ref b58), .val (.int v64), .val (.int v67), .unset, .unset, .unset, .unset, .unset, .unset] [(.ref b70), (.ref b69), (.long q5), (.ref b58), (.int v67), (.ref b68), (.ref b68)])) rfl (by rw [hml]; rfl) (Steps.refl _) (a := b68) (argsL := [(.int v67), (.ref b58), (.long q5), (.ref b69), (.ref b70)]) (rest := [(.ref b68)]) (lenOf own_pd2 rfl) rfl (by show 2 * 0 + _ ≤ _; exact Nat.le_of_eq rfl) (hb hby at_92) (fun _ _ => ⟨rfl, e70, (by decide : 4 + 0 ≤ _), (by decide : 6 + 0 ≤ _)⟩)
      dsimp only [Pt.U, Pt.locs, Pt.cells, Pt.slots] at X71 l71 y71 z71 st71 hQ71
      subst l71 y71 z71
      obtain ⟨rfl, Nq71, Kq71, Eq71, Fq71_0, Fq71_1, Fq71_2, Fq71_3, Fq71_4⟩ := hQ71
      have N71 := Fr.app N66 Nq71
      have f71_0 := f70_0.keep Kq71 (ninS ne_b58_b68 nin0)
      have f71_7 := f70_7.keep Kq71 (ninS (Ne.symm ne_b68_b69) nin0)
      have f71_8 := V70.keep Kq71 (ninS (Ne.symm ne_b68_b70) nin0)
      have Z71 : n0 ≤ T71.heap.size := Nat.le_trans Z70 Kq71.1
      refine Ends.via (fun _ k => st71.trans k) ?_
      show Ends p e below s 16 128 (Q0 Z p0 p1 q2 q3 q4 q5  h0 n0) (T71.setTop (mkF m 95 #[.val (.int p0), .val (.int p1), .val (.long q2), .second, .val (.long q3), .second, .val (.long q4), .second, .val (.long q5), .second, .val (.int (1 : Int32)), .val (.ref b58), .val (.int v64), .val (.int v67), .unset, .unset, .unset, .unset, .unset, .unset] [(.ref b68)]))
      refine Ends.via (fun _ k => XS.astore X71.here hx rfl (hb hby at_95) rfl rfl (l' := #[.val (.int p0), .val (.int p1), .val (.long q2), .second, .val (.long q3), .second, .val (.long q4), .second, .val (.long q5), .second, .val (.int (1 : Int32)), .val (.ref b58), .val (.int v64), .val (.int v67), .val (.ref b68), .unset, .unset, .unset, .unset, .unset]) rfl k) ?_
      show Ends p e below s 16 128 (Q0 Z p0 p1 q2 q3 q4 q5  h0 n0) (T71.setTop (mkF m 97 #[.val (.int p0), .val (.int p1), .val (.long q2), .second, .val (.long q3), .second, .val (.long q4), .second, .val (.long q5), .second, .val (.int (1 : Int32)), .val (.ref b58), .val (.int v64), .val (.int v67), .val (.ref b68), .unset, .unset, .unset, .unset, .unset] []))
      refine Ends.via (fun _ k => XS.aload X71.here hx rfl (hb hby at_97) rfl rfl k) ?_
      show Ends p e below s 16 128 (Q0 Z p0 p1 q2 q3 q4 q5  h0 n0) (T71.setTop (mkF m 99 #[.val (.int p0), .val (.int p1), .val (.long q2), .second, .val (.long q3), .second, .val (.long q4), .second, .val (.long q5), .second, .val (.int (1 : Int32)), .val (.ref b58), .val (.int v64), .val (.int v67), .val (.ref b68), .unset, .unset, .unset, .unset, .unset] [(.ref b68)]))
      refine Ends.via (fun _ k => XS.iload X71.here hx rfl (hb hby at_99) rfl k) ?_
      show Ends p e below s 16 128 (Q0 Z p0 p1 q2 q3 q4 q5  h0 n0) (T71.setTop (mkF m 101 #[.val (.int p0), .val (.int p1), .val (.long q2), .second, .val (.long q3), .second, .val (.long q4), .second, .val (.long q5), .second, .val (.int (1 : Int32)), .val (.ref b58), .val (.int v64), .val (.int v67), .val (.ref b68), .unset, .unset, .unset, .unset, .unset] [(.int v64), (.ref b68)]))
      obtain ⟨cq72, kq72, qa72, qb72, qc72⟩ := isOf hZ rfl Eq71
      obtain ⟨_, _, ⟨T72, L72, k72, n72⟩, -, X72, ⟨Lc72, hQ72, l72, y72, z72⟩, st72⟩ := X71.virtualBack hx (y := (⟨"com/example/frugal_xpath/frugalxpath/ElementTree$Pieces", "position", "(I)J"⟩ : MethodName)) (z := (⟨"com/example/frugal_xpath/frugalxpath/ElementTree$Pieces", "position", "(I)J"⟩ : MethodName)) hown (mvT hZ (hw _ (List.mem_of_getElem? (i := 31) rfl))) (mvT hZ (hw _ (List.mem_of_getElem? (i := 32) rfl))) (notFace_of_selects (args := #[]) (mvT hZ (hw _ (List.mem_of_getElem? (i := 34) rfl)))) (mvT hZ (hw _ (List.mem_of_getElem? (i := 34) rfl))) (mvT hZ (hw _ (List.mem_of_getElem? (i := 33) rfl))) (by decide) (backOf (W := 0) (rm5 l Z _ hw [] b68 v64 k58 (1 : Int32) [(.long q2)] (.long (0 : Int64)) (if v64 = (1 : Int32) then q2 else (if v64 = (2 : Int32) then q3 else q4)) b58 q5 T71.heap n0 Z71 f71_0 (own_el1 q2 q3 q4 v64 (own_node p0 p1 v64 hv64)) Fq71_1 Fq71_2) hZ (hw _ (List.mem_of_getElem? (i := 35) rfl)) (hw _ (List.mem_of_getElem? (i := 8) rfl)) (by decide) (by decide)) qa72 qc72 (g := (mkF m 101 #[.val (.int p0), .val (.int p1), .val (.long q2), .second, .val (.long q3), .second, .val (.long q4), .second, .val (.long q5), .second, .val (.int (1 : Int32)), .val (.ref b58), .val (.int v64), .val (.int v67), .val (.ref b68), .unset, .unset, .unset, .unset, .unset] [(.int v64), (.ref b68)])) rfl (by rw [hml]; rfl) (Steps.refl _) (argsL := [(.int v64)]) (rest := []) (lenOf own_pd3 rfl) rfl (by show 2 * 0 + _ ≤ _; exact Nat.le_of_eq rfl) (hb hby at_101) (fun _ _ => ⟨rfl, rfl, (by decide : 4 + 0 ≤ _), (by decide : 6 + 0 ≤ _)⟩)
      dsimp only [Pt.U, Pt.locs, Pt.cells, Pt.slots] at X72 l72 y72 z72 st72 hQ72
      subst l72 y72 z72
      obtain ⟨rfl, Nq72, e72⟩ := hQ72
      have N72 := Fr.app N71 Nq72
      refine Ends.via (fun _ k => st72.trans k) ?_
      show Ends p e below s 16 128 (Q0 Z p0 p1 q2 q3 q4 q5  h0 n0) (T72.setTop (mkF m 104 #[.val (.int p0), .val (.int p1), .val (.long q2), .second, .val (.long q3), .second, .val (.long q4), .second, .val (.long q5), .second, .val (.int (1 : Int32)), .val (.ref b58), .val (.int v64), .val (.int v67), .val (.ref b68), .unset, .unset, .unset, .unset, .unset] [(.long (fn5 v64 (1 : Int32) (if v64 = (1 : Int32) then q2 else (if v64 = (2 : Int32) then q3 else q4)) q5))]))
      refine Ends.via (fun _ k => XS.lstore X72.here hx rfl (hb hby at_104) rfl (l' := #[.val (.int p0), .val (.int p1), .val (.long q2), .second, .val (.long q3), .second, .val (.long q4), .second, .val (.long q5), .second, .val (.int (1 : Int32)), .val (.ref b58), .val (.int v64), .val (.int v67), .val (.ref b68), .val (.long (fn5 v64 (1 : Int32) (if v64 = (1 : Int32) then q2 else (if v64 = (2 : Int32) then q3 else q4)) q5)), .second, .unset, .unset, .unset]) rfl k) ?_
      show Ends p e below s 16 128 (Q0 Z p0 p1 q2 q3 q4 q5  h0 n0) (T72.setTop (mkF m 106 #[.val (.int p0), .val (.int p1), .val (.long q2), .second, .val (.long q3), .second, .val (.long q4), .second, .val (.long q5), .second, .val (.int (1 : Int32)), .val (.ref b58), .val (.int v64), .val (.int v67), .val (.ref b68), .val (.long (fn5 v64 (1 : Int32) (if v64 = (1 : Int32) then q2 else (if v64 = (2 : Int32) then q3 else q4)) q5)), .second, .unset, .unset, .unset] []))
      generalize hv73 : (fn5 v64 (1 : Int32) (if v64 = (1 : Int32) then q2 else (if v64 = (2 : Int32) then q3 else q4)) q5) = v73
      refine Ends.via (fun _ k => XS.iload X72.here hx rfl (hb hby at_106) rfl k) ?_
      show Ends p e below s 16 128 (Q0 Z p0 p1 q2 q3 q4 q5  h0 n0) (T72.setTop (mkF m 108 #[.val (.int p0), .val (.int p1), .val (.long q2), .second, .val (.long q3), .second, .val (.long q4), .second, .val (.long q5), .second, .val (.int (1 : Int32)), .val (.ref b58), .val (.int v64), .val (.int v67), .val (.ref b68), .val (.long v73), .second, .unset, .unset, .unset] [(.int v64)]))
      have J80 : ∀ (Tj80 : State) (Lj80 : List Loc) (Xj80 : Stand p l e room_1 s m #[(.int p0), (.int p1), (.long q2), (.long q3), (.long q4), (.long q5)] below meth c Tj80 Lj80 4 6) (ej80 : Tj80.heap = T71.heap) (Nj80 : Fr n0 Lj80) (sl79 : Slot) (v78 : Int64), (if v64 = (0 : Int32) then (-1 : Int64) else (if (1 : Int32) < v64 then (q5 + (((v64 - (1 : Int32)) - (1 : Int32)).toInt64)) else (if v64 = (1 : Int32) then q2 else (if v64 = (2 : Int32) then q3 else q4)))) = v78 → Ends p e below s 16 128 (Q0 Z p0 p1 q2 q3 q4 q5  h0 n0) (Tj80.setTop (mkF m 175 #[.val (.int p0), .val (.int p1), .val (.long q2), .second, .val (.long q3), .second, .val (.long q4), .second, .val (.long q5), .second, .val (.int (1 : Int32)), .val (.ref b58), .val (.int v64), .val (.int v67), .val (.ref b68), .val (.long v73), .second, .val (.long v78), .second, sl79] [])) := by
        intro Tj80 Lj80 Xj80 ej80 Nj80 sl79 v78 hv78
        refine Ends.via (fun _ k => XS.lload Xj80.here hx rfl (hb hby at_175) rfl k) ?_
        show Ends p e below s 16 128 (Q0 Z p0 p1 q2 q3 q4 q5  h0 n0) (Tj80.setTop (mkF m 177 #[.val (.int p0), .val (.int p1), .val (.long q2), .second, .val (.long q3), .second, .val (.long q4), .second, .val (.long q5), .second, .val (.int (1 : Int32)), .val (.ref b58), .val (.int v64), .val (.int v67), .val (.ref b68), .val (.long v73), .second, .val (.long v78), .second, sl79] [(.long v73)]))
        refine Ends.via (fun _ k => XS.lload Xj80.here hx rfl (hb hby at_177) rfl k) ?_
        show Ends p e below s 16 128 (Q0 Z p0 p1 q2 q3 q4 q5  h0 n0) (Tj80.setTop (mkF m 179 #[.val (.int p0), .val (.int p1), .val (.long q2), .second, .val (.long q3), .second, .val (.long q4), .second, .val (.long q5), .second, .val (.int (1 : Int32)), .val (.ref b58), .val (.int v64), .val (.int v67), .val (.ref b68), .val (.long v73), .second, .val (.long v78), .second, sl79] [(.long v78), (.long v73)]))
        refine Ends.via (fun _ k => XS.lcmp Xj80.here hx rfl (hb hby at_179) rfl k) ?_
        show Ends p e below s 16 128 (Q0 Z p0 p1 q2 q3 q4 q5  h0 n0) (Tj80.setTop (mkF m 180 #[.val (.int p0), .val (.int p1), .val (.long q2), .second, .val (.long q3), .second, .val (.long q4), .second, .val (.long q5), .second, .val (.int (1 : Int32)), .val (.ref b58), .val (.int v64), .val (.int v67), .val (.ref b68), .val (.long v73), .second, .val (.long v78), .second, sl79] [(.int (lcmpW v73 v78))]))
        by_cases hc81 : v73 = v78
        · refine Ends.via (fun _ k => XS.ifNo Xj80.here hx rfl (hb hby at_180) rfl ((if0 _ _).trans (teq ((lw_eq _ _).mpr hc81)).2) k) ?_
          show Ends p e below s 16 128 (Q0 Z p0 p1 q2 q3 q4 q5  h0 n0) (Tj80.setTop (mkF m 183 #[.val (.int p0), .val (.int p1), .val (.long q2), .second, .val (.long q3), .second, .val (.long q4), .second, .val (.long q5), .second, .val (.int (1 : Int32)), .val (.ref b58), .val (.int v64), .val (.int v67), .val (.ref b68), .val (.long v73), .second, .val (.long v78), .second, sl79] []))
          refine Ends.via (fun _ k => XS.iconst Xj80.here hx rfl (hb hby at_183) k) ?_
          show Ends p e below s 16 128 (Q0 Z p0 p1 q2 q3 q4 q5  h0 n0) (Tj80.setTop (mkF m 184 #[.val (.int p0), .val (.int p1), .val (.long q2), .second, .val (.long q3), .second, .val (.long q4), .second, .val (.long q5), .second, .val (.int (1 : Int32)), .val (.ref b58), .val (.int v64), .val (.int v67), .val (.ref b68), .val (.long v73), .second, .val (.long v78), .second, sl79] [(.int (1 : Int32))]))
          refine Ends.via (fun _ k => XS.goto Xj80.here hx rfl (pc0 := 184) (pc' := 188) rfl (hb hby at_184) (by decide) (by decide) k) ?_
          show Ends p e below s 16 128 (Q0 Z p0 p1 q2 q3 q4 q5  h0 n0) (Tj80.setTop (mkF m 188 #[.val (.int p0), .val (.int p1), .val (.long q2), .second, .val (.long q3), .second, .val (.long q4), .second, .val (.long q5), .second, .val (.int (1 : Int32)), .val (.ref b58), .val (.int v64), .val (.int v67), .val (.ref b68), .val (.long v73), .second, .val (.long v78), .second, sl79] [(.int (1 : Int32))]))
          refine Ends.ret Xj80 (v := some (.int (nar .boolean (1 : Int32)))) (fun h => by rw [Bd.returns] at h; cases h) Bd.notSynchronized (fun fs hr => retN Xj80 hx (t := .boolean) Bd.returns (by simp) (hb hby at_188) hr) ?_ (by decide) (by decide)
          exact ⟨rfl, Nj80⟩
        · refine Ends.via (fun _ k => XS.ifYes Xj80.here hx rfl (pc0 := 180) (pc' := 187) rfl (hb hby at_180) rfl ((if0 _ _).trans (feq (mt (lw_eq _ _).mp hc81)).2) (by decide) (by decide) k) ?_
          show Ends p e below s 16 128 (Q0 Z p0 p1 q2 q3 q4 q5  h0 n0) (Tj80.setTop (mkF m 187 #[.val (.int p0), .val (.int p1), .val (.long q2), .second, .val (.long q3), .second, .val (.long q4), .second, .val (.long q5), .second, .val (.int (1 : Int32)), .val (.ref b58), .val (.int v64), .val (.int v67), .val (.ref b68), .val (.long v73), .second, .val (.long v78), .second, sl79] []))
          refine Ends.via (fun _ k => XS.iconst Xj80.here hx rfl (hb hby at_187) k) ?_
          show Ends p e below s 16 128 (Q0 Z p0 p1 q2 q3 q4 q5  h0 n0) (Tj80.setTop (mkF m 188 #[.val (.int p0), .val (.int p1), .val (.long q2), .second, .val (.long q3), .second, .val (.long q4), .second, .val (.long q5), .second, .val (.int (1 : Int32)), .val (.ref b58), .val (.int v64), .val (.int v67), .val (.ref b68), .val (.long v73), .second, .val (.long v78), .second, sl79] [(.int (0 : Int32))]))
          refine Ends.ret Xj80 (v := some (.int (nar .boolean (0 : Int32)))) (fun h => by rw [Bd.returns] at h; cases h) Bd.notSynchronized (fun fs hr => retN Xj80 hx (t := .boolean) Bd.returns (by simp) (hb hby at_188) hr) ?_ (by decide) (by decide)
          exact absurd (own_leaf2 p0 p1 q2 q3 q4 q5 v64 v67 v73 v78 hv1 hv64 hv67 hv73 hv78 hc81) id
      by_cases hc82 : v64 = (0 : Int32)
      · refine Ends.via (fun _ k => XS.ifNo X72.here hx rfl (hb hby at_108) rfl ((if0 _ _).trans (teq hc82).2) k) ?_
        show Ends p e below s 16 128 (Q0 Z p0 p1 q2 q3 q4 q5  h0 n0) (T72.setTop (mkF m 111 #[.val (.int p0), .val (.int p1), .val (.long q2), .second, .val (.long q3), .second, .val (.long q4), .second, .val (.long q5), .second, .val (.int (1 : Int32)), .val (.ref b58), .val (.int v64), .val (.int v67), .val (.ref b68), .val (.long v73), .second, .unset, .unset, .unset] []))
        refine Ends.via (X72.ldc2Long hx hown (mvT hZ (hw _ (List.mem_of_getElem? (i := 37) rfl))) (g := (mkF m 111 #[.val (.int p0), .val (.int p1), .val (.long q2), .second, .val (.long q3), .second, .val (.long q4), .second, .val (.long q5), .second, .val (.int (1 : Int32)), .val (.ref b58), .val (.int v64), .val (.int v67), .val (.ref b68), .val (.long v73), .second, .unset, .unset, .unset] [])) rfl (hb hby at_111)) ?_
        show Ends p e below s 16 128 (Q0 Z p0 p1 q2 q3 q4 q5  h0 n0) (T72.setTop (mkF m 114 #[.val (.int p0), .val (.int p1), .val (.long q2), .second, .val (.long q3), .second, .val (.long q4), .second, .val (.long q5), .second, .val (.int (1 : Int32)), .val (.ref b58), .val (.int v64), .val (.int v67), .val (.ref b68), .val (.long v73), .second, .unset, .unset, .unset] [(.long (-1 : Int64))]))
        refine Ends.via (fun _ k => XS.lstore X72.here hx rfl (hb hby at_114) rfl (l' := #[.val (.int p0), .val (.int p1), .val (.long q2), .second, .val (.long q3), .second, .val (.long q4), .second, .val (.long q5), .second, .val (.int (1 : Int32)), .val (.ref b58), .val (.int v64), .val (.int v67), .val (.ref b68), .val (.long v73), .second, .val (.long (-1 : Int64)), .second, .unset]) rfl k) ?_
        show Ends p e below s 16 128 (Q0 Z p0 p1 q2 q3 q4 q5  h0 n0) (T72.setTop (mkF m 116 #[.val (.int p0), .val (.int p1), .val (.long q2), .second, .val (.long q3), .second, .val (.long q4), .second, .val (.long q5), .second, .val (.int (1 : Int32)), .val (.ref b58), .val (.int v64), .val (.int v67), .val (.ref b68), .val (.long v73), .second, .val (.long (-1 : Int64)), .second, .unset] []))
        refine Ends.via (fun _ k => XS.goto X72.here hx rfl (pc0 := 116) (pc' := 175) rfl (hb hby at_116) (by decide) (by decide) k) ?_
        show Ends p e below s 16 128 (Q0 Z p0 p1 q2 q3 q4 q5  h0 n0) (T72.setTop (mkF m 175 #[.val (.int p0), .val (.int p1), .val (.long q2), .second, .val (.long q3), .second, .val (.long q4), .second, .val (.long q5), .second, .val (.int (1 : Int32)), .val (.ref b58), .val (.int v64), .val (.int v67), .val (.ref b68), .val (.long v73), .second, .val (.long (-1 : Int64)), .second, .unset] []))
        exact J80 T72 _ X72 e72 N72 (.unset) (-1 : Int64) (by first | (simp only [if_pos hc82]; done) | rfl)
      · refine Ends.via (fun _ k => XS.ifYes X72.here hx rfl (pc0 := 108) (pc' := 119) rfl (hb hby at_108) rfl ((if0 _ _).trans (feq hc82).2) (by decide) (by decide) k) ?_
        show Ends p e below s 16 128 (Q0 Z p0 p1 q2 q3 q4 q5  h0 n0) (T72.setTop (mkF m 119 #[.val (.int p0), .val (.int p1), .val (.long q2), .second, .val (.long q3), .second, .val (.long q4), .second, .val (.long q5), .second, .val (.int (1 : Int32)), .val (.ref b58), .val (.int v64), .val (.int v67), .val (.ref b68), .val (.long v73), .second, .unset, .unset, .unset] []))
        refine Ends.via (fun _ k => XS.iload X72.here hx rfl (hb hby at_119) rfl k) ?_
        show Ends p e below s 16 128 (Q0 Z p0 p1 q2 q3 q4 q5  h0 n0) (T72.setTop (mkF m 121 #[.val (.int p0), .val (.int p1), .val (.long q2), .second, .val (.long q3), .second, .val (.long q4), .second, .val (.long q5), .second, .val (.int (1 : Int32)), .val (.ref b58), .val (.int v64), .val (.int v67), .val (.ref b68), .val (.long v73), .second, .unset, .unset, .unset] [(.int v64)]))
        refine Ends.via (fun _ k => XS.iload X72.here hx rfl (hb hby at_121) rfl k) ?_
        show Ends p e below s 16 128 (Q0 Z p0 p1 q2 q3 q4 q5  h0 n0) (T72.setTop (mkF m 123 #[.val (.int p0), .val (.int p1), .val (.long q2), .second, .val (.long q3), .second, .val (.long q4), .second, .val (.long q5), .second, .val (.int (1 : Int32)), .val (.ref b58), .val (.int v64), .val (.int v67), .val (.ref b68), .val (.long v73), .second, .unset, .unset, .unset] [(.int (1 : Int32)), (.int v64)]))
        by_cases hc83 : (1 : Int32) < v64
        · refine Ends.via (fun _ k => XS.icmpYes X72.here hx rfl (pc0 := 123) (pc' := 158) rfl (hb hby at_123) rfl (tlt hc83).2.2.1 (by decide) (by decide) k) ?_
          show Ends p e below s 16 128 (Q0 Z p0 p1 q2 q3 q4 q5  h0 n0) (T72.setTop (mkF m 158 #[.val (.int p0), .val (.int p1), .val (.long q2), .second, .val (.long q3), .second, .val (.long q4), .second, .val (.long q5), .second, .val (.int (1 : Int32)), .val (.ref b58), .val (.int v64), .val (.int v67), .val (.ref b68), .val (.long v73), .second, .unset, .unset, .unset] []))
          refine Ends.via (fun _ k => XS.iload X72.here hx rfl (hb hby at_158) rfl k) ?_
          show Ends p e below s 16 128 (Q0 Z p0 p1 q2 q3 q4 q5  h0 n0) (T72.setTop (mkF m 160 #[.val (.int p0), .val (.int p1), .val (.long q2), .second, .val (.long q3), .second, .val (.long q4), .second, .val (.long q5), .second, .val (.int (1 : Int32)), .val (.ref b58), .val (.int v64), .val (.int v67), .val (.ref b68), .val (.long v73), .second, .unset, .unset, .unset] [(.int v64)]))
          refine Ends.via (fun _ k => XS.iload X72.here hx rfl (hb hby at_160) rfl k) ?_
          show Ends p e below s 16 128 (Q0 Z p0 p1 q2 q3 q4 q5  h0 n0) (T72.setTop (mkF m 162 #[.val (.int p0), .val (.int p1), .val (.long q2), .second, .val (.long q3), .second, .val (.long q4), .second, .val (.long q5), .second, .val (.int (1 : Int32)), .val (.ref b58), .val (.int v64), .val (.int v67), .val (.ref b68), .val (.long v73), .second, .unset, .unset, .unset] [(.int (1 : Int32)), (.int v64)]))
          refine Ends.via (fun _ k => XS.isub X72.here hx rfl (hb hby at_162) rfl k) ?_
          show Ends p e below s 16 128 (Q0 Z p0 p1 q2 q3 q4 q5  h0 n0) (T72.setTop (mkF m 163 #[.val (.int p0), .val (.int p1), .val (.long q2), .second, .val (.long q3), .second, .val (.long q4), .second, .val (.long q5), .second, .val (.int (1 : Int32)), .val (.ref b58), .val (.int v64), .val (.int v67), .val (.ref b68), .val (.long v73), .second, .unset, .unset, .unset] [(.int (v64 - (1 : Int32)))]))
          refine Ends.via (fun _ k => XS.istore X72.here hx rfl (hb hby at_163) rfl (l' := #[.val (.int p0), .val (.int p1), .val (.long q2), .second, .val (.long q3), .second, .val (.long q4), .second, .val (.long q5), .second, .val (.int (1 : Int32)), .val (.ref b58), .val (.int v64), .val (.int v67), .val (.ref b68), .val (.long v73), .second, .unset, .unset, .val (.int (v64 - (1 : Int32)))]) rfl k) ?_
          show Ends p e below s 16 128 (Q0 Z p0 p1 q2 q3 q4 q5  h0 n0) (T72.setTop (mkF m 165 #[.val (.int p0), .val (.int p1), .val (.long q2), .second, .val (.long q3), .second, .val (.long q4), .second, .val (.long q5), .second, .val (.int (1 : Int32)), .val (.ref b58), .val (.int v64), .val (.int v67), .val (.ref b68), .val (.long v73), .second, .unset, .unset, .val (.int (v64 - (1 : Int32)))] []))
          refine Ends.via (fun _ k => XS.lload X72.here hx rfl (hb hby at_165) rfl k) ?_
          show Ends p e below s 16 128 (Q0 Z p0 p1 q2 q3 q4 q5  h0 n0) (T72.setTop (mkF m 167 #[.val (.int p0), .val (.int p1), .val (.long q2), .second, .val (.long q3), .second, .val (.long q4), .second, .val (.long q5), .second, .val (.int (1 : Int32)), .val (.ref b58), .val (.int v64), .val (.int v67), .val (.ref b68), .val (.long v73), .second, .unset, .unset, .val (.int (v64 - (1 : Int32)))] [(.long q5)]))
          refine Ends.via (fun _ k => XS.iload X72.here hx rfl (hb hby at_167) rfl k) ?_
          show Ends p e below s 16 128 (Q0 Z p0 p1 q2 q3 q4 q5  h0 n0) (T72.setTop (mkF m 169 #[.val (.int p0), .val (.int p1), .val (.long q2), .second, .val (.long q3), .second, .val (.long q4), .second, .val (.long q5), .second, .val (.int (1 : Int32)), .val (.ref b58), .val (.int v64), .val (.int v67), .val (.ref b68), .val (.long v73), .second, .unset, .unset, .val (.int (v64 - (1 : Int32)))] [(.int (v64 - (1 : Int32))), (.long q5)]))
          refine Ends.via (fun _ k => XS.iconst X72.here hx rfl (hb hby at_169) k) ?_
          show Ends p e below s 16 128 (Q0 Z p0 p1 q2 q3 q4 q5  h0 n0) (T72.setTop (mkF m 170 #[.val (.int p0), .val (.int p1), .val (.long q2), .second, .val (.long q3), .second, .val (.long q4), .second, .val (.long q5), .second, .val (.int (1 : Int32)), .val (.ref b58), .val (.int v64), .val (.int v67), .val (.ref b68), .val (.long v73), .second, .unset, .unset, .val (.int (v64 - (1 : Int32)))] [(.int (1 : Int32)), (.int (v64 - (1 : Int32))), (.long q5)]))
          refine Ends.via (fun _ k => XS.isub X72.here hx rfl (hb hby at_170) rfl k) ?_
          show Ends p e below s 16 128 (Q0 Z p0 p1 q2 q3 q4 q5  h0 n0) (T72.setTop (mkF m 171 #[.val (.int p0), .val (.int p1), .val (.long q2), .second, .val (.long q3), .second, .val (.long q4), .second, .val (.long q5), .second, .val (.int (1 : Int32)), .val (.ref b58), .val (.int v64), .val (.int v67), .val (.ref b68), .val (.long v73), .second, .unset, .unset, .val (.int (v64 - (1 : Int32)))] [(.int ((v64 - (1 : Int32)) - (1 : Int32))), (.long q5)]))
          refine Ends.via (fun _ k => XS.i2l X72.here hx rfl (hb hby at_171) rfl k) ?_
          show Ends p e below s 16 128 (Q0 Z p0 p1 q2 q3 q4 q5  h0 n0) (T72.setTop (mkF m 172 #[.val (.int p0), .val (.int p1), .val (.long q2), .second, .val (.long q3), .second, .val (.long q4), .second, .val (.long q5), .second, .val (.int (1 : Int32)), .val (.ref b58), .val (.int v64), .val (.int v67), .val (.ref b68), .val (.long v73), .second, .unset, .unset, .val (.int (v64 - (1 : Int32)))] [(.long (((v64 - (1 : Int32)) - (1 : Int32)).toInt64)), (.long q5)]))
          refine Ends.via (fun _ k => XS.ladd X72.here hx rfl (hb hby at_172) rfl k) ?_
          show Ends p e below s 16 128 (Q0 Z p0 p1 q2 q3 q4 q5  h0 n0) (T72.setTop (mkF m 173 #[.val (.int p0), .val (.int p1), .val (.long q2), .second, .val (.long q3), .second, .val (.long q4), .second, .val (.long q5), .second, .val (.int (1 : Int32)), .val (.ref b58), .val (.int v64), .val (.int v67), .val (.ref b68), .val (.long v73), .second, .unset, .unset, .val (.int (v64 - (1 : Int32)))] [(.long (q5 + (((v64 - (1 : Int32)) - (1 : Int32)).toInt64)))]))
          refine Ends.via (fun _ k => XS.lstore X72.here hx rfl (hb hby at_173) rfl (l' := #[.val (.int p0), .val (.int p1), .val (.long q2), .second, .val (.long q3), .second, .val (.long q4), .second, .val (.long q5), .second, .val (.int (1 : Int32)), .val (.ref b58), .val (.int v64), .val (.int v67), .val (.ref b68), .val (.long v73), .second, .val (.long (q5 + (((v64 - (1 : Int32)) - (1 : Int32)).toInt64))), .second, .val (.int (v64 - (1 : Int32)))]) rfl k) ?_
          show Ends p e below s 16 128 (Q0 Z p0 p1 q2 q3 q4 q5  h0 n0) (T72.setTop (mkF m 175 #[.val (.int p0), .val (.int p1), .val (.long q2), .second, .val (.long q3), .second, .val (.long q4), .second, .val (.long q5), .second, .val (.int (1 : Int32)), .val (.ref b58), .val (.int v64), .val (.int v67), .val (.ref b68), .val (.long v73), .second, .val (.long (q5 + (((v64 - (1 : Int32)) - (1 : Int32)).toInt64))), .second, .val (.int (v64 - (1 : Int32)))] []))
          exact J80 T72 _ X72 e72 N72 (.val (.int (v64 - (1 : Int32)))) (q5 + (((v64 - (1 : Int32)) - (1 : Int32)).toInt64)) (by first | (simp only [if_neg hc82, if_pos hc83]; done) | rfl)
        · refine Ends.via (fun _ k => XS.icmpNo X72.here hx rfl (hb hby at_123) rfl (flt hc83).2.2.1 k) ?_
          show Ends p e below s 16 128 (Q0 Z p0 p1 q2 q3 q4 q5  h0 n0) (T72.setTop (mkF m 126 #[.val (.int p0), .val (.int p1), .val (.long q2), .second, .val (.long q3), .second, .val (.long q4), .second, .val (.long q5), .second, .val (.int (1 : Int32)), .val (.ref b58), .val (.int v64), .val (.int v67), .val (.ref b68), .val (.long v73), .second, .unset, .unset, .unset] []))
          refine Ends.via (fun _ k => XS.iload X72.here hx rfl (hb hby at_126) rfl k) ?_
          show Ends p e below s 16 128 (Q0 Z p0 p1 q2 q3 q4 q5  h0 n0) (T72.setTop (mkF m 128 #[.val (.int p0), .val (.int p1), .val (.long q2), .second, .val (.long q3), .second, .val (.long q4), .second, .val (.long q5), .second, .val (.int (1 : Int32)), .val (.ref b58), .val (.int v64), .val (.int v67), .val (.ref b68), .val (.long v73), .second, .unset, .unset, .unset] [(.int v64)]))
          refine Ends.via (fun _ k => XS.iconst X72.here hx rfl (hb hby at_128) k) ?_
          show Ends p e below s 16 128 (Q0 Z p0 p1 q2 q3 q4 q5  h0 n0) (T72.setTop (mkF m 129 #[.val (.int p0), .val (.int p1), .val (.long q2), .second, .val (.long q3), .second, .val (.long q4), .second, .val (.long q5), .second, .val (.int (1 : Int32)), .val (.ref b58), .val (.int v64), .val (.int v67), .val (.ref b68), .val (.long v73), .second, .unset, .unset, .unset] [(.int (1 : Int32)), (.int v64)]))
          by_cases hc84 : v64 = (1 : Int32)
          · refine Ends.via (fun _ k => XS.icmpNo X72.here hx rfl (hb hby at_129) rfl (teq hc84).2 k) ?_
            show Ends p e below s 16 128 (Q0 Z p0 p1 q2 q3 q4 q5  h0 n0) (T72.setTop (mkF m 132 #[.val (.int p0), .val (.int p1), .val (.long q2), .second, .val (.long q3), .second, .val (.long q4), .second, .val (.long q5), .second, .val (.int (1 : Int32)), .val (.ref b58), .val (.int v64), .val (.int v67), .val (.ref b68), .val (.long v73), .second, .unset, .unset, .unset] []))
            refine Ends.via (fun _ k => XS.lloadN X72.here hx rfl (hb hby at_132) rfl k) ?_
            show Ends p e below s 16 128 (Q0 Z p0 p1 q2 q3 q4 q5  h0 n0) (T72.setTop (mkF m 133 #[.val (.int p0), .val (.int p1), .val (.long q2), .second, .val (.long q3), .second, .val (.long q4), .second, .val (.long q5), .second, .val (.int (1 : Int32)), .val (.ref b58), .val (.int v64), .val (.int v67), .val (.ref b68), .val (.long v73), .second, .unset, .unset, .unset] [(.long q2)]))
            refine Ends.via (fun _ k => XS.lstore X72.here hx rfl (hb hby at_133) rfl (l' := #[.val (.int p0), .val (.int p1), .val (.long q2), .second, .val (.long q3), .second, .val (.long q4), .second, .val (.long q5), .second, .val (.int (1 : Int32)), .val (.ref b58), .val (.int v64), .val (.int v67), .val (.ref b68), .val (.long v73), .second, .val (.long q2), .second, .unset]) rfl k) ?_
            show Ends p e below s 16 128 (Q0 Z p0 p1 q2 q3 q4 q5  h0 n0) (T72.setTop (mkF m 135 #[.val (.int p0), .val (.int p1), .val (.long q2), .second, .val (.long q3), .second, .val (.long q4), .second, .val (.long q5), .second, .val (.int (1 : Int32)), .val (.ref b58), .val (.int v64), .val (.int v67), .val (.ref b68), .val (.long v73), .second, .val (.long q2), .second, .unset] []))
            refine Ends.via (fun _ k => XS.goto X72.here hx rfl (pc0 := 135) (pc' := 175) rfl (hb hby at_135) (by decide) (by decide) k) ?_
            show Ends p e below s 16 128 (Q0 Z p0 p1 q2 q3 q4 q5  h0 n0) (T72.setTop (mkF m 175 #[.val (.int p0), .val (.int p1), .val (.long q2), .second, .val (.long q3), .second, .val (.long q4), .second, .val (.long q5), .second, .val (.int (1 : Int32)), .val (.ref b58), .val (.int v64), .val (.int v67), .val (.ref b68), .val (.long v73), .second, .val (.long q2), .second, .unset] []))
            exact J80 T72 _ X72 e72 N72 (.unset) q2 (by first | (simp only [if_neg hc82, if_neg hc83, if_pos hc84]; done) | rfl)
          · refine Ends.via (fun _ k => XS.icmpYes X72.here hx rfl (pc0 := 129) (pc' := 138) rfl (hb hby at_129) rfl (feq hc84).2 (by decide) (by decide) k) ?_
            show Ends p e below s 16 128 (Q0 Z p0 p1 q2 q3 q4 q5  h0 n0) (T72.setTop (mkF m 138 #[.val (.int p0), .val (.int p1), .val (.long q2), .second, .val (.long q3), .second, .val (.long q4), .second, .val (.long q5), .second, .val (.int (1 : Int32)), .val (.ref b58), .val (.int v64), .val (.int v67), .val (.ref b68), .val (.long v73), .second, .unset, .unset, .unset] []))
            refine Ends.via (fun _ k => XS.iload X72.here hx rfl (hb hby at_138) rfl k) ?_
            show Ends p e below s 16 128 (Q0 Z p0 p1 q2 q3 q4 q5  h0 n0) (T72.setTop (mkF m 140 #[.val (.int p0), .val (.int p1), .val (.long q2), .second, .val (.long q3), .second, .val (.long q4), .second, .val (.long q5), .second, .val (.int (1 : Int32)), .val (.ref b58), .val (.int v64), .val (.int v67), .val (.ref b68), .val (.long v73), .second, .unset, .unset, .unset] [(.int v64)]))
            refine Ends.via (fun _ k => XS.iconst X72.here hx rfl (hb hby at_140) k) ?_
            show Ends p e below s 16 128 (Q0 Z p0 p1 q2 q3 q4 q5  h0 n0) (T72.setTop (mkF m 141 #[.val (.int p0), .val (.int p1), .val (.long q2), .second, .val (.long q3), .second, .val (.long q4), .second, .val (.long q5), .second, .val (.int (1 : Int32)), .val (.ref b58), .val (.int v64), .val (.int v67), .val (.ref b68), .val (.long v73), .second, .unset, .unset, .unset] [(.int (2 : Int32)), (.int v64)]))
            by_cases hc85 : v64 = (2 : Int32)
            · refine Ends.via (fun _ k => XS.icmpNo X72.here hx rfl (hb hby at_141) rfl (teq hc85).2 k) ?_
              show Ends p e below s 16 128 (Q0 Z p0 p1 q2 q3 q4 q5  h0 n0) (T72.setTop (mkF m 144 #[.val (.int p0), .val (.int p1), .val (.long q2), .second, .val (.long q3), .second, .val (.long q4), .second, .val (.long q5), .second, .val (.int (1 : Int32)), .val (.ref b58), .val (.int v64), .val (.int v67), .val (.ref b68), .val (.long v73), .second, .unset, .unset, .unset] []))
              refine Ends.via (fun _ k => XS.lload X72.here hx rfl (hb hby at_144) rfl k) ?_
              show Ends p e below s 16 128 (Q0 Z p0 p1 q2 q3 q4 q5  h0 n0) (T72.setTop (mkF m 146 #[.val (.int p0), .val (.int p1), .val (.long q2), .second, .val (.long q3), .second, .val (.long q4), .second, .val (.long q5), .second, .val (.int (1 : Int32)), .val (.ref b58), .val (.int v64), .val (.int v67), .val (.ref b68), .val (.long v73), .second, .unset, .unset, .unset] [(.long q3)]))
              refine Ends.via (fun _ k => XS.lstore X72.here hx rfl (hb hby at_146) rfl (l' := #[.val (.int p0), .val (.int p1), .val (.long q2), .second, .val (.long q3), .second, .val (.long q4), .second, .val (.long q5), .second, .val (.int (1 : Int32)), .val (.ref b58), .val (.int v64), .val (.int v67), .val (.ref b68), .val (.long v73), .second, .val (.long q3), .second, .unset]) rfl k) ?_
              show Ends p e below s 16 128 (Q0 Z p0 p1 q2 q3 q4 q5  h0 n0) (T72.setTop (mkF m 148 #[.val (.int p0), .val (.int p1), .val (.long q2), .second, .val (.long q3), .second, .val (.long q4), .second, .val (.long q5), .second, .val (.int (1 : Int32)), .val (.ref b58), .val (.int v64), .val (.int v67), .val (.ref b68), .val (.long v73), .second, .val (.long q3), .second, .unset] []))
              refine Ends.via (fun _ k => XS.goto X72.here hx rfl (pc0 := 148) (pc' := 175) rfl (hb hby at_148) (by decide) (by decide) k) ?_
              show Ends p e below s 16 128 (Q0 Z p0 p1 q2 q3 q4 q5  h0 n0) (T72.setTop (mkF m 175 #[.val (.int p0), .val (.int p1), .val (.long q2), .second, .val (.long q3), .second, .val (.long q4), .second, .val (.long q5), .second, .val (.int (1 : Int32)), .val (.ref b58), .val (.int v64), .val (.int v67), .val (.ref b68), .val (.long v73), .second, .val (.long q3), .second, .unset] []))
              exact J80 T72 _ X72 e72 N72 (.unset) q3 (by first | (simp only [if_neg hc82, if_neg hc83, if_neg hc84, if_pos hc85]; done) | rfl)
            · refine Ends.via (fun _ k => XS.icmpYes X72.here hx rfl (pc0 := 141) (pc' := 151) rfl (hb hby at_141) rfl (feq hc85).2 (by decide) (by decide) k) ?_
              show Ends p e below s 16 128 (Q0 Z p0 p1 q2 q3 q4 q5  h0 n0) (T72.setTop (mkF m 151 #[.val (.int p0), .val (.int p1), .val (.long q2), .second, .val (.long q3), .second, .val (.long q4), .second, .val (.long q5), .second, .val (.int (1 : Int32)), .val (.ref b58), .val (.int v64), .val (.int v67), .val (.ref b68), .val (.long v73), .second, .unset, .unset, .unset] []))
              refine Ends.via (fun _ k => XS.lload X72.here hx rfl (hb hby at_151) rfl k) ?_
              show Ends p e below s 16 128 (Q0 Z p0 p1 q2 q3 q4 q5  h0 n0) (T72.setTop (mkF m 153 #[.val (.int p0), .val (.int p1), .val (.long q2), .second, .val (.long q3), .second, .val (.long q4), .second, .val (.long q5), .second, .val (.int (1 : Int32)), .val (.ref b58), .val (.int v64), .val (.int v67), .val (.ref b68), .val (.long v73), .second, .unset, .unset, .unset] [(.long q4)]))
              refine Ends.via (fun _ k => XS.lstore X72.here hx rfl (hb hby at_153) rfl (l' := #[.val (.int p0), .val (.int p1), .val (.long q2), .second, .val (.long q3), .second, .val (.long q4), .second, .val (.long q5), .second, .val (.int (1 : Int32)), .val (.ref b58), .val (.int v64), .val (.int v67), .val (.ref b68), .val (.long v73), .second, .val (.long q4), .second, .unset]) rfl k) ?_
              show Ends p e below s 16 128 (Q0 Z p0 p1 q2 q3 q4 q5  h0 n0) (T72.setTop (mkF m 155 #[.val (.int p0), .val (.int p1), .val (.long q2), .second, .val (.long q3), .second, .val (.long q4), .second, .val (.long q5), .second, .val (.int (1 : Int32)), .val (.ref b58), .val (.int v64), .val (.int v67), .val (.ref b68), .val (.long v73), .second, .val (.long q4), .second, .unset] []))
              refine Ends.via (fun _ k => XS.goto X72.here hx rfl (pc0 := 155) (pc' := 175) rfl (hb hby at_155) (by decide) (by decide) k) ?_
              show Ends p e below s 16 128 (Q0 Z p0 p1 q2 q3 q4 q5  h0 n0) (T72.setTop (mkF m 175 #[.val (.int p0), .val (.int p1), .val (.long q2), .second, .val (.long q3), .second, .val (.long q4), .second, .val (.long q5), .second, .val (.int (1 : Int32)), .val (.ref b58), .val (.int v64), .val (.int v67), .val (.ref b68), .val (.long v73), .second, .val (.long q4), .second, .unset] []))
              exact J80 T72 _ X72 e72 N72 (.unset) q4 (by first | (simp only [if_neg hc82, if_neg hc83, if_neg hc84, if_neg hc85]; done) | rfl)
    by_cases hc86 : (p0 &&& (1 : Int32)) = (0 : Int32)
    · refine Ends.via (fun _ k => XS.ifYes X60.here hx rfl (pc0 := 50) (pc' := 59) rfl (hb hby at_50) rfl ((if0 _ _).trans (teq hc86).1) (by decide) (by decide) k) ?_
      show Ends p e below s 16 128 (Q0 Z p0 p1 q2 q3 q4 q5  h0 n0) (T60.setTop (mkF m 59 #[.val (.int p0), .val (.int p1), .val (.long q2), .second, .val (.long q3), .second, .val (.long q4), .second, .val (.long q5), .second, .val (.int (1 : Int32)), .val (.ref b58), .unset, .unset, .unset, .unset, .unset, .unset, .unset, .unset] []))
      refine Ends.via (fun _ k => XS.iloadN X60.here hx rfl (hb hby at_59) rfl k) ?_
      show Ends p e below s 16 128 (Q0 Z p0 p1 q2 q3 q4 q5  h0 n0) (T60.setTop (mkF m 60 #[.val (.int p0), .val (.int p1), .val (.long q2), .second, .val (.long q3), .second, .val (.long q4), .second, .val (.long q5), .second, .val (.int (1 : Int32)), .val (.ref b58), .unset, .unset, .unset, .unset, .unset, .unset, .unset, .unset] [(.int p1)]))
      refine Ends.via (X60.ldcInt hx hown (mvT hZ (hw _ (List.mem_of_getElem? (i := 1) rfl))) (g := (mkF m 60 #[.val (.int p0), .val (.int p1), .val (.long q2), .second, .val (.long q3), .second, .val (.long q4), .second, .val (.long q5), .second, .val (.int (1 : Int32)), .val (.ref b58), .unset, .unset, .unset, .unset, .unset, .unset, .unset, .unset] [(.int p1)])) rfl (hb hby at_60)) ?_
      show Ends p e below s 16 128 (Q0 Z p0 p1 q2 q3 q4 q5  h0 n0) (T60.setTop (mkF m 62 #[.val (.int p0), .val (.int p1), .val (.long q2), .second, .val (.long q3), .second, .val (.long q4), .second, .val (.long q5), .second, .val (.int (1 : Int32)), .val (.ref b58), .unset, .unset, .unset, .unset, .unset, .unset, .unset, .unset] [(.int (1073741823 : Int32)), (.int p1)]))
      refine Ends.via (fun _ k => XS.iand X60.here hx rfl (hb hby at_62) rfl k) ?_
      show Ends p e below s 16 128 (Q0 Z p0 p1 q2 q3 q4 q5  h0 n0) (T60.setTop (mkF m 63 #[.val (.int p0), .val (.int p1), .val (.long q2), .second, .val (.long q3), .second, .val (.long q4), .second, .val (.long q5), .second, .val (.int (1 : Int32)), .val (.ref b58), .unset, .unset, .unset, .unset, .unset, .unset, .unset, .unset] [(.int (p1 &&& (1073741823 : Int32)))]))
      exact J65 T60 _ X60 e60 N60 (p1 &&& (1073741823 : Int32)) (by first | (simp only [if_pos hc86]; done) | rfl)
    · refine Ends.via (fun _ k => XS.ifNo X60.here hx rfl (hb hby at_50) rfl ((if0 _ _).trans (feq hc86).1) k) ?_
      show Ends p e below s 16 128 (Q0 Z p0 p1 q2 q3 q4 q5  h0 n0) (T60.setTop (mkF m 53 #[.val (.int p0), .val (.int p1), .val (.long q2), .second, .val (.long q3), .second, .val (.long q4), .second, .val (.long q5), .second, .val (.int (1 : Int32)), .val (.ref b58), .unset, .unset, .unset, .unset, .unset, .unset, .unset, .unset] []))
      refine Ends.via (fun _ k => XS.iloadN X60.here hx rfl (hb hby at_53) rfl k) ?_
      show Ends p e below s 16 128 (Q0 Z p0 p1 q2 q3 q4 q5  h0 n0) (T60.setTop (mkF m 54 #[.val (.int p0), .val (.int p1), .val (.long q2), .second, .val (.long q3), .second, .val (.long q4), .second, .val (.long q5), .second, .val (.int (1 : Int32)), .val (.ref b58), .unset, .unset, .unset, .unset, .unset, .unset, .unset, .unset] [(.int p1)]))
      refine Ends.via (fun _ k => XS.iconst X60.here hx rfl (hb hby at_54) k) ?_
      show Ends p e below s 16 128 (Q0 Z p0 p1 q2 q3 q4 q5  h0 n0) (T60.setTop (mkF m 55 #[.val (.int p0), .val (.int p1), .val (.long q2), .second, .val (.long q3), .second, .val (.long q4), .second, .val (.long q5), .second, .val (.int (1 : Int32)), .val (.ref b58), .unset, .unset, .unset, .unset, .unset, .unset, .unset, .unset] [(.int (3 : Int32)), (.int p1)]))
      refine Ends.via (fun _ k => XS.iand X60.here hx rfl (hb hby at_55) rfl k) ?_
      show Ends p e below s 16 128 (Q0 Z p0 p1 q2 q3 q4 q5  h0 n0) (T60.setTop (mkF m 56 #[.val (.int p0), .val (.int p1), .val (.long q2), .second, .val (.long q3), .second, .val (.long q4), .second, .val (.long q5), .second, .val (.int (1 : Int32)), .val (.ref b58), .unset, .unset, .unset, .unset, .unset, .unset, .unset, .unset] [(.int (p1 &&& (3 : Int32)))]))
      refine Ends.via (fun _ k => XS.goto X60.here hx rfl (pc0 := 56) (pc' := 63) rfl (hb hby at_56) (by decide) (by decide) k) ?_
      show Ends p e below s 16 128 (Q0 Z p0 p1 q2 q3 q4 q5  h0 n0) (T60.setTop (mkF m 63 #[.val (.int p0), .val (.int p1), .val (.long q2), .second, .val (.long q3), .second, .val (.long q4), .second, .val (.long q5), .second, .val (.int (1 : Int32)), .val (.ref b58), .unset, .unset, .unset, .unset, .unset, .unset, .unset, .unset] [(.int (p1 &&& (3 : Int32)))]))
      exact J65 T60 _ X60 e60 N60 (p1 &&& (3 : Int32)) (by first | (simp only [if_neg hc86]; done) | rfl)
  · show Ends p e below s 16 128 (Q0 Z p0 p1 q2 q3 q4 q5  h0 n0) (s₁.setTop (mkF m 7 #[.val (.int p0), .val (.int p1), .val (.long q2), .second, .val (.long q3), .second, .val (.long q4), .second, .val (.long q5), .second, .val (.int (2 : Int32)), .unset, .unset, .unset, .unset, .unset, .unset, .unset, .unset, .unset] []))
    refine Ends.via (fun _ k => XS.iload X0.here hx rfl (hb hby at_7) rfl k) ?_
    show Ends p e below s 16 128 (Q0 Z p0 p1 q2 q3 q4 q5  h0 n0) (s₁.setTop (mkF m 9 #[.val (.int p0), .val (.int p1), .val (.long q2), .second, .val (.long q3), .second, .val (.long q4), .second, .val (.long q5), .second, .val (.int (2 : Int32)), .unset, .unset, .unset, .unset, .unset, .unset, .unset, .unset, .unset] [(.int (2 : Int32))]))
    obtain ⟨T87, h87, k87, X87, e87, E87, A87, st87⟩ := newP X0 hx hZ (hw _ (List.mem_of_getElem? (i := 0) rfl)) e0 (g := (mkF m 9 #[.val (.int p0), .val (.int p1), .val (.long q2), .second, .val (.long q3), .second, .val (.long q4), .second, .val (.long q5), .second, .val (.int (2 : Int32)), .unset, .unset, .unset, .unset, .unset, .unset, .unset, .unset, .unset] [(.int (2 : Int32))])) rfl (hb hby at_9) rfl (by decide) (cap := 2) (by decide) (by decide) (by decide) (by decide)
    obtain ⟨b87, g87⟩ : ∃ z, z = h0.size := ⟨_, rfl⟩
    rw [← g87] at A87 st87
    have g_b87 : n0 ≤ b87 := Nat.le_trans Z0 (Nat.le_of_eq g87.symm)
    have Z87 : n0 ≤ h87.size := Nat.le_trans Z0 E87.1
    have V87 : Arv Z h87 b87 k87 .long (2 : Int32) [(.long (0 : Int64)), (.long (0 : Int64))] (.long (0 : Int64)) := (Arv.new A87 (by decide)).pad (pad_rep [] (.long (0 : Int64)) 2)
    refine Ends.via st87 ?_
    show Ends p e below s 16 128 (Q0 Z p0 p1 q2 q3 q4 q5  h0 n0) (T87.setTop (mkF m 11 #[.val (.int p0), .val (.int p1), .val (.long q2), .second, .val (.long q3), .second, .val (.long q4), .second, .val (.long q5), .second, .val (.int (2 : Int32)), .unset, .unset, .unset, .unset, .unset, .unset, .unset, .unset, .unset] [(.ref b87)]))
    refine Ends.via (fun _ k => XS.astore X87.here hx rfl (hb hby at_11) rfl rfl (l' := #[.val (.int p0), .val (.int p1), .val (.long q2), .second, .val (.long q3), .second, .val (.long q4), .second, .val (.long q5), .second, .val (.int (2 : Int32)), .val (.ref b87), .unset, .unset, .unset, .unset, .unset, .unset, .unset, .unset]) rfl k) ?_
    show Ends p e below s 16 128 (Q0 Z p0 p1 q2 q3 q4 q5  h0 n0) (T87.setTop (mkF m 13 #[.val (.int p0), .val (.int p1), .val (.long q2), .second, .val (.long q3), .second, .val (.long q4), .second, .val (.long q5), .second, .val (.int (2 : Int32)), .val (.ref b87), .unset, .unset, .unset, .unset, .unset, .unset, .unset, .unset] []))
    refine Ends.via (fun _ k => XS.iload X87.here hx rfl (hb hby at_13) rfl k) ?_
    show Ends p e below s 16 128 (Q0 Z p0 p1 q2 q3 q4 q5  h0 n0) (T87.setTop (mkF m 15 #[.val (.int p0), .val (.int p1), .val (.long q2), .second, .val (.long q3), .second, .val (.long q4), .second, .val (.long q5), .second, .val (.int (2 : Int32)), .val (.ref b87), .unset, .unset, .unset, .unset, .unset, .unset, .unset, .unset] [(.int (2 : Int32))]))
    have hf88 : (0 : Int32) < (2 : Int32) := by decide
    refine Ends.via (fun _ k => XS.ifNo X87.here hx rfl (hb hby at_15) rfl ((if0 _ _).trans (tlt hf88).2.2.2) k) ?_
    show Ends p e below s 16 128 (Q0 Z p0 p1 q2 q3 q4 q5  h0 n0) (T87.setTop (mkF m 18 #[.val (.int p0), .val (.int p1), .val (.long q2), .second, .val (.long q3), .second, .val (.long q4), .second, .val (.long q5), .second, .val (.int (2 : Int32)), .val (.ref b87), .unset, .unset, .unset, .unset, .unset, .unset, .unset, .unset] []))
    refine Ends.via (fun _ k => XS.aload X87.here hx rfl (hb hby at_18) rfl rfl k) ?_
    show Ends p e below s 16 128 (Q0 Z p0 p1 q2 q3 q4 q5  h0 n0) (T87.setTop (mkF m 20 #[.val (.int p0), .val (.int p1), .val (.long q2), .second, .val (.long q3), .second, .val (.long q4), .second, .val (.long q5), .second, .val (.int (2 : Int32)), .val (.ref b87), .unset, .unset, .unset, .unset, .unset, .unset, .unset, .unset] [(.ref b87)]))
    refine Ends.via (fun _ k => XS.iconst X87.here hx rfl (hb hby at_20) k) ?_
    show Ends p e below s 16 128 (Q0 Z p0 p1 q2 q3 q4 q5  h0 n0) (T87.setTop (mkF m 21 #[.val (.int p0), .val (.int p1), .val (.long q2), .second, .val (.long q3), .second, .val (.long q4), .second, .val (.long q5), .second, .val (.int (2 : Int32)), .val (.ref b87), .unset, .unset, .unset, .unset, .unset, .unset, .unset, .unset] [(.int (0 : Int32)), (.ref b87)]))
    refine Ends.via (fun _ k => XS.lloadN X87.here hx rfl (hb hby at_21) rfl k) ?_
    show Ends p e below s 16 128 (Q0 Z p0 p1 q2 q3 q4 q5  h0 n0) (T87.setTop (mkF m 22 #[.val (.int p0), .val (.int p1), .val (.long q2), .second, .val (.long q3), .second, .val (.long q4), .second, .val (.long q5), .second, .val (.int (2 : Int32)), .val (.ref b87), .unset, .unset, .unset, .unset, .unset, .unset, .unset, .unset] [(.long q2), (.int (0 : Int32)), (.ref b87)]))
    obtain ⟨cl89, Ar89, qk89, S89, Ng89, Hs89, Gf89⟩ := id V87
    have hin89 : ¬ ((0 : Int32) < 0 ∨ cl89.slots.size ≤ ((0 : Int32)).toNatClampNeg) := inb_of S89 ⟨by decide, by decide⟩
    obtain ⟨T89, h89, X89, e89, W89, st89⟩ := stJ X87 hx hZ e87 Ar89 (j := (0 : Int32)) hin89 (g := (mkF m 22 #[.val (.int p0), .val (.int p1), .val (.long q2), .second, .val (.long q3), .second, .val (.long q4), .second, .val (.long q5), .second, .val (.int (2 : Int32)), .val (.ref b87), .unset, .unset, .unset, .unset, .unset, .unset, .unset, .unset] [(.long q2), (.int (0 : Int32)), (.ref b87)])) rfl rfl (hb hby at_22)
    have V89 : Arv Z h89 b87 k87 .long (2 : Int32) [(.long q2), (.long (0 : Int64))] (.long (0 : Int64)) := Arv.set Ar89 qk89 S89 Ng89 Hs89 Gf89 rfl W89 0 rfl (Nat.le_of_ble_eq_true rfl)
    have Z89 : n0 ≤ h89.size := Nat.le_trans Z87 (Keep.of_wr W89).1
    have N89 := Fr.snoc X89 N0 g_b87
    refine Ends.via st89 ?_
    show Ends p e below s 16 128 (Q0 Z p0 p1 q2 q3 q4 q5  h0 n0) (T89.setTop (mkF m 23 #[.val (.int p0), .val (.int p1), .val (.long q2), .second, .val (.long q3), .second, .val (.long q4), .second, .val (.long q5), .second, .val (.int (2 : Int32)), .val (.ref b87), .unset, .unset, .unset, .unset, .unset, .unset, .unset, .unset] []))
    refine Ends.via (fun _ k => XS.iload X89.here hx rfl (hb hby at_23) rfl k) ?_
    show Ends p e below s 16 128 (Q0 Z p0 p1 q2 q3 q4 q5  h0 n0) (T89.setTop (mkF m 25 #[.val (.int p0), .val (.int p1), .val (.long q2), .second, .val (.long q3), .second, .val (.long q4), .second, .val (.long q5), .second, .val (.int (2 : Int32)), .val (.ref b87), .unset, .unset, .unset, .unset, .unset, .unset, .unset, .unset] [(.int (2 : Int32))]))
    refine Ends.via (fun _ k => XS.iconst X89.here hx rfl (hb hby at_25) k) ?_
    show Ends p e below s 16 128 (Q0 Z p0 p1 q2 q3 q4 q5  h0 n0) (T89.setTop (mkF m 26 #[.val (.int p0), .val (.int p1), .val (.long q2), .second, .val (.long q3), .second, .val (.long q4), .second, .val (.long q5), .second, .val (.int (2 : Int32)), .val (.ref b87), .unset, .unset, .unset, .unset, .unset, .unset, .unset, .unset] [(.int (1 : Int32)), (.int (2 : Int32))]))
    have hf90 : (1 : Int32) < (2 : Int32) := by decide
    refine Ends.via (fun _ k => XS.icmpNo X89.here hx rfl (hb hby at_26) rfl (tlt hf90).2.2.2 k) ?_
    show Ends p e below s 16 128 (Q0 Z p0 p1 q2 q3 q4 q5  h0 n0) (T89.setTop (mkF m 29 #[.val (.int p0), .val (.int p1), .val (.long q2), .second, .val (.long q3), .second, .val (.long q4), .second, .val (.long q5), .second, .val (.int (2 : Int32)), .val (.ref b87), .unset, .unset, .unset, .unset, .unset, .unset, .unset, .unset] []))
    refine Ends.via (fun _ k => XS.aload X89.here hx rfl (hb hby at_29) rfl rfl k) ?_
    show Ends p e below s 16 128 (Q0 Z p0 p1 q2 q3 q4 q5  h0 n0) (T89.setTop (mkF m 31 #[.val (.int p0), .val (.int p1), .val (.long q2), .second, .val (.long q3), .second, .val (.long q4), .second, .val (.long q5), .second, .val (.int (2 : Int32)), .val (.ref b87), .unset, .unset, .unset, .unset, .unset, .unset, .unset, .unset] [(.ref b87)]))
    refine Ends.via (fun _ k => XS.iconst X89.here hx rfl (hb hby at_31) k) ?_
    show Ends p e below s 16 128 (Q0 Z p0 p1 q2 q3 q4 q5  h0 n0) (T89.setTop (mkF m 32 #[.val (.int p0), .val (.int p1), .val (.long q2), .second, .val (.long q3), .second, .val (.long q4), .second, .val (.long q5), .second, .val (.int (2 : Int32)), .val (.ref b87), .unset, .unset, .unset, .unset, .unset, .unset, .unset, .unset] [(.int (1 : Int32)), (.ref b87)]))
    refine Ends.via (fun _ k => XS.lload X89.here hx rfl (hb hby at_32) rfl k) ?_
    show Ends p e below s 16 128 (Q0 Z p0 p1 q2 q3 q4 q5  h0 n0) (T89.setTop (mkF m 34 #[.val (.int p0), .val (.int p1), .val (.long q2), .second, .val (.long q3), .second, .val (.long q4), .second, .val (.long q5), .second, .val (.int (2 : Int32)), .val (.ref b87), .unset, .unset, .unset, .unset, .unset, .unset, .unset, .unset] [(.long q3), (.int (1 : Int32)), (.ref b87)]))
    obtain ⟨cl91, Ar91, qk91, S91, Ng91, Hs91, Gf91⟩ := id V89
    have hin91 : ¬ ((1 : Int32) < 0 ∨ cl91.slots.size ≤ ((1 : Int32)).toNatClampNeg) := inb_of S91 ⟨by decide, by decide⟩
    obtain ⟨T91, h91, X91, e91, W91, st91⟩ := stJ X89 hx hZ e89 Ar91 (j := (1 : Int32)) hin91 (g := (mkF m 34 #[.val (.int p0), .val (.int p1), .val (.long q2), .second, .val (.long q3), .second, .val (.long q4), .second, .val (.long q5), .second, .val (.int (2 : Int32)), .val (.ref b87), .unset, .unset, .unset, .unset, .unset, .unset, .unset, .unset] [(.long q3), (.int (1 : Int32)), (.ref b87)])) rfl rfl (hb hby at_34)
    have V91 : Arv Z h91 b87 k87 .long (2 : Int32) [(.long q2), (.long q3)] (.long (0 : Int64)) := Arv.set Ar91 qk91 S91 Ng91 Hs91 Gf91 rfl W91 1 rfl (Nat.le_of_ble_eq_true rfl)
    have Z91 : n0 ≤ h91.size := Nat.le_trans Z89 (Keep.of_wr W91).1
    have N91 := Fr.snoc X91 N89 g_b87
    refine Ends.via st91 ?_
    show Ends p e below s 16 128 (Q0 Z p0 p1 q2 q3 q4 q5  h0 n0) (T91.setTop (mkF m 35 #[.val (.int p0), .val (.int p1), .val (.long q2), .second, .val (.long q3), .second, .val (.long q4), .second, .val (.long q5), .second, .val (.int (2 : Int32)), .val (.ref b87), .unset, .unset, .unset, .unset, .unset, .unset, .unset, .unset] []))
    refine Ends.via (fun _ k => XS.iload X91.here hx rfl (hb hby at_35) rfl k) ?_
    show Ends p e below s 16 128 (Q0 Z p0 p1 q2 q3 q4 q5  h0 n0) (T91.setTop (mkF m 37 #[.val (.int p0), .val (.int p1), .val (.long q2), .second, .val (.long q3), .second, .val (.long q4), .second, .val (.long q5), .second, .val (.int (2 : Int32)), .val (.ref b87), .unset, .unset, .unset, .unset, .unset, .unset, .unset, .unset] [(.int (2 : Int32))]))
    refine Ends.via (fun _ k => XS.iconst X91.here hx rfl (hb hby at_37) k) ?_
    show Ends p e below s 16 128 (Q0 Z p0 p1 q2 q3 q4 q5  h0 n0) (T91.setTop (mkF m 38 #[.val (.int p0), .val (.int p1), .val (.long q2), .second, .val (.long q3), .second, .val (.long q4), .second, .val (.long q5), .second, .val (.int (2 : Int32)), .val (.ref b87), .unset, .unset, .unset, .unset, .unset, .unset, .unset, .unset] [(.int (2 : Int32)), (.int (2 : Int32))]))
    have hf92 : ¬ ((2 : Int32) < (2 : Int32)) := by decide
    refine Ends.via (fun _ k => XS.icmpYes X91.here hx rfl (pc0 := 38) (pc' := 47) rfl (hb hby at_38) rfl (flt hf92).2.2.2 (by decide) (by decide) k) ?_
    show Ends p e below s 16 128 (Q0 Z p0 p1 q2 q3 q4 q5  h0 n0) (T91.setTop (mkF m 47 #[.val (.int p0), .val (.int p1), .val (.long q2), .second, .val (.long q3), .second, .val (.long q4), .second, .val (.long q5), .second, .val (.int (2 : Int32)), .val (.ref b87), .unset, .unset, .unset, .unset, .unset, .unset, .unset, .unset] []))
    refine Ends.via (fun _ k => XS.iloadN X91.here hx rfl (hb hby at_47) rfl k) ?_
    show Ends p e below s 16 128 (Q0 Z p0 p1 q2 q3 q4 q5  h0 n0) (T91.setTop (mkF m 48 #[.val (.int p0), .val (.int p1), .val (.long q2), .second, .val (.long q3), .second, .val (.long q4), .second, .val (.long q5), .second, .val (.int (2 : Int32)), .val (.ref b87), .unset, .unset, .unset, .unset, .unset, .unset, .unset, .unset] [(.int p0)]))
    refine Ends.via (fun _ k => XS.iconst X91.here hx rfl (hb hby at_48) k) ?_
    show Ends p e below s 16 128 (Q0 Z p0 p1 q2 q3 q4 q5  h0 n0) (T91.setTop (mkF m 49 #[.val (.int p0), .val (.int p1), .val (.long q2), .second, .val (.long q3), .second, .val (.long q4), .second, .val (.long q5), .second, .val (.int (2 : Int32)), .val (.ref b87), .unset, .unset, .unset, .unset, .unset, .unset, .unset, .unset] [(.int (1 : Int32)), (.int p0)]))
    refine Ends.via (fun _ k => XS.iand X91.here hx rfl (hb hby at_49) rfl k) ?_
    show Ends p e below s 16 128 (Q0 Z p0 p1 q2 q3 q4 q5  h0 n0) (T91.setTop (mkF m 50 #[.val (.int p0), .val (.int p1), .val (.long q2), .second, .val (.long q3), .second, .val (.long q4), .second, .val (.long q5), .second, .val (.int (2 : Int32)), .val (.ref b87), .unset, .unset, .unset, .unset, .unset, .unset, .unset, .unset] [(.int (p0 &&& (1 : Int32)))]))
    have J95 : ∀ (Tj95 : State) (Lj95 : List Loc) (Xj95 : Stand p l e room_1 s m #[(.int p0), (.int p1), (.long q2), (.long q3), (.long q4), (.long q5)] below meth c Tj95 Lj95 1 2) (ej95 : Tj95.heap = h91) (Nj95 : Fr n0 Lj95) (v94 : Int32), (if (p0 &&& (1 : Int32)) = (0 : Int32) then (p1 &&& (1073741823 : Int32)) else (p1 &&& (3 : Int32))) = v94 → Ends p e below s 16 128 (Q0 Z p0 p1 q2 q3 q4 q5  h0 n0) (Tj95.setTop (mkF m 63 #[.val (.int p0), .val (.int p1), .val (.long q2), .second, .val (.long q3), .second, .val (.long q4), .second, .val (.long q5), .second, .val (.int (2 : Int32)), .val (.ref b87), .unset, .unset, .unset, .unset, .unset, .unset, .unset, .unset] [(.int v94)])) := by
      intro Tj95 Lj95 Xj95 ej95 Nj95 v94 hv94
      refine Ends.via (fun _ k => XS.istore Xj95.here hx rfl (hb hby at_63) rfl (l' := #[.val (.int p0), .val (.int p1), .val (.long q2), .second, .val (.long q3), .second, .val (.long q4), .second, .val (.long q5), .second, .val (.int (2 : Int32)), .val (.ref b87), .val (.int v94), .unset, .unset, .unset, .unset, .unset, .unset, .unset]) rfl k) ?_
      show Ends p e below s 16 128 (Q0 Z p0 p1 q2 q3 q4 q5  h0 n0) (Tj95.setTop (mkF m 65 #[.val (.int p0), .val (.int p1), .val (.long q2), .second, .val (.long q3), .second, .val (.long q4), .second, .val (.long q5), .second, .val (.int (2 : Int32)), .val (.ref b87), .val (.int v94), .unset, .unset, .unset, .unset, .unset, .unset, .unset] []))
      refine Ends.via (fun _ k => XS.iload Xj95.here hx rfl (hb hby at_65) rfl k) ?_
      show Ends p e below s 16 128 (Q0 Z p0 p1 q2 q3 q4 q5  h0 n0) (Tj95.setTop (mkF m 67 #[.val (.int p0), .val (.int p1), .val (.long q2), .second, .val (.long q3), .second, .val (.long q4), .second, .val (.long q5), .second, .val (.int (2 : Int32)), .val (.ref b87), .val (.int v94), .unset, .unset, .unset, .unset, .unset, .unset, .unset] [(.int v94)]))
      refine Ends.via (fun _ k => XS.iload Xj95.here hx rfl (hb hby at_67) rfl k) ?_
      show Ends p e below s 16 128 (Q0 Z p0 p1 q2 q3 q4 q5  h0 n0) (Tj95.setTop (mkF m 69 #[.val (.int p0), .val (.int p1), .val (.long q2), .second, .val (.long q3), .second, .val (.long q4), .second, .val (.long q5), .second, .val (.int (2 : Int32)), .val (.ref b87), .val (.int v94), .unset, .unset, .unset, .unset, .unset, .unset, .unset] [(.int (2 : Int32)), (.int v94)]))
      obtain ⟨_, _, ⟨T96, L96, k96, n96⟩, -, X96, ⟨Lc96, hQ96, l96, y96, z96⟩, st96⟩ := Jvm.LawKit.callS Xj95 hx (y := (⟨"java/lang/Math", "max", "(II)I"⟩ : MethodName)) hown (mvT hZ (hw _ (List.mem_of_getElem? (i := 2) rfl))) (mvT hZ (hw _ (List.mem_of_getElem? (i := 3) rfl))) (mvT hZ (hw _ (List.mem_of_getElem? (i := 4) rfl))) (mvT hZ (hw _ (List.mem_of_getElem? (i := 5) rfl))) (by decide) (backOf (W := 0) (rm1 l Z _ hw [] v94 (2 : Int32) h91 n0 Z91) hZ (hw _ (List.mem_of_getElem? (i := 5) rfl)) (hw _ (List.mem_of_getElem? (i := 4) rfl)) (by decide) (by decide)) (g := (mkF m 69 #[.val (.int p0), .val (.int p1), .val (.long q2), .second, .val (.long q3), .second, .val (.long q4), .second, .val (.long q5), .second, .val (.int (2 : Int32)), .val (.ref b87), .val (.int v94), .unset, .unset, .unset, .unset, .unset, .unset, .unset] [(.int (2 : Int32)), (.int v94)])) rfl (by rw [hml]; rfl) (argsL := [(.int v94), (.int (2 : Int32))]) (rest := []) (lenOf own_pd0 rfl) rfl (by show 2 * 0 + _ ≤ _; exact Nat.le_of_eq rfl) (hb hby at_69) (fun _ _ => ⟨rfl, ej95, (by decide : 1 + 0 ≤ _), (by decide : 2 + 0 ≤ _)⟩)
      dsimp only [Pt.U, Pt.locs, Pt.cells, Pt.slots] at X96 l96 y96 z96 st96 hQ96
      subst l96 y96 z96
      obtain ⟨rfl, Nq96, e96⟩ := hQ96
      have N96 := Fr.app Nj95 Nq96
      refine Ends.via st96 ?_
      show Ends p e below s 16 128 (Q0 Z p0 p1 q2 q3 q4 q5  h0 n0) (T96.setTop (mkF m 72 #[.val (.int p0), .val (.int p1), .val (.long q2), .second, .val (.long q3), .second, .val (.long q4), .second, .val (.long q5), .second, .val (.int (2 : Int32)), .val (.ref b87), .val (.int v94), .unset, .unset, .unset, .unset, .unset, .unset, .unset] [(.int (fn1 v94 (2 : Int32)))]))
      refine Ends.via (fun _ k => XS.iconst X96.here hx rfl (hb hby at_72) k) ?_
      show Ends p e below s 16 128 (Q0 Z p0 p1 q2 q3 q4 q5  h0 n0) (T96.setTop (mkF m 73 #[.val (.int p0), .val (.int p1), .val (.long q2), .second, .val (.long q3), .second, .val (.long q4), .second, .val (.long q5), .second, .val (.int (2 : Int32)), .val (.ref b87), .val (.int v94), .unset, .unset, .unset, .unset, .unset, .unset, .unset] [(.int (1 : Int32)), (.int (fn1 v94 (2 : Int32)))]))
      refine Ends.via (fun _ k => XS.iadd X96.here hx rfl (hb hby at_73) rfl k) ?_
      show Ends p e below s 16 128 (Q0 Z p0 p1 q2 q3 q4 q5  h0 n0) (T96.setTop (mkF m 74 #[.val (.int p0), .val (.int p1), .val (.long q2), .second, .val (.long q3), .second, .val (.long q4), .second, .val (.long q5), .second, .val (.int (2 : Int32)), .val (.ref b87), .val (.int v94), .unset, .unset, .unset, .unset, .unset, .unset, .unset] [(.int ((fn1 v94 (2 : Int32)) + (1 : Int32)))]))
      refine Ends.via (fun _ k => XS.istore X96.here hx rfl (hb hby at_74) rfl (l' := #[.val (.int p0), .val (.int p1), .val (.long q2), .second, .val (.long q3), .second, .val (.long q4), .second, .val (.long q5), .second, .val (.int (2 : Int32)), .val (.ref b87), .val (.int v94), .val (.int ((fn1 v94 (2 : Int32)) + (1 : Int32))), .unset, .unset, .unset, .unset, .unset, .unset]) rfl k) ?_
      show Ends p e below s 16 128 (Q0 Z p0 p1 q2 q3 q4 q5  h0 n0) (T96.setTop (mkF m 76 #[.val (.int p0), .val (.int p1), .val (.long q2), .second, .val (.long q3), .second, .val (.long q4), .second, .val (.long q5), .second, .val (.int (2 : Int32)), .val (.ref b87), .val (.int v94), .val (.int ((fn1 v94 (2 : Int32)) + (1 : Int32))), .unset, .unset, .unset, .unset, .unset, .unset] []))
      generalize hv97 : ((fn1 v94 (2 : Int32)) + (1 : Int32)) = v97
      obtain ⟨T98, h98, X98, e98, E98, A98, D98, -, st98⟩ := newO X96 hx hZ hown (hw _ (List.mem_of_getElem? (i := 6) rfl)) (hw _ (List.mem_of_getElem? (i := 7) rfl)) (hw _ (List.mem_of_getElem? (i := 8) rfl)) e96 (g := (mkF m 76 #[.val (.int p0), .val (.int p1), .val (.long q2), .second, .val (.long q3), .second, .val (.long q4), .second, .val (.long q5), .second, .val (.int (2 : Int32)), .val (.ref b87), .val (.int v94), .val (.int v97), .unset, .unset, .unset, .unset, .unset, .unset] [])) rfl (hb hby at_76) (by decide) (by decide)
      obtain ⟨b98, g98⟩ : ∃ z, z = h91.size := ⟨_, rfl⟩
      rw [← g98] at A98 D98 st98
      have g_b98 : n0 ≤ b98 := Nat.le_trans Z91 (Nat.le_of_eq g98.symm)
      have ne_b87_b98 : b87 ≠ b98 := Nat.ne_of_lt (Nat.lt_of_lt_of_le V91.lt (Nat.le_of_eq g98.symm))
      have f98_0 := V91.ext E98
      have Z98 : n0 ≤ h98.size := Nat.le_trans Z91 E98.1
      have F98_size : Fld Z h98 b98 "com/example/frugal_xpath/frugalxpath/ElementTree$Pieces" "size" "I" (.int (0 : Int32)) := D98 (Or.inr (hw _ (List.mem_of_getElem? (i := 22) rfl))) (ty := .int) (by decide)
      have F98_chainPositions : Fld Z h98 b98 "com/example/frugal_xpath/frugalxpath/ElementTree$Pieces" "chainPositions" "[J" .null := D98 (Or.inr (hw _ (List.mem_of_getElem? (i := 24) rfl))) (ty := (.array .long)) (by decide)
      have F98_firstPosition : Fld Z h98 b98 "com/example/frugal_xpath/frugalxpath/ElementTree$Pieces" "firstPosition" "J" (.long (0 : Int64)) := D98 (Or.inr (hw _ (List.mem_of_getElem? (i := 26) rfl))) (ty := .long) (by decide)
      have F98_cutNodes : Fld Z h98 b98 "com/example/frugal_xpath/frugalxpath/ElementTree$Pieces" "cutNodes" "[I" .null := D98 (Or.inr (hw _ (List.mem_of_getElem? (i := 28) rfl))) (ty := (.array .int)) (by decide)
      have F98_openNodes : Fld Z h98 b98 "com/example/frugal_xpath/frugalxpath/ElementTree$Pieces" "openNodes" "[I" .null := D98 (Or.inr (hw _ (List.mem_of_getElem? (i := 30) rfl))) (ty := (.array .int)) (by decide)
      refine Ends.via st98 ?_
      show Ends p e below s 16 128 (Q0 Z p0 p1 q2 q3 q4 q5  h0 n0) (T98.setTop (mkF m 79 #[.val (.int p0), .val (.int p1), .val (.long q2), .second, .val (.long q3), .second, .val (.long q4), .second, .val (.long q5), .second, .val (.int (2 : Int32)), .val (.ref b87), .val (.int v94), .val (.int v97), .unset, .unset, .unset, .unset, .unset, .unset] [(.ref b98)]))
      refine Ends.via (fun _ k => XS.dup X98.here hx rfl (hb hby at_79) rfl rfl k) ?_
      show Ends p e below s 16 128 (Q0 Z p0 p1 q2 q3 q4 q5  h0 n0) (T98.setTop (mkF m 80 #[.val (.int p0), .val (.int p1), .val (.long q2), .second, .val (.long q3), .second, .val (.long q4), .second, .val (.long q5), .second, .val (.int (2 : Int32)), .val (.ref b87), .val (.int v94), .val (.int v97), .unset, .unset, .unset, .unset, .unset, .unset] [(.ref b98), (.ref b98)]))
      refine Ends.via (fun _ k => XS.iload X98.here hx rfl (hb hby at_80) rfl k) ?_
      show Ends p e below s 16 128 (Q0 Z p0 p1 q2 q3 q4 q5  h0 n0) (T98.setTop (mkF m 82 #[.val (.int p0), .val (.int p1), .val (.long q2), .second, .val (.long q3), .second, .val (.long q4), .second, .val (.long q5), .second, .val (.int (2 : Int32)), .val (.ref b87), .val (.int v94), .val (.int v97), .unset, .unset, .unset, .unset, .unset, .unset] [(.int v97), (.ref b98), (.ref b98)]))
      refine Ends.via (fun _ k => XS.aload X98.here hx rfl (hb hby at_82) rfl rfl k) ?_
      show Ends p e below s 16 128 (Q0 Z p0 p1 q2 q3 q4 q5  h0 n0) (T98.setTop (mkF m 84 #[.val (.int p0), .val (.int p1), .val (.long q2), .second, .val (.long q3), .second, .val (.long q4), .second, .val (.long q5), .second, .val (.int (2 : Int32)), .val (.ref b87), .val (.int v94), .val (.int v97), .unset, .unset, .unset, .unset, .unset, .unset] [(.ref b87), (.int v97), (.ref b98), (.ref b98)]))
      refine Ends.via (fun _ k => XS.lload X98.here hx rfl (hb hby at_84) rfl k) ?_
      show Ends p e below s 16 128 (Q0 Z p0 p1 q2 q3 q4 q5  h0 n0) (T98.setTop (mkF m 86 #[.val (.int p0), .val (.int p1), .val (.long q2), .second, .val (.long q3), .second, .val (.long q4), .second, .val (.long q5), .second, .val (.int (2 : Int32)), .val (.ref b87), .val (.int v94), .val (.int v97), .unset, .unset, .unset, .unset, .unset, .unset] [(.long q5), (.ref b87), (.int v97), (.ref b98), (.ref b98)]))
      refine Ends.via (fun _ k => XS.iconst X98.here hx rfl (hb hby at_86) k) ?_
      show Ends p e below s 16 128 (Q0 Z p0 p1 q2 q3 q4 q5  h0 n0) (T98.setTop (mkF m 87 #[.val (.int p0), .val (.int p1), .val (.long q2), .second, .val (.long q3), .second, .val (.long q4), .second, .val (.long q5), .second, .val (.int (2 : Int32)), .val (.ref b87), .val (.int v94), .val (.int v97), .unset, .unset, .unset, .unset, .unset, .unset] [(.int (0 : Int32)), (.long q5), (.ref b87), (.int v97), (.ref b98), (.ref b98)]))
      obtain ⟨T99, h99, k99, X99, e99, E99, A99, st99⟩ := newP X98 hx hZ (hw _ (List.mem_of_getElem? (i := 9) rfl)) e98 (g := (mkF m 87 #[.val (.int p0), .val (.int p1), .val (.long q2), .second, .val (.long q3), .second, .val (.long q4), .second, .val (.long q5), .second, .val (.int (2 : Int32)), .val (.ref b87), .val (.int v94), .val (.int v97), .unset, .unset, .unset, .unset, .unset, .unset] [(.int (0 : Int32)), (.long q5), (.ref b87), (.int v97), (.ref b98), (.ref b98)])) rfl (hb hby at_87) rfl (by decide) (cap := 0) (by decide) (by decide) (by decide) (by decide)
      obtain ⟨b99, g99⟩ : ∃ z, z = h98.size := ⟨_, rfl⟩
      rw [← g99] at A99 st99
      have g_b99 : n0 ≤ b99 := Nat.le_trans Z98 (Nat.le_of_eq g99.symm)
      have ne_b87_b99 : b87 ≠ b99 := Nat.ne_of_lt (Nat.lt_of_lt_of_le f98_0.lt (Nat.le_of_eq g99.symm))
      have ne_b98_b99 : b98 ≠ b99 := Nat.ne_of_lt (Nat.lt_of_lt_of_le A98.lt (Nat.le_of_eq g99.symm))
      have f99_0 := f98_0.ext E99
      have f99_1 := A98.ext E99
      have f99_2 := F98_size.ext E99
      have f99_3 := F98_chainPositions.ext E99
      have f99_4 := F98_firstPosition.ext E99
      have f99_5 := F98_cutNodes.ext E99
      have f99_6 := F98_openNodes.ext E99
      have Z99 : n0 ≤ h99.size := Nat.le_trans Z98 E99.1
      have V99 : Arv Z h99 b99 k99 .int (0 : Int32) [] (.int (0 : Int32)) := (Arv.new A99 (by decide)).pad (pad_rep [] (.int (0 : Int32)) 0)
      refine Ends.via st99 ?_
      show Ends p e below s 16 128 (Q0 Z p0 p1 q2 q3 q4 q5  h0 n0) (T99.setTop (mkF m 89 #[.val (.int p0), .val (.int p1), .val (.long q2), .second, .val (.long q3), .second, .val (.long q4), .second, .val (.long q5), .second, .val (.int (2 : Int32)), .val (.ref b87), .val (.int v94), .val (.int v97), .unset, .unset, .unset, .unset, .unset, .unset] [(.ref b99), (.long q5), (.ref b87), (.int v97), (.ref b98), (.ref b98)]))
      refine Ends.via (fun _ k => XS.iconst X99.here hx rfl (hb hby at_89) k) ?_
      show Ends p e below s 16 128 (Q0 Z p0 p1 q2 q3 q4 q5  h0 n0) (T99.setTop (mkF m 90 #[.val (.int p0), .val (.int p1), .val (.long q2), .second, .val (.long q3), .second, .val (.long q4), .second, .val (.long q5), .second, .val (.int (2 : Int32)), .val (.ref b87), .val (.int v94), .val (.int v97), .unset, .unset, .unset, .unset, .unset, .unset] [(.int (0 : Int32)), (.ref b99), (.long q5), (.ref b87), (.int v97), (.ref b98), (.ref b98)]))
      obtain ⟨T100, h100, k100, X100, e100, E100, A100, st100⟩ := newP X99 hx hZ (hw _ (List.mem_of_getElem? (i := 9) rfl)) e99 (g := (mkF m 90 #[.val (.int p0), .val (.int p1), .val (.long q2), .second, .val (.long q3), .second, .val (.long q4), .second, .val (.long q5), .second, .val (.int (2 : Int32)), .val (.ref b87), .val (.int v94), .val (.int v97), .unset, .unset, .unset, .unset, .unset, .unset] [(.int (0 : Int32)), (.ref b99), (.long q5), (.ref b87), (.int v97), (.ref b98), (.ref b98)])) rfl (hb hby at_90) rfl (by decide) (cap := 0) (by decide) (by decide) (by decide) (by decide)
      obtain ⟨b100, g100⟩ : ∃ z, z = h99.size := ⟨_, rfl⟩
      rw [← g100] at A100 st100
      have g_b100 : n0 ≤ b100 := Nat.le_trans Z99 (Nat.le_of_eq g100.symm)
      have ne_b87_b100 : b87 ≠ b100 := Nat.ne_of_lt (Nat.lt_of_lt_of_le f99_0.lt (Nat.le_of_eq g100.symm))
      have ne_b98_b100 : b98 ≠ b100 := Nat.ne_of_lt (Nat.lt_of_lt_of_le f99_1.lt (Nat.le_of_eq g100.symm))
      have ne_b99_b100 : b99 ≠ b100 := Nat.ne_of_lt (Nat.lt_of_lt_of_le V99.lt (Nat.le_of_eq g100.symm))
      have f100_0 := f99_0.ext E100
      have f100_1 := f99_1.ext E100
      have f100_2 := f99_2.ext E100
      have f100_3 := f99_3.ext E100
      have f100_4 := f99_4.ext E100
      have f100_5 := f99_5.ext E100
      have f100_6 := f99_6.ext E100
      have f100_7 := V99.ext E100
      have Z100 : n0 ≤ h100.size := Nat.le_trans Z99 E100.1
      have V100 : Arv Z h100 b100 k100 .int (0 : Int32) [] (.int (0 : Int32)) := (Arv.new A100 (by decide)).pad (pad_rep [] (.int (0 : Int32)) 0)
      refine Ends.via st100 ?_
      show Ends p e below s 16 128 (Q0 Z p0 p1 q2 q3 q4 q5  h0 n0) (T100.setTop (mkF m 92 #[.val (.int p0), .val (.int p1), .val (.long q2), .second, .val (.long q3), .second, .val (.long q4), .second, .val (.long q5), .second, .val (.int (2 : Int32)), .val (.ref b87), .val (.int v94), .val (.int v97), .unset, .unset, .unset, .unset, .unset, .unset] [(.ref b100), (.ref b99), (.long q5), (.ref b87), (.int v97), (.ref b98), (.ref b98)]))
      obtain ⟨_, _, ⟨T101, L101, k101, n101⟩, -, X101, ⟨Lc101, hQ101, l101, y101, z101⟩, st101⟩ := X100.specialBack hx (y := (⟨"com/example/frugal_xpath/frugalxpath/ElementTree$Pieces", "<init>", "(I[JJ[I[I)V"⟩ : MethodName)) rfl hown (mvT hZ (hw _ (List.mem_of_getElem? (i := 10) rfl))) (mvT hZ (hw _ (List.mem_of_getElem? (i := 11) rfl))) (mvT hZ (hw _ (List.mem_of_getElem? (i := 12) rfl))) (by decide) (backOf (W := 1) (rm2 l Z _ hw [] b98 v97 b87 q5 b99 b100 (.int (0 : Int32)) .null (.long (0 : Int64)) .null .null h100 n0 Z100 g_b98 f100_1 f100_2 f100_3 f100_4 f100_5 f100_6) hZ (hw _ (List.mem_of_getElem? (i := 12) rfl)) (hw _ (List.mem_of_getElem? (i := 8) rfl)) (by decide) (by decide)) (g := (mkF m 92 #[.val (.int p0), .val (.int p1), .val (.long q2), .second, .val (.long q3), .second, .val (.long q4), .second, .val (.long q5), .second, .val (.int (2 : Int32)), .val (.ref b87), .val (.int v94), .val (.int v97), .unset, .unset, .unset, .unset, .unset, .unset] [(.ref b100), (.ref b99), (.long q5), (.ref b87), (.int v97), (.ref b98), (.ref b98)])) rfl (by rw [hml]; rfl) (Steps.refl _) (a := b98) (argsL := [(.int v97), (.ref b87), (.long q5), (.ref b99), (.ref b100)]) (rest := [(.ref b98)]) (lenOf own_pd2 rfl) rfl (by show 2 * 0 + _ ≤ _; exact Nat.le_of_eq rfl) (hb hby at_92) (fun _ _ => ⟨rfl, e100, (by decide : 4 + 0 ≤ _), (by decide : 7 + 0 ≤ _)⟩)
      dsimp only [Pt.U, Pt.locs, Pt.cells, Pt.slots] at X101 l101 y101 z101 st101 hQ101
      subst l101 y101 z101
      obtain ⟨rfl, Nq101, Kq101, Eq101, Fq101_0, Fq101_1, Fq101_2, Fq101_3, Fq101_4⟩ := hQ101
      have N101 := Fr.app N96 Nq101
      have f101_0 := f100_0.keep Kq101 (ninS ne_b87_b98 nin0)
      have f101_7 := f100_7.keep Kq101 (ninS (Ne.symm ne_b98_b99) nin0)
      have f101_8 := V100.keep Kq101 (ninS (Ne.symm ne_b98_b100) nin0)
      have Z101 : n0 ≤ T101.heap.size := Nat.le_trans Z100 Kq101.1
      refine Ends.via (fun _ k => st101.trans k) ?_
      show Ends p e below s 16 128 (Q0 Z p0 p1 q2 q3 q4 q5  h0 n0) (T101.setTop (mkF m 95 #[.val (.int p0), .val (.int p1), .val (.long q2), .second, .val (.long q3), .second, .val (.long q4), .second, .val (.long q5), .second, .val (.int (2 : Int32)), .val (.ref b87), .val (.int v94), .val (.int v97), .unset, .unset, .unset, .unset, .unset, .unset] [(.ref b98)]))
      refine Ends.via (fun _ k => XS.astore X101.here hx rfl (hb hby at_95) rfl rfl (l' := #[.val (.int p0), .val (.int p1), .val (.long q2), .second, .val (.long q3), .second, .val (.long q4), .second, .val (.long q5), .second, .val (.int (2 : Int32)), .val (.ref b87), .val (.int v94), .val (.int v97), .val (.ref b98), .unset, .unset, .unset, .unset, .unset]) rfl k) ?_
      show Ends p e below s 16 128 (Q0 Z p0 p1 q2 q3 q4 q5  h0 n0) (T101.setTop (mkF m 97 #[.val (.int p0), .val (.int p1), .val (.long q2), .second, .val (.long q3), .second, .val (.long q4), .second, .val (.long q5), .second, .val (.int (2 : Int32)), .val (.ref b87), .val (.int v94), .val (.int v97), .val (.ref b98), .unset, .unset, .unset, .unset, .unset] []))
      refine Ends.via (fun _ k => XS.aload X101.here hx rfl (hb hby at_97) rfl rfl k) ?_
      show Ends p e below s 16 128 (Q0 Z p0 p1 q2 q3 q4 q5  h0 n0) (T101.setTop (mkF m 99 #[.val (.int p0), .val (.int p1), .val (.long q2), .second, .val (.long q3), .second, .val (.long q4), .second, .val (.long q5), .second, .val (.int (2 : Int32)), .val (.ref b87), .val (.int v94), .val (.int v97), .val (.ref b98), .unset, .unset, .unset, .unset, .unset] [(.ref b98)]))
      refine Ends.via (fun _ k => XS.iload X101.here hx rfl (hb hby at_99) rfl k) ?_
      show Ends p e below s 16 128 (Q0 Z p0 p1 q2 q3 q4 q5  h0 n0) (T101.setTop (mkF m 101 #[.val (.int p0), .val (.int p1), .val (.long q2), .second, .val (.long q3), .second, .val (.long q4), .second, .val (.long q5), .second, .val (.int (2 : Int32)), .val (.ref b87), .val (.int v94), .val (.int v97), .val (.ref b98), .unset, .unset, .unset, .unset, .unset] [(.int v94), (.ref b98)]))
      obtain ⟨cq102, kq102, qa102, qb102, qc102⟩ := isOf hZ rfl Eq101
      obtain ⟨_, _, ⟨T102, L102, k102, n102⟩, -, X102, ⟨Lc102, hQ102, l102, y102, z102⟩, st102⟩ := X101.virtualBack hx (y := (⟨"com/example/frugal_xpath/frugalxpath/ElementTree$Pieces", "position", "(I)J"⟩ : MethodName)) (z := (⟨"com/example/frugal_xpath/frugalxpath/ElementTree$Pieces", "position", "(I)J"⟩ : MethodName)) hown (mvT hZ (hw _ (List.mem_of_getElem? (i := 31) rfl))) (mvT hZ (hw _ (List.mem_of_getElem? (i := 32) rfl))) (notFace_of_selects (args := #[]) (mvT hZ (hw _ (List.mem_of_getElem? (i := 34) rfl)))) (mvT hZ (hw _ (List.mem_of_getElem? (i := 34) rfl))) (mvT hZ (hw _ (List.mem_of_getElem? (i := 33) rfl))) (by decide) (backOf (W := 0) (rm5 l Z _ hw [] b98 v94 k87 (2 : Int32) [(.long q2), (.long q3)] (.long (0 : Int64)) (if v94 = (1 : Int32) then q2 else (if v94 = (2 : Int32) then q3 else q4)) b87 q5 T101.heap n0 Z101 f101_0 (own_el2 q2 q3 q4 v94 (own_node p0 p1 v94 hv94)) Fq101_1 Fq101_2) hZ (hw _ (List.mem_of_getElem? (i := 35) rfl)) (hw _ (List.mem_of_getElem? (i := 8) rfl)) (by decide) (by decide)) qa102 qc102 (g := (mkF m 101 #[.val (.int p0), .val (.int p1), .val (.long q2), .second, .val (.long q3), .second, .val (.long q4), .second, .val (.long q5), .second, .val (.int (2 : Int32)), .val (.ref b87), .val (.int v94), .val (.int v97), .val (.ref b98), .unset, .unset, .unset, .unset, .unset] [(.int v94), (.ref b98)])) rfl (by rw [hml]; rfl) (Steps.refl _) (argsL := [(.int v94)]) (rest := []) (lenOf own_pd3 rfl) rfl (by show 2 * 0 + _ ≤ _; exact Nat.le_of_eq rfl) (hb hby at_101) (fun _ _ => ⟨rfl, rfl, (by decide : 4 + 0 ≤ _), (by decide : 7 + 0 ≤ _)⟩)
      dsimp only [Pt.U, Pt.locs, Pt.cells, Pt.slots] at X102 l102 y102 z102 st102 hQ102
      subst l102 y102 z102
      obtain ⟨rfl, Nq102, e102⟩ := hQ102
      have N102 := Fr.app N101 Nq102
      refine Ends.via (fun _ k => st102.trans k) ?_
      show Ends p e below s 16 128 (Q0 Z p0 p1 q2 q3 q4 q5  h0 n0) (T102.setTop (mkF m 104 #[.val (.int p0), .val (.int p1), .val (.long q2), .second, .val (.long q3), .second, .val (.long q4), .second, .val (.long q5), .second, .val (.int (2 : Int32)), .val (.ref b87), .val (.int v94), .val (.int v97), .val (.ref b98), .unset, .unset, .unset, .unset, .unset] [(.long (fn5 v94 (2 : Int32) (if v94 = (1 : Int32) then q2 else (if v94 = (2 : Int32) then q3 else q4)) q5))]))
      refine Ends.via (fun _ k => XS.lstore X102.here hx rfl (hb hby at_104) rfl (l' := #[.val (.int p0), .val (.int p1), .val (.long q2), .second, .val (.long q3), .second, .val (.long q4), .second, .val (.long q5), .second, .val (.int (2 : Int32)), .val (.ref b87), .val (.int v94), .val (.int v97), .val (.ref b98), .val (.long (fn5 v94 (2 : Int32) (if v94 = (1 : Int32) then q2 else (if v94 = (2 : Int32) then q3 else q4)) q5)), .second, .unset, .unset, .unset]) rfl k) ?_
      show Ends p e below s 16 128 (Q0 Z p0 p1 q2 q3 q4 q5  h0 n0) (T102.setTop (mkF m 106 #[.val (.int p0), .val (.int p1), .val (.long q2), .second, .val (.long q3), .second, .val (.long q4), .second, .val (.long q5), .second, .val (.int (2 : Int32)), .val (.ref b87), .val (.int v94), .val (.int v97), .val (.ref b98), .val (.long (fn5 v94 (2 : Int32) (if v94 = (1 : Int32) then q2 else (if v94 = (2 : Int32) then q3 else q4)) q5)), .second, .unset, .unset, .unset] []))
      generalize hv103 : (fn5 v94 (2 : Int32) (if v94 = (1 : Int32) then q2 else (if v94 = (2 : Int32) then q3 else q4)) q5) = v103
      refine Ends.via (fun _ k => XS.iload X102.here hx rfl (hb hby at_106) rfl k) ?_
      show Ends p e below s 16 128 (Q0 Z p0 p1 q2 q3 q4 q5  h0 n0) (T102.setTop (mkF m 108 #[.val (.int p0), .val (.int p1), .val (.long q2), .second, .val (.long q3), .second, .val (.long q4), .second, .val (.long q5), .second, .val (.int (2 : Int32)), .val (.ref b87), .val (.int v94), .val (.int v97), .val (.ref b98), .val (.long v103), .second, .unset, .unset, .unset] [(.int v94)]))
      have J110 : ∀ (Tj110 : State) (Lj110 : List Loc) (Xj110 : Stand p l e room_1 s m #[(.int p0), (.int p1), (.long q2), (.long q3), (.long q4), (.long q5)] below meth c Tj110 Lj110 4 7) (ej110 : Tj110.heap = T101.heap) (Nj110 : Fr n0 Lj110) (sl109 : Slot) (v108 : Int64), (if v94 = (0 : Int32) then (-1 : Int64) else (if (2 : Int32) < v94 then (q5 + (((v94 - (2 : Int32)) - (1 : Int32)).toInt64)) else (if v94 = (1 : Int32) then q2 else (if v94 = (2 : Int32) then q3 else q4)))) = v108 → Ends p e below s 16 128 (Q0 Z p0 p1 q2 q3 q4 q5  h0 n0) (Tj110.setTop (mkF m 175 #[.val (.int p0), .val (.int p1), .val (.long q2), .second, .val (.long q3), .second, .val (.long q4), .second, .val (.long q5), .second, .val (.int (2 : Int32)), .val (.ref b87), .val (.int v94), .val (.int v97), .val (.ref b98), .val (.long v103), .second, .val (.long v108), .second, sl109] [])) := by
        intro Tj110 Lj110 Xj110 ej110 Nj110 sl109 v108 hv108
        refine Ends.via (fun _ k => XS.lload Xj110.here hx rfl (hb hby at_175) rfl k) ?_
        show Ends p e below s 16 128 (Q0 Z p0 p1 q2 q3 q4 q5  h0 n0) (Tj110.setTop (mkF m 177 #[.val (.int p0), .val (.int p1), .val (.long q2), .second, .val (.long q3), .second, .val (.long q4), .second, .val (.long q5), .second, .val (.int (2 : Int32)), .val (.ref b87), .val (.int v94), .val (.int v97), .val (.ref b98), .val (.long v103), .second, .val (.long v108), .second, sl109] [(.long v103)]))
        refine Ends.via (fun _ k => XS.lload Xj110.here hx rfl (hb hby at_177) rfl k) ?_
        show Ends p e below s 16 128 (Q0 Z p0 p1 q2 q3 q4 q5  h0 n0) (Tj110.setTop (mkF m 179 #[.val (.int p0), .val (.int p1), .val (.long q2), .second, .val (.long q3), .second, .val (.long q4), .second, .val (.long q5), .second, .val (.int (2 : Int32)), .val (.ref b87), .val (.int v94), .val (.int v97), .val (.ref b98), .val (.long v103), .second, .val (.long v108), .second, sl109] [(.long v108), (.long v103)]))
        refine Ends.via (fun _ k => XS.lcmp Xj110.here hx rfl (hb hby at_179) rfl k) ?_
        show Ends p e below s 16 128 (Q0 Z p0 p1 q2 q3 q4 q5  h0 n0) (Tj110.setTop (mkF m 180 #[.val (.int p0), .val (.int p1), .val (.long q2), .second, .val (.long q3), .second, .val (.long q4), .second, .val (.long q5), .second, .val (.int (2 : Int32)), .val (.ref b87), .val (.int v94), .val (.int v97), .val (.ref b98), .val (.long v103), .second, .val (.long v108), .second, sl109] [(.int (lcmpW v103 v108))]))
        by_cases hc111 : v103 = v108
        · refine Ends.via (fun _ k => XS.ifNo Xj110.here hx rfl (hb hby at_180) rfl ((if0 _ _).trans (teq ((lw_eq _ _).mpr hc111)).2) k) ?_
          show Ends p e below s 16 128 (Q0 Z p0 p1 q2 q3 q4 q5  h0 n0) (Tj110.setTop (mkF m 183 #[.val (.int p0), .val (.int p1), .val (.long q2), .second, .val (.long q3), .second, .val (.long q4), .second, .val (.long q5), .second, .val (.int (2 : Int32)), .val (.ref b87), .val (.int v94), .val (.int v97), .val (.ref b98), .val (.long v103), .second, .val (.long v108), .second, sl109] []))
          refine Ends.via (fun _ k => XS.iconst Xj110.here hx rfl (hb hby at_183) k) ?_
          show Ends p e below s 16 128 (Q0 Z p0 p1 q2 q3 q4 q5  h0 n0) (Tj110.setTop (mkF m 184 #[.val (.int p0), .val (.int p1), .val (.long q2), .second, .val (.long q3), .second, .val (.long q4), .second, .val (.long q5), .second, .val (.int (2 : Int32)), .val (.ref b87), .val (.int v94), .val (.int v97), .val (.ref b98), .val (.long v103), .second, .val (.long v108), .second, sl109] [(.int (1 : Int32))]))
          refine Ends.via (fun _ k => XS.goto Xj110.here hx rfl (pc0 := 184) (pc' := 188) rfl (hb hby at_184) (by decide) (by decide) k) ?_
          show Ends p e below s 16 128 (Q0 Z p0 p1 q2 q3 q4 q5  h0 n0) (Tj110.setTop (mkF m 188 #[.val (.int p0), .val (.int p1), .val (.long q2), .second, .val (.long q3), .second, .val (.long q4), .second, .val (.long q5), .second, .val (.int (2 : Int32)), .val (.ref b87), .val (.int v94), .val (.int v97), .val (.ref b98), .val (.long v103), .second, .val (.long v108), .second, sl109] [(.int (1 : Int32))]))
          refine Ends.ret Xj110 (v := some (.int (nar .boolean (1 : Int32)))) (fun h => by rw [Bd.returns] at h; cases h) Bd.notSynchronized (fun fs hr => retN Xj110 hx (t := .boolean) Bd.returns (by simp) (hb hby at_188) hr) ?_ (by decide) (by decide)
          exact ⟨rfl, Nj110⟩
        · refine Ends.via (fun _ k => XS.ifYes Xj110.here hx rfl (pc0 := 180) (pc' := 187) rfl (hb hby at_180) rfl ((if0 _ _).trans (feq (mt (lw_eq _ _).mp hc111)).2) (by decide) (by decide) k) ?_
          show Ends p e below s 16 128 (Q0 Z p0 p1 q2 q3 q4 q5  h0 n0) (Tj110.setTop (mkF m 187 #[.val (.int p0), .val (.int p1), .val (.long q2), .second, .val (.long q3), .second, .val (.long q4), .second, .val (.long q5), .second, .val (.int (2 : Int32)), .val (.ref b87), .val (.int v94), .val (.int v97), .val (.ref b98), .val (.long v103), .second, .val (.long v108), .second, sl109] []))
          refine Ends.via (fun _ k => XS.iconst Xj110.here hx rfl (hb hby at_187) k) ?_
          show Ends p e below s 16 128 (Q0 Z p0 p1 q2 q3 q4 q5  h0 n0) (Tj110.setTop (mkF m 188 #[.val (.int p0), .val (.int p1), .val (.long q2), .second, .val (.long q3), .second, .val (.long q4), .second, .val (.long q5), .second, .val (.int (2 : Int32)), .val (.ref b87), .val (.int v94), .val (.int v97), .val (.ref b98), .val (.long v103), .second, .val (.long v108), .second, sl109] [(.int (0 : Int32))]))
          refine Ends.ret Xj110 (v := some (.int (nar .boolean (0 : Int32)))) (fun h => by rw [Bd.returns] at h; cases h) Bd.notSynchronized (fun fs hr => retN Xj110 hx (t := .boolean) Bd.returns (by simp) (hb hby at_188) hr) ?_ (by decide) (by decide)
          exact absurd (own_leaf3 p0 p1 q2 q3 q4 q5 v94 v97 v103 v108 hv1 hv94 hv97 hv103 hv108 hc111) id
      by_cases hc112 : v94 = (0 : Int32)
      · refine Ends.via (fun _ k => XS.ifNo X102.here hx rfl (hb hby at_108) rfl ((if0 _ _).trans (teq hc112).2) k) ?_
        show Ends p e below s 16 128 (Q0 Z p0 p1 q2 q3 q4 q5  h0 n0) (T102.setTop (mkF m 111 #[.val (.int p0), .val (.int p1), .val (.long q2), .second, .val (.long q3), .second, .val (.long q4), .second, .val (.long q5), .second, .val (.int (2 : Int32)), .val (.ref b87), .val (.int v94), .val (.int v97), .val (.ref b98), .val (.long v103), .second, .unset, .unset, .unset] []))
        refine Ends.via (X102.ldc2Long hx hown (mvT hZ (hw _ (List.mem_of_getElem? (i := 37) rfl))) (g := (mkF m 111 #[.val (.int p0), .val (.int p1), .val (.long q2), .second, .val (.long q3), .second, .val (.long q4), .second, .val (.long q5), .second, .val (.int (2 : Int32)), .val (.ref b87), .val (.int v94), .val (.int v97), .val (.ref b98), .val (.long v103), .second, .unset, .unset, .unset] [])) rfl (hb hby at_111)) ?_
        show Ends p e below s 16 128 (Q0 Z p0 p1 q2 q3 q4 q5  h0 n0) (T102.setTop (mkF m 114 #[.val (.int p0), .val (.int p1), .val (.long q2), .second, .val (.long q3), .second, .val (.long q4), .second, .val (.long q5), .second, .val (.int (2 : Int32)), .val (.ref b87), .val (.int v94), .val (.int v97), .val (.ref b98), .val (.long v103), .second, .unset, .unset, .unset] [(.long (-1 : Int64))]))
        refine Ends.via (fun _ k => XS.lstore X102.here hx rfl (hb hby at_114) rfl (l' := #[.val (.int p0), .val (.int p1), .val (.long q2), .second, .val (.long q3), .second, .val (.long q4), .second, .val (.long q5), .second, .val (.int (2 : Int32)), .val (.ref b87), .val (.int v94), .val (.int v97), .val (.ref b98), .val (.long v103), .second, .val (.long (-1 : Int64)), .second, .unset]) rfl k) ?_
        show Ends p e below s 16 128 (Q0 Z p0 p1 q2 q3 q4 q5  h0 n0) (T102.setTop (mkF m 116 #[.val (.int p0), .val (.int p1), .val (.long q2), .second, .val (.long q3), .second, .val (.long q4), .second, .val (.long q5), .second, .val (.int (2 : Int32)), .val (.ref b87), .val (.int v94), .val (.int v97), .val (.ref b98), .val (.long v103), .second, .val (.long (-1 : Int64)), .second, .unset] []))
        refine Ends.via (fun _ k => XS.goto X102.here hx rfl (pc0 := 116) (pc' := 175) rfl (hb hby at_116) (by decide) (by decide) k) ?_
        show Ends p e below s 16 128 (Q0 Z p0 p1 q2 q3 q4 q5  h0 n0) (T102.setTop (mkF m 175 #[.val (.int p0), .val (.int p1), .val (.long q2), .second, .val (.long q3), .second, .val (.long q4), .second, .val (.long q5), .second, .val (.int (2 : Int32)), .val (.ref b87), .val (.int v94), .val (.int v97), .val (.ref b98), .val (.long v103), .second, .val (.long (-1 : Int64)), .second, .unset] []))
        exact J110 T102 _ X102 e102 N102 (.unset) (-1 : Int64) (by first | (simp only [if_pos hc112]; done) | rfl)
      · refine Ends.via (fun _ k => XS.ifYes X102.here hx rfl (pc0 := 108) (pc' := 119) rfl (hb hby at_108) rfl ((if0 _ _).trans (feq hc112).2) (by decide) (by decide) k) ?_
        show Ends p e below s 16 128 (Q0 Z p0 p1 q2 q3 q4 q5  h0 n0) (T102.setTop (mkF m 119 #[.val (.int p0), .val (.int p1), .val (.long q2), .second, .val (.long q3), .second, .val (.long q4), .second, .val (.long q5), .second, .val (.int (2 : Int32)), .val (.ref b87), .val (.int v94), .val (.int v97), .val (.ref b98), .val (.long v103), .second, .unset, .unset, .unset] []))
        refine Ends.via (fun _ k => XS.iload X102.here hx rfl (hb hby at_119) rfl k) ?_
        show Ends p e below s 16 128 (Q0 Z p0 p1 q2 q3 q4 q5  h0 n0) (T102.setTop (mkF m 121 #[.val (.int p0), .val (.int p1), .val (.long q2), .second, .val (.long q3), .second, .val (.long q4), .second, .val (.long q5), .second, .val (.int (2 : Int32)), .val (.ref b87), .val (.int v94), .val (.int v97), .val (.ref b98), .val (.long v103), .second, .unset, .unset, .unset] [(.int v94)]))
        refine Ends.via (fun _ k => XS.iload X102.here hx rfl (hb hby at_121) rfl k) ?_
        show Ends p e below s 16 128 (Q0 Z p0 p1 q2 q3 q4 q5  h0 n0) (T102.setTop (mkF m 123 #[.val (.int p0), .val (.int p1), .val (.long q2), .second, .val (.long q3), .second, .val (.long q4), .second, .val (.long q5), .second, .val (.int (2 : Int32)), .val (.ref b87), .val (.int v94), .val (.int v97), .val (.ref b98), .val (.long v103), .second, .unset, .unset, .unset] [(.int (2 : Int32)), (.int v94)]))
        by_cases hc113 : (2 : Int32) < v94
        · refine Ends.via (fun _ k => XS.icmpYes X102.here hx rfl (pc0 := 123) (pc' := 158) rfl (hb hby at_123) rfl (tlt hc113).2.2.1 (by decide) (by decide) k) ?_
          show Ends p e below s 16 128 (Q0 Z p0 p1 q2 q3 q4 q5  h0 n0) (T102.setTop (mkF m 158 #[.val (.int p0), .val (.int p1), .val (.long q2), .second, .val (.long q3), .second, .val (.long q4), .second, .val (.long q5), .second, .val (.int (2 : Int32)), .val (.ref b87), .val (.int v94), .val (.int v97), .val (.ref b98), .val (.long v103), .second, .unset, .unset, .unset] []))
          refine Ends.via (fun _ k => XS.iload X102.here hx rfl (hb hby at_158) rfl k) ?_
          show Ends p e below s 16 128 (Q0 Z p0 p1 q2 q3 q4 q5  h0 n0) (T102.setTop (mkF m 160 #[.val (.int p0), .val (.int p1), .val (.long q2), .second, .val (.long q3), .second, .val (.long q4), .second, .val (.long q5), .second, .val (.int (2 : Int32)), .val (.ref b87), .val (.int v94), .val (.int v97), .val (.ref b98), .val (.long v103), .second, .unset, .unset, .unset] [(.int v94)]))
          refine Ends.via (fun _ k => XS.iload X102.here hx rfl (hb hby at_160) rfl k) ?_
          show Ends p e below s 16 128 (Q0 Z p0 p1 q2 q3 q4 q5  h0 n0) (T102.setTop (mkF m 162 #[.val (.int p0), .val (.int p1), .val (.long q2), .second, .val (.long q3), .second, .val (.long q4), .second, .val (.long q5), .second, .val (.int (2 : Int32)), .val (.ref b87), .val (.int v94), .val (.int v97), .val (.ref b98), .val (.long v103), .second, .unset, .unset, .unset] [(.int (2 : Int32)), (.int v94)]))
          refine Ends.via (fun _ k => XS.isub X102.here hx rfl (hb hby at_162) rfl k) ?_
          show Ends p e below s 16 128 (Q0 Z p0 p1 q2 q3 q4 q5  h0 n0) (T102.setTop (mkF m 163 #[.val (.int p0), .val (.int p1), .val (.long q2), .second, .val (.long q3), .second, .val (.long q4), .second, .val (.long q5), .second, .val (.int (2 : Int32)), .val (.ref b87), .val (.int v94), .val (.int v97), .val (.ref b98), .val (.long v103), .second, .unset, .unset, .unset] [(.int (v94 - (2 : Int32)))]))
          refine Ends.via (fun _ k => XS.istore X102.here hx rfl (hb hby at_163) rfl (l' := #[.val (.int p0), .val (.int p1), .val (.long q2), .second, .val (.long q3), .second, .val (.long q4), .second, .val (.long q5), .second, .val (.int (2 : Int32)), .val (.ref b87), .val (.int v94), .val (.int v97), .val (.ref b98), .val (.long v103), .second, .unset, .unset, .val (.int (v94 - (2 : Int32)))]) rfl k) ?_
          show Ends p e below s 16 128 (Q0 Z p0 p1 q2 q3 q4 q5  h0 n0) (T102.setTop (mkF m 165 #[.val (.int p0), .val (.int p1), .val (.long q2), .second, .val (.long q3), .second, .val (.long q4), .second, .val (.long q5), .second, .val (.int (2 : Int32)), .val (.ref b87), .val (.int v94), .val (.int v97), .val (.ref b98), .val (.long v103), .second, .unset, .unset, .val (.int (v94 - (2 : Int32)))] []))
          refine Ends.via (fun _ k => XS.lload X102.here hx rfl (hb hby at_165) rfl k) ?_
          show Ends p e below s 16 128 (Q0 Z p0 p1 q2 q3 q4 q5  h0 n0) (T102.setTop (mkF m 167 #[.val (.int p0), .val (.int p1), .val (.long q2), .second, .val (.long q3), .second, .val (.long q4), .second, .val (.long q5), .second, .val (.int (2 : Int32)), .val (.ref b87), .val (.int v94), .val (.int v97), .val (.ref b98), .val (.long v103), .second, .unset, .unset, .val (.int (v94 - (2 : Int32)))] [(.long q5)]))
          refine Ends.via (fun _ k => XS.iload X102.here hx rfl (hb hby at_167) rfl k) ?_
          show Ends p e below s 16 128 (Q0 Z p0 p1 q2 q3 q4 q5  h0 n0) (T102.setTop (mkF m 169 #[.val (.int p0), .val (.int p1), .val (.long q2), .second, .val (.long q3), .second, .val (.long q4), .second, .val (.long q5), .second, .val (.int (2 : Int32)), .val (.ref b87), .val (.int v94), .val (.int v97), .val (.ref b98), .val (.long v103), .second, .unset, .unset, .val (.int (v94 - (2 : Int32)))] [(.int (v94 - (2 : Int32))), (.long q5)]))
          refine Ends.via (fun _ k => XS.iconst X102.here hx rfl (hb hby at_169) k) ?_
          show Ends p e below s 16 128 (Q0 Z p0 p1 q2 q3 q4 q5  h0 n0) (T102.setTop (mkF m 170 #[.val (.int p0), .val (.int p1), .val (.long q2), .second, .val (.long q3), .second, .val (.long q4), .second, .val (.long q5), .second, .val (.int (2 : Int32)), .val (.ref b87), .val (.int v94), .val (.int v97), .val (.ref b98), .val (.long v103), .second, .unset, .unset, .val (.int (v94 - (2 : Int32)))] [(.int (1 : Int32)), (.int (v94 - (2 : Int32))), (.long q5)]))
          refine Ends.via (fun _ k => XS.isub X102.here hx rfl (hb hby at_170) rfl k) ?_
          show Ends p e below s 16 128 (Q0 Z p0 p1 q2 q3 q4 q5  h0 n0) (T102.setTop (mkF m 171 #[.val (.int p0), .val (.int p1), .val (.long q2), .second, .val (.long q3), .second, .val (.long q4), .second, .val (.long q5), .second, .val (.int (2 : Int32)), .val (.ref b87), .val (.int v94), .val (.int v97), .val (.ref b98), .val (.long v103), .second, .unset, .unset, .val (.int (v94 - (2 : Int32)))] [(.int ((v94 - (2 : Int32)) - (1 : Int32))), (.long q5)]))
          refine Ends.via (fun _ k => XS.i2l X102.here hx rfl (hb hby at_171) rfl k) ?_
          show Ends p e below s 16 128 (Q0 Z p0 p1 q2 q3 q4 q5  h0 n0) (T102.setTop (mkF m 172 #[.val (.int p0), .val (.int p1), .val (.long q2), .second, .val (.long q3), .second, .val (.long q4), .second, .val (.long q5), .second, .val (.int (2 : Int32)), .val (.ref b87), .val (.int v94), .val (.int v97), .val (.ref b98), .val (.long v103), .second, .unset, .unset, .val (.int (v94 - (2 : Int32)))] [(.long (((v94 - (2 : Int32)) - (1 : Int32)).toInt64)), (.long q5)]))
          refine Ends.via (fun _ k => XS.ladd X102.here hx rfl (hb hby at_172) rfl k) ?_
          show Ends p e below s 16 128 (Q0 Z p0 p1 q2 q3 q4 q5  h0 n0) (T102.setTop (mkF m 173 #[.val (.int p0), .val (.int p1), .val (.long q2), .second, .val (.long q3), .second, .val (.long q4), .second, .val (.long q5), .second, .val (.int (2 : Int32)), .val (.ref b87), .val (.int v94), .val (.int v97), .val (.ref b98), .val (.long v103), .second, .unset, .unset, .val (.int (v94 - (2 : Int32)))] [(.long (q5 + (((v94 - (2 : Int32)) - (1 : Int32)).toInt64)))]))
          refine Ends.via (fun _ k => XS.lstore X102.here hx rfl (hb hby at_173) rfl (l' := #[.val (.int p0), .val (.int p1), .val (.long q2), .second, .val (.long q3), .second, .val (.long q4), .second, .val (.long q5), .second, .val (.int (2 : Int32)), .val (.ref b87), .val (.int v94), .val (.int v97), .val (.ref b98), .val (.long v103), .second, .val (.long (q5 + (((v94 - (2 : Int32)) - (1 : Int32)).toInt64))), .second, .val (.int (v94 - (2 : Int32)))]) rfl k) ?_
          show Ends p e below s 16 128 (Q0 Z p0 p1 q2 q3 q4 q5  h0 n0) (T102.setTop (mkF m 175 #[.val (.int p0), .val (.int p1), .val (.long q2), .second, .val (.long q3), .second, .val (.long q4), .second, .val (.long q5), .second, .val (.int (2 : Int32)), .val (.ref b87), .val (.int v94), .val (.int v97), .val (.ref b98), .val (.long v103), .second, .val (.long (q5 + (((v94 - (2 : Int32)) - (1 : Int32)).toInt64))), .second, .val (.int (v94 - (2 : Int32)))] []))
          exact J110 T102 _ X102 e102 N102 (.val (.int (v94 - (2 : Int32)))) (q5 + (((v94 - (2 : Int32)) - (1 : Int32)).toInt64)) (by first | (simp only [if_neg hc112, if_pos hc113]; done) | rfl)
        · refine Ends.via (fun _ k => XS.icmpNo X102.here hx rfl (hb hby at_123) rfl (flt hc113).2.2.1 k) ?_
          show Ends p e below s 16 128 (Q0 Z p0 p1 q2 q3 q4 q5  h0 n0) (T102.setTop (mkF m 126 #[.val (.int p0), .val (.int p1), .val (.long q2), .second, .val (.long q3), .second, .val (.long q4), .second, .val (.long q5), .second, .val (.int (2 : Int32)), .val (.ref b87), .val (.int v94), .val (.int v97), .val (.ref b98), .val (.long v103), .second, .unset, .unset, .unset] []))
          refine Ends.via (fun _ k => XS.iload X102.here hx rfl (hb hby at_126) rfl k) ?_
          show Ends p e below s 16 128 (Q0 Z p0 p1 q2 q3 q4 q5  h0 n0) (T102.setTop (mkF m 128 #[.val (.int p0), .val (.int p1), .val (.long q2), .second, .val (.long q3), .second, .val (.long q4), .second, .val (.long q5), .second, .val (.int (2 : Int32)), .val (.ref b87), .val (.int v94), .val (.int v97), .val (.ref b98), .val (.long v103), .second, .unset, .unset, .unset] [(.int v94)]))
          refine Ends.via (fun _ k => XS.iconst X102.here hx rfl (hb hby at_128) k) ?_
          show Ends p e below s 16 128 (Q0 Z p0 p1 q2 q3 q4 q5  h0 n0) (T102.setTop (mkF m 129 #[.val (.int p0), .val (.int p1), .val (.long q2), .second, .val (.long q3), .second, .val (.long q4), .second, .val (.long q5), .second, .val (.int (2 : Int32)), .val (.ref b87), .val (.int v94), .val (.int v97), .val (.ref b98), .val (.long v103), .second, .unset, .unset, .unset] [(.int (1 : Int32)), (.int v94)]))
          by_cases hc114 : v94 = (1 : Int32)
          · refine Ends.via (fun _ k => XS.icmpNo X102.here hx rfl (hb hby at_129) rfl (teq hc114).2 k) ?_
            show Ends p e below s 16 128 (Q0 Z p0 p1 q2 q3 q4 q5  h0 n0) (T102.setTop (mkF m 132 #[.val (.int p0), .val (.int p1), .val (.long q2), .second, .val (.long q3), .second, .val (.long q4), .second, .val (.long q5), .second, .val (.int (2 : Int32)), .val (.ref b87), .val (.int v94), .val (.int v97), .val (.ref b98), .val (.long v103), .second, .unset, .unset, .unset] []))
            refine Ends.via (fun _ k => XS.lloadN X102.here hx rfl (hb hby at_132) rfl k) ?_
            show Ends p e below s 16 128 (Q0 Z p0 p1 q2 q3 q4 q5  h0 n0) (T102.setTop (mkF m 133 #[.val (.int p0), .val (.int p1), .val (.long q2), .second, .val (.long q3), .second, .val (.long q4), .second, .val (.long q5), .second, .val (.int (2 : Int32)), .val (.ref b87), .val (.int v94), .val (.int v97), .val (.ref b98), .val (.long v103), .second, .unset, .unset, .unset] [(.long q2)]))
            refine Ends.via (fun _ k => XS.lstore X102.here hx rfl (hb hby at_133) rfl (l' := #[.val (.int p0), .val (.int p1), .val (.long q2), .second, .val (.long q3), .second, .val (.long q4), .second, .val (.long q5), .second, .val (.int (2 : Int32)), .val (.ref b87), .val (.int v94), .val (.int v97), .val (.ref b98), .val (.long v103), .second, .val (.long q2), .second, .unset]) rfl k) ?_
            show Ends p e below s 16 128 (Q0 Z p0 p1 q2 q3 q4 q5  h0 n0) (T102.setTop (mkF m 135 #[.val (.int p0), .val (.int p1), .val (.long q2), .second, .val (.long q3), .second, .val (.long q4), .second, .val (.long q5), .second, .val (.int (2 : Int32)), .val (.ref b87), .val (.int v94), .val (.int v97), .val (.ref b98), .val (.long v103), .second, .val (.long q2), .second, .unset] []))
            refine Ends.via (fun _ k => XS.goto X102.here hx rfl (pc0 := 135) (pc' := 175) rfl (hb hby at_135) (by decide) (by decide) k) ?_
            show Ends p e below s 16 128 (Q0 Z p0 p1 q2 q3 q4 q5  h0 n0) (T102.setTop (mkF m 175 #[.val (.int p0), .val (.int p1), .val (.long q2), .second, .val (.long q3), .second, .val (.long q4), .second, .val (.long q5), .second, .val (.int (2 : Int32)), .val (.ref b87), .val (.int v94), .val (.int v97), .val (.ref b98), .val (.long v103), .second, .val (.long q2), .second, .unset] []))
            exact J110 T102 _ X102 e102 N102 (.unset) q2 (by first | (simp only [if_neg hc112, if_neg hc113, if_pos hc114]; done) | rfl)
          · refine Ends.via (fun _ k => XS.icmpYes X102.here hx rfl (pc0 := 129) (pc' := 138) rfl (hb hby at_129) rfl (feq hc114).2 (by decide) (by decide) k) ?_
            show Ends p e below s 16 128 (Q0 Z p0 p1 q2 q3 q4 q5  h0 n0) (T102.setTop (mkF m 138 #[.val (.int p0), .val (.int p1), .val (.long q2), .second, .val (.long q3), .second, .val (.long q4), .second, .val (.long q5), .second, .val (.int (2 : Int32)), .val (.ref b87), .val (.int v94), .val (.int v97), .val (.ref b98), .val (.long v103), .second, .unset, .unset, .unset] []))
            refine Ends.via (fun _ k => XS.iload X102.here hx rfl (hb hby at_138) rfl k) ?_
            show Ends p e below s 16 128 (Q0 Z p0 p1 q2 q3 q4 q5  h0 n0) (T102.setTop (mkF m 140 #[.val (.int p0), .val (.int p1), .val (.long q2), .second, .val (.long q3), .second, .val (.long q4), .second, .val (.long q5), .second, .val (.int (2 : Int32)), .val (.ref b87), .val (.int v94), .val (.int v97), .val (.ref b98), .val (.long v103), .second, .unset, .unset, .unset] [(.int v94)]))
            refine Ends.via (fun _ k => XS.iconst X102.here hx rfl (hb hby at_140) k) ?_
            show Ends p e below s 16 128 (Q0 Z p0 p1 q2 q3 q4 q5  h0 n0) (T102.setTop (mkF m 141 #[.val (.int p0), .val (.int p1), .val (.long q2), .second, .val (.long q3), .second, .val (.long q4), .second, .val (.long q5), .second, .val (.int (2 : Int32)), .val (.ref b87), .val (.int v94), .val (.int v97), .val (.ref b98), .val (.long v103), .second, .unset, .unset, .unset] [(.int (2 : Int32)), (.int v94)]))
            by_cases hc115 : v94 = (2 : Int32)
            · refine Ends.via (fun _ k => XS.icmpNo X102.here hx rfl (hb hby at_141) rfl (teq hc115).2 k) ?_
              show Ends p e below s 16 128 (Q0 Z p0 p1 q2 q3 q4 q5  h0 n0) (T102.setTop (mkF m 144 #[.val (.int p0), .val (.int p1), .val (.long q2), .second, .val (.long q3), .second, .val (.long q4), .second, .val (.long q5), .second, .val (.int (2 : Int32)), .val (.ref b87), .val (.int v94), .val (.int v97), .val (.ref b98), .val (.long v103), .second, .unset, .unset, .unset] []))
              refine Ends.via (fun _ k => XS.lload X102.here hx rfl (hb hby at_144) rfl k) ?_
              show Ends p e below s 16 128 (Q0 Z p0 p1 q2 q3 q4 q5  h0 n0) (T102.setTop (mkF m 146 #[.val (.int p0), .val (.int p1), .val (.long q2), .second, .val (.long q3), .second, .val (.long q4), .second, .val (.long q5), .second, .val (.int (2 : Int32)), .val (.ref b87), .val (.int v94), .val (.int v97), .val (.ref b98), .val (.long v103), .second, .unset, .unset, .unset] [(.long q3)]))
              refine Ends.via (fun _ k => XS.lstore X102.here hx rfl (hb hby at_146) rfl (l' := #[.val (.int p0), .val (.int p1), .val (.long q2), .second, .val (.long q3), .second, .val (.long q4), .second, .val (.long q5), .second, .val (.int (2 : Int32)), .val (.ref b87), .val (.int v94), .val (.int v97), .val (.ref b98), .val (.long v103), .second, .val (.long q3), .second, .unset]) rfl k) ?_
              show Ends p e below s 16 128 (Q0 Z p0 p1 q2 q3 q4 q5  h0 n0) (T102.setTop (mkF m 148 #[.val (.int p0), .val (.int p1), .val (.long q2), .second, .val (.long q3), .second, .val (.long q4), .second, .val (.long q5), .second, .val (.int (2 : Int32)), .val (.ref b87), .val (.int v94), .val (.int v97), .val (.ref b98), .val (.long v103), .second, .val (.long q3), .second, .unset] []))
              refine Ends.via (fun _ k => XS.goto X102.here hx rfl (pc0 := 148) (pc' := 175) rfl (hb hby at_148) (by decide) (by decide) k) ?_
              show Ends p e below s 16 128 (Q0 Z p0 p1 q2 q3 q4 q5  h0 n0) (T102.setTop (mkF m 175 #[.val (.int p0), .val (.int p1), .val (.long q2), .second, .val (.long q3), .second, .val (.long q4), .second, .val (.long q5), .second, .val (.int (2 : Int32)), .val (.ref b87), .val (.int v94), .val (.int v97), .val (.ref b98), .val (.long v103), .second, .val (.long q3), .second, .unset] []))
              exact J110 T102 _ X102 e102 N102 (.unset) q3 (by first | (simp only [if_neg hc112, if_neg hc113, if_neg hc114, if_pos hc115]; done) | rfl)
            · refine Ends.via (fun _ k => XS.icmpYes X102.here hx rfl (pc0 := 141) (pc' := 151) rfl (hb hby at_141) rfl (feq hc115).2 (by decide) (by decide) k) ?_
              show Ends p e below s 16 128 (Q0 Z p0 p1 q2 q3 q4 q5  h0 n0) (T102.setTop (mkF m 151 #[.val (.int p0), .val (.int p1), .val (.long q2), .second, .val (.long q3), .second, .val (.long q4), .second, .val (.long q5), .second, .val (.int (2 : Int32)), .val (.ref b87), .val (.int v94), .val (.int v97), .val (.ref b98), .val (.long v103), .second, .unset, .unset, .unset] []))
              refine Ends.via (fun _ k => XS.lload X102.here hx rfl (hb hby at_151) rfl k) ?_
              show Ends p e below s 16 128 (Q0 Z p0 p1 q2 q3 q4 q5  h0 n0) (T102.setTop (mkF m 153 #[.val (.int p0), .val (.int p1), .val (.long q2), .second, .val (.long q3), .second, .val (.long q4), .second, .val (.long q5), .second, .val (.int (2 : Int32)), .val (.ref b87), .val (.int v94), .val (.int v97), .val (.ref b98), .val (.long v103), .second, .unset, .unset, .unset] [(.long q4)]))
              refine Ends.via (fun _ k => XS.lstore X102.here hx rfl (hb hby at_153) rfl (l' := #[.val (.int p0), .val (.int p1), .val (.long q2), .second, .val (.long q3), .second, .val (.long q4), .second, .val (.long q5), .second, .val (.int (2 : Int32)), .val (.ref b87), .val (.int v94), .val (.int v97), .val (.ref b98), .val (.long v103), .second, .val (.long q4), .second, .unset]) rfl k) ?_
              show Ends p e below s 16 128 (Q0 Z p0 p1 q2 q3 q4 q5  h0 n0) (T102.setTop (mkF m 155 #[.val (.int p0), .val (.int p1), .val (.long q2), .second, .val (.long q3), .second, .val (.long q4), .second, .val (.long q5), .second, .val (.int (2 : Int32)), .val (.ref b87), .val (.int v94), .val (.int v97), .val (.ref b98), .val (.long v103), .second, .val (.long q4), .second, .unset] []))
              refine Ends.via (fun _ k => XS.goto X102.here hx rfl (pc0 := 155) (pc' := 175) rfl (hb hby at_155) (by decide) (by decide) k) ?_
              show Ends p e below s 16 128 (Q0 Z p0 p1 q2 q3 q4 q5  h0 n0) (T102.setTop (mkF m 175 #[.val (.int p0), .val (.int p1), .val (.long q2), .second, .val (.long q3), .second, .val (.long q4), .second, .val (.long q5), .second, .val (.int (2 : Int32)), .val (.ref b87), .val (.int v94), .val (.int v97), .val (.ref b98), .val (.long v103), .second, .val (.long q4), .second, .unset] []))
              exact J110 T102 _ X102 e102 N102 (.unset) q4 (by first | (simp only [if_neg hc112, if_neg hc113, if_neg hc114, if_neg hc115]; done) | rfl)
    by_cases hc116 : (p0 &&& (1 : Int32)) = (0 : Int32)
    · refine Ends.via (fun _ k => XS.ifYes X91.here hx rfl (pc0 := 50) (pc' := 59) rfl (hb hby at_50) rfl ((if0 _ _).trans (teq hc116).1) (by decide) (by decide) k) ?_
      show Ends p e below s 16 128 (Q0 Z p0 p1 q2 q3 q4 q5  h0 n0) (T91.setTop (mkF m 59 #[.val (.int p0), .val (.int p1), .val (.long q2), .second, .val (.long q3), .second, .val (.long q4), .second, .val (.long q5), .second, .val (.int (2 : Int32)), .val (.ref b87), .unset, .unset, .unset, .unset, .unset, .unset, .unset, .unset] []))
      refine Ends.via (fun _ k => XS.iloadN X91.here hx rfl (hb hby at_59) rfl k) ?_
      show Ends p e below s 16 128 (Q0 Z p0 p1 q2 q3 q4 q5  h0 n0) (T91.setTop (mkF m 60 #[.val (.int p0), .val (.int p1), .val (.long q2), .second, .val (.long q3), .second, .val (.long q4), .second, .val (.long q5), .second, .val (.int (2 : Int32)), .val (.ref b87), .unset, .unset, .unset, .unset, .unset, .unset, .unset, .unset] [(.int p1)]))
      refine Ends.via (X91.ldcInt hx hown (mvT hZ (hw _ (List.mem_of_getElem? (i := 1) rfl))) (g := (mkF m 60 #[.val (.int p0), .val (.int p1), .val (.long q2), .second, .val (.long q3), .second, .val (.long q4), .second, .val (.long q5), .second, .val (.int (2 : Int32)), .val (.ref b87), .unset, .unset, .unset, .unset, .unset, .unset, .unset, .unset] [(.int p1)])) rfl (hb hby at_60)) ?_
      show Ends p e below s 16 128 (Q0 Z p0 p1 q2 q3 q4 q5  h0 n0) (T91.setTop (mkF m 62 #[.val (.int p0), .val (.int p1), .val (.long q2), .second, .val (.long q3), .second, .val (.long q4), .second, .val (.long q5), .second, .val (.int (2 : Int32)), .val (.ref b87), .unset, .unset, .unset, .unset, .unset, .unset, .unset, .unset] [(.int (1073741823 : Int32)), (.int p1)]))
      refine Ends.via (fun _ k => XS.iand X91.here hx rfl (hb hby at_62) rfl k) ?_
      show Ends p e below s 16 128 (Q0 Z p0 p1 q2 q3 q4 q5  h0 n0) (T91.setTop (mkF m 63 #[.val (.int p0), .val (.int p1), .val (.long q2), .second, .val (.long q3), .second, .val (.long q4), .second, .val (.long q5), .second, .val (.int (2 : Int32)), .val (.ref b87), .unset, .unset, .unset, .unset, .unset, .unset, .unset, .unset] [(.int (p1 &&& (1073741823 : Int32)))]))
      exact J95 T91 _ X91 e91 N91 (p1 &&& (1073741823 : Int32)) (by first | (simp only [if_pos hc116]; done) | rfl)
    · refine Ends.via (fun _ k => XS.ifNo X91.here hx rfl (hb hby at_50) rfl ((if0 _ _).trans (feq hc116).1) k) ?_
      show Ends p e below s 16 128 (Q0 Z p0 p1 q2 q3 q4 q5  h0 n0) (T91.setTop (mkF m 53 #[.val (.int p0), .val (.int p1), .val (.long q2), .second, .val (.long q3), .second, .val (.long q4), .second, .val (.long q5), .second, .val (.int (2 : Int32)), .val (.ref b87), .unset, .unset, .unset, .unset, .unset, .unset, .unset, .unset] []))
      refine Ends.via (fun _ k => XS.iloadN X91.here hx rfl (hb hby at_53) rfl k) ?_
      show Ends p e below s 16 128 (Q0 Z p0 p1 q2 q3 q4 q5  h0 n0) (T91.setTop (mkF m 54 #[.val (.int p0), .val (.int p1), .val (.long q2), .second, .val (.long q3), .second, .val (.long q4), .second, .val (.long q5), .second, .val (.int (2 : Int32)), .val (.ref b87), .unset, .unset, .unset, .unset, .unset, .unset, .unset, .unset] [(.int p1)]))
      refine Ends.via (fun _ k => XS.iconst X91.here hx rfl (hb hby at_54) k) ?_
      show Ends p e below s 16 128 (Q0 Z p0 p1 q2 q3 q4 q5  h0 n0) (T91.setTop (mkF m 55 #[.val (.int p0), .val (.int p1), .val (.long q2), .second, .val (.long q3), .second, .val (.long q4), .second, .val (.long q5), .second, .val (.int (2 : Int32)), .val (.ref b87), .unset, .unset, .unset, .unset, .unset, .unset, .unset, .unset] [(.int (3 : Int32)), (.int p1)]))
      refine Ends.via (fun _ k => XS.iand X91.here hx rfl (hb hby at_55) rfl k) ?_
      show Ends p e below s 16 128 (Q0 Z p0 p1 q2 q3 q4 q5  h0 n0) (T91.setTop (mkF m 56 #[.val (.int p0), .val (.int p1), .val (.long q2), .second, .val (.long q3), .second, .val (.long q4), .second, .val (.long q5), .second, .val (.int (2 : Int32)), .val (.ref b87), .unset, .unset, .unset, .unset, .unset, .unset, .unset, .unset] [(.int (p1 &&& (3 : Int32)))]))
      refine Ends.via (fun _ k => XS.goto X91.here hx rfl (pc0 := 56) (pc' := 63) rfl (hb hby at_56) (by decide) (by decide) k) ?_
      show Ends p e below s 16 128 (Q0 Z p0 p1 q2 q3 q4 q5  h0 n0) (T91.setTop (mkF m 63 #[.val (.int p0), .val (.int p1), .val (.long q2), .second, .val (.long q3), .second, .val (.long q4), .second, .val (.long q5), .second, .val (.int (2 : Int32)), .val (.ref b87), .unset, .unset, .unset, .unset, .unset, .unset, .unset, .unset] [(.int (p1 &&& (3 : Int32)))]))
      exact J95 T91 _ X91 e91 N91 (p1 &&& (3 : Int32)) (by first | (simp only [if_neg hc116]; done) | rfl)
  · show Ends p e below s 16 128 (Q0 Z p0 p1 q2 q3 q4 q5  h0 n0) (s₁.setTop (mkF m 7 #[.val (.int p0), .val (.int p1), .val (.long q2), .second, .val (.long q3), .second, .val (.long q4), .second, .val (.long q5), .second, .val (.int (3 : Int32)), .unset, .unset, .unset, .unset, .unset, .unset, .unset, .unset, .unset] []))
    refine Ends.via (fun _ k => XS.iload X0.here hx rfl (hb hby at_7) rfl k) ?_
    show Ends p e below s 16 128 (Q0 Z p0 p1 q2 q3 q4 q5  h0 n0) (s₁.setTop (mkF m 9 #[.val (.int p0), .val (.int p1), .val (.long q2), .second, .val (.long q3), .second, .val (.long q4), .second, .val (.long q5), .second, .val (.int (3 : Int32)), .unset, .unset, .unset, .unset, .unset, .unset, .unset, .unset, .unset] [(.int (3 : Int32))]))
    obtain ⟨T117, h117, k117, X117, e117, E117, A117, st117⟩ := newP X0 hx hZ (hw _ (List.mem_of_getElem? (i := 0) rfl)) e0 (g := (mkF m 9 #[.val (.int p0), .val (.int p1), .val (.long q2), .second, .val (.long q3), .second, .val (.long q4), .second, .val (.long q5), .second, .val (.int (3 : Int32)), .unset, .unset, .unset, .unset, .unset, .unset, .unset, .unset, .unset] [(.int (3 : Int32))])) rfl (hb hby at_9) rfl (by decide) (cap := 3) (by decide) (by decide) (by decide) (by decide)
    obtain ⟨b117, g117⟩ : ∃ z, z = h0.size := ⟨_, rfl⟩
    rw [← g117] at A117 st117
    have g_b117 : n0 ≤ b117 := Nat.le_trans Z0 (Nat.le_of_eq g117.symm)
    have Z117 : n0 ≤ h117.size := Nat.le_trans Z0 E117.1
    have V117 : Arv Z h117 b117 k117 .long (3 : Int32) [(.long (0 : Int64)), (.long (0 : Int64)), (.long (0 : Int64))] (.long (0 : Int64)) := (Arv.new A117 (by decide)).pad (pad_rep [] (.long (0 : Int64)) 3)
    refine Ends.via st117 ?_
    show Ends p e below s 16 128 (Q0 Z p0 p1 q2 q3 q4 q5  h0 n0) (T117.setTop (mkF m 11 #[.val (.int p0), .val (.int p1), .val (.long q2), .second, .val (.long q3), .second, .val (.long q4), .second, .val (.long q5), .second, .val (.int (3 : Int32)), .unset, .unset, .unset, .unset, .unset, .unset, .unset, .unset, .unset] [(.ref b117)]))
    refine Ends.via (fun _ k => XS.astore X117.here hx rfl (hb hby at_11) rfl rfl (l' := #[.val (.int p0), .val (.int p1), .val (.long q2), .second, .val (.long q3), .second, .val (.long q4), .second, .val (.long q5), .second, .val (.int (3 : Int32)), .val (.ref b117), .unset, .unset, .unset, .unset, .unset, .unset, .unset, .unset]) rfl k) ?_
    show Ends p e below s 16 128 (Q0 Z p0 p1 q2 q3 q4 q5  h0 n0) (T117.setTop (mkF m 13 #[.val (.int p0), .val (.int p1), .val (.long q2), .second, .val (.long q3), .second, .val (.long q4), .second, .val (.long q5), .second, .val (.int (3 : Int32)), .val (.ref b117), .unset, .unset, .unset, .unset, .unset, .unset, .unset, .unset] []))
    refine Ends.via (fun _ k => XS.iload X117.here hx rfl (hb hby at_13) rfl k) ?_
    show Ends p e below s 16 128 (Q0 Z p0 p1 q2 q3 q4 q5  h0 n0) (T117.setTop (mkF m 15 #[.val (.int p0), .val (.int p1), .val (.long q2), .second, .val (.long q3), .second, .val (.long q4), .second, .val (.long q5), .second, .val (.int (3 : Int32)), .val (.ref b117), .unset, .unset, .unset, .unset, .unset, .unset, .unset, .unset] [(.int (3 : Int32))]))
    have hf118 : (0 : Int32) < (3 : Int32) := by decide
    refine Ends.via (fun _ k => XS.ifNo X117.here hx rfl (hb hby at_15) rfl ((if0 _ _).trans (tlt hf118).2.2.2) k) ?_
    show Ends p e below s 16 128 (Q0 Z p0 p1 q2 q3 q4 q5  h0 n0) (T117.setTop (mkF m 18 #[.val (.int p0), .val (.int p1), .val (.long q2), .second, .val (.long q3), .second, .val (.long q4), .second, .val (.long q5), .second, .val (.int (3 : Int32)), .val (.ref b117), .unset, .unset, .unset, .unset, .unset, .unset, .unset, .unset] []))
    refine Ends.via (fun _ k => XS.aload X117.here hx rfl (hb hby at_18) rfl rfl k) ?_
    show Ends p e below s 16 128 (Q0 Z p0 p1 q2 q3 q4 q5  h0 n0) (T117.setTop (mkF m 20 #[.val (.int p0), .val (.int p1), .val (.long q2), .second, .val (.long q3), .second, .val (.long q4), .second, .val (.long q5), .second, .val (.int (3 : Int32)), .val (.ref b117), .unset, .unset, .unset, .unset, .unset, .unset, .unset, .unset] [(.ref b117)]))
    refine Ends.via (fun _ k => XS.iconst X117.here hx rfl (hb hby at_20) k) ?_
    show Ends p e below s 16 128 (Q0 Z p0 p1 q2 q3 q4 q5  h0 n0) (T117.setTop (mkF m 21 #[.val (.int p0), .val (.int p1), .val (.long q2), .second, .val (.long q3), .second, .val (.long q4), .second, .val (.long q5), .second, .val (.int (3 : Int32)), .val (.ref b117), .unset, .unset, .unset, .unset, .unset, .unset, .unset, .unset] [(.int (0 : Int32)), (.ref b117)]))
    refine Ends.via (fun _ k => XS.lloadN X117.here hx rfl (hb hby at_21) rfl k) ?_
    show Ends p e below s 16 128 (Q0 Z p0 p1 q2 q3 q4 q5  h0 n0) (T117.setTop (mkF m 22 #[.val (.int p0), .val (.int p1), .val (.long q2), .second, .val (.long q3), .second, .val (.long q4), .second, .val (.long q5), .second, .val (.int (3 : Int32)), .val (.ref b117), .unset, .unset, .unset, .unset, .unset, .unset, .unset, .unset] [(.long q2), (.int (0 : Int32)), (.ref b117)]))
    obtain ⟨cl119, Ar119, qk119, S119, Ng119, Hs119, Gf119⟩ := id V117
    have hin119 : ¬ ((0 : Int32) < 0 ∨ cl119.slots.size ≤ ((0 : Int32)).toNatClampNeg) := inb_of S119 ⟨by decide, by decide⟩
    obtain ⟨T119, h119, X119, e119, W119, st119⟩ := stJ X117 hx hZ e117 Ar119 (j := (0 : Int32)) hin119 (g := (mkF m 22 #[.val (.int p0), .val (.int p1), .val (.long q2), .second, .val (.long q3), .second, .val (.long q4), .second, .val (.long q5), .second, .val (.int (3 : Int32)), .val (.ref b117), .unset, .unset, .unset, .unset, .unset, .unset, .unset, .unset] [(.long q2), (.int (0 : Int32)), (.ref b117)])) rfl rfl (hb hby at_22)
    have V119 : Arv Z h119 b117 k117 .long (3 : Int32) [(.long q2), (.long (0 : Int64)), (.long (0 : Int64))] (.long (0 : Int64)) := Arv.set Ar119 qk119 S119 Ng119 Hs119 Gf119 rfl W119 0 rfl (Nat.le_of_ble_eq_true rfl)
    have Z119 : n0 ≤ h119.size := Nat.le_trans Z117 (Keep.of_wr W119).1
    have N119 := Fr.snoc X119 N0 g_b117
    refine Ends.via st119 ?_
    show Ends p e below s 16 128 (Q0 Z p0 p1 q2 q3 q4 q5  h0 n0) (T119.setTop (mkF m 23 #[.val (.int p0), .val (.int p1), .val (.long q2), .second, .val (.long q3), .second, .val (.long q4), .second, .val (.long q5), .second, .val (.int (3 : Int32)), .val (.ref b117), .unset, .unset, .unset, .unset, .unset, .unset, .unset, .unset] []))
    refine Ends.via (fun _ k => XS.iload X119.here hx rfl (hb hby at_23) rfl k) ?_
    show Ends p e below s 16 128 (Q0 Z p0 p1 q2 q3 q4 q5  h0 n0) (T119.setTop (mkF m 25 #[.val (.int p0), .val (.int p1), .val (.long q2), .second, .val (.long q3), .second, .val (.long q4), .second, .val (.long q5), .second, .val (.int (3 : Int32)), .val (.ref b117), .unset, .unset, .unset, .unset, .unset, .unset, .unset, .unset] [(.int (3 : Int32))]))
    refine Ends.via (fun _ k => XS.iconst X119.here hx rfl (hb hby at_25) k) ?_
    show Ends p e below s 16 128 (Q0 Z p0 p1 q2 q3 q4 q5  h0 n0) (T119.setTop (mkF m 26 #[.val (.int p0), .val (.int p1), .val (.long q2), .second, .val (.long q3), .second, .val (.long q4), .second, .val (.long q5), .second, .val (.int (3 : Int32)), .val (.ref b117), .unset, .unset, .unset, .unset, .unset, .unset, .unset, .unset] [(.int (1 : Int32)), (.int (3 : Int32))]))
    have hf120 : (1 : Int32) < (3 : Int32) := by decide
    refine Ends.via (fun _ k => XS.icmpNo X119.here hx rfl (hb hby at_26) rfl (tlt hf120).2.2.2 k) ?_
    show Ends p e below s 16 128 (Q0 Z p0 p1 q2 q3 q4 q5  h0 n0) (T119.setTop (mkF m 29 #[.val (.int p0), .val (.int p1), .val (.long q2), .second, .val (.long q3), .second, .val (.long q4), .second, .val (.long q5), .second, .val (.int (3 : Int32)), .val (.ref b117), .unset, .unset, .unset, .unset, .unset, .unset, .unset, .unset] []))
    refine Ends.via (fun _ k => XS.aload X119.here hx rfl (hb hby at_29) rfl rfl k) ?_
    show Ends p e below s 16 128 (Q0 Z p0 p1 q2 q3 q4 q5  h0 n0) (T119.setTop (mkF m 31 #[.val (.int p0), .val (.int p1), .val (.long q2), .second, .val (.long q3), .second, .val (.long q4), .second, .val (.long q5), .second, .val (.int (3 : Int32)), .val (.ref b117), .unset, .unset, .unset, .unset, .unset, .unset, .unset, .unset] [(.ref b117)]))
    refine Ends.via (fun _ k => XS.iconst X119.here hx rfl (hb hby at_31) k) ?_
    show Ends p e below s 16 128 (Q0 Z p0 p1 q2 q3 q4 q5  h0 n0) (T119.setTop (mkF m 32 #[.val (.int p0), .val (.int p1), .val (.long q2), .second, .val (.long q3), .second, .val (.long q4), .second, .val (.long q5), .second, .val (.int (3 : Int32)), .val (.ref b117), .unset, .unset, .unset, .unset, .unset, .unset, .unset, .unset] [(.int (1 : Int32)), (.ref b117)]))
    refine Ends.via (fun _ k => XS.lload X119.here hx rfl (hb hby at_32) rfl k) ?_
    show Ends p e below s 16 128 (Q0 Z p0 p1 q2 q3 q4 q5  h0 n0) (T119.setTop (mkF m 34 #[.val (.int p0), .val (.int p1), .val (.long q2), .second, .val (.long q3), .second, .val (.long q4), .second, .val (.long q5), .second, .val (.int (3 : Int32)), .val (.ref b117), .unset, .unset, .unset, .unset, .unset, .unset, .unset, .unset] [(.long q3), (.int (1 : Int32)), (.ref b117)]))
    obtain ⟨cl121, Ar121, qk121, S121, Ng121, Hs121, Gf121⟩ := id V119
    have hin121 : ¬ ((1 : Int32) < 0 ∨ cl121.slots.size ≤ ((1 : Int32)).toNatClampNeg) := inb_of S121 ⟨by decide, by decide⟩
    obtain ⟨T121, h121, X121, e121, W121, st121⟩ := stJ X119 hx hZ e119 Ar121 (j := (1 : Int32)) hin121 (g := (mkF m 34 #[.val (.int p0), .val (.int p1), .val (.long q2), .second, .val (.long q3), .second, .val (.long q4), .second, .val (.long q5), .second, .val (.int (3 : Int32)), .val (.ref b117), .unset, .unset, .unset, .unset, .unset, .unset, .unset, .unset] [(.long q3), (.int (1 : Int32)), (.ref b117)])) rfl rfl (hb hby at_34)
    have V121 : Arv Z h121 b117 k117 .long (3 : Int32) [(.long q2), (.long q3), (.long (0 : Int64))] (.long (0 : Int64)) := Arv.set Ar121 qk121 S121 Ng121 Hs121 Gf121 rfl W121 1 rfl (Nat.le_of_ble_eq_true rfl)
    have Z121 : n0 ≤ h121.size := Nat.le_trans Z119 (Keep.of_wr W121).1
    have N121 := Fr.snoc X121 N119 g_b117
    refine Ends.via st121 ?_
    show Ends p e below s 16 128 (Q0 Z p0 p1 q2 q3 q4 q5  h0 n0) (T121.setTop (mkF m 35 #[.val (.int p0), .val (.int p1), .val (.long q2), .second, .val (.long q3), .second, .val (.long q4), .second, .val (.long q5), .second, .val (.int (3 : Int32)), .val (.ref b117), .unset, .unset, .unset, .unset, .unset, .unset, .unset, .unset] []))
    refine Ends.via (fun _ k => XS.iload X121.here hx rfl (hb hby at_35) rfl k) ?_
    show Ends p e below s 16 128 (Q0 Z p0 p1 q2 q3 q4 q5  h0 n0) (T121.setTop (mkF m 37 #[.val (.int p0), .val (.int p1), .val (.long q2), .second, .val (.long q3), .second, .val (.long q4), .second, .val (.long q5), .second, .val (.int (3 : Int32)), .val (.ref b117), .unset, .unset, .unset, .unset, .unset, .unset, .unset, .unset] [(.int (3 : Int32))]))
    refine Ends.via (fun _ k => XS.iconst X121.here hx rfl (hb hby at_37) k) ?_
    show Ends p e below s 16 128 (Q0 Z p0 p1 q2 q3 q4 q5  h0 n0) (T121.setTop (mkF m 38 #[.val (.int p0), .val (.int p1), .val (.long q2), .second, .val (.long q3), .second, .val (.long q4), .second, .val (.long q5), .second, .val (.int (3 : Int32)), .val (.ref b117), .unset, .unset, .unset, .unset, .unset, .unset, .unset, .unset] [(.int (2 : Int32)), (.int (3 : Int32))]))
    have hf122 : (2 : Int32) < (3 : Int32) := by decide
    refine Ends.via (fun _ k => XS.icmpNo X121.here hx rfl (hb hby at_38) rfl (tlt hf122).2.2.2 k) ?_
    show Ends p e below s 16 128 (Q0 Z p0 p1 q2 q3 q4 q5  h0 n0) (T121.setTop (mkF m 41 #[.val (.int p0), .val (.int p1), .val (.long q2), .second, .val (.long q3), .second, .val (.long q4), .second, .val (.long q5), .second, .val (.int (3 : Int32)), .val (.ref b117), .unset, .unset, .unset, .unset, .unset, .unset, .unset, .unset] []))
    refine Ends.via (fun _ k => XS.aload X121.here hx rfl (hb hby at_41) rfl rfl k) ?_
    show Ends p e below s 16 128 (Q0 Z p0 p1 q2 q3 q4 q5  h0 n0) (T121.setTop (mkF m 43 #[.val (.int p0), .val (.int p1), .val (.long q2), .second, .val (.long q3), .second, .val (.long q4), .second, .val (.long q5), .second, .val (.int (3 : Int32)), .val (.ref b117), .unset, .unset, .unset, .unset, .unset, .unset, .unset, .unset] [(.ref b117)]))
    refine Ends.via (fun _ k => XS.iconst X121.here hx rfl (hb hby at_43) k) ?_
    show Ends p e below s 16 128 (Q0 Z p0 p1 q2 q3 q4 q5  h0 n0) (T121.setTop (mkF m 44 #[.val (.int p0), .val (.int p1), .val (.long q2), .second, .val (.long q3), .second, .val (.long q4), .second, .val (.long q5), .second, .val (.int (3 : Int32)), .val (.ref b117), .unset, .unset, .unset, .unset, .unset, .unset, .unset, .unset] [(.int (2 : Int32)), (.ref b117)]))
    refine Ends.via (fun _ k => XS.lload X121.here hx rfl (hb hby at_44) rfl k) ?_
    show Ends p e below s 16 128 (Q0 Z p0 p1 q2 q3 q4 q5  h0 n0) (T121.setTop (mkF m 46 #[.val (.int p0), .val (.int p1), .val (.long q2), .second, .val (.long q3), .second, .val (.long q4), .second, .val (.long q5), .second, .val (.int (3 : Int32)), .val (.ref b117), .unset, .unset, .unset, .unset, .unset, .unset, .unset, .unset] [(.long q4), (.int (2 : Int32)), (.ref b117)]))
    obtain ⟨cl123, Ar123, qk123, S123, Ng123, Hs123, Gf123⟩ := id V121
    have hin123 : ¬ ((2 : Int32) < 0 ∨ cl123.slots.size ≤ ((2 : Int32)).toNatClampNeg) := inb_of S123 ⟨by decide, by decide⟩
    obtain ⟨T123, h123, X123, e123, W123, st123⟩ := stJ X121 hx hZ e121 Ar123 (j := (2 : Int32)) hin123 (g := (mkF m 46 #[.val (.int p0), .val (.int p1), .val (.long q2), .second, .val (.long q3), .second, .val (.long q4), .second, .val (.long q5), .second, .val (.int (3 : Int32)), .val (.ref b117), .unset, .unset, .unset, .unset, .unset, .unset, .unset, .unset] [(.long q4), (.int (2 : Int32)), (.ref b117)])) rfl rfl (hb hby at_46)
    have V123 : Arv Z h123 b117 k117 .long (3 : Int32) [(.long q2), (.long q3), (.long q4)] (.long (0 : Int64)) := Arv.set Ar123 qk123 S123 Ng123 Hs123 Gf123 rfl W123 2 rfl (Nat.le_of_ble_eq_true rfl)
    have Z123 : n0 ≤ h123.size := Nat.le_trans Z121 (Keep.of_wr W123).1
    have N123 := Fr.snoc X123 N121 g_b117
    refine Ends.via st123 ?_
    show Ends p e below s 16 128 (Q0 Z p0 p1 q2 q3 q4 q5  h0 n0) (T123.setTop (mkF m 47 #[.val (.int p0), .val (.int p1), .val (.long q2), .second, .val (.long q3), .second, .val (.long q4), .second, .val (.long q5), .second, .val (.int (3 : Int32)), .val (.ref b117), .unset, .unset, .unset, .unset, .unset, .unset, .unset, .unset] []))
    refine Ends.via (fun _ k => XS.iloadN X123.here hx rfl (hb hby at_47) rfl k) ?_
    show Ends p e below s 16 128 (Q0 Z p0 p1 q2 q3 q4 q5  h0 n0) (T123.setTop (mkF m 48 #[.val (.int p0), .val (.int p1), .val (.long q2), .second, .val (.long q3), .second, .val (.long q4), .second, .val (.long q5), .second, .val (.int (3 : Int32)), .val (.ref b117), .unset, .unset, .unset, .unset, .unset, .unset, .unset, .unset] [(.int p0)]))
    refine Ends.via (fun _ k => XS.iconst X123.here hx rfl (hb hby at_48) k) ?_
    show Ends p e below s 16 128 (Q0 Z p0 p1 q2 q3 q4 q5  h0 n0) (T123.setTop (mkF m 49 #[.val (.int p0), .val (.int p1), .val (.long q2), .second, .val (.long q3), .second, .val (.long q4), .second, .val (.long q5), .second, .val (.int (3 : Int32)), .val (.ref b117), .unset, .unset, .unset, .unset, .unset, .unset, .unset, .unset] [(.int (1 : Int32)), (.int p0)]))
    refine Ends.via (fun _ k => XS.iand X123.here hx rfl (hb hby at_49) rfl k) ?_
    show Ends p e below s 16 128 (Q0 Z p0 p1 q2 q3 q4 q5  h0 n0) (T123.setTop (mkF m 50 #[.val (.int p0), .val (.int p1), .val (.long q2), .second, .val (.long q3), .second, .val (.long q4), .second, .val (.long q5), .second, .val (.int (3 : Int32)), .val (.ref b117), .unset, .unset, .unset, .unset, .unset, .unset, .unset, .unset] [(.int (p0 &&& (1 : Int32)))]))
    have J126 : ∀ (Tj126 : State) (Lj126 : List Loc) (Xj126 : Stand p l e room_1 s m #[(.int p0), (.int p1), (.long q2), (.long q3), (.long q4), (.long q5)] below meth c Tj126 Lj126 1 3) (ej126 : Tj126.heap = h123) (Nj126 : Fr n0 Lj126) (v125 : Int32), (if (p0 &&& (1 : Int32)) = (0 : Int32) then (p1 &&& (1073741823 : Int32)) else (p1 &&& (3 : Int32))) = v125 → Ends p e below s 16 128 (Q0 Z p0 p1 q2 q3 q4 q5  h0 n0) (Tj126.setTop (mkF m 63 #[.val (.int p0), .val (.int p1), .val (.long q2), .second, .val (.long q3), .second, .val (.long q4), .second, .val (.long q5), .second, .val (.int (3 : Int32)), .val (.ref b117), .unset, .unset, .unset, .unset, .unset, .unset, .unset, .unset] [(.int v125)])) := by
      intro Tj126 Lj126 Xj126 ej126 Nj126 v125 hv125
      refine Ends.via (fun _ k => XS.istore Xj126.here hx rfl (hb hby at_63) rfl (l' := #[.val (.int p0), .val (.int p1), .val (.long q2), .second, .val (.long q3), .second, .val (.long q4), .second, .val (.long q5), .second, .val (.int (3 : Int32)), .val (.ref b117), .val (.int v125), .unset, .unset, .unset, .unset, .unset, .unset, .unset]) rfl k) ?_
      show Ends p e below s 16 128 (Q0 Z p0 p1 q2 q3 q4 q5  h0 n0) (Tj126.setTop (mkF m 65 #[.val (.int p0), .val (.int p1), .val (.long q2), .second, .val (.long q3), .second, .val (.long q4), .second, .val (.long q5), .second, .val (.int (3 : Int32)), .val (.ref b117), .val (.int v125), .unset, .unset, .unset, .unset, .unset, .unset, .unset] []))
      refine Ends.via (fun _ k => XS.iload Xj126.here hx rfl (hb hby at_65) rfl k) ?_
      show Ends p e below s 16 128 (Q0 Z p0 p1 q2 q3 q4 q5  h0 n0) (Tj126.setTop (mkF m 67 #[.val (.int p0), .val (.int p1), .val (.long q2), .second, .val (.long q3), .second, .val (.long q4), .second, .val (.long q5), .second, .val (.int (3 : Int32)), .val (.ref b117), .val (.int v125), .unset, .unset, .unset, .unset, .unset, .unset, .unset] [(.int v125)]))
      refine Ends.via (fun _ k => XS.iload Xj126.here hx rfl (hb hby at_67) rfl k) ?_
      show Ends p e below s 16 128 (Q0 Z p0 p1 q2 q3 q4 q5  h0 n0) (Tj126.setTop (mkF m 69 #[.val (.int p0), .val (.int p1), .val (.long q2), .second, .val (.long q3), .second, .val (.long q4), .second, .val (.long q5), .second, .val (.int (3 : Int32)), .val (.ref b117), .val (.int v125), .unset, .unset, .unset, .unset, .unset, .unset, .unset] [(.int (3 : Int32)), (.int v125)]))
      obtain ⟨_, _, ⟨T127, L127, k127, n127⟩, -, X127, ⟨Lc127, hQ127, l127, y127, z127⟩, st127⟩ := Jvm.LawKit.callS Xj126 hx (y := (⟨"java/lang/Math", "max", "(II)I"⟩ : MethodName)) hown (mvT hZ (hw _ (List.mem_of_getElem? (i := 2) rfl))) (mvT hZ (hw _ (List.mem_of_getElem? (i := 3) rfl))) (mvT hZ (hw _ (List.mem_of_getElem? (i := 4) rfl))) (mvT hZ (hw _ (List.mem_of_getElem? (i := 5) rfl))) (by decide) (backOf (W := 0) (rm1 l Z _ hw [] v125 (3 : Int32) h123 n0 Z123) hZ (hw _ (List.mem_of_getElem? (i := 5) rfl)) (hw _ (List.mem_of_getElem? (i := 4) rfl)) (by decide) (by decide)) (g := (mkF m 69 #[.val (.int p0), .val (.int p1), .val (.long q2), .second, .val (.long q3), .second, .val (.long q4), .second, .val (.long q5), .second, .val (.int (3 : Int32)), .val (.ref b117), .val (.int v125), .unset, .unset, .unset, .unset, .unset, .unset, .unset] [(.int (3 : Int32)), (.int v125)])) rfl (by rw [hml]; rfl) (argsL := [(.int v125), (.int (3 : Int32))]) (rest := []) (lenOf own_pd0 rfl) rfl (by show 2 * 0 + _ ≤ _; exact Nat.le_of_eq rfl) (hb hby at_69) (fun _ _ => ⟨rfl, ej126, (by decide : 1 + 0 ≤ _), (by decide : 3 + 0 ≤ _)⟩)
      dsimp only [Pt.U, Pt.locs, Pt.cells, Pt.slots] at X127 l127 y127 z127 st127 hQ127
      subst l127 y127 z127
      obtain ⟨rfl, Nq127, e127⟩ := hQ127
      have N127 := Fr.app Nj126 Nq127
      refine Ends.via st127 ?_
      show Ends p e below s 16 128 (Q0 Z p0 p1 q2 q3 q4 q5  h0 n0) (T127.setTop (mkF m 72 #[.val (.int p0), .val (.int p1), .val (.long q2), .second, .val (.long q3), .second, .val (.long q4), .second, .val (.long q5), .second, .val (.int (3 : Int32)), .val (.ref b117), .val (.int v125), .unset, .unset, .unset, .unset, .unset, .unset, .unset] [(.int (fn1 v125 (3 : Int32)))]))
      refine Ends.via (fun _ k => XS.iconst X127.here hx rfl (hb hby at_72) k) ?_
      show Ends p e below s 16 128 (Q0 Z p0 p1 q2 q3 q4 q5  h0 n0) (T127.setTop (mkF m 73 #[.val (.int p0), .val (.int p1), .val (.long q2), .second, .val (.long q3), .second, .val (.long q4), .second, .val (.long q5), .second, .val (.int (3 : Int32)), .val (.ref b117), .val (.int v125), .unset, .unset, .unset, .unset, .unset, .unset, .unset] [(.int (1 : Int32)), (.int (fn1 v125 (3 : Int32)))]))
      refine Ends.via (fun _ k => XS.iadd X127.here hx rfl (hb hby at_73) rfl k) ?_
      show Ends p e below s 16 128 (Q0 Z p0 p1 q2 q3 q4 q5  h0 n0) (T127.setTop (mkF m 74 #[.val (.int p0), .val (.int p1), .val (.long q2), .second, .val (.long q3), .second, .val (.long q4), .second, .val (.long q5), .second, .val (.int (3 : Int32)), .val (.ref b117), .val (.int v125), .unset, .unset, .unset, .unset, .unset, .unset, .unset] [(.int ((fn1 v125 (3 : Int32)) + (1 : Int32)))]))
      refine Ends.via (fun _ k => XS.istore X127.here hx rfl (hb hby at_74) rfl (l' := #[.val (.int p0), .val (.int p1), .val (.long q2), .second, .val (.long q3), .second, .val (.long q4), .second, .val (.long q5), .second, .val (.int (3 : Int32)), .val (.ref b117), .val (.int v125), .val (.int ((fn1 v125 (3 : Int32)) + (1 : Int32))), .unset, .unset, .unset, .unset, .unset, .unset]) rfl k) ?_
      show Ends p e below s 16 128 (Q0 Z p0 p1 q2 q3 q4 q5  h0 n0) (T127.setTop (mkF m 76 #[.val (.int p0), .val (.int p1), .val (.long q2), .second, .val (.long q3), .second, .val (.long q4), .second, .val (.long q5), .second, .val (.int (3 : Int32)), .val (.ref b117), .val (.int v125), .val (.int ((fn1 v125 (3 : Int32)) + (1 : Int32))), .unset, .unset, .unset, .unset, .unset, .unset] []))
      generalize hv128 : ((fn1 v125 (3 : Int32)) + (1 : Int32)) = v128
      obtain ⟨T129, h129, X129, e129, E129, A129, D129, -, st129⟩ := newO X127 hx hZ hown (hw _ (List.mem_of_getElem? (i := 6) rfl)) (hw _ (List.mem_of_getElem? (i := 7) rfl)) (hw _ (List.mem_of_getElem? (i := 8) rfl)) e127 (g := (mkF m 76 #[.val (.int p0), .val (.int p1), .val (.long q2), .second, .val (.long q3), .second, .val (.long q4), .second, .val (.long q5), .second, .val (.int (3 : Int32)), .val (.ref b117), .val (.int v125), .val (.int v128), .unset, .unset, .unset, .unset, .unset, .unset] [])) rfl (hb hby at_76) (by decide) (by decide)
      obtain ⟨b129, g129⟩ : ∃ z, z = h123.size := ⟨_, rfl⟩
      rw [← g129] at A129 D129 st129
      have g_b129 : n0 ≤ b129 := Nat.le_trans Z123 (Nat.le_of_eq g129.symm)
      have ne_b117_b129 : b117 ≠ b129 := Nat.ne_of_lt (Nat.lt_of_lt_of_le V123.lt (Nat.le_of_eq g129.symm))
      have f129_0 := V123.ext E129
      have Z129 : n0 ≤ h129.size := Nat.le_trans Z123 E129.1
      have F129_size : Fld Z h129 b129 "com/example/frugal_xpath/frugalxpath/ElementTree$Pieces" "size" "I" (.int (0 : Int32)) := D129 (Or.inr (hw _ (List.mem_of_getElem? (i := 22) rfl))) (ty := .int) (by decide)
      have F129_chainPositions : Fld Z h129 b129 "com/example/frugal_xpath/frugalxpath/ElementTree$Pieces" "chainPositions" "[J" .null := D129 (Or.inr (hw _ (List.mem_of_getElem? (i := 24) rfl))) (ty := (.array .long)) (by decide)
      have F129_firstPosition : Fld Z h129 b129 "com/example/frugal_xpath/frugalxpath/ElementTree$Pieces" "firstPosition" "J" (.long (0 : Int64)) := D129 (Or.inr (hw _ (List.mem_of_getElem? (i := 26) rfl))) (ty := .long) (by decide)
      have F129_cutNodes : Fld Z h129 b129 "com/example/frugal_xpath/frugalxpath/ElementTree$Pieces" "cutNodes" "[I" .null := D129 (Or.inr (hw _ (List.mem_of_getElem? (i := 28) rfl))) (ty := (.array .int)) (by decide)
      have F129_openNodes : Fld Z h129 b129 "com/example/frugal_xpath/frugalxpath/ElementTree$Pieces" "openNodes" "[I" .null := D129 (Or.inr (hw _ (List.mem_of_getElem? (i := 30) rfl))) (ty := (.array .int)) (by decide)
      refine Ends.via st129 ?_
      show Ends p e below s 16 128 (Q0 Z p0 p1 q2 q3 q4 q5  h0 n0) (T129.setTop (mkF m 79 #[.val (.int p0), .val (.int p1), .val (.long q2), .second, .val (.long q3), .second, .val (.long q4), .second, .val (.long q5), .second, .val (.int (3 : Int32)), .val (.ref b117), .val (.int v125), .val (.int v128), .unset, .unset, .unset, .unset, .unset, .unset] [(.ref b129)]))
      refine Ends.via (fun _ k => XS.dup X129.here hx rfl (hb hby at_79) rfl rfl k) ?_
      show Ends p e below s 16 128 (Q0 Z p0 p1 q2 q3 q4 q5  h0 n0) (T129.setTop (mkF m 80 #[.val (.int p0), .val (.int p1), .val (.long q2), .second, .val (.long q3), .second, .val (.long q4), .second, .val (.long q5), .second, .val (.int (3 : Int32)), .val (.ref b117), .val (.int v125), .val (.int v128), .unset, .unset, .unset, .unset, .unset, .unset] [(.ref b129), (.ref b129)]))
      refine Ends.via (fun _ k => XS.iload X129.here hx rfl (hb hby at_80) rfl k) ?_
      show Ends p e below s 16 128 (Q0 Z p0 p1 q2 q3 q4 q5  h0 n0) (T129.setTop (mkF m 82 #[.val (.int p0), .val (.int p1), .val (.long q2), .second, .val (.long q3), .second, .val (.long q4), .second, .val (.long q5), .second, .val (.int (3 : Int32)), .val (.ref b117), .val (.int v125), .val (.int v128), .unset, .unset, .unset, .unset, .unset, .unset] [(.int v128), (.ref b129), (.ref b129)]))
      refine Ends.via (fun _ k => XS.aload X129.here hx rfl (hb hby at_82) rfl rfl k) ?_
      show Ends p e below s 16 128 (Q0 Z p0 p1 q2 q3 q4 q5  h0 n0) (T129.setTop (mkF m 84 #[.val (.int p0), .val (.int p1), .val (.long q2), .second, .val (.long q3), .second, .val (.long q4), .second, .val (.long q5), .second, .val (.int (3 : Int32)), .val (.ref b117), .val (.int v125), .val (.int v128), .unset, .unset, .unset, .unset, .unset, .unset] [(.ref b117), (.int v128), (.ref b129), (.ref b129)]))
      refine Ends.via (fun _ k => XS.lload X129.here hx rfl (hb hby at_84) rfl k) ?_
      show Ends p e below s 16 128 (Q0 Z p0 p1 q2 q3 q4 q5  h0 n0) (T129.setTop (mkF m 86 #[.val (.int p0), .val (.int p1), .val (.long q2), .second, .val (.long q3), .second, .val (.long q4), .second, .val (.long q5), .second, .val (.int (3 : Int32)), .val (.ref b117), .val (.int v125), .val (.int v128), .unset, .unset, .unset, .unset, .unset, .unset] [(.long q5), (.ref b117), (.int v128), (.ref b129), (.ref b129)]))
      refine Ends.via (fun _ k => XS.iconst X129.here hx rfl (hb hby at_86) k) ?_
      show Ends p e below s 16 128 (Q0 Z p0 p1 q2 q3 q4 q5  h0 n0) (T129.setTop (mkF m 87 #[.val (.int p0), .val (.int p1), .val (.long q2), .second, .val (.long q3), .second, .val (.long q4), .second, .val (.long q5), .second, .val (.int (3 : Int32)), .val (.ref b117), .val (.int v125), .val (.int v128), .unset, .unset, .unset, .unset, .unset, .unset] [(.int (0 : Int32)), (.long q5), (.ref b117), (.int v128), (.ref b129), (.ref b129)]))
      obtain ⟨T130, h130, k130, X130, e130, E130, A130, st130⟩ := newP X129 hx hZ (hw _ (List.mem_of_getElem? (i := 9) rfl)) e129 (g := (mkF m 87 #[.val (.int p0), .val (.int p1), .val (.long q2), .second, .val (.long q3), .second, .val (.long q4), .second, .val (.long q5), .second, .val (.int (3 : Int32)), .val (.ref b117), .val (.int v125), .val (.int v128), .unset, .unset, .unset, .unset, .unset, .unset] [(.int (0 : Int32)), (.long q5), (.ref b117), (.int v128), (.ref b129), (.ref b129)])) rfl (hb hby at_87) rfl (by decide) (cap := 0) (by decide) (by decide) (by decide) (by decide)
      obtain ⟨b130, g130⟩ : ∃ z, z = h129.size := ⟨_, rfl⟩
      rw [← g130] at A130 st130
      have g_b130 : n0 ≤ b130 := Nat.le_trans Z129 (Nat.le_of_eq g130.symm)
      have ne_b117_b130 : b117 ≠ b130 := Nat.ne_of_lt (Nat.lt_of_lt_of_le f129_0.lt (Nat.le_of_eq g130.symm))
      have ne_b129_b130 : b129 ≠ b130 := Nat.ne_of_lt (Nat.lt_of_lt_of_le A129.lt (Nat.le_of_eq g130.symm))
      have f130_0 := f129_0.ext E130
      have f130_1 := A129.ext E130
      have f130_2 := F129_size.ext E130
      have f130_3 := F129_chainPositions.ext E130
      have f130_4 := F129_firstPosition.ext E130
      have f130_5 := F129_cutNodes.ext E130
      have f130_6 := F129_openNodes.ext E130
      have Z130 : n0 ≤ h130.size := Nat.le_trans Z129 E130.1
      have V130 : Arv Z h130 b130 k130 .int (0 : Int32) [] (.int (0 : Int32)) := (Arv.new A130 (by decide)).pad (pad_rep [] (.int (0 : Int32)) 0)
      refine Ends.via st130 ?_
      show Ends p e below s 16 128 (Q0 Z p0 p1 q2 q3 q4 q5  h0 n0) (T130.setTop (mkF m 89 #[.val (.int p0), .val (.int p1), .val (.long q2), .second, .val (.long q3), .second, .val (.long q4), .second, .val (.long q5), .second, .val (.int (3 : Int32)), .val (.ref b117), .val (.int v125), .val (.int v128), .unset, .unset, .unset, .unset, .unset, .unset] [(.ref b130), (.long q5), (.ref b117), (.int v128), (.ref b129), (.ref b129)]))
      refine Ends.via (fun _ k => XS.iconst X130.here hx rfl (hb hby at_89) k) ?_
      show Ends p e below s 16 128 (Q0 Z p0 p1 q2 q3 q4 q5  h0 n0) (T130.setTop (mkF m 90 #[.val (.int p0), .val (.int p1), .val (.long q2), .second, .val (.long q3), .second, .val (.long q4), .second, .val (.long q5), .second, .val (.int (3 : Int32)), .val (.ref b117), .val (.int v125), .val (.int v128), .unset, .unset, .unset, .unset, .unset, .unset] [(.int (0 : Int32)), (.ref b130), (.long q5), (.ref b117), (.int v128), (.ref b129), (.ref b129)]))
      obtain ⟨T131, h131, k131, X131, e131, E131, A131, st131⟩ := newP X130 hx hZ (hw _ (List.mem_of_getElem? (i := 9) rfl)) e130 (g := (mkF m 90 #[.val (.int p0), .val (.int p1), .val (.long q2), .second, .val (.long q3), .second, .val (.long q4), .second, .val (.long q5), .second, .val (.int (3 : Int32)), .val (.ref b117), .val (.int v125), .val (.int v128), .unset, .unset, .unset, .unset, .unset, .unset] [(.int (0 : Int32)), (.ref b130), (.long q5), (.ref b117), (.int v128), (.ref b129), (.ref b129)])) rfl (hb hby at_90) rfl (by decide) (cap := 0) (by decide) (by decide) (by decide) (by decide)
      obtain ⟨b131, g131⟩ : ∃ z, z = h130.size := ⟨_, rfl⟩
      rw [← g131] at A131 st131
      have g_b131 : n0 ≤ b131 := Nat.le_trans Z130 (Nat.le_of_eq g131.symm)
      have ne_b117_b131 : b117 ≠ b131 := Nat.ne_of_lt (Nat.lt_of_lt_of_le f130_0.lt (Nat.le_of_eq g131.symm))
      have ne_b129_b131 : b129 ≠ b131 := Nat.ne_of_lt (Nat.lt_of_lt_of_le f130_1.lt (Nat.le_of_eq g131.symm))
      have ne_b130_b131 : b130 ≠ b131 := Nat.ne_of_lt (Nat.lt_of_lt_of_le V130.lt (Nat.le_of_eq g131.symm))
      have f131_0 := f130_0.ext E131
      have f131_1 := f130_1.ext E131
      have f131_2 := f130_2.ext E131
      have f131_3 := f130_3.ext E131
      have f131_4 := f130_4.ext E131
      have f131_5 := f130_5.ext E131
      have f131_6 := f130_6.ext E131
      have f131_7 := V130.ext E131
      have Z131 : n0 ≤ h131.size := Nat.le_trans Z130 E131.1
      have V131 : Arv Z h131 b131 k131 .int (0 : Int32) [] (.int (0 : Int32)) := (Arv.new A131 (by decide)).pad (pad_rep [] (.int (0 : Int32)) 0)
      refine Ends.via st131 ?_
      show Ends p e below s 16 128 (Q0 Z p0 p1 q2 q3 q4 q5  h0 n0) (T131.setTop (mkF m 92 #[.val (.int p0), .val (.int p1), .val (.long q2), .second, .val (.long q3), .second, .val (.long q4), .second, .val (.long q5), .second, .val (.int (3 : Int32)), .val (.ref b117), .val (.int v125), .val (.int v128), .unset, .unset, .unset, .unset, .unset, .unset] [(.ref b131), (.ref b130), (.long q5), (.ref b117), (.int v128), (.ref b129), (.ref b129)]))
      obtain ⟨_, _, ⟨T132, L132, k132, n132⟩, -, X132, ⟨Lc132, hQ132, l132, y132, z132⟩, st132⟩ := X131.specialBack hx (y := (⟨"com/example/frugal_xpath/frugalxpath/ElementTree$Pieces", "<init>", "(I[JJ[I[I)V"⟩ : MethodName)) rfl hown (mvT hZ (hw _ (List.mem_of_getElem? (i := 10) rfl))) (mvT hZ (hw _ (List.mem_of_getElem? (i := 11) rfl))) (mvT hZ (hw _ (List.mem_of_getElem? (i := 12) rfl))) (by decide) (backOf (W := 1) (rm2 l Z _ hw [] b129 v128 b117 q5 b130 b131 (.int (0 : Int32)) .null (.long (0 : Int64)) .null .null h131 n0 Z131 g_b129 f131_1 f131_2 f131_3 f131_4 f131_5 f131_6) hZ (hw _ (List.mem_of_getElem? (i := 12) rfl)) (hw _ (List.mem_of_getElem? (i := 8) rfl)) (by decide) (by decide)) (g := (mkF m 92 #[.val (.int p0), .val (.int p1), .val (.long q2), .second, .val (.long q3), .second, .val (.long q4), .second, .val (.long q5), .second, .val (.int (3 : Int32)), .val (.ref b117), .val (.int v125), .val (.int v128), .unset, .unset, .unset, .unset, .unset, .unset] [(.ref b131), (.ref b130), (.long q5), (.ref b117), (.int v128), (.ref b129), (.ref b129)])) rfl (by rw [hml]; rfl) (Steps.refl _) (a := b129) (argsL := [(.int v128), (.ref b117), (.long q5), (.ref b130), (.ref b131)]) (rest := [(.ref b129)]) (lenOf own_pd2 rfl) rfl (by show 2 * 0 + _ ≤ _; exact Nat.le_of_eq rfl) (hb hby at_92) (fun _ _ => ⟨rfl, e131, (by decide : 4 + 0 ≤ _), (by decide : 8 + 0 ≤ _)⟩)
      dsimp only [Pt.U, Pt.locs, Pt.cells, Pt.slots] at X132 l132 y132 z132 st132 hQ132
      subst l132 y132 z132
      obtain ⟨rfl, Nq132, Kq132, Eq132, Fq132_0, Fq132_1, Fq132_2, Fq132_3, Fq132_4⟩ := hQ132
      have N132 := Fr.app N127 Nq132
      have f132_0 := f131_0.keep Kq132 (ninS ne_b117_b129 nin0)
      have f132_7 := f131_7.keep Kq132 (ninS (Ne.symm ne_b129_b130) nin0)
      have f132_8 := V131.keep Kq132 (ninS (Ne.symm ne_b129_b131) nin0)
      have Z132 : n0 ≤ T132.heap.size := Nat.le_trans Z131 Kq132.1
      refine Ends.via (fun _ k => st132.trans k) ?_
      show Ends p e below s 16 128 (Q0 Z p0 p1 q2 q3 q4 q5  h0 n0) (T132.setTop (mkF m 95 #[.val (.int p0), .val (.int p1), .val (.long q2), .second, .val (.long q3), .second, .val (.long q4), .second, .val (.long q5), .second, .val (.int (3 : Int32)), .val (.ref b117), .val (.int v125), .val (.int v128), .unset, .unset, .unset, .unset, .unset, .unset] [(.ref b129)]))
      refine Ends.via (fun _ k => XS.astore X132.here hx rfl (hb hby at_95) rfl rfl (l' := #[.val (.int p0), .val (.int p1), .val (.long q2), .second, .val (.long q3), .second, .val (.long q4), .second, .val (.long q5), .second, .val (.int (3 : Int32)), .val (.ref b117), .val (.int v125), .val (.int v128), .val (.ref b129), .unset, .unset, .unset, .unset, .unset]) rfl k) ?_
      show Ends p e below s 16 128 (Q0 Z p0 p1 q2 q3 q4 q5  h0 n0) (T132.setTop (mkF m 97 #[.val (.int p0), .val (.int p1), .val (.long q2), .second, .val (.long q3), .second, .val (.long q4), .second, .val (.long q5), .second, .val (.int (3 : Int32)), .val (.ref b117), .val (.int v125), .val (.int v128), .val (.ref b129), .unset, .unset, .unset, .unset, .unset] []))
      refine Ends.via (fun _ k => XS.aload X132.here hx rfl (hb hby at_97) rfl rfl k) ?_
      show Ends p e below s 16 128 (Q0 Z p0 p1 q2 q3 q4 q5  h0 n0) (T132.setTop (mkF m 99 #[.val (.int p0), .val (.int p1), .val (.long q2), .second, .val (.long q3), .second, .val (.long q4), .second, .val (.long q5), .second, .val (.int (3 : Int32)), .val (.ref b117), .val (.int v125), .val (.int v128), .val (.ref b129), .unset, .unset, .unset, .unset, .unset] [(.ref b129)]))
      refine Ends.via (fun _ k => XS.iload X132.here hx rfl (hb hby at_99) rfl k) ?_
      show Ends p e below s 16 128 (Q0 Z p0 p1 q2 q3 q4 q5  h0 n0) (T132.setTop (mkF m 101 #[.val (.int p0), .val (.int p1), .val (.long q2), .second, .val (.long q3), .second, .val (.long q4), .second, .val (.long q5), .second, .val (.int (3 : Int32)), .val (.ref b117), .val (.int v125), .val (.int v128), .val (.ref b129), .unset, .unset, .unset, .unset, .unset] [(.int v125), (.ref b129)]))
      obtain ⟨cq133, kq133, qa133, qb133, qc133⟩ := isOf hZ rfl Eq132
      obtain ⟨_, _, ⟨T133, L133, k133, n133⟩, -, X133, ⟨Lc133, hQ133, l133, y133, z133⟩, st133⟩ := X132.virtualBack hx (y := (⟨"com/example/frugal_xpath/frugalxpath/ElementTree$Pieces", "position", "(I)J"⟩ : MethodName)) (z := (⟨"com/example/frugal_xpath/frugalxpath/ElementTree$Pieces", "position", "(I)J"⟩ : MethodName)) hown (mvT hZ (hw _ (List.mem_of_getElem? (i := 31) rfl))) (mvT hZ (hw _ (List.mem_of_getElem? (i := 32) rfl))) (notFace_of_selects (args := #[]) (mvT hZ (hw _ (List.mem_of_getElem? (i := 34) rfl)))) (mvT hZ (hw _ (List.mem_of_getElem? (i := 34) rfl))) (mvT hZ (hw _ (List.mem_of_getElem? (i := 33) rfl))) (by decide) (backOf (W := 0) (rm5 l Z _ hw [] b129 v125 k117 (3 : Int32) [(.long q2), (.long q3), (.long q4)] (.long (0 : Int64)) (if v125 = (1 : Int32) then q2 else (if v125 = (2 : Int32) then q3 else q4)) b117 q5 T132.heap n0 Z132 f132_0 (own_el3 q2 q3 q4 v125 (own_node p0 p1 v125 hv125)) Fq132_1 Fq132_2) hZ (hw _ (List.mem_of_getElem? (i := 35) rfl)) (hw _ (List.mem_of_getElem? (i := 8) rfl)) (by decide) (by decide)) qa133 qc133 (g := (mkF m 101 #[.val (.int p0), .val (.int p1), .val (.long q2), .second, .val (.long q3), .second, .val (.long q4), .second, .val (.long q5), .second, .val (.int (3 : Int32)), .val (.ref b117), .val (.int v125), .val (.int v128), .val (.ref b129), .unset, .unset, .unset, .unset, .unset] [(.int v125), (.ref b129)])) rfl (by rw [hml]; rfl) (Steps.refl _) (argsL := [(.int v125)]) (rest := []) (lenOf own_pd3 rfl) rfl (by show 2 * 0 + _ ≤ _; exact Nat.le_of_eq rfl) (hb hby at_101) (fun _ _ => ⟨rfl, rfl, (by decide : 4 + 0 ≤ _), (by decide : 8 + 0 ≤ _)⟩)
      dsimp only [Pt.U, Pt.locs, Pt.cells, Pt.slots] at X133 l133 y133 z133 st133 hQ133
      subst l133 y133 z133
      obtain ⟨rfl, Nq133, e133⟩ := hQ133
      have N133 := Fr.app N132 Nq133
      refine Ends.via (fun _ k => st133.trans k) ?_
      show Ends p e below s 16 128 (Q0 Z p0 p1 q2 q3 q4 q5  h0 n0) (T133.setTop (mkF m 104 #[.val (.int p0), .val (.int p1), .val (.long q2), .second, .val (.long q3), .second, .val (.long q4), .second, .val (.long q5), .second, .val (.int (3 : Int32)), .val (.ref b117), .val (.int v125), .val (.int v128), .val (.ref b129), .unset, .unset, .unset, .unset, .unset] [(.long (fn5 v125 (3 : Int32) (if v125 = (1 : Int32) then q2 else (if v125 = (2 : Int32) then q3 else q4)) q5))]))
      refine Ends.via (fun _ k => XS.lstore X133.here hx rfl (hb hby at_104) rfl (l' := #[.val (.int p0), .val (.int p1), .val (.long q2), .second, .val (.long q3), .second, .val (.long q4), .second, .val (.long q5), .second, .val (.int (3 : Int32)), .val (.ref b117), .val (.int v125), .val (.int v128), .val (.ref b129), .val (.long (fn5 v125 (3 : Int32) (if v125 = (1 : Int32) then q2 else (if v125 = (2 : Int32) then q3 else q4)) q5)), .second, .unset, .unset, .unset]) rfl k) ?_
      show Ends p e below s 16 128 (Q0 Z p0 p1 q2 q3 q4 q5  h0 n0) (T133.setTop (mkF m 106 #[.val (.int p0), .val (.int p1), .val (.long q2), .second, .val (.long q3), .second, .val (.long q4), .second, .val (.long q5), .second, .val (.int (3 : Int32)), .val (.ref b117), .val (.int v125), .val (.int v128), .val (.ref b129), .val (.long (fn5 v125 (3 : Int32) (if v125 = (1 : Int32) then q2 else (if v125 = (2 : Int32) then q3 else q4)) q5)), .second, .unset, .unset, .unset] []))
      generalize hv134 : (fn5 v125 (3 : Int32) (if v125 = (1 : Int32) then q2 else (if v125 = (2 : Int32) then q3 else q4)) q5) = v134
      refine Ends.via (fun _ k => XS.iload X133.here hx rfl (hb hby at_106) rfl k) ?_
      show Ends p e below s 16 128 (Q0 Z p0 p1 q2 q3 q4 q5  h0 n0) (T133.setTop (mkF m 108 #[.val (.int p0), .val (.int p1), .val (.long q2), .second, .val (.long q3), .second, .val (.long q4), .second, .val (.long q5), .second, .val (.int (3 : Int32)), .val (.ref b117), .val (.int v125), .val (.int v128), .val (.ref b129), .val (.long v134), .second, .unset, .unset, .unset] [(.int v125)]))
      have J141 : ∀ (Tj141 : State) (Lj141 : List Loc) (Xj141 : Stand p l e room_1 s m #[(.int p0), (.int p1), (.long q2), (.long q3), (.long q4), (.long q5)] below meth c Tj141 Lj141 4 8) (ej141 : Tj141.heap = T132.heap) (Nj141 : Fr n0 Lj141) (sl140 : Slot) (v139 : Int64), (if v125 = (0 : Int32) then (-1 : Int64) else (if (3 : Int32) < v125 then (q5 + (((v125 - (3 : Int32)) - (1 : Int32)).toInt64)) else (if v125 = (1 : Int32) then q2 else (if v125 = (2 : Int32) then q3 else q4)))) = v139 → Ends p e below s 16 128 (Q0 Z p0 p1 q2 q3 q4 q5  h0 n0) (Tj141.setTop (mkF m 175 #[.val (.int p0), .val (.int p1), .val (.long q2), .second, .val (.long q3), .second, .val (.long q4), .second, .val (.long q5), .second, .val (.int (3 : Int32)), .val (.ref b117), .val (.int v125), .val (.int v128), .val (.ref b129), .val (.long v134), .second, .val (.long v139), .second, sl140] [])) := by
        intro Tj141 Lj141 Xj141 ej141 Nj141 sl140 v139 hv139
        refine Ends.via (fun _ k => XS.lload Xj141.here hx rfl (hb hby at_175) rfl k) ?_
        show Ends p e below s 16 128 (Q0 Z p0 p1 q2 q3 q4 q5  h0 n0) (Tj141.setTop (mkF m 177 #[.val (.int p0), .val (.int p1), .val (.long q2), .second, .val (.long q3), .second, .val (.long q4), .second, .val (.long q5), .second, .val (.int (3 : Int32)), .val (.ref b117), .val (.int v125), .val (.int v128), .val (.ref b129), .val (.long v134), .second, .val (.long v139), .second, sl140] [(.long v134)]))
        refine Ends.via (fun _ k => XS.lload Xj141.here hx rfl (hb hby at_177) rfl k) ?_
        show Ends p e below s 16 128 (Q0 Z p0 p1 q2 q3 q4 q5  h0 n0) (Tj141.setTop (mkF m 179 #[.val (.int p0), .val (.int p1), .val (.long q2), .second, .val (.long q3), .second, .val (.long q4), .second, .val (.long q5), .second, .val (.int (3 : Int32)), .val (.ref b117), .val (.int v125), .val (.int v128), .val (.ref b129), .val (.long v134), .second, .val (.long v139), .second, sl140] [(.long v139), (.long v134)]))
        refine Ends.via (fun _ k => XS.lcmp Xj141.here hx rfl (hb hby at_179) rfl k) ?_
        show Ends p e below s 16 128 (Q0 Z p0 p1 q2 q3 q4 q5  h0 n0) (Tj141.setTop (mkF m 180 #[.val (.int p0), .val (.int p1), .val (.long q2), .second, .val (.long q3), .second, .val (.long q4), .second, .val (.long q5), .second, .val (.int (3 : Int32)), .val (.ref b117), .val (.int v125), .val (.int v128), .val (.ref b129), .val (.long v134), .second, .val (.long v139), .second, sl140] [(.int (lcmpW v134 v139))]))
        by_cases hc142 : v134 = v139
        · refine Ends.via (fun _ k => XS.ifNo Xj141.here hx rfl (hb hby at_180) rfl ((if0 _ _).trans (teq ((lw_eq _ _).mpr hc142)).2) k) ?_
          show Ends p e below s 16 128 (Q0 Z p0 p1 q2 q3 q4 q5  h0 n0) (Tj141.setTop (mkF m 183 #[.val (.int p0), .val (.int p1), .val (.long q2), .second, .val (.long q3), .second, .val (.long q4), .second, .val (.long q5), .second, .val (.int (3 : Int32)), .val (.ref b117), .val (.int v125), .val (.int v128), .val (.ref b129), .val (.long v134), .second, .val (.long v139), .second, sl140] []))
          refine Ends.via (fun _ k => XS.iconst Xj141.here hx rfl (hb hby at_183) k) ?_
          show Ends p e below s 16 128 (Q0 Z p0 p1 q2 q3 q4 q5  h0 n0) (Tj141.setTop (mkF m 184 #[.val (.int p0), .val (.int p1), .val (.long q2), .second, .val (.long q3), .second, .val (.long q4), .second, .val (.long q5), .second, .val (.int (3 : Int32)), .val (.ref b117), .val (.int v125), .val (.int v128), .val (.ref b129), .val (.long v134), .second, .val (.long v139), .second, sl140] [(.int (1 : Int32))]))
          refine Ends.via (fun _ k => XS.goto Xj141.here hx rfl (pc0 := 184) (pc' := 188) rfl (hb hby at_184) (by decide) (by decide) k) ?_
          show Ends p e below s 16 128 (Q0 Z p0 p1 q2 q3 q4 q5  h0 n0) (Tj141.setTop (mkF m 188 #[.val (.int p0), .val (.int p1), .val (.long q2), .second, .val (.long q3), .second, .val (.long q4), .second, .val (.long q5), .second, .val (.int (3 : Int32)), .val (.ref b117), .val (.int v125), .val (.int v128), .val (.ref b129), .val (.long v134), .second, .val (.long v139), .second, sl140] [(.int (1 : Int32))]))
          refine Ends.ret Xj141 (v := some (.int (nar .boolean (1 : Int32)))) (fun h => by rw [Bd.returns] at h; cases h) Bd.notSynchronized (fun fs hr => retN Xj141 hx (t := .boolean) Bd.returns (by simp) (hb hby at_188) hr) ?_ (by decide) (by decide)
          exact ⟨rfl, Nj141⟩
        · refine Ends.via (fun _ k => XS.ifYes Xj141.here hx rfl (pc0 := 180) (pc' := 187) rfl (hb hby at_180) rfl ((if0 _ _).trans (feq (mt (lw_eq _ _).mp hc142)).2) (by decide) (by decide) k) ?_
          show Ends p e below s 16 128 (Q0 Z p0 p1 q2 q3 q4 q5  h0 n0) (Tj141.setTop (mkF m 187 #[.val (.int p0), .val (.int p1), .val (.long q2), .second, .val (.long q3), .second, .val (.long q4), .second, .val (.long q5), .second, .val (.int (3 : Int32)), .val (.ref b117), .val (.int v125), .val (.int v128), .val (.ref b129), .val (.long v134), .second, .val (.long v139), .second, sl140] []))
          refine Ends.via (fun _ k => XS.iconst Xj141.here hx rfl (hb hby at_187) k) ?_
          show Ends p e below s 16 128 (Q0 Z p0 p1 q2 q3 q4 q5  h0 n0) (Tj141.setTop (mkF m 188 #[.val (.int p0), .val (.int p1), .val (.long q2), .second, .val (.long q3), .second, .val (.long q4), .second, .val (.long q5), .second, .val (.int (3 : Int32)), .val (.ref b117), .val (.int v125), .val (.int v128), .val (.ref b129), .val (.long v134), .second, .val (.long v139), .second, sl140] [(.int (0 : Int32))]))
          refine Ends.ret Xj141 (v := some (.int (nar .boolean (0 : Int32)))) (fun h => by rw [Bd.returns] at h; cases h) Bd.notSynchronized (fun fs hr => retN Xj141 hx (t := .boolean) Bd.returns (by simp) (hb hby at_188) hr) ?_ (by decide) (by decide)
          exact absurd (own_leaf4 p0 p1 q2 q3 q4 q5 v125 v128 v134 v139 hv1 hv125 hv128 hv134 hv139 hc142) id
      by_cases hc143 : v125 = (0 : Int32)
      · refine Ends.via (fun _ k => XS.ifNo X133.here hx rfl (hb hby at_108) rfl ((if0 _ _).trans (teq hc143).2) k) ?_
        show Ends p e below s 16 128 (Q0 Z p0 p1 q2 q3 q4 q5  h0 n0) (T133.setTop (mkF m 111 #[.val (.int p0), .val (.int p1), .val (.long q2), .second, .val (.long q3), .second, .val (.long q4), .second, .val (.long q5), .second, .val (.int (3 : Int32)), .val (.ref b117), .val (.int v125), .val (.int v128), .val (.ref b129), .val (.long v134), .second, .unset, .unset, .unset] []))
        refine Ends.via (X133.ldc2Long hx hown (mvT hZ (hw _ (List.mem_of_getElem? (i := 37) rfl))) (g := (mkF m 111 #[.val (.int p0), .val (.int p1), .val (.long q2), .second, .val (.long q3), .second, .val (.long q4), .second, .val (.long q5), .second, .val (.int (3 : Int32)), .val (.ref b117), .val (.int v125), .val (.int v128), .val (.ref b129), .val (.long v134), .second, .unset, .unset, .unset] [])) rfl (hb hby at_111)) ?_
        show Ends p e below s 16 128 (Q0 Z p0 p1 q2 q3 q4 q5  h0 n0) (T133.setTop (mkF m 114 #[.val (.int p0), .val (.int p1), .val (.long q2), .second, .val (.long q3), .second, .val (.long q4), .second, .val (.long q5), .second, .val (.int (3 : Int32)), .val (.ref b117), .val (.int v125), .val (.int v128), .val (.ref b129), .val (.long v134), .second, .unset, .unset, .unset] [(.long (-1 : Int64))]))
        refine Ends.via (fun _ k => XS.lstore X133.here hx rfl (hb hby at_114) rfl (l' := #[.val (.int p0), .val (.int p1), .val (.long q2), .second, .val (.long q3), .second, .val (.long q4), .second, .val (.long q5), .second, .val (.int (3 : Int32)), .val (.ref b117), .val (.int v125), .val (.int v128), .val (.ref b129), .val (.long v134), .second, .val (.long (-1 : Int64)), .second, .unset]) rfl k) ?_
        show Ends p e below s 16 128 (Q0 Z p0 p1 q2 q3 q4 q5  h0 n0) (T133.setTop (mkF m 116 #[.val (.int p0), .val (.int p1), .val (.long q2), .second, .val (.long q3), .second, .val (.long q4), .second, .val (.long q5), .second, .val (.int (3 : Int32)), .val (.ref b117), .val (.int v125), .val (.int v128), .val (.ref b129), .val (.long v134), .second, .val (.long (-1 : Int64)), .second, .unset] []))
        refine Ends.via (fun _ k => XS.goto X133.here hx rfl (pc0 := 116) (pc' := 175) rfl (hb hby at_116) (by decide) (by decide) k) ?_
        show Ends p e below s 16 128 (Q0 Z p0 p1 q2 q3 q4 q5  h0 n0) (T133.setTop (mkF m 175 #[.val (.int p0), .val (.int p1), .val (.long q2), .second, .val (.long q3), .second, .val (.long q4), .second, .val (.long q5), .second, .val (.int (3 : Int32)), .val (.ref b117), .val (.int v125), .val (.int v128), .val (.ref b129), .val (.long v134), .second, .val (.long (-1 : Int64)), .second, .unset] []))
        exact J141 T133 _ X133 e133 N133 (.unset) (-1 : Int64) (by first | (simp only [if_pos hc143]; done) | rfl)
      · refine Ends.via (fun _ k => XS.ifYes X133.here hx rfl (pc0 := 108) (pc' := 119) rfl (hb hby at_108) rfl ((if0 _ _).trans (feq hc143).2) (by decide) (by decide) k) ?_
        show Ends p e below s 16 128 (Q0 Z p0 p1 q2 q3 q4 q5  h0 n0) (T133.setTop (mkF m 119 #[.val (.int p0), .val (.int p1), .val (.long q2), .second, .val (.long q3), .second, .val (.long q4), .second, .val (.long q5), .second, .val (.int (3 : Int32)), .val (.ref b117), .val (.int v125), .val (.int v128), .val (.ref b129), .val (.long v134), .second, .unset, .unset, .unset] []))
        refine Ends.via (fun _ k => XS.iload X133.here hx rfl (hb hby at_119) rfl k) ?_
        show Ends p e below s 16 128 (Q0 Z p0 p1 q2 q3 q4 q5  h0 n0) (T133.setTop (mkF m 121 #[.val (.int p0), .val (.int p1), .val (.long q2), .second, .val (.long q3), .second, .val (.long q4), .second, .val (.long q5), .second, .val (.int (3 : Int32)), .val (.ref b117), .val (.int v125), .val (.int v128), .val (.ref b129), .val (.long v134), .second, .unset, .unset, .unset] [(.int v125)]))
        refine Ends.via (fun _ k => XS.iload X133.here hx rfl (hb hby at_121) rfl k) ?_
        show Ends p e below s 16 128 (Q0 Z p0 p1 q2 q3 q4 q5  h0 n0) (T133.setTop (mkF m 123 #[.val (.int p0), .val (.int p1), .val (.long q2), .second, .val (.long q3), .second, .val (.long q4), .second, .val (.long q5), .second, .val (.int (3 : Int32)), .val (.ref b117), .val (.int v125), .val (.int v128), .val (.ref b129), .val (.long v134), .second, .unset, .unset, .unset] [(.int (3 : Int32)), (.int v125)]))
        by_cases hc144 : (3 : Int32) < v125
        · refine Ends.via (fun _ k => XS.icmpYes X133.here hx rfl (pc0 := 123) (pc' := 158) rfl (hb hby at_123) rfl (tlt hc144).2.2.1 (by decide) (by decide) k) ?_
          show Ends p e below s 16 128 (Q0 Z p0 p1 q2 q3 q4 q5  h0 n0) (T133.setTop (mkF m 158 #[.val (.int p0), .val (.int p1), .val (.long q2), .second, .val (.long q3), .second, .val (.long q4), .second, .val (.long q5), .second, .val (.int (3 : Int32)), .val (.ref b117), .val (.int v125), .val (.int v128), .val (.ref b129), .val (.long v134), .second, .unset, .unset, .unset] []))
          refine Ends.via (fun _ k => XS.iload X133.here hx rfl (hb hby at_158) rfl k) ?_
          show Ends p e below s 16 128 (Q0 Z p0 p1 q2 q3 q4 q5  h0 n0) (T133.setTop (mkF m 160 #[.val (.int p0), .val (.int p1), .val (.long q2), .second, .val (.long q3), .second, .val (.long q4), .second, .val (.long q5), .second, .val (.int (3 : Int32)), .val (.ref b117), .val (.int v125), .val (.int v128), .val (.ref b129), .val (.long v134), .second, .unset, .unset, .unset] [(.int v125)]))
          refine Ends.via (fun _ k => XS.iload X133.here hx rfl (hb hby at_160) rfl k) ?_
          show Ends p e below s 16 128 (Q0 Z p0 p1 q2 q3 q4 q5  h0 n0) (T133.setTop (mkF m 162 #[.val (.int p0), .val (.int p1), .val (.long q2), .second, .val (.long q3), .second, .val (.long q4), .second, .val (.long q5), .second, .val (.int (3 : Int32)), .val (.ref b117), .val (.int v125), .val (.int v128), .val (.ref b129), .val (.long v134), .second, .unset, .unset, .unset] [(.int (3 : Int32)), (.int v125)]))
          refine Ends.via (fun _ k => XS.isub X133.here hx rfl (hb hby at_162) rfl k) ?_
          show Ends p e below s 16 128 (Q0 Z p0 p1 q2 q3 q4 q5  h0 n0) (T133.setTop (mkF m 163 #[.val (.int p0), .val (.int p1), .val (.long q2), .second, .val (.long q3), .second, .val (.long q4), .second, .val (.long q5), .second, .val (.int (3 : Int32)), .val (.ref b117), .val (.int v125), .val (.int v128), .val (.ref b129), .val (.long v134), .second, .unset, .unset, .unset] [(.int (v125 - (3 : Int32)))]))
          refine Ends.via (fun _ k => XS.istore X133.here hx rfl (hb hby at_163) rfl (l' := #[.val (.int p0), .val (.int p1), .val (.long q2), .second, .val (.long q3), .second, .val (.long q4), .second, .val (.long q5), .second, .val (.int (3 : Int32)), .val (.ref b117), .val (.int v125), .val (.int v128), .val (.ref b129), .val (.long v134), .second, .unset, .unset, .val (.int (v125 - (3 : Int32)))]) rfl k) ?_
          show Ends p e below s 16 128 (Q0 Z p0 p1 q2 q3 q4 q5  h0 n0) (T133.setTop (mkF m 165 #[.val (.int p0), .val (.int p1), .val (.long q2), .second, .val (.long q3), .second, .val (.long q4), .second, .val (.long q5), .second, .val (.int (3 : Int32)), .val (.ref b117), .val (.int v125), .val (.int v128), .val (.ref b129), .val (.long v134), .second, .unset, .unset, .val (.int (v125 - (3 : Int32)))] []))
          refine Ends.via (fun _ k => XS.lload X133.here hx rfl (hb hby at_165) rfl k) ?_
          show Ends p e below s 16 128 (Q0 Z p0 p1 q2 q3 q4 q5  h0 n0) (T133.setTop (mkF m 167 #[.val (.int p0), .val (.int p1), .val (.long q2), .second, .val (.long q3), .second, .val (.long q4), .second, .val (.long q5), .second, .val (.int (3 : Int32)), .val (.ref b117), .val (.int v125), .val (.int v128), .val (.ref b129), .val (.long v134), .second, .unset, .unset, .val (.int (v125 - (3 : Int32)))] [(.long q5)]))
          refine Ends.via (fun _ k => XS.iload X133.here hx rfl (hb hby at_167) rfl k) ?_
          show Ends p e below s 16 128 (Q0 Z p0 p1 q2 q3 q4 q5  h0 n0) (T133.setTop (mkF m 169 #[.val (.int p0), .val (.int p1), .val (.long q2), .second, .val (.long q3), .second, .val (.long q4), .second, .val (.long q5), .second, .val (.int (3 : Int32)), .val (.ref b117), .val (.int v125), .val (.int v128), .val (.ref b129), .val (.long v134), .second, .unset, .unset, .val (.int (v125 - (3 : Int32)))] [(.int (v125 - (3 : Int32))), (.long q5)]))
          refine Ends.via (fun _ k => XS.iconst X133.here hx rfl (hb hby at_169) k) ?_
          show Ends p e below s 16 128 (Q0 Z p0 p1 q2 q3 q4 q5  h0 n0) (T133.setTop (mkF m 170 #[.val (.int p0), .val (.int p1), .val (.long q2), .second, .val (.long q3), .second, .val (.long q4), .second, .val (.long q5), .second, .val (.int (3 : Int32)), .val (.ref b117), .val (.int v125), .val (.int v128), .val (.ref b129), .val (.long v134), .second, .unset, .unset, .val (.int (v125 - (3 : Int32)))] [(.int (1 : Int32)), (.int (v125 - (3 : Int32))), (.long q5)]))
          refine Ends.via (fun _ k => XS.isub X133.here hx rfl (hb hby at_170) rfl k) ?_
          show Ends p e below s 16 128 (Q0 Z p0 p1 q2 q3 q4 q5  h0 n0) (T133.setTop (mkF m 171 #[.val (.int p0), .val (.int p1), .val (.long q2), .second, .val (.long q3), .second, .val (.long q4), .second, .val (.long q5), .second, .val (.int (3 : Int32)), .val (.ref b117), .val (.int v125), .val (.int v128), .val (.ref b129), .val (.long v134), .second, .unset, .unset, .val (.int (v125 - (3 : Int32)))] [(.int ((v125 - (3 : Int32)) - (1 : Int32))), (.long q5)]))
          refine Ends.via (fun _ k => XS.i2l X133.here hx rfl (hb hby at_171) rfl k) ?_
          show Ends p e below s 16 128 (Q0 Z p0 p1 q2 q3 q4 q5  h0 n0) (T133.setTop (mkF m 172 #[.val (.int p0), .val (.int p1), .val (.long q2), .second, .val (.long q3), .second, .val (.long q4), .second, .val (.long q5), .second, .val (.int (3 : Int32)), .val (.ref b117), .val (.int v125), .val (.int v128), .val (.ref b129), .val (.long v134), .second, .unset, .unset, .val (.int (v125 - (3 : Int32)))] [(.long (((v125 - (3 : Int32)) - (1 : Int32)).toInt64)), (.long q5)]))
          refine Ends.via (fun _ k => XS.ladd X133.here hx rfl (hb hby at_172) rfl k) ?_
          show Ends p e below s 16 128 (Q0 Z p0 p1 q2 q3 q4 q5  h0 n0) (T133.setTop (mkF m 173 #[.val (.int p0), .val (.int p1), .val (.long q2), .second, .val (.long q3), .second, .val (.long q4), .second, .val (.long q5), .second, .val (.int (3 : Int32)), .val (.ref b117), .val (.int v125), .val (.int v128), .val (.ref b129), .val (.long v134), .second, .unset, .unset, .val (.int (v125 - (3 : Int32)))] [(.long (q5 + (((v125 - (3 : Int32)) - (1 : Int32)).toInt64)))]))
          refine Ends.via (fun _ k => XS.lstore X133.here hx rfl (hb hby at_173) rfl (l' := #[.val (.int p0), .val (.int p1), .val (.long q2), .second, .val (.long q3), .second, .val (.long q4), .second, .val (.long q5), .second, .val (.int (3 : Int32)), .val (.ref b117), .val (.int v125), .val (.int v128), .val (.ref b129), .val (.long v134), .second, .val (.long (q5 + (((v125 - (3 : Int32)) - (1 : Int32)).toInt64))), .second, .val (.int (v125 - (3 : Int32)))]) rfl k) ?_
          show Ends p e below s 16 128 (Q0 Z p0 p1 q2 q3 q4 q5  h0 n0) (T133.setTop (mkF m 175 #[.val (.int p0), .val (.int p1), .val (.long q2), .second, .val (.long q3), .second, .val (.long q4), .second, .val (.long q5), .second, .val (.int (3 : Int32)), .val (.ref b117), .val (.int v125), .val (.int v128), .val (.ref b129), .val (.long v134), .second, .val (.long (q5 + (((v125 - (3 : Int32)) - (1 : Int32)).toInt64))), .second, .val (.int (v125 - (3 : Int32)))] []))
          exact J141 T133 _ X133 e133 N133 (.val (.int (v125 - (3 : Int32)))) (q5 + (((v125 - (3 : Int32)) - (1 : Int32)).toInt64)) (by first | (simp only [if_neg hc143, if_pos hc144]; done) | rfl)
        · refine Ends.via (fun _ k => XS.icmpNo X133.here hx rfl (hb hby at_123) rfl (flt hc144).2.2.1 k) ?_
          show Ends p e below s 16 128 (Q0 Z p0 p1 q2 q3 q4 q5  h0 n0) (T133.setTop (mkF m 126 #[.val (.int p0), .val (.int p1), .val (.long q2), .second, .val (.long q3), .second, .val (.long q4), .second, .val (.long q5), .second, .val (.int (3 : Int32)), .val (.ref b117), .val (.int v125), .val (.int v128), .val (.ref b129), .val (.long v134), .second, .unset, .unset, .unset] []))
          refine Ends.via (fun _ k => XS.iload X133.here hx rfl (hb hby at_126) rfl k) ?_
          show Ends p e below s 16 128 (Q0 Z p0 p1 q2 q3 q4 q5  h0 n0) (T133.setTop (mkF m 128 #[.val (.int p0), .val (.int p1), .val (.long q2), .second, .val (.long q3), .second, .val (.long q4), .second, .val (.long q5), .second, .val (.int (3 : Int32)), .val (.ref b117), .val (.int v125), .val (.int v128), .val (.ref b129), .val (.long v134), .second, .unset, .unset, .unset] [(.int v125)]))
          refine Ends.via (fun _ k => XS.iconst X133.here hx rfl (hb hby at_128) k) ?_
          show Ends p e below s 16 128 (Q0 Z p0 p1 q2 q3 q4 q5  h0 n0) (T133.setTop (mkF m 129 #[.val (.int p0), .val (.int p1), .val (.long q2), .second, .val (.long q3), .second, .val (.long q4), .second, .val (.long q5), .second, .val (.int (3 : Int32)), .val (.ref b117), .val (.int v125), .val (.int v128), .val (.ref b129), .val (.long v134), .second, .unset, .unset, .unset] [(.int (1 : Int32)), (.int v125)]))
          by_cases hc145 : v125 = (1 : Int32)
          · refine Ends.via (fun _ k => XS.icmpNo X133.here hx rfl (hb hby at_129) rfl (teq hc145).2 k) ?_
            show Ends p e below s 16 128 (Q0 Z p0 p1 q2 q3 q4 q5  h0 n0) (T133.setTop (mkF m 132 #[.val (.int p0), .val (.int p1), .val (.long q2), .second, .val (.long q3), .second, .val (.long q4), .second, .val (.long q5), .second, .val (.int (3 : Int32)), .val (.ref b117), .val (.int v125), .val (.int v128), .val (.ref b129), .val (.long v134), .second, .unset, .unset, .unset] []))
            refine Ends.via (fun _ k => XS.lloadN X133.here hx rfl (hb hby at_132) rfl k) ?_
            show Ends p e below s 16 128 (Q0 Z p0 p1 q2 q3 q4 q5  h0 n0) (T133.setTop (mkF m 133 #[.val (.int p0), .val (.int p1), .val (.long q2), .second, .val (.long q3), .second, .val (.long q4), .second, .val (.long q5), .second, .val (.int (3 : Int32)), .val (.ref b117), .val (.int v125), .val (.int v128), .val (.ref b129), .val (.long v134), .second, .unset, .unset, .unset] [(.long q2)]))
            refine Ends.via (fun _ k => XS.lstore X133.here hx rfl (hb hby at_133) rfl (l' := #[.val (.int p0), .val (.int p1), .val (.long q2), .second, .val (.long q3), .second, .val (.long q4), .second, .val (.long q5), .second, .val (.int (3 : Int32)), .val (.ref b117), .val (.int v125), .val (.int v128), .val (.ref b129), .val (.long v134), .second, .val (.long q2), .second, .unset]) rfl k) ?_
            show Ends p e below s 16 128 (Q0 Z p0 p1 q2 q3 q4 q5  h0 n0) (T133.setTop (mkF m 135 #[.val (.int p0), .val (.int p1), .val (.long q2), .second, .val (.long q3), .second, .val (.long q4), .second, .val (.long q5), .second, .val (.int (3 : Int32)), .val (.ref b117), .val (.int v125), .val (.int v128), .val (.ref b129), .val (.long v134), .second, .val (.long q2), .second, .unset] []))
            refine Ends.via (fun _ k => XS.goto X133.here hx rfl (pc0 := 135) (pc' := 175) rfl (hb hby at_135) (by decide) (by decide) k) ?_
            show Ends p e below s 16 128 (Q0 Z p0 p1 q2 q3 q4 q5  h0 n0) (T133.setTop (mkF m 175 #[.val (.int p0), .val (.int p1), .val (.long q2), .second, .val (.long q3), .second, .val (.long q4), .second, .val (.long q5), .second, .val (.int (3 : Int32)), .val (.ref b117), .val (.int v125), .val (.int v128), .val (.ref b129), .val (.long v134), .second, .val (.long q2), .second, .unset] []))
            exact J141 T133 _ X133 e133 N133 (.unset) q2 (by first | (simp only [if_neg hc143, if_neg hc144, if_pos hc145]; done) | rfl)
          · refine Ends.via (fun _ k => XS.icmpYes X133.here hx rfl (pc0 := 129) (pc' := 138) rfl (hb hby at_129) rfl (feq hc145).2 (by decide) (by decide) k) ?_
            show Ends p e below s 16 128 (Q0 Z p0 p1 q2 q3 q4 q5  h0 n0) (T133.setTop (mkF m 138 #[.val (.int p0), .val (.int p1), .val (.long q2), .second, .val (.long q3), .second, .val (.long q4), .second, .val (.long q5), .second, .val (.int (3 : Int32)), .val (.ref b117), .val (.int v125), .val (.int v128), .val (.ref b129), .val (.long v134), .second, .unset, .unset, .unset] []))
            refine Ends.via (fun _ k => XS.iload X133.here hx rfl (hb hby at_138) rfl k) ?_
            show Ends p e below s 16 128 (Q0 Z p0 p1 q2 q3 q4 q5  h0 n0) (T133.setTop (mkF m 140 #[.val (.int p0), .val (.int p1), .val (.long q2), .second, .val (.long q3), .second, .val (.long q4), .second, .val (.long q5), .second, .val (.int (3 : Int32)), .val (.ref b117), .val (.int v125), .val (.int v128), .val (.ref b129), .val (.long v134), .second, .unset, .unset, .unset] [(.int v125)]))
            refine Ends.via (fun _ k => XS.iconst X133.here hx rfl (hb hby at_140) k) ?_
            show Ends p e below s 16 128 (Q0 Z p0 p1 q2 q3 q4 q5  h0 n0) (T133.setTop (mkF m 141 #[.val (.int p0), .val (.int p1), .val (.long q2), .second, .val (.long q3), .second, .val (.long q4), .second, .val (.long q5), .second, .val (.int (3 : Int32)), .val (.ref b117), .val (.int v125), .val (.int v128), .val (.ref b129), .val (.long v134), .second, .unset, .unset, .unset] [(.int (2 : Int32)), (.int v125)]))
            by_cases hc146 : v125 = (2 : Int32)
            · refine Ends.via (fun _ k => XS.icmpNo X133.here hx rfl (hb hby at_141) rfl (teq hc146).2 k) ?_
              show Ends p e below s 16 128 (Q0 Z p0 p1 q2 q3 q4 q5  h0 n0) (T133.setTop (mkF m 144 #[.val (.int p0), .val (.int p1), .val (.long q2), .second, .val (.long q3), .second, .val (.long q4), .second, .val (.long q5), .second, .val (.int (3 : Int32)), .val (.ref b117), .val (.int v125), .val (.int v128), .val (.ref b129), .val (.long v134), .second, .unset, .unset, .unset] []))
              refine Ends.via (fun _ k => XS.lload X133.here hx rfl (hb hby at_144) rfl k) ?_
              show Ends p e below s 16 128 (Q0 Z p0 p1 q2 q3 q4 q5  h0 n0) (T133.setTop (mkF m 146 #[.val (.int p0), .val (.int p1), .val (.long q2), .second, .val (.long q3), .second, .val (.long q4), .second, .val (.long q5), .second, .val (.int (3 : Int32)), .val (.ref b117), .val (.int v125), .val (.int v128), .val (.ref b129), .val (.long v134), .second, .unset, .unset, .unset] [(.long q3)]))
              refine Ends.via (fun _ k => XS.lstore X133.here hx rfl (hb hby at_146) rfl (l' := #[.val (.int p0), .val (.int p1), .val (.long q2), .second, .val (.long q3), .second, .val (.long q4), .second, .val (.long q5), .second, .val (.int (3 : Int32)), .val (.ref b117), .val (.int v125), .val (.int v128), .val (.ref b129), .val (.long v134), .second, .val (.long q3), .second, .unset]) rfl k) ?_
              show Ends p e below s 16 128 (Q0 Z p0 p1 q2 q3 q4 q5  h0 n0) (T133.setTop (mkF m 148 #[.val (.int p0), .val (.int p1), .val (.long q2), .second, .val (.long q3), .second, .val (.long q4), .second, .val (.long q5), .second, .val (.int (3 : Int32)), .val (.ref b117), .val (.int v125), .val (.int v128), .val (.ref b129), .val (.long v134), .second, .val (.long q3), .second, .unset] []))
              refine Ends.via (fun _ k => XS.goto X133.here hx rfl (pc0 := 148) (pc' := 175) rfl (hb hby at_148) (by decide) (by decide) k) ?_
              show Ends p e below s 16 128 (Q0 Z p0 p1 q2 q3 q4 q5  h0 n0) (T133.setTop (mkF m 175 #[.val (.int p0), .val (.int p1), .val (.long q2), .second, .val (.long q3), .second, .val (.long q4), .second, .val (.long q5), .second, .val (.int (3 : Int32)), .val (.ref b117), .val (.int v125), .val (.int v128), .val (.ref b129), .val (.long v134), .second, .val (.long q3), .second, .unset] []))
              exact J141 T133 _ X133 e133 N133 (.unset) q3 (by first | (simp only [if_neg hc143, if_neg hc144, if_neg hc145, if_pos hc146]; done) | rfl)
            · refine Ends.via (fun _ k => XS.icmpYes X133.here hx rfl (pc0 := 141) (pc' := 151) rfl (hb hby at_141) rfl (feq hc146).2 (by decide) (by decide) k) ?_
              show Ends p e below s 16 128 (Q0 Z p0 p1 q2 q3 q4 q5  h0 n0) (T133.setTop (mkF m 151 #[.val (.int p0), .val (.int p1), .val (.long q2), .second, .val (.long q3), .second, .val (.long q4), .second, .val (.long q5), .second, .val (.int (3 : Int32)), .val (.ref b117), .val (.int v125), .val (.int v128), .val (.ref b129), .val (.long v134), .second, .unset, .unset, .unset] []))
              refine Ends.via (fun _ k => XS.lload X133.here hx rfl (hb hby at_151) rfl k) ?_
              show Ends p e below s 16 128 (Q0 Z p0 p1 q2 q3 q4 q5  h0 n0) (T133.setTop (mkF m 153 #[.val (.int p0), .val (.int p1), .val (.long q2), .second, .val (.long q3), .second, .val (.long q4), .second, .val (.long q5), .second, .val (.int (3 : Int32)), .val (.ref b117), .val (.int v125), .val (.int v128), .val (.ref b129), .val (.long v134), .second, .unset, .unset, .unset] [(.long q4)]))
              refine Ends.via (fun _ k => XS.lstore X133.here hx rfl (hb hby at_153) rfl (l' := #[.val (.int p0), .val (.int p1), .val (.long q2), .second, .val (.long q3), .second, .val (.long q4), .second, .val (.long q5), .second, .val (.int (3 : Int32)), .val (.ref b117), .val (.int v125), .val (.int v128), .val (.ref b129), .val (.long v134), .second, .val (.long q4), .second, .unset]) rfl k) ?_
              show Ends p e below s 16 128 (Q0 Z p0 p1 q2 q3 q4 q5  h0 n0) (T133.setTop (mkF m 155 #[.val (.int p0), .val (.int p1), .val (.long q2), .second, .val (.long q3), .second, .val (.long q4), .second, .val (.long q5), .second, .val (.int (3 : Int32)), .val (.ref b117), .val (.int v125), .val (.int v128), .val (.ref b129), .val (.long v134), .second, .val (.long q4), .second, .unset] []))
              refine Ends.via (fun _ k => XS.goto X133.here hx rfl (pc0 := 155) (pc' := 175) rfl (hb hby at_155) (by decide) (by decide) k) ?_
              show Ends p e below s 16 128 (Q0 Z p0 p1 q2 q3 q4 q5  h0 n0) (T133.setTop (mkF m 175 #[.val (.int p0), .val (.int p1), .val (.long q2), .second, .val (.long q3), .second, .val (.long q4), .second, .val (.long q5), .second, .val (.int (3 : Int32)), .val (.ref b117), .val (.int v125), .val (.int v128), .val (.ref b129), .val (.long v134), .second, .val (.long q4), .second, .unset] []))
              exact J141 T133 _ X133 e133 N133 (.unset) q4 (by first | (simp only [if_neg hc143, if_neg hc144, if_neg hc145, if_neg hc146]; done) | rfl)
    by_cases hc147 : (p0 &&& (1 : Int32)) = (0 : Int32)
    · refine Ends.via (fun _ k => XS.ifYes X123.here hx rfl (pc0 := 50) (pc' := 59) rfl (hb hby at_50) rfl ((if0 _ _).trans (teq hc147).1) (by decide) (by decide) k) ?_
      show Ends p e below s 16 128 (Q0 Z p0 p1 q2 q3 q4 q5  h0 n0) (T123.setTop (mkF m 59 #[.val (.int p0), .val (.int p1), .val (.long q2), .second, .val (.long q3), .second, .val (.long q4), .second, .val (.long q5), .second, .val (.int (3 : Int32)), .val (.ref b117), .unset, .unset, .unset, .unset, .unset, .unset, .unset, .unset] []))
      refine Ends.via (fun _ k => XS.iloadN X123.here hx rfl (hb hby at_59) rfl k) ?_
      show Ends p e below s 16 128 (Q0 Z p0 p1 q2 q3 q4 q5  h0 n0) (T123.setTop (mkF m 60 #[.val (.int p0), .val (.int p1), .val (.long q2), .second, .val (.long q3), .second, .val (.long q4), .second, .val (.long q5), .second, .val (.int (3 : Int32)), .val (.ref b117), .unset, .unset, .unset, .unset, .unset, .unset, .unset, .unset] [(.int p1)]))
      refine Ends.via (X123.ldcInt hx hown (mvT hZ (hw _ (List.mem_of_getElem? (i := 1) rfl))) (g := (mkF m 60 #[.val (.int p0), .val (.int p1), .val (.long q2), .second, .val (.long q3), .second, .val (.long q4), .second, .val (.long q5), .second, .val (.int (3 : Int32)), .val (.ref b117), .unset, .unset, .unset, .unset, .unset, .unset, .unset, .unset] [(.int p1)])) rfl (hb hby at_60)) ?_
      show Ends p e below s 16 128 (Q0 Z p0 p1 q2 q3 q4 q5  h0 n0) (T123.setTop (mkF m 62 #[.val (.int p0), .val (.int p1), .val (.long q2), .second, .val (.long q3), .second, .val (.long q4), .second, .val (.long q5), .second, .val (.int (3 : Int32)), .val (.ref b117), .unset, .unset, .unset, .unset, .unset, .unset, .unset, .unset] [(.int (1073741823 : Int32)), (.int p1)]))
      refine Ends.via (fun _ k => XS.iand X123.here hx rfl (hb hby at_62) rfl k) ?_
      show Ends p e below s 16 128 (Q0 Z p0 p1 q2 q3 q4 q5  h0 n0) (T123.setTop (mkF m 63 #[.val (.int p0), .val (.int p1), .val (.long q2), .second, .val (.long q3), .second, .val (.long q4), .second, .val (.long q5), .second, .val (.int (3 : Int32)), .val (.ref b117), .unset, .unset, .unset, .unset, .unset, .unset, .unset, .unset] [(.int (p1 &&& (1073741823 : Int32)))]))
      exact J126 T123 _ X123 e123 N123 (p1 &&& (1073741823 : Int32)) (by first | (simp only [if_pos hc147]; done) | rfl)
    · refine Ends.via (fun _ k => XS.ifNo X123.here hx rfl (hb hby at_50) rfl ((if0 _ _).trans (feq hc147).1) k) ?_
      show Ends p e below s 16 128 (Q0 Z p0 p1 q2 q3 q4 q5  h0 n0) (T123.setTop (mkF m 53 #[.val (.int p0), .val (.int p1), .val (.long q2), .second, .val (.long q3), .second, .val (.long q4), .second, .val (.long q5), .second, .val (.int (3 : Int32)), .val (.ref b117), .unset, .unset, .unset, .unset, .unset, .unset, .unset, .unset] []))
      refine Ends.via (fun _ k => XS.iloadN X123.here hx rfl (hb hby at_53) rfl k) ?_
      show Ends p e below s 16 128 (Q0 Z p0 p1 q2 q3 q4 q5  h0 n0) (T123.setTop (mkF m 54 #[.val (.int p0), .val (.int p1), .val (.long q2), .second, .val (.long q3), .second, .val (.long q4), .second, .val (.long q5), .second, .val (.int (3 : Int32)), .val (.ref b117), .unset, .unset, .unset, .unset, .unset, .unset, .unset, .unset] [(.int p1)]))
      refine Ends.via (fun _ k => XS.iconst X123.here hx rfl (hb hby at_54) k) ?_
      show Ends p e below s 16 128 (Q0 Z p0 p1 q2 q3 q4 q5  h0 n0) (T123.setTop (mkF m 55 #[.val (.int p0), .val (.int p1), .val (.long q2), .second, .val (.long q3), .second, .val (.long q4), .second, .val (.long q5), .second, .val (.int (3 : Int32)), .val (.ref b117), .unset, .unset, .unset, .unset, .unset, .unset, .unset, .unset] [(.int (3 : Int32)), (.int p1)]))
      refine Ends.via (fun _ k => XS.iand X123.here hx rfl (hb hby at_55) rfl k) ?_
      show Ends p e below s 16 128 (Q0 Z p0 p1 q2 q3 q4 q5  h0 n0) (T123.setTop (mkF m 56 #[.val (.int p0), .val (.int p1), .val (.long q2), .second, .val (.long q3), .second, .val (.long q4), .second, .val (.long q5), .second, .val (.int (3 : Int32)), .val (.ref b117), .unset, .unset, .unset, .unset, .unset, .unset, .unset, .unset] [(.int (p1 &&& (3 : Int32)))]))
      refine Ends.via (fun _ k => XS.goto X123.here hx rfl (pc0 := 56) (pc' := 63) rfl (hb hby at_56) (by decide) (by decide) k) ?_
      show Ends p e below s 16 128 (Q0 Z p0 p1 q2 q3 q4 q5  h0 n0) (T123.setTop (mkF m 63 #[.val (.int p0), .val (.int p1), .val (.long q2), .second, .val (.long q3), .second, .val (.long q4), .second, .val (.long q5), .second, .val (.int (3 : Int32)), .val (.ref b117), .unset, .unset, .unset, .unset, .unset, .unset, .unset, .unset] [(.int (p1 &&& (3 : Int32)))]))
      exact J126 T123 _ X123 e123 N123 (p1 &&& (3 : Int32)) (by first | (simp only [if_neg hc147]; done) | rfl)
set_option maxRecDepth 65536 in
set_option maxHeartbeats 40000000 in
theorem comes_1 {Post : Tables → Env → Array Value → State → Outcome → State → Prop} (hpost : ∀ tb e args s v u, (limb_1_1.after args s (.returned v) u = true ∧ limb_1_2.after args s (.returned v) u = true ∧ True) → FrameEnd s (.returned v) u (Jvm.fieldLocs frame_1_writes args s ++ Jvm.arrayLocs frame_1_arrays args s ++ Jvm.staticLocs frame_1_statics s) 16 128 → Post tb e args s (.returned v) u) :
    ArmFor flags0 classFile x code maxLocals ret World_1 tables_1 room_1 Calls_1 rest_1 Pre_1 Post := by
  intro l hfl _ _ p e ha hc hk s m args below hf hA hF happ hP
  obtain ⟨hcalls, hrest, hpre⟩ := hP
  obtain ⟨-, -, -, hnamed, -, -, -, hat⟩ := (Spec.applies_iff hf).mp happ
  obtain ⟨hg, hn⟩ := and_e (Cond.before_iff.mp (show (Jvm.Cond.and given_1 narrow_1).before args s = true from hpre))
  obtain ⟨hcnt, g0⟩ := and_e hg
  obtain ⟨t0, g1⟩ := and_e g0
  obtain ⟨t1, g2⟩ := and_e g1
  obtain ⟨t2, g3⟩ := and_e g2
  obtain ⟨t3, g4⟩ := and_e g3
  obtain ⟨t4, g5⟩ := and_e g4
  obtain ⟨w0, w1, w2, w3, w4, w5, rfl⟩ : ∃ w0 w1 w2 w3 w4 w5 : Value, args = #[w0, w1, w2, w3, w4, w5] := by
    have hs : args.size = 6 := by simpa [Cond.value, given_1] using hcnt
    obtain ⟨L⟩ := args
    match L, hs with
    | [w0, w1, w2, w3, w4, w5], _ => exact ⟨w0, w1, w2, w3, w4, w5, rfl⟩
  have hw := fun d (hd : d ∈ tables_1) => atoms_spec (ws := Jvm.Cond.code x code maxLocals ret :: tables_1) hat d (List.mem_cons_of_mem _ hd)
  obtain ⟨i0, ei0⟩ := is_v t0
  obtain rfl : w0 = (.int i0) := Option.some.inj ei0
  obtain ⟨i1, ei1⟩ := is_v t1
  obtain rfl : w1 = (.int i1) := Option.some.inj ei1
  obtain ⟨i2, ei2⟩ := isL_v t2
  obtain rfl : w2 = (.long i2) := Option.some.inj ei2
  obtain ⟨i3, ei3⟩ := isL_v t3
  obtain rfl : w3 = (.long i3) := Option.some.inj ei3
  obtain ⟨i4, ei4⟩ := isL_v t4
  obtain rfl : w4 = (.long i4) := Option.some.inj ei4
  obtain ⟨i5, ei5⟩ := isL_v g5
  obtain rfl : w5 = (.long i5) := Option.some.inj ei5
  obtain ⟨n, o, h1, h2, h3, _, L, rfl, ⟨rfl, N⟩, hq⟩ := rm0 l s _ hw tables_1 i0 i1 i2 i3 i4 i5 s.heap s.heap.size (Nat.le_refl _) p e ha hc hk s m _ below hf ((Spec.applies_iff_loose hf).mp happ).1 ⟨rfl, State.Warmed39.refl s, rfl⟩ trivial
  refine ⟨n, _, h1, h2, h3, hpost _ _ _ _ _ _ ⟨Cond.after_iff.mpr rfl, Cond.after_iff.mpr (eq_i res_at (Term.int_eval (1)) rfl), trivial⟩ ⟨hq.1, hq.2.1, (hq.2.2.sift fun y hy => Or.inr (N y hy)).mono (by decide) (by decide)⟩⟩
theorem main_1_1 : Claimed_1_1 := comes_1 fun _ _ _ _ _ _ h hF => ⟨h.1, hF⟩
theorem main_1_2 : Claimed_1_2 := comes_1 fun _ _ _ _ _ _ h hF => ⟨h.2.1, hF⟩
end Jvm.Pilot.@@N@@
namespace Jvm.Pilot.@@N@@
open Jvm Jvm.ClassFile Sem Op Lib Jvm.Free Jvm.Stand Jvm.Pilot.@@N@@.Jvm.D
/-! MADE BY PROGRAM (witnessworld.py) out of the Statement's table words and the real class files: 13 classes; the members and pool entries that the words name. The judged class is class 1, her method 1. -/
namespace start1
open Jvm.ClassFile
def u (s : String) : CpInfo := .utf8 (stringToUtf16 s)
/-- a pool by its gaps: so many unusable entries, then the entry; so many at the end -/
def gap : Nat → List CpInfo → List CpInfo
  | 0, r => r
  | n + 1, r => .unusable :: gap n r
def poolList (es : List (Nat × CpInfo)) (last : Nat) : List CpInfo := es.foldr (fun e r => gap e.1 (e.2 :: r)) (gap last [])
def pool (es : List (Nat × CpInfo)) (last : Nat) : Array CpInfo := ⟨poolList es last⟩
def fileOf (pool : Array CpInfo) (this : Nat) (attrs : Array Attribute := #[]) (ms : Array MethodInfo := #[]) (fl : Nat := 33) (sup : Nat := 0) (ifs : Array Nat := #[]) (fds : Array FieldInfo := #[]) : ClassFile where
  minorVersion := 0
  majorVersion := 65
  constantPool := pool
  accessFlags := fl
  thisClass := this
  superClass := sup
  interfaces := ifs
  fields := fds
  methods := ms
  attributes := attrs
def plain (name : String) (sup : Option ClassId) : Class where
  name := name
  kind := .ordinary
  loader := none
  accessFlags := 33
  super := sup
  interfaces := #[]
  cf := none
  fields := #[]
  methods := #[]
  instanceTypes := #[]
  staticTypes := #[]
  resolved := #[]
  callSites := []
  init := .initialized
  statics := none
  mirror := none

def pool0 : Array CpInfo := pool [(5, u "<init>"), (0, u "()V"), (1, .class_ 10), (1, u "java/lang/Object")] 113

def k0c0 : Code := { maxStack := 0, maxLocals := 1, code := object_method_1_code, exceptionTable := #[], attributes := #[] }
def k0m0 : Method := { name := "<init>", desc := "()V", sig := { parameters := [], returnType := none }, accessFlags := 1, code := some k0c0 }
/-- java/lang/Object -/
def k0 : Class := { plain "java/lang/Object" none with
  accessFlags := 33
  interfaces := #[]
  cf := some (fileOf pool0 8 #[] #[{ accessFlags := 1, nameIndex := 5, descriptorIndex := 6, attributes := #[] }] 33 0 #[] #[])
  fields := #[]
  methods := #[k0m0]
  instanceTypes := #[]
  staticTypes := #[]
  resolved := Array.replicate 124 none
  statics := none }

def pool1 : Array CpInfo := pool [(2, .class_ 4), (1, u "java/lang/Object"), (0, u "<init>"), (0, u "()V"), (0, .integer 1073741823), (0, .methodref 9 10), (0, .class_ 11), (0, .nameAndType 12 13), (0, u "java/lang/Math"), (0, u "max"), (0, u "(II)I"), (0, .class_ 15), (0, u "com/example/frugal_xpath/frugalxpath/ElementTree$Pieces"), (0, .methodref 14 17), (0, .nameAndType 5 18), (0, u "(I[JJ[I[I)V"), (0, .methodref 14 20), (0, .nameAndType 21 22), (0, u "position"), (0, u "(I)J"), (0, .long 18446744073709551615), (1, .class_ 26), (0, u "com/example/frugal_xpath/frugalxpath/PiecesPositionPinLaw"), (2, u "law"), (0, u "(IIJJJJ)Z")] 9

def k1m0 : Method := { name := "<init>", desc := "()V", sig := { parameters := [], returnType := none }, accessFlags := 2, code := none }
def k1c1 : Code := { maxStack := 8, maxLocals := 20, code := code, exceptionTable := #[], attributes := #[] }
def k1m1 : Method := { name := "law", desc := "(IIJJJJ)Z", sig := { parameters := [.int, .int, .long, .long, .long, .long], returnType := some .boolean }, accessFlags := 9, code := some k1c1 }
/-- com/example/frugal_xpath/frugalxpath/PiecesPositionPinLaw -/
def k1 : Class := { plain "com/example/frugal_xpath/frugalxpath/PiecesPositionPinLaw" (some 0) with
  accessFlags := 49
  interfaces := #[]
  cf := some (fileOf pool1 25 #[] #[{ accessFlags := 2, nameIndex := 5, descriptorIndex := 6, attributes := #[] }, { accessFlags := 9, nameIndex := 29, descriptorIndex := 30, attributes := #[] }] 49 2 #[] #[])
  fields := #[]
  methods := #[k1m0, k1m1]
  instanceTypes := #[]
  staticTypes := #[]
  resolved := Array.replicate 40 none
  statics := none }

def pool2 : Array CpInfo := pool [(1, .class_ 2), (0, u "java/lang/Math"), (1, .class_ 6), (1, u "java/lang/Object"), (0, u "<init>"), (0, u "()V"), (89, .class_ 100), (1, u "java/lang/Math$RandomNumberGeneratorHolder"), (71, u "negativeZeroFloatBits"), (0, u "J"), (2, u "negativeZeroDoubleBits"), (21, u "max"), (46, u "$assertionsDisabled"), (0, u "Z"), (88, u "(II)I"), (2, u "twoToTheDoubleScaleDown"), (0, u "D"), (4, u "twoToTheDoubleScaleUp"), (9, u "E"), (3, u "PI"), (2, u "TAU"), (2, u "DEGREES_TO_RADIANS"), (0, u "RADIANS_TO_DEGREES")] 94

def k2m0 : Method := { name := "<init>", desc := "()V", sig := { parameters := [], returnType := none }, accessFlags := 2, code := none }
def k2c1 : Code := { maxStack := 2, maxLocals := 2, code := jdk_29_method_65_code, exceptionTable := #[], attributes := #[] }
def k2m1 : Method := { name := "max", desc := "(II)I", sig := { parameters := [.int, .int], returnType := some .int }, accessFlags := 9, code := some k2c1 }
/-- java/lang/Math -/
def k2 : Class := { plain "java/lang/Math" (some 0) with
  accessFlags := 49
  interfaces := #[]
  cf := some (fileOf pool2 1 #[.nestMembers #[98]] #[{ accessFlags := 2, nameIndex := 7, descriptorIndex := 8, attributes := #[] }, { accessFlags := 9, nameIndex := 198, descriptorIndex := 335, attributes := #[] }] 49 4 #[] #[{ accessFlags := 25, nameIndex := 354, descriptorIndex := 339, attributes := #[] }, { accessFlags := 25, nameIndex := 358, descriptorIndex := 339, attributes := #[] }, { accessFlags := 25, nameIndex := 361, descriptorIndex := 339, attributes := #[] }, { accessFlags := 26, nameIndex := 364, descriptorIndex := 339, attributes := #[] }, { accessFlags := 26, nameIndex := 365, descriptorIndex := 339, attributes := #[] }, { accessFlags := 26, nameIndex := 172, descriptorIndex := 173, attributes := #[] }, { accessFlags := 26, nameIndex := 176, descriptorIndex := 173, attributes := #[] }, { accessFlags := 8, nameIndex := 344, descriptorIndex := 339, attributes := #[] }, { accessFlags := 8, nameIndex := 338, descriptorIndex := 339, attributes := #[] }, { accessFlags := 4120, nameIndex := 245, descriptorIndex := 246, attributes := #[] }])
  fields := #[{ name := "E", type := .double, accessFlags := 25, slot := 0, constantValue := 0 }, { name := "PI", type := .double, accessFlags := 25, slot := 1, constantValue := 0 }, { name := "TAU", type := .double, accessFlags := 25, slot := 2, constantValue := 0 }, { name := "DEGREES_TO_RADIANS", type := .double, accessFlags := 26, slot := 3, constantValue := 0 }, { name := "RADIANS_TO_DEGREES", type := .double, accessFlags := 26, slot := 4, constantValue := 0 }, { name := "negativeZeroFloatBits", type := .long, accessFlags := 26, slot := 5, constantValue := 0 }, { name := "negativeZeroDoubleBits", type := .long, accessFlags := 26, slot := 6, constantValue := 0 }, { name := "twoToTheDoubleScaleUp", type := .double, accessFlags := 8, slot := 7, constantValue := 0 }, { name := "twoToTheDoubleScaleDown", type := .double, accessFlags := 8, slot := 8, constantValue := 0 }, { name := "$assertionsDisabled", type := .boolean, accessFlags := 4120, slot := 9, constantValue := 0 }]
  methods := #[k2m0, k2m1]
  instanceTypes := #[]
  staticTypes := #[.double, .double, .double, .double, .double, .long, .long, .double, .double, .boolean]
  resolved := Array.replicate 460 none
  statics := none }

def pool3 : Array CpInfo := pool [(1, .methodref 2 3), (0, .class_ 4), (0, .nameAndType 5 6), (0, u "java/lang/Object"), (0, u "<init>"), (0, u "()V"), (0, .class_ 8), (0, u "java/lang/Record")] 13

def k3c0 : Code := { maxStack := 1, maxLocals := 1, code := jdk_30_method_1_code, exceptionTable := #[], attributes := #[] }
def k3m0 : Method := { name := "<init>", desc := "()V", sig := { parameters := [], returnType := none }, accessFlags := 4, code := some k3c0 }
/-- java/lang/Record -/
def k3 : Class := { plain "java/lang/Record" (some 0) with
  accessFlags := 1057
  interfaces := #[]
  cf := some (fileOf pool3 7 #[] #[{ accessFlags := 4, nameIndex := 5, descriptorIndex := 6, attributes := #[] }] 1057 2 #[] #[])
  fields := #[]
  methods := #[k3m0]
  instanceTypes := #[]
  staticTypes := #[]
  resolved := Array.replicate 22 none
  statics := none }

def pool4 : Array CpInfo := pool [(1, .class_ 2), (0, u "com/example/frugal_xpath/frugalxpath/ElementTree"), (0, .methodref 4 5), (0, .class_ 6), (0, .nameAndType 7 8), (0, u "java/lang/Record"), (0, u "<init>"), (0, u "()V"), (0, .fieldref 10 11), (0, .class_ 12), (0, .nameAndType 13 14), (0, u "com/example/frugal_xpath/frugalxpath/ElementTree$Pieces"), (0, u "size"), (0, u "I"), (0, .fieldref 10 16), (0, .nameAndType 17 18), (0, u "chainPositions"), (0, u "[J"), (0, .fieldref 10 20), (0, .nameAndType 21 22), (0, u "firstPosition"), (0, u "J"), (0, .fieldref 10 24), (0, .nameAndType 25 26), (0, u "cutNodes"), (0, u "[I"), (0, .fieldref 10 28), (0, .nameAndType 29 26), (0, u "openNodes"), (0, .long 18446744073709551615), (19, u "(I[JJ[I[I)V"), (5, u "position"), (0, u "(I)J")] 34

def k4c0 : Code := { maxStack := 3, maxLocals := 7, code := prog_73_method_1_code, exceptionTable := #[], attributes := #[] }
def k4m0 : Method := { name := "<init>", desc := "(I[JJ[I[I)V", sig := { parameters := [.int, (.array .long), .long, (.array .int), (.array .int)], returnType := none }, accessFlags := 0, code := some k4c0 }
def k4c1 : Code := { maxStack := 4, maxLocals := 4, code := prog_73_method_3_code, exceptionTable := #[], attributes := #[] }
def k4m1 : Method := { name := "position", desc := "(I)J", sig := { parameters := [.int], returnType := some .long }, accessFlags := 0, code := some k4c1 }
/-- com/example/frugal_xpath/frugalxpath/ElementTree$Pieces -/
def k4 : Class := { plain "com/example/frugal_xpath/frugalxpath/ElementTree$Pieces" (some 3) with
  accessFlags := 48
  interfaces := #[]
  cf := some (fileOf pool4 10 #[.nestHost 1] #[{ accessFlags := 0, nameIndex := 7, descriptorIndex := 50, attributes := #[] }, { accessFlags := 0, nameIndex := 56, descriptorIndex := 57, attributes := #[] }] 48 4 #[] #[{ accessFlags := 18, nameIndex := 13, descriptorIndex := 14, attributes := #[] }, { accessFlags := 18, nameIndex := 17, descriptorIndex := 18, attributes := #[] }, { accessFlags := 18, nameIndex := 21, descriptorIndex := 22, attributes := #[] }, { accessFlags := 18, nameIndex := 25, descriptorIndex := 26, attributes := #[] }, { accessFlags := 18, nameIndex := 29, descriptorIndex := 26, attributes := #[] }])
  fields := #[{ name := "size", type := .int, accessFlags := 18, slot := 0, constantValue := 0 }, { name := "chainPositions", type := (.array .long), accessFlags := 18, slot := 1, constantValue := 0 }, { name := "firstPosition", type := .long, accessFlags := 18, slot := 2, constantValue := 0 }, { name := "cutNodes", type := (.array .int), accessFlags := 18, slot := 3, constantValue := 0 }, { name := "openNodes", type := (.array .int), accessFlags := 18, slot := 4, constantValue := 0 }]
  methods := #[k4m0, k4m1]
  instanceTypes := #[.int, (.array .long), .long, (.array .int), (.array .int)]
  staticTypes := #[]
  resolved := Array.replicate 92 none
  statics := none }

def pool5 : Array CpInfo := pool [(1, u "java/lang/Cloneable"), (0, .class_ 1), (0, u "java/lang/Object"), (0, .class_ 3)] 3

/-- java/lang/Cloneable -/
def k5 : Class := { plain "java/lang/Cloneable" (some 0) with
  accessFlags := 1537
  interfaces := #[]
  cf := some (fileOf pool5 2 #[] #[] 1537 4 #[] #[])
  fields := #[]
  methods := #[]
  instanceTypes := #[]
  staticTypes := #[]
  resolved := Array.replicate 8 none
  statics := none }

def pool6 : Array CpInfo := pool [(1, u "java/io/Serializable"), (0, .class_ 1), (0, u "java/lang/Object"), (0, .class_ 3)] 3

/-- java/io/Serializable -/
def k6 : Class := { plain "java/io/Serializable" (some 0) with
  accessFlags := 1537
  interfaces := #[]
  cf := some (fileOf pool6 2 #[] #[] 1537 4 #[] #[])
  fields := #[]
  methods := #[]
  instanceTypes := #[]
  staticTypes := #[]
  resolved := Array.replicate 8 none
  statics := none }

/-- the primitive byte -/
def k7 : Class := { plain "byte" none with kind := .primitive 'B', accessFlags := 0x411 }
/-- [B -/
def k8 : Class := { plain "[B" (some 0) with kind := .array 7 .byte, interfaces := #[5, 6], accessFlags := 1041 }

/-- the primitive int -/
def k9 : Class := { plain "int" none with kind := .primitive 'I', accessFlags := 0x411 }
/-- [I -/
def k10 : Class := { plain "[I" (some 0) with kind := .array 9 .int, interfaces := #[5, 6], accessFlags := 1041 }

/-- the primitive long -/
def k11 : Class := { plain "long" none with kind := .primitive 'J', accessFlags := 0x411 }
/-- [J -/
def k12 : Class := { plain "[J" (some 0) with kind := .array 11 .long, interfaces := #[5, 6], accessFlags := 1041 }

def heap : Heap := #[]
def classes : Array Class := #[k0, k1, k2, k3, k4, k5, k6, k7, k8, k9, k10, k11, k12]
def interned : List (Array UInt16 × Addr) := []
def slotsUsed : Nat := 0
def theMethod : MethodId := ⟨1, 1⟩
def args0 : Array Value := #[.int 5, .int 5, .long 5, .long 5, .long 5, .long 5]
def aboutOver (below : List Frame) : State where
  vm := { classes := classes, interned := interned.toArray }
  heap := heap
  slotsUsed := slotsUsed
  threads := #[{ frames := .invoking theMethod args0 :: below }]
def below0 : List Frame := [.native { method := ⟨0, 0⟩, args := #[] }]
def about1 : State := aboutOver below0
def p0 : Program := .bare "" "" ""
def e0 : Env := launch0.env 0 0 0
theorem w_frames : about1.frames = Frame.invoking theMethod args0 :: below0 := rfl
set_option maxRecDepth 65536 in
theorem w_args : argsFit about1.vm theMethod args0 = true := by decide +kernel
set_option maxRecDepth 65536 in
theorem w_heap : heapFits about1 = true := by decide +kernel
set_option maxRecDepth 65536 in
theorem w_runnable : about1.curStatus? = some .runnable := by decide +kernel
set_option maxRecDepth 65536 in
theorem w_alone : about1.alone = true := by decide +kernel
set_option maxRecDepth 65536 in
theorem w_named : about1.methodNamed? x = some theMethod := by decide +kernel
set_option maxRecDepth 65536 in
theorem w_hears : about1.hears theMethod below0 = true := by decide +kernel
set_option maxRecDepth 65536 in
theorem w_ripe : about1.ripe theMethod args0 below0 = true := by decide +kernel
theorem w_running : about1.status = .running := rfl
set_option maxRecDepth 65536 in
theorem w_room : about1.hasRoom e0.platform room_1 = true :=
  launch0.hasRoom_least _ room_1 (by decide +kernel) (by decide +kernel) (by decide +kernel) (by decide +kernel) (by decide +kernel) (by decide +kernel)
theorem allAtoms_all (ts : List Jvm.Cond) (a : Array Jvm.Value) (st : Jvm.State) : (allAtoms ts).before a st = ts.all (fun c => c.before a st) := by
  induction ts with
  | nil => rfl
  | cons c t ih =>
    show (Jvm.Cond.and c (allAtoms t)).before a st = _
    rw [Jvm.Cond.before_and, ih, List.all_cons]
def words1 : List Jvm.Cond := Jvm.Cond.code x code maxLocals ret :: tables_1
/-- a 'code' word, met by the world's own term for the bytes: nothing is compared byte by byte -/
theorem code_word {y : MethodName} {bytes : ByteArray} {mx : Nat} {rt : Option FieldType} {a : Array Value} {s : State} {m : MethodId} {meth : Method} {c : Code} (h1 : s.methodNamed? y = some m) (h2 : s.vm.method? m = some meth) (h3 : meth.code = some c) (h4 : c.code = bytes)
    (h5 : (c.maxLocals == mx && c.exceptionTable.isEmpty && decide (c.maxStack ≤ mostOperands) && decide (meth.sig.returnType = rt) && !meth.locks && decide (parseMethodDescriptor y.desc = some meth.sig)) = true) : (Jvm.Cond.code y bytes mx rt).before a s = true := by
  simp only [Bool.and_eq_true, beq_iff_eq, Bool.not_eq_true', decide_eq_true_eq] at h5
  obtain ⟨⟨⟨⟨⟨g1, g2⟩, g3⟩, g4⟩, g5⟩, g6⟩ := h5
  simp [Cond.before, Cond.holds, Cond.value, h1, h2, h3, h4, g1, g2, g3, g4, g5, g6]
def isCode : Jvm.Cond → Bool
  | .code _ _ _ _ => true
  | _ => false
theorem all_split {L : List Jvm.Cond} {P : Jvm.Cond → Bool} (h1 : L.all (fun c => isCode c || P c) = true) (h2 : ∀ c ∈ L.filter isCode, P c = true) : L.all P = true := by
  refine List.all_eq_true.mpr fun c hc => ?_
  have h := List.all_eq_true.mp h1 c hc
  rcases Bool.eq_false_or_eq_true (isCode c) with hi | hi
  · exact h2 c (List.mem_filter.mpr ⟨hc, hi⟩)
  · simpa [hi] using h
set_option maxRecDepth 65536 in
theorem w_c0 : (Jvm.Cond.code x code maxLocals ret).before args0 about1 = true := code_word (m := ⟨1, 1⟩) (meth := k1m1) (c := k1c1) (by decide +kernel) rfl rfl rfl (by decide +kernel)
set_option maxRecDepth 65536 in
theorem w_c1 : (Jvm.Cond.code ({ cls := "java/lang/Math", name := "max", desc := "(II)I" } : Jvm.MethodName) jdk_29_method_65_code (2 : Nat) (Option.some Jvm.ClassFile.FieldType.int)).before args0 about1 = true := code_word (m := ⟨2, 1⟩) (meth := k2m1) (c := k2c1) (by decide +kernel) rfl rfl rfl (by decide +kernel)
set_option maxRecDepth 65536 in
theorem w_c2 : (Jvm.Cond.code ({ cls := "com/example/frugal_xpath/frugalxpath/ElementTree$Pieces", name := "<init>", desc := "(I[JJ[I[I)V" } : Jvm.MethodName) prog_73_method_1_code (7 : Nat) (Option.none : Option Jvm.ClassFile.FieldType)).before args0 about1 = true := code_word (m := ⟨4, 0⟩) (meth := k4m0) (c := k4c0) (by decide +kernel) rfl rfl rfl (by decide +kernel)
set_option maxRecDepth 65536 in
theorem w_c3 : (Jvm.Cond.code ({ cls := "java/lang/Record", name := "<init>", desc := "()V" } : Jvm.MethodName) jdk_30_method_1_code (1 : Nat) (Option.none : Option Jvm.ClassFile.FieldType)).before args0 about1 = true := code_word (m := ⟨3, 0⟩) (meth := k3m0) (c := k3c0) (by decide +kernel) rfl rfl rfl (by decide +kernel)
set_option maxRecDepth 65536 in
theorem w_c4 : (Jvm.Cond.code ({ cls := "java/lang/Object", name := "<init>", desc := "()V" } : Jvm.MethodName) object_method_1_code (1 : Nat) (Option.none : Option Jvm.ClassFile.FieldType)).before args0 about1 = true := code_word (m := ⟨0, 0⟩) (meth := k0m0) (c := k0c0) (by decide +kernel) rfl rfl rfl (by decide +kernel)
set_option maxRecDepth 65536 in
theorem w_c5 : (Jvm.Cond.code ({ cls := "com/example/frugal_xpath/frugalxpath/ElementTree$Pieces", name := "position", desc := "(I)J" } : Jvm.MethodName) prog_73_method_3_code (4 : Nat) (Option.some Jvm.ClassFile.FieldType.long)).before args0 about1 = true := code_word (m := ⟨4, 1⟩) (meth := k4m1) (c := k4c1) (by decide +kernel) rfl rfl rfl (by decide +kernel)
def codes1 : List Jvm.Cond := [Jvm.Cond.code x code maxLocals ret, Jvm.Cond.code ({ cls := "java/lang/Math", name := "max", desc := "(II)I" } : Jvm.MethodName) jdk_29_method_65_code (2 : Nat) (Option.some Jvm.ClassFile.FieldType.int), Jvm.Cond.code ({ cls := "com/example/frugal_xpath/frugalxpath/ElementTree$Pieces", name := "<init>", desc := "(I[JJ[I[I)V" } : Jvm.MethodName) prog_73_method_1_code (7 : Nat) (Option.none : Option Jvm.ClassFile.FieldType), Jvm.Cond.code ({ cls := "java/lang/Record", name := "<init>", desc := "()V" } : Jvm.MethodName) jdk_30_method_1_code (1 : Nat) (Option.none : Option Jvm.ClassFile.FieldType), Jvm.Cond.code ({ cls := "java/lang/Object", name := "<init>", desc := "()V" } : Jvm.MethodName) object_method_1_code (1 : Nat) (Option.none : Option Jvm.ClassFile.FieldType), Jvm.Cond.code ({ cls := "com/example/frugal_xpath/frugalxpath/ElementTree$Pieces", name := "position", desc := "(I)J" } : Jvm.MethodName) prog_73_method_3_code (4 : Nat) (Option.some Jvm.ClassFile.FieldType.long)]
set_option maxRecDepth 65536 in
theorem codes_eq : words1.filter isCode = codes1 := rfl
theorem w_codes : ∀ c ∈ words1.filter isCode, c.before args0 about1 = true := by
  rw [codes_eq]
  intro c hc
  simp only [codes1, List.mem_cons, List.not_mem_nil, or_false] at hc
  rcases hc with rfl | rfl | rfl | rfl | rfl | rfl
  · exact w_c0
  · exact w_c1
  · exact w_c2
  · exact w_c3
  · exact w_c4
  · exact w_c5
set_option maxRecDepth 65536 in
theorem w_t1 : (words1.take 24).all (fun c => isCode c || c.before args0 about1) = true := by decide +kernel
set_option maxRecDepth 65536 in
theorem w_t2 : (words1.drop 24).all (fun c => isCode c || c.before args0 about1) = true := by decide +kernel
theorem w_tables : (allAtoms (Jvm.Cond.code x code maxLocals ret :: tables_1)).before args0 about1 = true := by
  rw [allAtoms_all]
  show words1.all (fun c => c.before args0 about1) = true
  refine all_split ?_ w_codes
  rw [← List.take_append_drop 24 words1, List.all_append, w_t1, w_t2]
  rfl
set_option maxRecDepth 65536 in
theorem w_case : (Jvm.Cond.and given_1 narrow_1).before args0 about1 = true := by decide +kernel
theorem w_applies : (headSpec (Jvm.Cond.code x code maxLocals ret :: tables_1) room_1).applies x e0.platform about1 = true :=
  (Spec.applies_iff w_frames).mpr ⟨w_running, w_runnable, w_alone, w_named, w_hears, w_ripe, w_room, w_tables⟩
theorem atStart : AtStart classFile x code maxLocals ret World_1 tables_1 room_1 Calls_1 rest_1 Pre_1 launch0 p0 e0 about1 theMethod args0 below0 :=
  ⟨lists_1, trivial, launch0.admits_env _ _ _, launch0.least_env, fairChoices_fair.cas, fairChoices_fair.clock, w_frames, w_args, w_heap, w_applies, trivial, trivial, w_case⟩
end start1
theorem witness_1 : WitnessClaimed_1 := ⟨start1.p0, start1.e0, start1.about1, start1.theMethod, start1.args0, start1.below0, start1.atStart⟩
end Jvm.Pilot.@@N@@
