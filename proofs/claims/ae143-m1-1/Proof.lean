import JvmDerived
import JvmDerived.Pilot.@@N@@Statement
import JvmDerived.Pilot.@@N@@Code
set_option linter.unusedVariables false
set_option linter.unusedSimpArgs false
namespace Jvm.RoadKit
open Sem ClassFile Op Lib Jvm.Stand Jvm.Free Jvm.LawKit
section New
variable {p : Program} {l : Launch} {e : Env} {R : Room} {s : State} {m : MethodId} {args : Array Value} {below : List Frame} {meth : Method} {c : Code} {T : State} {locs : List Loc} {cells slots : Nat}
theorem retI (X : Stand p l e R s m args below meth c T locs cells slots) (hx : p.tables.exec = Jvm.exec) {pc : Nat} {Ls : Array Slot} {z : Int32} {rest : List Value} (hret : meth.sig.returnType = some .int) (hd : decode c.code pc = .ok (.ireturn, 1)) {fs : List Frame}
    (hl : ∀ (f : JFrame) (acts : List Action), f.method = m → f.locked = none → f.entered = [] → (doReturn e (T.setTop f) acts (some (.int z))).1 = T.setFrames fs) : Steps p.tables e below (T.setTop (mkF m pc Ls (.int z :: rest))) (T.setFrames fs) := by
  have hm' : T.vm.method? m = some meth := X.method'
  have hn : narrow .int (.int z) = .int z := rfl
  show Steps p.tables e below (T.setTop { method := m, pc := pc, locals := Ls, stack := _ :: rest, locked := none }) _
  jvm_step X.here [X.here.top, hx, hd, hm', hret, hn]
  first | (intro acts; rw [hl _ acts rfl rfl rfl]) | rw [hl _ _ rfl rfl rfl]
  exact Steps.refl _
end New
end Jvm.RoadKit
namespace Jvm.Pilot.@@N@@
open Jvm Jvm.ClassFile Sem Op Lib Jvm.Free Jvm.Stand Jvm.LawKit Jvm.RoadKit Bundle Jvm.Pilot.@@N@@.Jvm.D
/-- from u the invocation ends, and what it returns and leaves is as Q says -/
def Ends (p : Program) (e : Env) (below : List Frame) (s : State) (kc ks : Nat) (Q : Option Value → Heap → List Loc → Prop) (u : State) : Prop :=
  ∃ s₂ o, Steps p.tables e below u s₂ ∧ s₂.status = .running ∧ Ended s₂ below o ∧ ∃ v L, o = .returned v ∧ Q v s₂.heap L ∧ FrameEnd s o s₂ L kc ks
theorem Ends.via {p : Program} {e : Env} {below : List Frame} {s : State} {kc ks : Nat} {Q : Option Value → Heap → List Loc → Prop} {A B : State} (h : ∀ t, Steps p.tables e below A t → Steps p.tables e below B t) (k : Ends p e below s kc ks Q A) : Ends p e below s kc ks Q B := by
  obtain ⟨s₂, o, h1, r⟩ := k
  exact ⟨s₂, o, h _ h1, r⟩
theorem Ends.ret {p : Program} {l : Launch} {e : Env} {R : Room} {s : State} {m : MethodId} {args : Array Value} {below : List Frame} {meth : Method} {c : Code} {T : State} {locs : List Loc} {cells slots kc ks : Nat} {Q : Option Value → Heap → List Loc → Prop} {u : State}
    (X : Stand p l e R s m args below meth c T locs cells slots) {v : Option Value} (hv : meth.sig.returnType = none → v = none) (hlocks : meth.locks = false)
    (hst : ∀ fs, (∀ (f : JFrame) (acts : List Action), f.method = m → f.locked = none → f.entered = [] → (doReturn e (T.setTop f) acts v).1 = T.setFrames fs) → Steps p.tables e below u (T.setFrames fs))
    (hQ : Q v T.heap locs) (h1 : cells ≤ kc) (h2 : slots ≤ ks) : Ends p e below s kc ks Q u := by
  obtain ⟨fs, hr, hrun, hended, hW, hsame⟩ := X.leave (v := v) hv hlocks
  exact ⟨_, _, hst fs hr, hrun, hended, _, _, rfl, hQ, ⟨_, rfl⟩, hW, hsame.mono h1 h2⟩

theorem own_pd0 : parseMethodDescriptor "(JJ)J" = some ⟨[.long, .long], some .long⟩ := by decide +kernel
theorem own_pd1 : parseMethodDescriptor "(JI)I" = some ⟨[.long, .int], some .int⟩ := by decide +kernel
theorem own_pd2 : parseMethodDescriptor "(II)I" = some ⟨[.int, .int], some .int⟩ := by decide +kernel
theorem own_pd3 : parseMethodDescriptor "(JJJI)Z" = some ⟨[.long, .long, .long, .int], some .boolean⟩ := by decide +kernel
theorem d1_0 : decode prog_19_method_5_code 0 = .ok (.lload_n 0, 1) := by decide +kernel
theorem d1_1 : decode prog_19_method_5_code 1 = .ok (.ldc2_w 49, 3) := by decide +kernel
theorem d1_4 : decode prog_19_method_5_code 4 = .ok (.lor, 1) := by decide +kernel
theorem d1_5 : decode prog_19_method_5_code 5 = .ok (.lload_n 2, 1) := by decide +kernel
theorem d1_6 : decode prog_19_method_5_code 6 = .ok (.ldc2_w 51, 3) := by decide +kernel
theorem d1_9 : decode prog_19_method_5_code 9 = .ok (.land, 1) := by decide +kernel
theorem d1_10 : decode prog_19_method_5_code 10 = .ok (.lsub, 1) := by decide +kernel
theorem d1_11 : decode prog_19_method_5_code 11 = .ok (.lstore 4, 2) := by decide +kernel
theorem d1_13 : decode prog_19_method_5_code 13 = .ok (.lload_n 0, 1) := by decide +kernel
theorem d1_14 : decode prog_19_method_5_code 14 = .ok (.lload_n 2, 1) := by decide +kernel
theorem d1_15 : decode prog_19_method_5_code 15 = .ok (.lxor, 1) := by decide +kernel
theorem d1_16 : decode prog_19_method_5_code 16 = .ok (.lstore 6, 2) := by decide +kernel
theorem d1_18 : decode prog_19_method_5_code 18 = .ok (.lload_n 0, 1) := by decide +kernel
theorem d1_19 : decode prog_19_method_5_code 19 = .ok (.lload_n 2, 1) := by decide +kernel
theorem d1_20 : decode prog_19_method_5_code 20 = .ok (.ldc2_w 53, 3) := by decide +kernel
theorem d1_23 : decode prog_19_method_5_code 23 = .ok (.lxor, 1) := by decide +kernel
theorem d1_24 : decode prog_19_method_5_code 24 = .ok (.land, 1) := by decide +kernel
theorem d1_25 : decode prog_19_method_5_code 25 = .ok (.lload 6, 2) := by decide +kernel
theorem d1_27 : decode prog_19_method_5_code 27 = .ok (.ldc2_w 53, 3) := by decide +kernel
theorem d1_30 : decode prog_19_method_5_code 30 = .ok (.lxor, 1) := by decide +kernel
theorem d1_31 : decode prog_19_method_5_code 31 = .ok (.lload 4, 2) := by decide +kernel
theorem d1_33 : decode prog_19_method_5_code 33 = .ok (.land, 1) := by decide +kernel
theorem d1_34 : decode prog_19_method_5_code 34 = .ok (.lor, 1) := by decide +kernel
theorem d1_35 : decode prog_19_method_5_code 35 = .ok (.ldc2_w 49, 3) := by decide +kernel
theorem d1_38 : decode prog_19_method_5_code 38 = .ok (.land, 1) := by decide +kernel
theorem d1_39 : decode prog_19_method_5_code 39 = .ok (.lstore 8, 2) := by decide +kernel
theorem d1_41 : decode prog_19_method_5_code 41 = .ok (.lload 8, 2) := by decide +kernel
theorem d1_43 : decode prog_19_method_5_code 43 = .ok (.lload 8, 2) := by decide +kernel
theorem d1_45 : decode prog_19_method_5_code 45 = .ok (.lload 8, 2) := by decide +kernel
theorem d1_47 : decode prog_19_method_5_code 47 = .ok (.iconst 4, 1) := by decide +kernel
theorem d1_48 : decode prog_19_method_5_code 48 = .ok (.lushr, 1) := by decide +kernel
theorem d1_49 : decode prog_19_method_5_code 49 = .ok (.lsub, 1) := by decide +kernel
theorem d1_50 : decode prog_19_method_5_code 50 = .ok (.lor, 1) := by decide +kernel
theorem d1_51 : decode prog_19_method_5_code 51 = .ok (.lstore 10, 2) := by decide +kernel
theorem d1_53 : decode prog_19_method_5_code 53 = .ok (.lload_n 2, 1) := by decide +kernel
theorem d1_54 : decode prog_19_method_5_code 54 = .ok (.lload 6, 2) := by decide +kernel
theorem d1_56 : decode prog_19_method_5_code 56 = .ok (.lload 10, 2) := by decide +kernel
theorem d1_58 : decode prog_19_method_5_code 58 = .ok (.land, 1) := by decide +kernel
theorem d1_59 : decode prog_19_method_5_code 59 = .ok (.lxor, 1) := by decide +kernel
theorem d1_60 : decode prog_19_method_5_code 60 = .ok (.lreturn, 1) := by decide +kernel
theorem pn_1 : plainName "org/graphstride/HyperLogLog" = true := by first | (simp [plainName, overriddenIn]; done) | decide +kernel
theorem ef_1 (m : MethodId) (q0 : Int64) (q1 : Int64) : entryFrame m #[(.long q0), (.long q1)] 12 = mkF m 0 #[.val (.long q0), .second, .val (.long q1), .second, .unset, .unset, .unset, .unset, .unset, .unset, .unset, .unset] [] := by first | (simp [entryFrame, mkF, argsToLocals, Value.category]; done) | rfl
def fn1 (q0 : Int64) (q1 : Int64) : Int64 := (let v3 : Int64 := ((q0 ||| (595056260442243600 : Int64)) - (q1 &&& (-595056260442243601 : Int64))); (let v4 : Int64 := (((q0 &&& (q1 ^^^ (-1 : Int64))) ||| (((q0 ^^^ q1) ^^^ (-1 : Int64)) &&& v3)) &&& (595056260442243600 : Int64)); (let v5 : Int64 := (v4 ||| (v4 - ((v4.toUInt64 >>> ((4 : Int32) &&& 0x3f).toInt64.toUInt64).toInt64))); (q1 ^^^ ((q0 ^^^ q1) &&& v5)))))
abbrev ROOM1 : Room := { frames := 0, cells := 0, slots := 0, locals := 0 }
def Q1 (Z : State) (q0 : Int64) (q1 : Int64)  (h0 : Heap) (n0 : Nat) (v : Option Value) (h : Heap) (L : List Loc) : Prop := v = some (.long (fn1 q0 q1)) ∧ Fr n0 L ∧ h = h0
set_option maxRecDepth 65536 in
set_option maxHeartbeats 40000000 in
theorem rm1 (l : Launch) (Z : State) (a0 : Array Value) (hw : ∀ d ∈ tables_1, d.before a0 Z = true) (ws : List Jvm.Cond) (q0 : Int64) (q1 : Int64)  (h0 : Heap) (n0 : Nat) (Z0 : n0 ≤ h0.size)  :
    MetFree l (⟨"org/graphstride/HyperLogLog", "max", "(JJ)J"⟩ : MethodName) (head1 (Jvm.Cond.code (⟨"org/graphstride/HyperLogLog", "max", "(JJ)J"⟩ : MethodName) prog_19_method_5_code 12 (some .long) :: ws) ROOM1) (fun a U => a = #[(.long q0), (.long q1)] ∧ Z.Warmed39 U.vm ∧ U.heap = h0) (fun _ _ _ _ _ => True) (fun _ U o U' => ∃ v L, o = .returned v ∧ Q1 Z q0 q1  h0 n0 v U'.heap L ∧ FrameEnd U o U' L ROOM1.cells ROOM1.slots) := by
  refine MetFree.of_bodySF (plainFor_of_name pn_1) hisR ?_
  intro p e s m args below meth c s₁ Bd hml0 hP hK
  obtain ⟨rfl, hZ, hh⟩ := hP
  have hx := Bd.exec
  have hby := Bd.bytes
  have hml : c.maxLocals = 12 := hml0
  have hown : s.vm.findClass "org/graphstride/HyperLogLog" = some m.cls := findClass_of_methodNamed Bd.named
  have hnm := (name_of_methodNamed Bd.named Bd.method).1
  have X0 : Stand p l e ROOM1 s m #[(.long q0), (.long q1)] below meth c s₁ [] 0 0 := Stand.of_body Bd
  have e0 : s₁.heap = h0 := by rw [← hh, Bd.state]; rfl
  have N0 := Fr.nil n0
  refine Ends.via (A := s₁.setTop (mkF m 0 #[.val (.long q0), .second, .val (.long q1), .second, .unset, .unset, .unset, .unset, .unset, .unset, .unset, .unset] [])) (kc := ROOM1.cells) (ks := ROOM1.slots) (Q := (Q1 Z q0 q1  h0 n0)) (fun t k => castTop (ef_1 m q0 q1) k) ?_
  show Ends p e below s ROOM1.cells ROOM1.slots (Q1 Z q0 q1  h0 n0) (s₁.setTop (mkF m 0 #[.val (.long q0), .second, .val (.long q1), .second, .unset, .unset, .unset, .unset, .unset, .unset, .unset, .unset] []))
  refine Ends.via (fun _ k => XS.lloadN X0.here hx rfl (hb hby d1_0) rfl k) ?_
  show Ends p e below s ROOM1.cells ROOM1.slots (Q1 Z q0 q1  h0 n0) (s₁.setTop (mkF m 1 #[.val (.long q0), .second, .val (.long q1), .second, .unset, .unset, .unset, .unset, .unset, .unset, .unset, .unset] [(.long q0)]))
  refine Ends.via (X0.ldc2Long hx hown (mvT hZ (hw _ (List.mem_of_getElem? (i := 5) rfl))) (g := (mkF m 1 #[.val (.long q0), .second, .val (.long q1), .second, .unset, .unset, .unset, .unset, .unset, .unset, .unset, .unset] [(.long q0)])) rfl (hb hby d1_1)) ?_
  show Ends p e below s ROOM1.cells ROOM1.slots (Q1 Z q0 q1  h0 n0) (s₁.setTop (mkF m 4 #[.val (.long q0), .second, .val (.long q1), .second, .unset, .unset, .unset, .unset, .unset, .unset, .unset, .unset] [(.long (595056260442243600 : Int64)), (.long q0)]))
  refine Ends.via (fun _ k => XS.lor X0.here hx rfl (hb hby d1_4) rfl k) ?_
  show Ends p e below s ROOM1.cells ROOM1.slots (Q1 Z q0 q1  h0 n0) (s₁.setTop (mkF m 5 #[.val (.long q0), .second, .val (.long q1), .second, .unset, .unset, .unset, .unset, .unset, .unset, .unset, .unset] [(.long (q0 ||| (595056260442243600 : Int64)))]))
  refine Ends.via (fun _ k => XS.lloadN X0.here hx rfl (hb hby d1_5) rfl k) ?_
  show Ends p e below s ROOM1.cells ROOM1.slots (Q1 Z q0 q1  h0 n0) (s₁.setTop (mkF m 6 #[.val (.long q0), .second, .val (.long q1), .second, .unset, .unset, .unset, .unset, .unset, .unset, .unset, .unset] [(.long q1), (.long (q0 ||| (595056260442243600 : Int64)))]))
  refine Ends.via (X0.ldc2Long hx hown (mvT hZ (hw _ (List.mem_of_getElem? (i := 6) rfl))) (g := (mkF m 6 #[.val (.long q0), .second, .val (.long q1), .second, .unset, .unset, .unset, .unset, .unset, .unset, .unset, .unset] [(.long q1), (.long (q0 ||| (595056260442243600 : Int64)))])) rfl (hb hby d1_6)) ?_
  show Ends p e below s ROOM1.cells ROOM1.slots (Q1 Z q0 q1  h0 n0) (s₁.setTop (mkF m 9 #[.val (.long q0), .second, .val (.long q1), .second, .unset, .unset, .unset, .unset, .unset, .unset, .unset, .unset] [(.long (-595056260442243601 : Int64)), (.long q1), (.long (q0 ||| (595056260442243600 : Int64)))]))
  refine Ends.via (fun _ k => XS.land X0.here hx rfl (hb hby d1_9) rfl k) ?_
  show Ends p e below s ROOM1.cells ROOM1.slots (Q1 Z q0 q1  h0 n0) (s₁.setTop (mkF m 10 #[.val (.long q0), .second, .val (.long q1), .second, .unset, .unset, .unset, .unset, .unset, .unset, .unset, .unset] [(.long (q1 &&& (-595056260442243601 : Int64))), (.long (q0 ||| (595056260442243600 : Int64)))]))
  refine Ends.via (fun _ k => XS.lsub X0.here hx rfl (hb hby d1_10) rfl k) ?_
  show Ends p e below s ROOM1.cells ROOM1.slots (Q1 Z q0 q1  h0 n0) (s₁.setTop (mkF m 11 #[.val (.long q0), .second, .val (.long q1), .second, .unset, .unset, .unset, .unset, .unset, .unset, .unset, .unset] [(.long ((q0 ||| (595056260442243600 : Int64)) - (q1 &&& (-595056260442243601 : Int64))))]))
  refine Ends.via (fun _ k => XS.lstore X0.here hx rfl (hb hby d1_11) rfl (l' := #[.val (.long q0), .second, .val (.long q1), .second, .val (.long ((q0 ||| (595056260442243600 : Int64)) - (q1 &&& (-595056260442243601 : Int64)))), .second, .unset, .unset, .unset, .unset, .unset, .unset]) rfl k) ?_
  show Ends p e below s ROOM1.cells ROOM1.slots (Q1 Z q0 q1  h0 n0) (s₁.setTop (mkF m 13 #[.val (.long q0), .second, .val (.long q1), .second, .val (.long ((q0 ||| (595056260442243600 : Int64)) - (q1 &&& (-595056260442243601 : Int64)))), .second, .unset, .unset, .unset, .unset, .unset, .unset] []))
  generalize hv3 : ((q0 ||| (595056260442243600 : Int64)) - (q1 &&& (-595056260442243601 : Int64))) = v3
  refine Ends.via (fun _ k => XS.lloadN X0.here hx rfl (hb hby d1_13) rfl k) ?_
  show Ends p e below s ROOM1.cells ROOM1.slots (Q1 Z q0 q1  h0 n0) (s₁.setTop (mkF m 14 #[.val (.long q0), .second, .val (.long q1), .second, .val (.long v3), .second, .unset, .unset, .unset, .unset, .unset, .unset] [(.long q0)]))
  refine Ends.via (fun _ k => XS.lloadN X0.here hx rfl (hb hby d1_14) rfl k) ?_
  show Ends p e below s ROOM1.cells ROOM1.slots (Q1 Z q0 q1  h0 n0) (s₁.setTop (mkF m 15 #[.val (.long q0), .second, .val (.long q1), .second, .val (.long v3), .second, .unset, .unset, .unset, .unset, .unset, .unset] [(.long q1), (.long q0)]))
  refine Ends.via (fun _ k => XS.lxor X0.here hx rfl (hb hby d1_15) rfl k) ?_
  show Ends p e below s ROOM1.cells ROOM1.slots (Q1 Z q0 q1  h0 n0) (s₁.setTop (mkF m 16 #[.val (.long q0), .second, .val (.long q1), .second, .val (.long v3), .second, .unset, .unset, .unset, .unset, .unset, .unset] [(.long (q0 ^^^ q1))]))
  refine Ends.via (fun _ k => XS.lstore X0.here hx rfl (hb hby d1_16) rfl (l' := #[.val (.long q0), .second, .val (.long q1), .second, .val (.long v3), .second, .val (.long (q0 ^^^ q1)), .second, .unset, .unset, .unset, .unset]) rfl k) ?_
  show Ends p e below s ROOM1.cells ROOM1.slots (Q1 Z q0 q1  h0 n0) (s₁.setTop (mkF m 18 #[.val (.long q0), .second, .val (.long q1), .second, .val (.long v3), .second, .val (.long (q0 ^^^ q1)), .second, .unset, .unset, .unset, .unset] []))
  refine Ends.via (fun _ k => XS.lloadN X0.here hx rfl (hb hby d1_18) rfl k) ?_
  show Ends p e below s ROOM1.cells ROOM1.slots (Q1 Z q0 q1  h0 n0) (s₁.setTop (mkF m 19 #[.val (.long q0), .second, .val (.long q1), .second, .val (.long v3), .second, .val (.long (q0 ^^^ q1)), .second, .unset, .unset, .unset, .unset] [(.long q0)]))
  refine Ends.via (fun _ k => XS.lloadN X0.here hx rfl (hb hby d1_19) rfl k) ?_
  show Ends p e below s ROOM1.cells ROOM1.slots (Q1 Z q0 q1  h0 n0) (s₁.setTop (mkF m 20 #[.val (.long q0), .second, .val (.long q1), .second, .val (.long v3), .second, .val (.long (q0 ^^^ q1)), .second, .unset, .unset, .unset, .unset] [(.long q1), (.long q0)]))
  refine Ends.via (X0.ldc2Long hx hown (mvT hZ (hw _ (List.mem_of_getElem? (i := 7) rfl))) (g := (mkF m 20 #[.val (.long q0), .second, .val (.long q1), .second, .val (.long v3), .second, .val (.long (q0 ^^^ q1)), .second, .unset, .unset, .unset, .unset] [(.long q1), (.long q0)])) rfl (hb hby d1_20)) ?_
  show Ends p e below s ROOM1.cells ROOM1.slots (Q1 Z q0 q1  h0 n0) (s₁.setTop (mkF m 23 #[.val (.long q0), .second, .val (.long q1), .second, .val (.long v3), .second, .val (.long (q0 ^^^ q1)), .second, .unset, .unset, .unset, .unset] [(.long (-1 : Int64)), (.long q1), (.long q0)]))
  refine Ends.via (fun _ k => XS.lxor X0.here hx rfl (hb hby d1_23) rfl k) ?_
  show Ends p e below s ROOM1.cells ROOM1.slots (Q1 Z q0 q1  h0 n0) (s₁.setTop (mkF m 24 #[.val (.long q0), .second, .val (.long q1), .second, .val (.long v3), .second, .val (.long (q0 ^^^ q1)), .second, .unset, .unset, .unset, .unset] [(.long (q1 ^^^ (-1 : Int64))), (.long q0)]))
  refine Ends.via (fun _ k => XS.land X0.here hx rfl (hb hby d1_24) rfl k) ?_
  show Ends p e below s ROOM1.cells ROOM1.slots (Q1 Z q0 q1  h0 n0) (s₁.setTop (mkF m 25 #[.val (.long q0), .second, .val (.long q1), .second, .val (.long v3), .second, .val (.long (q0 ^^^ q1)), .second, .unset, .unset, .unset, .unset] [(.long (q0 &&& (q1 ^^^ (-1 : Int64))))]))
  refine Ends.via (fun _ k => XS.lload X0.here hx rfl (hb hby d1_25) rfl k) ?_
  show Ends p e below s ROOM1.cells ROOM1.slots (Q1 Z q0 q1  h0 n0) (s₁.setTop (mkF m 27 #[.val (.long q0), .second, .val (.long q1), .second, .val (.long v3), .second, .val (.long (q0 ^^^ q1)), .second, .unset, .unset, .unset, .unset] [(.long (q0 ^^^ q1)), (.long (q0 &&& (q1 ^^^ (-1 : Int64))))]))
  refine Ends.via (X0.ldc2Long hx hown (mvT hZ (hw _ (List.mem_of_getElem? (i := 7) rfl))) (g := (mkF m 27 #[.val (.long q0), .second, .val (.long q1), .second, .val (.long v3), .second, .val (.long (q0 ^^^ q1)), .second, .unset, .unset, .unset, .unset] [(.long (q0 ^^^ q1)), (.long (q0 &&& (q1 ^^^ (-1 : Int64))))])) rfl (hb hby d1_27)) ?_
  show Ends p e below s ROOM1.cells ROOM1.slots (Q1 Z q0 q1  h0 n0) (s₁.setTop (mkF m 30 #[.val (.long q0), .second, .val (.long q1), .second, .val (.long v3), .second, .val (.long (q0 ^^^ q1)), .second, .unset, .unset, .unset, .unset] [(.long (-1 : Int64)), (.long (q0 ^^^ q1)), (.long (q0 &&& (q1 ^^^ (-1 : Int64))))]))
  refine Ends.via (fun _ k => XS.lxor X0.here hx rfl (hb hby d1_30) rfl k) ?_
  show Ends p e below s ROOM1.cells ROOM1.slots (Q1 Z q0 q1  h0 n0) (s₁.setTop (mkF m 31 #[.val (.long q0), .second, .val (.long q1), .second, .val (.long v3), .second, .val (.long (q0 ^^^ q1)), .second, .unset, .unset, .unset, .unset] [(.long ((q0 ^^^ q1) ^^^ (-1 : Int64))), (.long (q0 &&& (q1 ^^^ (-1 : Int64))))]))
  refine Ends.via (fun _ k => XS.lload X0.here hx rfl (hb hby d1_31) rfl k) ?_
  show Ends p e below s ROOM1.cells ROOM1.slots (Q1 Z q0 q1  h0 n0) (s₁.setTop (mkF m 33 #[.val (.long q0), .second, .val (.long q1), .second, .val (.long v3), .second, .val (.long (q0 ^^^ q1)), .second, .unset, .unset, .unset, .unset] [(.long v3), (.long ((q0 ^^^ q1) ^^^ (-1 : Int64))), (.long (q0 &&& (q1 ^^^ (-1 : Int64))))]))
  refine Ends.via (fun _ k => XS.land X0.here hx rfl (hb hby d1_33) rfl k) ?_
  show Ends p e below s ROOM1.cells ROOM1.slots (Q1 Z q0 q1  h0 n0) (s₁.setTop (mkF m 34 #[.val (.long q0), .second, .val (.long q1), .second, .val (.long v3), .second, .val (.long (q0 ^^^ q1)), .second, .unset, .unset, .unset, .unset] [(.long (((q0 ^^^ q1) ^^^ (-1 : Int64)) &&& v3)), (.long (q0 &&& (q1 ^^^ (-1 : Int64))))]))
  refine Ends.via (fun _ k => XS.lor X0.here hx rfl (hb hby d1_34) rfl k) ?_
  show Ends p e below s ROOM1.cells ROOM1.slots (Q1 Z q0 q1  h0 n0) (s₁.setTop (mkF m 35 #[.val (.long q0), .second, .val (.long q1), .second, .val (.long v3), .second, .val (.long (q0 ^^^ q1)), .second, .unset, .unset, .unset, .unset] [(.long ((q0 &&& (q1 ^^^ (-1 : Int64))) ||| (((q0 ^^^ q1) ^^^ (-1 : Int64)) &&& v3)))]))
  refine Ends.via (X0.ldc2Long hx hown (mvT hZ (hw _ (List.mem_of_getElem? (i := 5) rfl))) (g := (mkF m 35 #[.val (.long q0), .second, .val (.long q1), .second, .val (.long v3), .second, .val (.long (q0 ^^^ q1)), .second, .unset, .unset, .unset, .unset] [(.long ((q0 &&& (q1 ^^^ (-1 : Int64))) ||| (((q0 ^^^ q1) ^^^ (-1 : Int64)) &&& v3)))])) rfl (hb hby d1_35)) ?_
  show Ends p e below s ROOM1.cells ROOM1.slots (Q1 Z q0 q1  h0 n0) (s₁.setTop (mkF m 38 #[.val (.long q0), .second, .val (.long q1), .second, .val (.long v3), .second, .val (.long (q0 ^^^ q1)), .second, .unset, .unset, .unset, .unset] [(.long (595056260442243600 : Int64)), (.long ((q0 &&& (q1 ^^^ (-1 : Int64))) ||| (((q0 ^^^ q1) ^^^ (-1 : Int64)) &&& v3)))]))
  refine Ends.via (fun _ k => XS.land X0.here hx rfl (hb hby d1_38) rfl k) ?_
  show Ends p e below s ROOM1.cells ROOM1.slots (Q1 Z q0 q1  h0 n0) (s₁.setTop (mkF m 39 #[.val (.long q0), .second, .val (.long q1), .second, .val (.long v3), .second, .val (.long (q0 ^^^ q1)), .second, .unset, .unset, .unset, .unset] [(.long (((q0 &&& (q1 ^^^ (-1 : Int64))) ||| (((q0 ^^^ q1) ^^^ (-1 : Int64)) &&& v3)) &&& (595056260442243600 : Int64)))]))
  refine Ends.via (fun _ k => XS.lstore X0.here hx rfl (hb hby d1_39) rfl (l' := #[.val (.long q0), .second, .val (.long q1), .second, .val (.long v3), .second, .val (.long (q0 ^^^ q1)), .second, .val (.long (((q0 &&& (q1 ^^^ (-1 : Int64))) ||| (((q0 ^^^ q1) ^^^ (-1 : Int64)) &&& v3)) &&& (595056260442243600 : Int64))), .second, .unset, .unset]) rfl k) ?_
  show Ends p e below s ROOM1.cells ROOM1.slots (Q1 Z q0 q1  h0 n0) (s₁.setTop (mkF m 41 #[.val (.long q0), .second, .val (.long q1), .second, .val (.long v3), .second, .val (.long (q0 ^^^ q1)), .second, .val (.long (((q0 &&& (q1 ^^^ (-1 : Int64))) ||| (((q0 ^^^ q1) ^^^ (-1 : Int64)) &&& v3)) &&& (595056260442243600 : Int64))), .second, .unset, .unset] []))
  generalize hv4 : (((q0 &&& (q1 ^^^ (-1 : Int64))) ||| (((q0 ^^^ q1) ^^^ (-1 : Int64)) &&& v3)) &&& (595056260442243600 : Int64)) = v4
  refine Ends.via (fun _ k => XS.lload X0.here hx rfl (hb hby d1_41) rfl k) ?_
  show Ends p e below s ROOM1.cells ROOM1.slots (Q1 Z q0 q1  h0 n0) (s₁.setTop (mkF m 43 #[.val (.long q0), .second, .val (.long q1), .second, .val (.long v3), .second, .val (.long (q0 ^^^ q1)), .second, .val (.long v4), .second, .unset, .unset] [(.long v4)]))
  refine Ends.via (fun _ k => XS.lload X0.here hx rfl (hb hby d1_43) rfl k) ?_
  show Ends p e below s ROOM1.cells ROOM1.slots (Q1 Z q0 q1  h0 n0) (s₁.setTop (mkF m 45 #[.val (.long q0), .second, .val (.long q1), .second, .val (.long v3), .second, .val (.long (q0 ^^^ q1)), .second, .val (.long v4), .second, .unset, .unset] [(.long v4), (.long v4)]))
  refine Ends.via (fun _ k => XS.lload X0.here hx rfl (hb hby d1_45) rfl k) ?_
  show Ends p e below s ROOM1.cells ROOM1.slots (Q1 Z q0 q1  h0 n0) (s₁.setTop (mkF m 47 #[.val (.long q0), .second, .val (.long q1), .second, .val (.long v3), .second, .val (.long (q0 ^^^ q1)), .second, .val (.long v4), .second, .unset, .unset] [(.long v4), (.long v4), (.long v4)]))
  refine Ends.via (fun _ k => XS.iconst X0.here hx rfl (hb hby d1_47) k) ?_
  show Ends p e below s ROOM1.cells ROOM1.slots (Q1 Z q0 q1  h0 n0) (s₁.setTop (mkF m 48 #[.val (.long q0), .second, .val (.long q1), .second, .val (.long v3), .second, .val (.long (q0 ^^^ q1)), .second, .val (.long v4), .second, .unset, .unset] [(.int (4 : Int32)), (.long v4), (.long v4), (.long v4)]))
  refine Ends.via (fun _ k => XS.lushr X0.here hx rfl (hb hby d1_48) rfl k) ?_
  show Ends p e below s ROOM1.cells ROOM1.slots (Q1 Z q0 q1  h0 n0) (s₁.setTop (mkF m 49 #[.val (.long q0), .second, .val (.long q1), .second, .val (.long v3), .second, .val (.long (q0 ^^^ q1)), .second, .val (.long v4), .second, .unset, .unset] [(.long ((v4.toUInt64 >>> ((4 : Int32) &&& 0x3f).toInt64.toUInt64).toInt64)), (.long v4), (.long v4)]))
  refine Ends.via (fun _ k => XS.lsub X0.here hx rfl (hb hby d1_49) rfl k) ?_
  show Ends p e below s ROOM1.cells ROOM1.slots (Q1 Z q0 q1  h0 n0) (s₁.setTop (mkF m 50 #[.val (.long q0), .second, .val (.long q1), .second, .val (.long v3), .second, .val (.long (q0 ^^^ q1)), .second, .val (.long v4), .second, .unset, .unset] [(.long (v4 - ((v4.toUInt64 >>> ((4 : Int32) &&& 0x3f).toInt64.toUInt64).toInt64))), (.long v4)]))
  refine Ends.via (fun _ k => XS.lor X0.here hx rfl (hb hby d1_50) rfl k) ?_
  show Ends p e below s ROOM1.cells ROOM1.slots (Q1 Z q0 q1  h0 n0) (s₁.setTop (mkF m 51 #[.val (.long q0), .second, .val (.long q1), .second, .val (.long v3), .second, .val (.long (q0 ^^^ q1)), .second, .val (.long v4), .second, .unset, .unset] [(.long (v4 ||| (v4 - ((v4.toUInt64 >>> ((4 : Int32) &&& 0x3f).toInt64.toUInt64).toInt64))))]))
  refine Ends.via (fun _ k => XS.lstore X0.here hx rfl (hb hby d1_51) rfl (l' := #[.val (.long q0), .second, .val (.long q1), .second, .val (.long v3), .second, .val (.long (q0 ^^^ q1)), .second, .val (.long v4), .second, .val (.long (v4 ||| (v4 - ((v4.toUInt64 >>> ((4 : Int32) &&& 0x3f).toInt64.toUInt64).toInt64)))), .second]) rfl k) ?_
  show Ends p e below s ROOM1.cells ROOM1.slots (Q1 Z q0 q1  h0 n0) (s₁.setTop (mkF m 53 #[.val (.long q0), .second, .val (.long q1), .second, .val (.long v3), .second, .val (.long (q0 ^^^ q1)), .second, .val (.long v4), .second, .val (.long (v4 ||| (v4 - ((v4.toUInt64 >>> ((4 : Int32) &&& 0x3f).toInt64.toUInt64).toInt64)))), .second] []))
  generalize hv5 : (v4 ||| (v4 - ((v4.toUInt64 >>> ((4 : Int32) &&& 0x3f).toInt64.toUInt64).toInt64))) = v5
  refine Ends.via (fun _ k => XS.lloadN X0.here hx rfl (hb hby d1_53) rfl k) ?_
  show Ends p e below s ROOM1.cells ROOM1.slots (Q1 Z q0 q1  h0 n0) (s₁.setTop (mkF m 54 #[.val (.long q0), .second, .val (.long q1), .second, .val (.long v3), .second, .val (.long (q0 ^^^ q1)), .second, .val (.long v4), .second, .val (.long v5), .second] [(.long q1)]))
  refine Ends.via (fun _ k => XS.lload X0.here hx rfl (hb hby d1_54) rfl k) ?_
  show Ends p e below s ROOM1.cells ROOM1.slots (Q1 Z q0 q1  h0 n0) (s₁.setTop (mkF m 56 #[.val (.long q0), .second, .val (.long q1), .second, .val (.long v3), .second, .val (.long (q0 ^^^ q1)), .second, .val (.long v4), .second, .val (.long v5), .second] [(.long (q0 ^^^ q1)), (.long q1)]))
  refine Ends.via (fun _ k => XS.lload X0.here hx rfl (hb hby d1_56) rfl k) ?_
  show Ends p e below s ROOM1.cells ROOM1.slots (Q1 Z q0 q1  h0 n0) (s₁.setTop (mkF m 58 #[.val (.long q0), .second, .val (.long q1), .second, .val (.long v3), .second, .val (.long (q0 ^^^ q1)), .second, .val (.long v4), .second, .val (.long v5), .second] [(.long v5), (.long (q0 ^^^ q1)), (.long q1)]))
  refine Ends.via (fun _ k => XS.land X0.here hx rfl (hb hby d1_58) rfl k) ?_
  show Ends p e below s ROOM1.cells ROOM1.slots (Q1 Z q0 q1  h0 n0) (s₁.setTop (mkF m 59 #[.val (.long q0), .second, .val (.long q1), .second, .val (.long v3), .second, .val (.long (q0 ^^^ q1)), .second, .val (.long v4), .second, .val (.long v5), .second] [(.long ((q0 ^^^ q1) &&& v5)), (.long q1)]))
  refine Ends.via (fun _ k => XS.lxor X0.here hx rfl (hb hby d1_59) rfl k) ?_
  show Ends p e below s ROOM1.cells ROOM1.slots (Q1 Z q0 q1  h0 n0) (s₁.setTop (mkF m 60 #[.val (.long q0), .second, .val (.long q1), .second, .val (.long v3), .second, .val (.long (q0 ^^^ q1)), .second, .val (.long v4), .second, .val (.long v5), .second] [(.long (q1 ^^^ ((q0 ^^^ q1) &&& v5)))]))
  refine Ends.ret X0 (v := some (.long (q1 ^^^ ((q0 ^^^ q1) &&& v5)))) (fun h => by rw [Bd.returns] at h; cases h) Bd.notSynchronized (fun fs hr => retOut X0 hx Bd.returns rfl (Or.inr (Or.inl ⟨rfl, rfl, _, rfl⟩)) (hb hby d1_60) hr) ?_ (by decide) (by decide)
  have hfn : fn1 q0 q1 = (q1 ^^^ ((q0 ^^^ q1) &&& v5)) := by subst hv5; subst hv4; subst hv3; simp only [fn1]
  exact ⟨by rw [hfn], N0, e0⟩
theorem d3_0 : decode method_2_code 0 = .ok (.lload_n 0, 1) := by decide +kernel
theorem d3_1 : decode method_2_code 1 = .ok (.iconst 5, 1) := by decide +kernel
theorem d3_2 : decode method_2_code 2 = .ok (.iload_n 2, 1) := by decide +kernel
theorem d3_3 : decode method_2_code 3 = .ok (.imul, 1) := by decide +kernel
theorem d3_4 : decode method_2_code 4 = .ok (.lushr, 1) := by decide +kernel
theorem d3_5 : decode method_2_code 5 = .ok (.ldc2_w 7, 3) := by decide +kernel
theorem d3_8 : decode method_2_code 8 = .ok (.land, 1) := by decide +kernel
theorem d3_9 : decode method_2_code 9 = .ok (.l2i, 1) := by decide +kernel
theorem d3_10 : decode method_2_code 10 = .ok (.ireturn, 1) := by decide +kernel
theorem pn_3 : plainName "org/graphstride/HyperLogLogMaxPinLaw" = true := by first | (simp [plainName, overriddenIn]; done) | decide +kernel
theorem ef_3 (m : MethodId) (q0 : Int64) (p1 : Int32) : entryFrame m #[(.long q0), (.int p1)] 3 = mkF m 0 #[.val (.long q0), .second, .val (.int p1)] [] := by first | (simp [entryFrame, mkF, argsToLocals, Value.category]; done) | rfl
def fn3 (q0 : Int64) (p1 : Int32) : Int32 := ((((q0.toUInt64 >>> (((5 : Int32) * p1) &&& 0x3f).toInt64.toUInt64).toInt64) &&& (31 : Int64)).toInt32)
abbrev ROOM3 : Room := { frames := 0, cells := 0, slots := 0, locals := 0 }
def Q3 (Z : State) (q0 : Int64) (p1 : Int32)  (h0 : Heap) (n0 : Nat) (v : Option Value) (h : Heap) (L : List Loc) : Prop := v = some (.int (fn3 q0 p1)) ∧ Fr n0 L ∧ h = h0
set_option maxRecDepth 65536 in
set_option maxHeartbeats 40000000 in
theorem rm3 (l : Launch) (Z : State) (a0 : Array Value) (hw : ∀ d ∈ tables_1, d.before a0 Z = true) (ws : List Jvm.Cond) (q0 : Int64) (p1 : Int32)  (h0 : Heap) (n0 : Nat) (Z0 : n0 ≤ h0.size)  :
    MetFree l (⟨"org/graphstride/HyperLogLogMaxPinLaw", "reg", "(JI)I"⟩ : MethodName) (head1 (Jvm.Cond.code (⟨"org/graphstride/HyperLogLogMaxPinLaw", "reg", "(JI)I"⟩ : MethodName) method_2_code 3 (some .int) :: ws) ROOM3) (fun a U => a = #[(.long q0), (.int p1)] ∧ Z.Warmed39 U.vm ∧ U.heap = h0) (fun _ _ _ _ _ => True) (fun _ U o U' => ∃ v L, o = .returned v ∧ Q3 Z q0 p1  h0 n0 v U'.heap L ∧ FrameEnd U o U' L ROOM3.cells ROOM3.slots) := by
  refine MetFree.of_bodySF (plainFor_of_name pn_3) hisR ?_
  intro p e s m args below meth c s₁ Bd hml0 hP hK
  obtain ⟨rfl, hZ, hh⟩ := hP
  have hx := Bd.exec
  have hby := Bd.bytes
  have hml : c.maxLocals = 3 := hml0
  have hown : s.vm.findClass "org/graphstride/HyperLogLogMaxPinLaw" = some m.cls := findClass_of_methodNamed Bd.named
  have hnm := (name_of_methodNamed Bd.named Bd.method).1
  have X0 : Stand p l e ROOM3 s m #[(.long q0), (.int p1)] below meth c s₁ [] 0 0 := Stand.of_body Bd
  have e0 : s₁.heap = h0 := by rw [← hh, Bd.state]; rfl
  have N0 := Fr.nil n0
  refine Ends.via (A := s₁.setTop (mkF m 0 #[.val (.long q0), .second, .val (.int p1)] [])) (kc := ROOM3.cells) (ks := ROOM3.slots) (Q := (Q3 Z q0 p1  h0 n0)) (fun t k => castTop (ef_3 m q0 p1) k) ?_
  show Ends p e below s ROOM3.cells ROOM3.slots (Q3 Z q0 p1  h0 n0) (s₁.setTop (mkF m 0 #[.val (.long q0), .second, .val (.int p1)] []))
  refine Ends.via (fun _ k => XS.lloadN X0.here hx rfl (hb hby d3_0) rfl k) ?_
  show Ends p e below s ROOM3.cells ROOM3.slots (Q3 Z q0 p1  h0 n0) (s₁.setTop (mkF m 1 #[.val (.long q0), .second, .val (.int p1)] [(.long q0)]))
  refine Ends.via (fun _ k => XS.iconst X0.here hx rfl (hb hby d3_1) k) ?_
  show Ends p e below s ROOM3.cells ROOM3.slots (Q3 Z q0 p1  h0 n0) (s₁.setTop (mkF m 2 #[.val (.long q0), .second, .val (.int p1)] [(.int (5 : Int32)), (.long q0)]))
  refine Ends.via (fun _ k => XS.iloadN X0.here hx rfl (hb hby d3_2) rfl k) ?_
  show Ends p e below s ROOM3.cells ROOM3.slots (Q3 Z q0 p1  h0 n0) (s₁.setTop (mkF m 3 #[.val (.long q0), .second, .val (.int p1)] [(.int p1), (.int (5 : Int32)), (.long q0)]))
  refine Ends.via (fun _ k => XS.imul X0.here hx rfl (hb hby d3_3) rfl k) ?_
  show Ends p e below s ROOM3.cells ROOM3.slots (Q3 Z q0 p1  h0 n0) (s₁.setTop (mkF m 4 #[.val (.long q0), .second, .val (.int p1)] [(.int ((5 : Int32) * p1)), (.long q0)]))
  refine Ends.via (fun _ k => XS.lushr X0.here hx rfl (hb hby d3_4) rfl k) ?_
  show Ends p e below s ROOM3.cells ROOM3.slots (Q3 Z q0 p1  h0 n0) (s₁.setTop (mkF m 5 #[.val (.long q0), .second, .val (.int p1)] [(.long ((q0.toUInt64 >>> (((5 : Int32) * p1) &&& 0x3f).toInt64.toUInt64).toInt64))]))
  refine Ends.via (X0.ldc2Long hx hown (mvT hZ (hw _ (List.mem_of_getElem? (i := 15) rfl))) (g := (mkF m 5 #[.val (.long q0), .second, .val (.int p1)] [(.long ((q0.toUInt64 >>> (((5 : Int32) * p1) &&& 0x3f).toInt64.toUInt64).toInt64))])) rfl (hb hby d3_5)) ?_
  show Ends p e below s ROOM3.cells ROOM3.slots (Q3 Z q0 p1  h0 n0) (s₁.setTop (mkF m 8 #[.val (.long q0), .second, .val (.int p1)] [(.long (31 : Int64)), (.long ((q0.toUInt64 >>> (((5 : Int32) * p1) &&& 0x3f).toInt64.toUInt64).toInt64))]))
  refine Ends.via (fun _ k => XS.land X0.here hx rfl (hb hby d3_8) rfl k) ?_
  show Ends p e below s ROOM3.cells ROOM3.slots (Q3 Z q0 p1  h0 n0) (s₁.setTop (mkF m 9 #[.val (.long q0), .second, .val (.int p1)] [(.long (((q0.toUInt64 >>> (((5 : Int32) * p1) &&& 0x3f).toInt64.toUInt64).toInt64) &&& (31 : Int64)))]))
  refine Ends.via (fun _ k => XS.l2i X0.here hx rfl (hb hby d3_9) rfl k) ?_
  show Ends p e below s ROOM3.cells ROOM3.slots (Q3 Z q0 p1  h0 n0) (s₁.setTop (mkF m 10 #[.val (.long q0), .second, .val (.int p1)] [(.int ((((q0.toUInt64 >>> (((5 : Int32) * p1) &&& 0x3f).toInt64.toUInt64).toInt64) &&& (31 : Int64)).toInt32))]))
  refine Ends.ret X0 (v := some (.int ((((q0.toUInt64 >>> (((5 : Int32) * p1) &&& 0x3f).toInt64.toUInt64).toInt64) &&& (31 : Int64)).toInt32))) (fun h => by rw [Bd.returns] at h; cases h) Bd.notSynchronized (fun fs hr => retI X0 hx Bd.returns (hb hby d3_10) hr) ?_ (by decide) (by decide)
  have hfn : fn3 q0 p1 = ((((q0.toUInt64 >>> (((5 : Int32) * p1) &&& 0x3f).toInt64.toUInt64).toInt64) &&& (31 : Int64)).toInt32) := by simp only [fn3]
  exact ⟨by rw [hfn], N0, e0⟩
theorem d4_0 : decode jdk_29_method_65_code 0 = .ok (.iload_n 0, 1) := by decide +kernel
theorem d4_1 : decode jdk_29_method_65_code 1 = .ok (.iload_n 1, 1) := by decide +kernel
theorem d4_2 : decode jdk_29_method_65_code 2 = .ok (.if_icmp .lt 7, 3) := by decide +kernel
theorem d4_5 : decode jdk_29_method_65_code 5 = .ok (.iload_n 0, 1) := by decide +kernel
theorem d4_6 : decode jdk_29_method_65_code 6 = .ok (.goto 4, 3) := by decide +kernel
theorem d4_9 : decode jdk_29_method_65_code 9 = .ok (.iload_n 1, 1) := by decide +kernel
theorem d4_10 : decode jdk_29_method_65_code 10 = .ok (.ireturn, 1) := by decide +kernel
theorem ef_4 (m : MethodId) (p0 : Int32) (p1 : Int32) : entryFrame m #[(.int p0), (.int p1)] 2 = mkF m 0 #[.val (.int p0), .val (.int p1)] [] := by first | (simp [entryFrame, mkF, argsToLocals, Value.category]; done) | rfl
def fn4 (p0 : Int32) (p1 : Int32) : Int32 := (if p0 < p1 then p1 else p0)
abbrev ROOM4 : Room := { frames := 0, cells := 0, slots := 0, locals := 0 }
def Q4 (Z : State) (p0 : Int32) (p1 : Int32)  (h0 : Heap) (n0 : Nat) (v : Option Value) (h : Heap) (L : List Loc) : Prop := v = some (.int (fn4 p0 p1)) ∧ Fr n0 L ∧ h = h0
set_option maxRecDepth 65536 in
set_option maxHeartbeats 40000000 in
theorem rm4 (l : Launch) (Z : State) (a0 : Array Value) (hw : ∀ d ∈ tables_1, d.before a0 Z = true) (ws : List Jvm.Cond) (p0 : Int32) (p1 : Int32)  (h0 : Heap) (n0 : Nat) (Z0 : n0 ≤ h0.size)  :
    MetFree l (⟨"java/lang/Math", "max", "(II)I"⟩ : MethodName) (head1 (Jvm.Cond.code (⟨"java/lang/Math", "max", "(II)I"⟩ : MethodName) jdk_29_method_65_code 2 (some .int) :: ws) ROOM4) (fun a U => a = #[(.int p0), (.int p1)] ∧ Z.Warmed39 U.vm ∧ U.heap = h0) (fun _ _ _ _ _ => True) (fun _ U o U' => ∃ v L, o = .returned v ∧ Q4 Z p0 p1  h0 n0 v U'.heap L ∧ FrameEnd U o U' L ROOM4.cells ROOM4.slots) := by
  refine MetFree.of_bodySF (Jvm.Free.JP.mathPlain rfl (by decide +kernel)) hisR ?_
  intro p e s m args below meth c s₁ Bd hml0 hP hK
  obtain ⟨rfl, hZ, hh⟩ := hP
  have hx := Bd.exec
  have hby := Bd.bytes
  have hml : c.maxLocals = 2 := hml0
  have hown : s.vm.findClass "java/lang/Math" = some m.cls := findClass_of_methodNamed Bd.named
  have hnm := (name_of_methodNamed Bd.named Bd.method).1
  have X0 : Stand p l e ROOM4 s m #[(.int p0), (.int p1)] below meth c s₁ [] 0 0 := Stand.of_body Bd
  have e0 : s₁.heap = h0 := by rw [← hh, Bd.state]; rfl
  have N0 := Fr.nil n0
  refine Ends.via (A := s₁.setTop (mkF m 0 #[.val (.int p0), .val (.int p1)] [])) (kc := ROOM4.cells) (ks := ROOM4.slots) (Q := (Q4 Z p0 p1  h0 n0)) (fun t k => castTop (ef_4 m p0 p1) k) ?_
  show Ends p e below s ROOM4.cells ROOM4.slots (Q4 Z p0 p1  h0 n0) (s₁.setTop (mkF m 0 #[.val (.int p0), .val (.int p1)] []))
  refine Ends.via (fun _ k => XS.iloadN X0.here hx rfl (hb hby d4_0) rfl k) ?_
  show Ends p e below s ROOM4.cells ROOM4.slots (Q4 Z p0 p1  h0 n0) (s₁.setTop (mkF m 1 #[.val (.int p0), .val (.int p1)] [(.int p0)]))
  refine Ends.via (fun _ k => XS.iloadN X0.here hx rfl (hb hby d4_1) rfl k) ?_
  show Ends p e below s ROOM4.cells ROOM4.slots (Q4 Z p0 p1  h0 n0) (s₁.setTop (mkF m 2 #[.val (.int p0), .val (.int p1)] [(.int p1), (.int p0)]))
  by_cases hc11 : p0 < p1
  · refine Ends.via (fun _ k => XS.icmpYes X0.here hx rfl (pc0 := 2) (pc' := 9) rfl (hb hby d4_2) rfl (tlt hc11).1 (by decide) (by decide) k) ?_
    show Ends p e below s ROOM4.cells ROOM4.slots (Q4 Z p0 p1  h0 n0) (s₁.setTop (mkF m 9 #[.val (.int p0), .val (.int p1)] []))
    refine Ends.via (fun _ k => XS.iloadN X0.here hx rfl (hb hby d4_9) rfl k) ?_
    show Ends p e below s ROOM4.cells ROOM4.slots (Q4 Z p0 p1  h0 n0) (s₁.setTop (mkF m 10 #[.val (.int p0), .val (.int p1)] [(.int p1)]))
    refine Ends.ret X0 (v := some (.int p1)) (fun h => by rw [Bd.returns] at h; cases h) Bd.notSynchronized (fun fs hr => retI X0 hx Bd.returns (hb hby d4_10) hr) ?_ (by decide) (by decide)
    have hfn : fn4 p0 p1 = p1 := by simp only [fn4, if_pos hc11]
    exact ⟨by rw [hfn], N0, e0⟩
  · refine Ends.via (fun _ k => XS.icmpNo X0.here hx rfl (hb hby d4_2) rfl (flt hc11).1 k) ?_
    show Ends p e below s ROOM4.cells ROOM4.slots (Q4 Z p0 p1  h0 n0) (s₁.setTop (mkF m 5 #[.val (.int p0), .val (.int p1)] []))
    refine Ends.via (fun _ k => XS.iloadN X0.here hx rfl (hb hby d4_5) rfl k) ?_
    show Ends p e below s ROOM4.cells ROOM4.slots (Q4 Z p0 p1  h0 n0) (s₁.setTop (mkF m 6 #[.val (.int p0), .val (.int p1)] [(.int p0)]))
    refine Ends.via (fun _ k => XS.goto X0.here hx rfl (pc0 := 6) (pc' := 10) rfl (hb hby d4_6) (by decide) (by decide) k) ?_
    show Ends p e below s ROOM4.cells ROOM4.slots (Q4 Z p0 p1  h0 n0) (s₁.setTop (mkF m 10 #[.val (.int p0), .val (.int p1)] [(.int p0)]))
    refine Ends.ret X0 (v := some (.int p0)) (fun h => by rw [Bd.returns] at h; cases h) Bd.notSynchronized (fun fs hr => retI X0 hx Bd.returns (hb hby d4_10) hr) ?_ (by decide) (by decide)
    have hfn : fn4 p0 p1 = p0 := by simp only [fn4, if_neg hc11]
    exact ⟨by rw [hfn], N0, e0⟩
theorem d2_0 : decode method_3_code 0 = .ok (.lload 4, 2) := by decide +kernel
theorem d2_2 : decode method_3_code 2 = .ok (.iload 6, 2) := by decide +kernel
theorem d2_4 : decode method_3_code 4 = .ok (.invokestatic 9, 3) := by decide +kernel
theorem d2_7 : decode method_3_code 7 = .ok (.lload_n 0, 1) := by decide +kernel
theorem d2_8 : decode method_3_code 8 = .ok (.iload 6, 2) := by decide +kernel
theorem d2_10 : decode method_3_code 10 = .ok (.invokestatic 9, 3) := by decide +kernel
theorem d2_13 : decode method_3_code 13 = .ok (.lload_n 2, 1) := by decide +kernel
theorem d2_14 : decode method_3_code 14 = .ok (.iload 6, 2) := by decide +kernel
theorem d2_16 : decode method_3_code 16 = .ok (.invokestatic 9, 3) := by decide +kernel
theorem d2_19 : decode method_3_code 19 = .ok (.invokestatic 15, 3) := by decide +kernel
theorem d2_22 : decode method_3_code 22 = .ok (.if_icmp .ne 7, 3) := by decide +kernel
theorem d2_25 : decode method_3_code 25 = .ok (.iconst 1, 1) := by decide +kernel
theorem d2_26 : decode method_3_code 26 = .ok (.goto 4, 3) := by decide +kernel
theorem d2_29 : decode method_3_code 29 = .ok (.iconst 0, 1) := by decide +kernel
theorem d2_30 : decode method_3_code 30 = .ok (.ireturn, 1) := by decide +kernel
theorem pn_2 : plainName "org/graphstride/HyperLogLogMaxPinLaw" = true := by first | (simp [plainName, overriddenIn]; done) | decide +kernel
theorem ef_2 (m : MethodId) (q0 : Int64) (q1 : Int64) (q2 : Int64) (p3 : Int32) : entryFrame m #[(.long q0), (.long q1), (.long q2), (.int p3)] 7 = mkF m 0 #[.val (.long q0), .second, .val (.long q1), .second, .val (.long q2), .second, .val (.int p3)] [] := by first | (simp [entryFrame, mkF, argsToLocals, Value.category]; done) | rfl
def fn2 (q0 : Int64) (q1 : Int64) (q2 : Int64) (p3 : Int32) : Int32 := (if (fn3 q2 p3) = (fn4 (fn3 q0 p3) (fn3 q1 p3)) then (1 : Int32) else (0 : Int32))
abbrev ROOM2 : Room := { frames := 1, cells := 0, slots := 0, locals := 16 }
def Q2 (Z : State) (q0 : Int64) (q1 : Int64) (q2 : Int64) (p3 : Int32)  (h0 : Heap) (n0 : Nat) (v : Option Value) (h : Heap) (L : List Loc) : Prop := v = some (.int (fn2 q0 q1 q2 p3)) ∧ Fr n0 L ∧ h = h0
set_option maxRecDepth 65536 in
set_option maxHeartbeats 40000000 in
theorem rm2 (l : Launch) (Z : State) (a0 : Array Value) (hw : ∀ d ∈ tables_1, d.before a0 Z = true) (ws : List Jvm.Cond) (q0 : Int64) (q1 : Int64) (q2 : Int64) (p3 : Int32)  (h0 : Heap) (n0 : Nat) (Z0 : n0 ≤ h0.size)  :
    MetFree l (⟨"org/graphstride/HyperLogLogMaxPinLaw", "ok", "(JJJI)Z"⟩ : MethodName) (head1 (Jvm.Cond.code (⟨"org/graphstride/HyperLogLogMaxPinLaw", "ok", "(JJJI)Z"⟩ : MethodName) method_3_code 7 (some .boolean) :: ws) ROOM2) (fun a U => a = #[(.long q0), (.long q1), (.long q2), (.int p3)] ∧ Z.Warmed39 U.vm ∧ U.heap = h0) (fun _ _ _ _ _ => True) (fun _ U o U' => ∃ v L, o = .returned v ∧ Q2 Z q0 q1 q2 p3  h0 n0 v U'.heap L ∧ FrameEnd U o U' L ROOM2.cells ROOM2.slots) := by
  refine MetFree.of_bodySF (plainFor_of_name pn_2) hisR ?_
  intro p e s m args below meth c s₁ Bd hml0 hP hK
  obtain ⟨rfl, hZ, hh⟩ := hP
  have hx := Bd.exec
  have hby := Bd.bytes
  have hml : c.maxLocals = 7 := hml0
  have hown : s.vm.findClass "org/graphstride/HyperLogLogMaxPinLaw" = some m.cls := findClass_of_methodNamed Bd.named
  have hnm := (name_of_methodNamed Bd.named Bd.method).1
  have X0 : Stand p l e ROOM2 s m #[(.long q0), (.long q1), (.long q2), (.int p3)] below meth c s₁ [] 0 0 := Stand.of_body Bd
  have e0 : s₁.heap = h0 := by rw [← hh, Bd.state]; rfl
  have N0 := Fr.nil n0
  refine Ends.via (A := s₁.setTop (mkF m 0 #[.val (.long q0), .second, .val (.long q1), .second, .val (.long q2), .second, .val (.int p3)] [])) (kc := ROOM2.cells) (ks := ROOM2.slots) (Q := (Q2 Z q0 q1 q2 p3  h0 n0)) (fun t k => castTop (ef_2 m q0 q1 q2 p3) k) ?_
  show Ends p e below s ROOM2.cells ROOM2.slots (Q2 Z q0 q1 q2 p3  h0 n0) (s₁.setTop (mkF m 0 #[.val (.long q0), .second, .val (.long q1), .second, .val (.long q2), .second, .val (.int p3)] []))
  refine Ends.via (fun _ k => XS.lload X0.here hx rfl (hb hby d2_0) rfl k) ?_
  show Ends p e below s ROOM2.cells ROOM2.slots (Q2 Z q0 q1 q2 p3  h0 n0) (s₁.setTop (mkF m 2 #[.val (.long q0), .second, .val (.long q1), .second, .val (.long q2), .second, .val (.int p3)] [(.long q2)]))
  refine Ends.via (fun _ k => XS.iload X0.here hx rfl (hb hby d2_2) rfl k) ?_
  show Ends p e below s ROOM2.cells ROOM2.slots (Q2 Z q0 q1 q2 p3  h0 n0) (s₁.setTop (mkF m 4 #[.val (.long q0), .second, .val (.long q1), .second, .val (.long q2), .second, .val (.int p3)] [(.int p3), (.long q2)]))
  obtain ⟨_, _, ⟨T8, L8, k8, n8⟩, -, X8, ⟨Lc8, hQ8, l8, y8, z8⟩, st8⟩ := Jvm.LawKit.callS X0 hx (y := (⟨"org/graphstride/HyperLogLogMaxPinLaw", "reg", "(JI)I"⟩ : MethodName)) hown (mvT hZ (hw _ (List.mem_of_getElem? (i := 12) rfl))) (mvT hZ (hw _ (List.mem_of_getElem? (i := 13) rfl))) (mvT hZ (hw _ (List.mem_of_getElem? (i := 10) rfl))) (mvT hZ (hw _ (List.mem_of_getElem? (i := 14) rfl))) (by decide) (backOf (W := 0) (rm3 l Z a0 hw [] q2 p3 h0 n0 Z0) hZ (hw _ (List.mem_of_getElem? (i := 14) rfl)) (hw _ (List.mem_of_getElem? (i := 10) rfl)) (by decide) (by decide)) (g := (mkF m 4 #[.val (.long q0), .second, .val (.long q1), .second, .val (.long q2), .second, .val (.int p3)] [(.int p3), (.long q2)])) rfl (by rw [hml]; rfl) (argsL := [(.long q2), (.int p3)]) (rest := []) (lenOf own_pd1 rfl) rfl (by show 2 * 0 + _ ≤ _; exact Nat.le_of_eq rfl) (hb hby d2_4) (fun _ _ => ⟨rfl, e0, (by decide : 0 + 0 ≤ _), (by decide : 0 + 0 ≤ _)⟩)
  dsimp only [Pt.U, Pt.locs, Pt.cells, Pt.slots] at X8 l8 y8 z8 st8 hQ8
  subst l8 y8 z8
  obtain ⟨rfl, Nq8, e8⟩ := hQ8
  have N8 := Fr.app N0 Nq8
  refine Ends.via st8 ?_
  show Ends p e below s ROOM2.cells ROOM2.slots (Q2 Z q0 q1 q2 p3  h0 n0) (T8.setTop (mkF m 7 #[.val (.long q0), .second, .val (.long q1), .second, .val (.long q2), .second, .val (.int p3)] [(.int (fn3 q2 p3))]))
  refine Ends.via (fun _ k => XS.lloadN X8.here hx rfl (hb hby d2_7) rfl k) ?_
  show Ends p e below s ROOM2.cells ROOM2.slots (Q2 Z q0 q1 q2 p3  h0 n0) (T8.setTop (mkF m 8 #[.val (.long q0), .second, .val (.long q1), .second, .val (.long q2), .second, .val (.int p3)] [(.long q0), (.int (fn3 q2 p3))]))
  refine Ends.via (fun _ k => XS.iload X8.here hx rfl (hb hby d2_8) rfl k) ?_
  show Ends p e below s ROOM2.cells ROOM2.slots (Q2 Z q0 q1 q2 p3  h0 n0) (T8.setTop (mkF m 10 #[.val (.long q0), .second, .val (.long q1), .second, .val (.long q2), .second, .val (.int p3)] [(.int p3), (.long q0), (.int (fn3 q2 p3))]))
  obtain ⟨_, _, ⟨T9, L9, k9, n9⟩, -, X9, ⟨Lc9, hQ9, l9, y9, z9⟩, st9⟩ := Jvm.LawKit.callS X8 hx (y := (⟨"org/graphstride/HyperLogLogMaxPinLaw", "reg", "(JI)I"⟩ : MethodName)) hown (mvT hZ (hw _ (List.mem_of_getElem? (i := 12) rfl))) (mvT hZ (hw _ (List.mem_of_getElem? (i := 13) rfl))) (mvT hZ (hw _ (List.mem_of_getElem? (i := 10) rfl))) (mvT hZ (hw _ (List.mem_of_getElem? (i := 14) rfl))) (by decide) (backOf (W := 1) (rm3 l Z a0 hw [] q0 p3 h0 n0 Z0) hZ (hw _ (List.mem_of_getElem? (i := 14) rfl)) (hw _ (List.mem_of_getElem? (i := 10) rfl)) (by decide) (by decide)) (g := (mkF m 10 #[.val (.long q0), .second, .val (.long q1), .second, .val (.long q2), .second, .val (.int p3)] [(.int p3), (.long q0), (.int (fn3 q2 p3))])) rfl (by rw [hml]; rfl) (argsL := [(.long q0), (.int p3)]) (rest := [(.int (fn3 q2 p3))]) (lenOf own_pd1 rfl) rfl (by show 2 * 0 + _ ≤ _; exact Nat.le_of_eq rfl) (hb hby d2_10) (fun _ _ => ⟨rfl, e8, (by decide : 0 + 0 ≤ _), (by decide : 0 + 0 ≤ _)⟩)
  dsimp only [Pt.U, Pt.locs, Pt.cells, Pt.slots] at X9 l9 y9 z9 st9 hQ9
  subst l9 y9 z9
  obtain ⟨rfl, Nq9, e9⟩ := hQ9
  have N9 := Fr.app N8 Nq9
  refine Ends.via st9 ?_
  show Ends p e below s ROOM2.cells ROOM2.slots (Q2 Z q0 q1 q2 p3  h0 n0) (T9.setTop (mkF m 13 #[.val (.long q0), .second, .val (.long q1), .second, .val (.long q2), .second, .val (.int p3)] [(.int (fn3 q0 p3)), (.int (fn3 q2 p3))]))
  refine Ends.via (fun _ k => XS.lloadN X9.here hx rfl (hb hby d2_13) rfl k) ?_
  show Ends p e below s ROOM2.cells ROOM2.slots (Q2 Z q0 q1 q2 p3  h0 n0) (T9.setTop (mkF m 14 #[.val (.long q0), .second, .val (.long q1), .second, .val (.long q2), .second, .val (.int p3)] [(.long q1), (.int (fn3 q0 p3)), (.int (fn3 q2 p3))]))
  refine Ends.via (fun _ k => XS.iload X9.here hx rfl (hb hby d2_14) rfl k) ?_
  show Ends p e below s ROOM2.cells ROOM2.slots (Q2 Z q0 q1 q2 p3  h0 n0) (T9.setTop (mkF m 16 #[.val (.long q0), .second, .val (.long q1), .second, .val (.long q2), .second, .val (.int p3)] [(.int p3), (.long q1), (.int (fn3 q0 p3)), (.int (fn3 q2 p3))]))
  obtain ⟨_, _, ⟨T10, L10, k10, n10⟩, -, X10, ⟨Lc10, hQ10, l10, y10, z10⟩, st10⟩ := Jvm.LawKit.callS X9 hx (y := (⟨"org/graphstride/HyperLogLogMaxPinLaw", "reg", "(JI)I"⟩ : MethodName)) hown (mvT hZ (hw _ (List.mem_of_getElem? (i := 12) rfl))) (mvT hZ (hw _ (List.mem_of_getElem? (i := 13) rfl))) (mvT hZ (hw _ (List.mem_of_getElem? (i := 10) rfl))) (mvT hZ (hw _ (List.mem_of_getElem? (i := 14) rfl))) (by decide) (backOf (W := 2) (rm3 l Z a0 hw [] q1 p3 h0 n0 Z0) hZ (hw _ (List.mem_of_getElem? (i := 14) rfl)) (hw _ (List.mem_of_getElem? (i := 10) rfl)) (by decide) (by decide)) (g := (mkF m 16 #[.val (.long q0), .second, .val (.long q1), .second, .val (.long q2), .second, .val (.int p3)] [(.int p3), (.long q1), (.int (fn3 q0 p3)), (.int (fn3 q2 p3))])) rfl (by rw [hml]; rfl) (argsL := [(.long q1), (.int p3)]) (rest := [(.int (fn3 q0 p3)), (.int (fn3 q2 p3))]) (lenOf own_pd1 rfl) rfl (by show 2 * 0 + _ ≤ _; exact Nat.le_of_eq rfl) (hb hby d2_16) (fun _ _ => ⟨rfl, e9, (by decide : 0 + 0 ≤ _), (by decide : 0 + 0 ≤ _)⟩)
  dsimp only [Pt.U, Pt.locs, Pt.cells, Pt.slots] at X10 l10 y10 z10 st10 hQ10
  subst l10 y10 z10
  obtain ⟨rfl, Nq10, e10⟩ := hQ10
  have N10 := Fr.app N9 Nq10
  refine Ends.via st10 ?_
  show Ends p e below s ROOM2.cells ROOM2.slots (Q2 Z q0 q1 q2 p3  h0 n0) (T10.setTop (mkF m 19 #[.val (.long q0), .second, .val (.long q1), .second, .val (.long q2), .second, .val (.int p3)] [(.int (fn3 q1 p3)), (.int (fn3 q0 p3)), (.int (fn3 q2 p3))]))
  obtain ⟨_, _, ⟨T12, L12, k12, n12⟩, -, X12, ⟨Lc12, hQ12, l12, y12, z12⟩, st12⟩ := Jvm.LawKit.callS X10 hx (y := (⟨"java/lang/Math", "max", "(II)I"⟩ : MethodName)) hown (mvT hZ (hw _ (List.mem_of_getElem? (i := 16) rfl))) (mvT hZ (hw _ (List.mem_of_getElem? (i := 17) rfl))) (mvT hZ (hw _ (List.mem_of_getElem? (i := 18) rfl))) (mvT hZ (hw _ (List.mem_of_getElem? (i := 19) rfl))) (by decide) (backOf (W := 1) (rm4 l Z a0 hw [] (fn3 q0 p3) (fn3 q1 p3) h0 n0 Z0) hZ (hw _ (List.mem_of_getElem? (i := 19) rfl)) (hw _ (List.mem_of_getElem? (i := 18) rfl)) (by decide) (by decide)) (g := (mkF m 19 #[.val (.long q0), .second, .val (.long q1), .second, .val (.long q2), .second, .val (.int p3)] [(.int (fn3 q1 p3)), (.int (fn3 q0 p3)), (.int (fn3 q2 p3))])) rfl (by rw [hml]; rfl) (argsL := [(.int (fn3 q0 p3)), (.int (fn3 q1 p3))]) (rest := [(.int (fn3 q2 p3))]) (lenOf own_pd2 rfl) rfl (by show 2 * 0 + _ ≤ _; exact Nat.le_of_eq rfl) (hb hby d2_19) (fun _ _ => ⟨rfl, e10, (by decide : 0 + 0 ≤ _), (by decide : 0 + 0 ≤ _)⟩)
  dsimp only [Pt.U, Pt.locs, Pt.cells, Pt.slots] at X12 l12 y12 z12 st12 hQ12
  subst l12 y12 z12
  obtain ⟨rfl, Nq12, e12⟩ := hQ12
  have N12 := Fr.app N10 Nq12
  refine Ends.via st12 ?_
  show Ends p e below s ROOM2.cells ROOM2.slots (Q2 Z q0 q1 q2 p3  h0 n0) (T12.setTop (mkF m 22 #[.val (.long q0), .second, .val (.long q1), .second, .val (.long q2), .second, .val (.int p3)] [(.int (fn4 (fn3 q0 p3) (fn3 q1 p3))), (.int (fn3 q2 p3))]))
  by_cases hc13 : (fn3 q2 p3) = (fn4 (fn3 q0 p3) (fn3 q1 p3))
  · refine Ends.via (fun _ k => XS.icmpNo X12.here hx rfl (hb hby d2_22) rfl (teq hc13).2 k) ?_
    show Ends p e below s ROOM2.cells ROOM2.slots (Q2 Z q0 q1 q2 p3  h0 n0) (T12.setTop (mkF m 25 #[.val (.long q0), .second, .val (.long q1), .second, .val (.long q2), .second, .val (.int p3)] []))
    refine Ends.via (fun _ k => XS.iconst X12.here hx rfl (hb hby d2_25) k) ?_
    show Ends p e below s ROOM2.cells ROOM2.slots (Q2 Z q0 q1 q2 p3  h0 n0) (T12.setTop (mkF m 26 #[.val (.long q0), .second, .val (.long q1), .second, .val (.long q2), .second, .val (.int p3)] [(.int (1 : Int32))]))
    refine Ends.via (fun _ k => XS.goto X12.here hx rfl (pc0 := 26) (pc' := 30) rfl (hb hby d2_26) (by decide) (by decide) k) ?_
    show Ends p e below s ROOM2.cells ROOM2.slots (Q2 Z q0 q1 q2 p3  h0 n0) (T12.setTop (mkF m 30 #[.val (.long q0), .second, .val (.long q1), .second, .val (.long q2), .second, .val (.int p3)] [(.int (1 : Int32))]))
    refine Ends.ret X12 (v := some (.int (nar .boolean (1 : Int32)))) (fun h => by rw [Bd.returns] at h; cases h) Bd.notSynchronized (fun fs hr => retN X12 hx (t := .boolean) Bd.returns (by simp) (hb hby d2_30) hr) ?_ (by decide) (by decide)
    have hfn : fn2 q0 q1 q2 p3 = (1 : Int32) := by simp only [fn2, if_pos hc13]
    exact ⟨by rw [hfn]; rfl, N12, e12⟩
  · refine Ends.via (fun _ k => XS.icmpYes X12.here hx rfl (pc0 := 22) (pc' := 29) rfl (hb hby d2_22) rfl (feq hc13).2 (by decide) (by decide) k) ?_
    show Ends p e below s ROOM2.cells ROOM2.slots (Q2 Z q0 q1 q2 p3  h0 n0) (T12.setTop (mkF m 29 #[.val (.long q0), .second, .val (.long q1), .second, .val (.long q2), .second, .val (.int p3)] []))
    refine Ends.via (fun _ k => XS.iconst X12.here hx rfl (hb hby d2_29) k) ?_
    show Ends p e below s ROOM2.cells ROOM2.slots (Q2 Z q0 q1 q2 p3  h0 n0) (T12.setTop (mkF m 30 #[.val (.long q0), .second, .val (.long q1), .second, .val (.long q2), .second, .val (.int p3)] [(.int (0 : Int32))]))
    refine Ends.ret X12 (v := some (.int (nar .boolean (0 : Int32)))) (fun h => by rw [Bd.returns] at h; cases h) Bd.notSynchronized (fun fs hr => retN X12 hx (t := .boolean) Bd.returns (by simp) (hb hby d2_30) hr) ?_ (by decide) (by decide)
    have hfn : fn2 q0 q1 q2 p3 = (0 : Int32) := by simp only [fn2, if_neg hc13]
    exact ⟨by rw [hfn]; rfl, N12, e12⟩
theorem own_and (a b A B : Nat) (ha : a < 32) (hb : b < 32) : (a + 32 * A) &&& (b + 32 * B) = (a &&& b) + 32 * (A &&& B) := by
  have hab : (a &&& b) < 2 ^ 5 := Nat.and_lt_two_pow _ hb
  rw [Nat.add_comm a, Nat.add_comm b, Nat.add_comm (a &&& b)]
  show (2 ^ 5 * A + a) &&& (2 ^ 5 * B + b) = 2 ^ 5 * (A &&& B) + (a &&& b)
  apply Nat.eq_of_testBit_eq; intro i
  rw [Nat.testBit_and, Nat.testBit_two_pow_mul_add _ (show a < 2 ^ 5 from ha), Nat.testBit_two_pow_mul_add _ (show b < 2 ^ 5 from hb), Nat.testBit_two_pow_mul_add _ hab]
  split <;> rw [Nat.testBit_and]
theorem own_or (a b A B : Nat) (ha : a < 32) (hb : b < 32) : (a + 32 * A) ||| (b + 32 * B) = (a ||| b) + 32 * (A ||| B) := by
  have hab : (a ||| b) < 2 ^ 5 := Nat.or_lt_two_pow ha hb
  rw [Nat.add_comm a, Nat.add_comm b, Nat.add_comm (a ||| b)]
  show (2 ^ 5 * A + a) ||| (2 ^ 5 * B + b) = 2 ^ 5 * (A ||| B) + (a ||| b)
  apply Nat.eq_of_testBit_eq; intro i
  rw [Nat.testBit_or, Nat.testBit_two_pow_mul_add _ (show a < 2 ^ 5 from ha), Nat.testBit_two_pow_mul_add _ (show b < 2 ^ 5 from hb), Nat.testBit_two_pow_mul_add _ hab]
  split <;> rw [Nat.testBit_or]
theorem own_xor (a b A B : Nat) (ha : a < 32) (hb : b < 32) : (a + 32 * A) ^^^ (b + 32 * B) = (a ^^^ b) + 32 * (A ^^^ B) := by
  have hab : (a ^^^ b) < 2 ^ 5 := Nat.xor_lt_two_pow ha hb
  rw [Nat.add_comm a, Nat.add_comm b, Nat.add_comm (a ^^^ b)]
  show (2 ^ 5 * A + a) ^^^ (2 ^ 5 * B + b) = 2 ^ 5 * (A ^^^ B) + (a ^^^ b)
  apply Nat.eq_of_testBit_eq; intro i
  rw [Nat.testBit_xor, Nat.testBit_two_pow_mul_add _ (show a < 2 ^ 5 from ha), Nat.testBit_two_pow_mul_add _ (show b < 2 ^ 5 from hb), Nat.testBit_two_pow_mul_add _ hab]
  split <;> rw [Nat.testBit_xor]
def own_D (H O A B : Nat) : Nat := (A ||| H) - (B &&& (O ^^^ H))
def own_g (H O A B : Nat) : Nat := ((A &&& (B ^^^ O)) ||| (((A ^^^ B) ^^^ O) &&& own_D H O A B)) &&& H
def own_k (H O A B : Nat) : Nat := own_g H O A B ||| (own_g H O A B - own_g H O A B / 16)
def own_M (H O A B : Nat) : Nat := B ^^^ ((A ^^^ B) &&& own_k H O A B)
def own_H : Nat → Nat | 0 => 0 | n + 1 => 16 + 32 * own_H n
def own_O : Nat → Nat | 0 => 15 | n + 1 => 31 + 32 * own_O n
def own_mx : Nat → Nat → Nat → Nat | 0, _, _ => 0 | n + 1, A, B => max (A % 32) (B % 32) + 32 * own_mx n (A / 32) (B / 32)
theorem own_tab1 : ∀ a b : Fin 32, (b.1 &&& (31 ^^^ 16)) ≤ (a.1 ||| 16) ∧ own_g 16 31 a.1 b.1 % 16 = 0 ∧ own_g 16 31 a.1 b.1 < 32 ∧ own_D 16 31 a.1 b.1 < 32 ∧ own_k 16 31 a.1 b.1 < 32 ∧ own_M 16 31 a.1 b.1 = max a.1 b.1 := by decide +kernel
theorem own_lane (n : Nat) : ∀ A B : Nat, A < 32 ^ n → B < 32 ^ n → (B &&& (own_O n ^^^ own_H n)) ≤ (A ||| own_H n) ∧ own_g (own_H n) (own_O n) A B % 16 = 0 ∧ own_M (own_H n) (own_O n) A B = own_mx n A B := by
  induction n with
  | zero =>
    intro A B ha hb
    obtain rfl : A = 0 := by simpa using ha
    obtain rfl : B = 0 := by simpa using hb
    decide
  | succ n ih =>
    intro A B ha hb
    have ea : A = A % 32 + 32 * (A / 32) := by omega
    have eb : B = B % 32 + 32 * (B / 32) := by omega
    have ha' : A / 32 < 32 ^ n := by rw [Nat.pow_succ] at ha; omega
    have hb' : B / 32 < 32 ^ n := by rw [Nat.pow_succ] at hb; omega
    obtain ⟨i1, i2, i3⟩ := ih (A / 32) (B / 32) ha' hb'
    have la : A % 32 < 32 := Nat.mod_lt _ (by decide)
    have lb : B % 32 < 32 := Nat.mod_lt _ (by decide)
    obtain ⟨t1, t2, t3, t4, t5, t6⟩ := own_tab1 ⟨A % 32, la⟩ ⟨B % 32, lb⟩
    simp only [] at t1 t2 t3 t4 t5 t6
    have hmx : own_mx (n + 1) A B = max (A % 32) (B % 32) + 32 * own_mx n (A / 32) (B / 32) := rfl
    rw [hmx]
    clear hmx ha hb
    generalize A % 32 = a at *
    generalize B % 32 = b at *
    generalize A / 32 = A' at *
    generalize B / 32 = B' at *
    subst ea eb
    simp only [own_H, own_O]
    generalize own_H n = H at *
    generalize own_O n = O at *
    have x1 : (31 + 32 * O) ^^^ (16 + 32 * H) = (31 ^^^ 16) + 32 * (O ^^^ H) := own_xor _ _ _ _ (by decide) (by decide)
    have x2 : (b + 32 * B') &&& ((31 + 32 * O) ^^^ (16 + 32 * H)) = (b &&& (31 ^^^ 16)) + 32 * (B' &&& (O ^^^ H)) := by rw [x1]; exact own_and _ _ _ _ lb (by decide)
    have x3 : (a + 32 * A') ||| (16 + 32 * H) = (a ||| 16) + 32 * (A' ||| H) := own_or _ _ _ _ la (by decide)
    have xD : own_D (16 + 32 * H) (31 + 32 * O) (a + 32 * A') (b + 32 * B') = own_D 16 31 a b + 32 * own_D H O A' B' := by
      simp only [own_D]; rw [x2, x3]; omega
    have xg : own_g (16 + 32 * H) (31 + 32 * O) (a + 32 * A') (b + 32 * B') = own_g 16 31 a b + 32 * own_g H O A' B' := by
      simp only [own_g]
      rw [xD]
      have y1 := own_xor b 31 B' O lb (by decide)
      have l1 : b ^^^ 31 < 32 := Nat.xor_lt_two_pow (n := 5) lb (by decide)
      have y2 := own_and a (b ^^^ 31) A' (B' ^^^ O) la l1
      have y3 := own_xor a b A' B' la lb
      have l2 : a ^^^ b < 32 := Nat.xor_lt_two_pow (n := 5) la lb
      have y4 := own_xor (a ^^^ b) 31 (A' ^^^ B') O l2 (by decide)
      have l3 : a ^^^ b ^^^ 31 < 32 := Nat.xor_lt_two_pow (n := 5) l2 (by decide)
      have y5 := own_and (a ^^^ b ^^^ 31) (own_D 16 31 a b) (A' ^^^ B' ^^^ O) (own_D H O A' B') l3 t4
      have l4 : a &&& (b ^^^ 31) < 32 := Nat.and_lt_two_pow (n := 5) _ l1
      have l5 : (a ^^^ b ^^^ 31) &&& own_D 16 31 a b < 32 := Nat.and_lt_two_pow (n := 5) _ t4
      have y6 := own_or (a &&& (b ^^^ 31)) ((a ^^^ b ^^^ 31) &&& own_D 16 31 a b) (A' &&& (B' ^^^ O)) ((A' ^^^ B' ^^^ O) &&& own_D H O A' B') l4 l5
      rw [y1, y2, y3, y4, y5, y6]
      exact own_and _ 16 _ H (Nat.or_lt_two_pow (n := 5) l4 l5) (by decide)
    have xk : own_k (16 + 32 * H) (31 + 32 * O) (a + 32 * A') (b + 32 * B') = own_k 16 31 a b + 32 * own_k H O A' B' := by
      simp only [own_k]
      rw [xg]
      generalize own_g 16 31 a b = g at *
      generalize own_g H O A' B' = g' at *
      have e : (g + 32 * g') - (g + 32 * g') / 16 = (g - g / 16) + 32 * (g' - g' / 16) := by omega
      rw [e]
      exact own_or _ _ _ _ t3 (by omega)
    refine ⟨?_, ?_, ?_⟩
    · rw [x2, x3]; omega
    · rw [xg]; omega
    · rw [← t6, ← i3]
      simp only [own_M]
      rw [xk, own_xor a b A' B' la lb, own_and (a ^^^ b) (own_k 16 31 a b) _ _ (Nat.xor_lt_two_pow (n := 5) la lb) t5]
      exact own_xor _ _ _ _ lb (Nat.and_lt_two_pow (n := 5) _ t5)
theorem own_mx_lt (n : Nat) : ∀ A B, own_mx n A B < 32 ^ n := by
  induction n with
  | zero => intro A B; exact Nat.zero_lt_one
  | succ n ih => intro A B; have := ih (A / 32) (B / 32); rw [Nat.pow_succ]; simp only [own_mx]; omega
theorem own_mx_at (n : Nat) : ∀ r A B, r < n → own_mx n A B / 32 ^ r % 32 = max (A / 32 ^ r % 32) (B / 32 ^ r % 32) := by
  induction n with
  | zero => intro r A B h; omega
  | succ n ih =>
    intro r A B h
    simp only [own_mx]
    cases r with
    | zero => simp only [Nat.pow_zero, Nat.div_one]; omega
    | succ r =>
      have e : ∀ x : Nat, x / 32 ^ (r + 1) = x / 32 / 32 ^ r := fun x => by rw [Nat.pow_succ', Nat.div_div_eq_div_mul]
      rw [e, e, e]
      have : (max (A % 32) (B % 32) + 32 * own_mx n (A / 32) (B / 32)) / 32 = own_mx n (A / 32) (B / 32) := by omega
      rw [this]
      exact ih r (A / 32) (B / 32) (by omega)

def own_n (x : Int64) : Nat := x.toBitVec.toNat
theorem own_n_and (x y : Int64) : own_n (x &&& y) = own_n x &&& own_n y := by simp only [own_n, Int64.toBitVec_and, BitVec.toNat_and]
theorem own_n_or (x y : Int64) : own_n (x ||| y) = own_n x ||| own_n y := by simp only [own_n, Int64.toBitVec_or, BitVec.toNat_or]
theorem own_n_xor (x y : Int64) : own_n (x ^^^ y) = own_n x ^^^ own_n y := by simp only [own_n, Int64.toBitVec_xor, BitVec.toNat_xor]
theorem own_n_lt (x : Int64) : own_n x < 2 ^ 64 := x.toBitVec.isLt
theorem own_n_sub (x y : Int64) (h : own_n y ≤ own_n x) : own_n (x - y) = own_n x - own_n y := by
  have h1 := own_n_lt x
  have h2 := own_n_lt y
  have e : own_n (x - y) = (2 ^ 64 - own_n y + own_n x) % 2 ^ 64 := by simp only [own_n, Int64.toBitVec_sub, BitVec.toNat_sub]
  rw [e]; omega
theorem own_n_shr (x : Int64) (s : UInt64) : own_n ((x.toUInt64 >>> s).toInt64) = own_n x / 2 ^ (s.toNat % 64) := by
  show (x.toUInt64 >>> s).toNat = _
  rw [UInt64.toNat_shiftRight, Nat.shiftRight_eq_div_pow]; rfl
theorem own_fn1 (x y : Int64) (hx : own_n x < 32 ^ 12) (hy : own_n y < 32 ^ 12) : own_n (fn1 x y) = own_mx 12 (own_n x) (own_n y) := by
  obtain ⟨h1, h2, h3⟩ := own_lane 12 (own_n x) (own_n y) hx hy
  have eH : own_n (595056260442243600 : Int64) = own_H 12 := by decide
  have eN : own_n (-595056260442243601 : Int64) = own_O 12 ^^^ own_H 12 := by decide
  have eO : own_n (-1 : Int64) = own_O 12 := by decide
  rw [← h3]
  have d1 : own_n ((x ||| (595056260442243600 : Int64)) - (y &&& (-595056260442243601 : Int64))) = own_D (own_H 12) (own_O 12) (own_n x) (own_n y) := by
    rw [own_n_sub _ _ (by rw [own_n_and, own_n_or, eH, eN]; exact h1), own_n_and, own_n_or, eH, eN]; rfl
  simp only [fn1]
  generalize ((x ||| (595056260442243600 : Int64)) - (y &&& (-595056260442243601 : Int64))) = D at *
  have d2 : own_n (((x &&& (y ^^^ (-1 : Int64))) ||| (((x ^^^ y) ^^^ (-1 : Int64)) &&& D)) &&& (595056260442243600 : Int64)) = own_g (own_H 12) (own_O 12) (own_n x) (own_n y) := by
    rw [own_n_and, own_n_or, own_n_and, own_n_and, own_n_xor, own_n_xor, own_n_xor, eO, eH, d1]; rfl
  generalize (((x &&& (y ^^^ (-1 : Int64))) ||| (((x ^^^ y) ^^^ (-1 : Int64)) &&& D)) &&& (595056260442243600 : Int64)) = g at *
  have es : (((4 : Int32) &&& 0x3f).toInt64.toUInt64).toNat % 64 = 4 := by decide
  have d3 : own_n ((g.toUInt64 >>> ((4 : Int32) &&& 0x3f).toInt64.toUInt64).toInt64) = own_n g / 16 := by rw [own_n_shr, es]
  have d4 : own_n (g - ((g.toUInt64 >>> ((4 : Int32) &&& 0x3f).toInt64.toUInt64).toInt64)) = own_n g - own_n g / 16 := by
    rw [own_n_sub _ _ (by rw [d3]; omega), d3]
  rw [own_n_xor, own_n_and, own_n_xor, own_n_or, d4, d2]; rfl
theorem own_toInt (z : Int64) (h : own_n z < 32) : z.toInt32.toInt = own_n z := by
  have e1 : z.toInt = z.toBitVec.toInt := rfl
  have e2 : z.toInt = own_n z := by rw [e1, BitVec.toInt_eq_toNat_cond, if_pos (by simp only [own_n] at h; omega)]; rfl
  rw [Int64.toInt_toInt32, e2]
  exact Int.bmod_eq_of_le (by omega) (by omega)
theorem own_reg (x : Int64) (p : Int32) (r : Nat) (hr : ((((5 : Int32) * p) &&& 0x3f).toInt64.toUInt64).toNat % 64 = 5 * r) : (fn3 x p).toInt = ((own_n x / 32 ^ r % 32 : Nat) : Int) := by
  have e31 : own_n (31 : Int64) = 2 ^ 5 - 1 := by decide
  have e : own_n (((x.toUInt64 >>> (((5 : Int32) * p) &&& 0x3f).toInt64.toUInt64).toInt64) &&& (31 : Int64)) = own_n x / 32 ^ r % 32 := by
    rw [own_n_and, own_n_shr, hr, e31, Nat.and_two_pow_sub_one_eq_mod, Nat.pow_mul]
  rw [fn3, own_toInt _ (by rw [e]; exact Nat.mod_lt _ (by decide)), e]
theorem own_ok (x y : Int64) (hx : own_n x < 32 ^ 12) (hy : own_n y < 32 ^ 12) (p : Int32) (r : Nat) (h12 : r < 12) (hr : ((((5 : Int32) * p) &&& 0x3f).toInt64.toUInt64).toNat % 64 = 5 * r) : fn2 x y (fn1 x y) p = 1 := by
  have k : fn3 (fn1 x y) p = fn4 (fn3 x p) (fn3 y p) := by
    apply Int32.toInt_inj.mp
    have a1 := own_reg x p r hr
    have a2 := own_reg y p r hr
    have a3 := own_reg (fn1 x y) p r hr
    rw [own_fn1 x y hx hy, own_mx_at 12 r _ _ h12] at a3
    simp only [fn4, Int32.lt_iff_toInt_lt]
    rw [a3]
    split <;> omega
  simp only [fn2, k, if_pos]
theorem own_b (q v : Int64) (hv : (q &&& (1152921504606846975 : Int64)) = v) : own_n v < 32 ^ 12 := by
  have e : own_n (1152921504606846975 : Int64) = 2 ^ 60 - 1 := by decide
  rw [← hv, own_n_and, e, Nat.and_two_pow_sub_one_eq_mod]
  exact Nat.mod_lt _ (by decide)
theorem own_top (x y : Int64) (hx : own_n x < 32 ^ 12) (hy : own_n y < 32 ^ 12) : (((fn1 x y).toUInt64 >>> ((60 : Int32) &&& 0x3f).toInt64.toUInt64).toInt64) = (0 : Int64) := by
  have es : (((60 : Int32) &&& 0x3f).toInt64.toUInt64).toNat % 64 = 60 := by decide
  have h : own_n (((fn1 x y).toUInt64 >>> ((60 : Int32) &&& 0x3f).toInt64.toUInt64).toInt64) = 0 := by
    rw [own_n_shr, es, own_fn1 x y hx hy]
    exact Nat.div_eq_of_lt (own_mx_lt 12 _ _)
  exact Int64.toBitVec_inj.mp (BitVec.eq_of_toNat_eq h)
theorem own_leaf1 (q0 : Int64) (q1 : Int64) (v1 : Int64) (v2 : Int64) (hv1 : (q0 &&& (1152921504606846975 : Int64)) = v1) (hv2 : (q1 &&& (1152921504606846975 : Int64)) = v2) (hc7 : (((fn1 v1 v2).toUInt64 >>> ((60 : Int32) &&& 0x3f).toInt64.toUInt64).toInt64) = (0 : Int64)) (hc15 : (fn2 v1 v2 (fn1 v1 v2) (0 : Int32)) = (0 : Int32)) : False := by
    rw [own_ok v1 v2 (own_b q0 v1 hv1) (own_b q1 v2 hv2) _ 0 (by decide) (by decide)] at hc15
    exact absurd hc15 (by decide)
theorem own_leaf2 (q0 : Int64) (q1 : Int64) (v1 : Int64) (v2 : Int64) (hv1 : (q0 &&& (1152921504606846975 : Int64)) = v1) (hv2 : (q1 &&& (1152921504606846975 : Int64)) = v2) (hc7 : (((fn1 v1 v2).toUInt64 >>> ((60 : Int32) &&& 0x3f).toInt64.toUInt64).toInt64) = (0 : Int64)) (hc15 : ¬ ((fn2 v1 v2 (fn1 v1 v2) (0 : Int32)) = (0 : Int32))) (hc17 : (fn2 v1 v2 (fn1 v1 v2) (1 : Int32)) = (0 : Int32)) : False := by
    rw [own_ok v1 v2 (own_b q0 v1 hv1) (own_b q1 v2 hv2) _ 1 (by decide) (by decide)] at hc17
    exact absurd hc17 (by decide)
theorem own_leaf3 (q0 : Int64) (q1 : Int64) (v1 : Int64) (v2 : Int64) (hv1 : (q0 &&& (1152921504606846975 : Int64)) = v1) (hv2 : (q1 &&& (1152921504606846975 : Int64)) = v2) (hc7 : (((fn1 v1 v2).toUInt64 >>> ((60 : Int32) &&& 0x3f).toInt64.toUInt64).toInt64) = (0 : Int64)) (hc15 : ¬ ((fn2 v1 v2 (fn1 v1 v2) (0 : Int32)) = (0 : Int32))) (hc17 : ¬ ((fn2 v1 v2 (fn1 v1 v2) (1 : Int32)) = (0 : Int32))) (hc19 : (fn2 v1 v2 (fn1 v1 v2) (2 : Int32)) = (0 : Int32)) : False := by
    rw [own_ok v1 v2 (own_b q0 v1 hv1) (own_b q1 v2 hv2) _ 2 (by decide) (by decide)] at hc19
    exact absurd hc19 (by decide)
theorem own_leaf4 (q0 : Int64) (q1 : Int64) (v1 : Int64) (v2 : Int64) (hv1 : (q0 &&& (1152921504606846975 : Int64)) = v1) (hv2 : (q1 &&& (1152921504606846975 : Int64)) = v2) (hc7 : (((fn1 v1 v2).toUInt64 >>> ((60 : Int32) &&& 0x3f).toInt64.toUInt64).toInt64) = (0 : Int64)) (hc15 : ¬ ((fn2 v1 v2 (fn1 v1 v2) (0 : Int32)) = (0 : Int32))) (hc17 : ¬ ((fn2 v1 v2 (fn1 v1 v2) (1 : Int32)) = (0 : Int32))) (hc19 : ¬ ((fn2 v1 v2 (fn1 v1 v2) (2 : Int32)) = (0 : Int32))) (hc21 : (fn2 v1 v2 (fn1 v1 v2) (3 : Int32)) = (0 : Int32)) : False := by
    rw [own_ok v1 v2 (own_b q0 v1 hv1) (own_b q1 v2 hv2) _ 3 (by decide) (by decide)] at hc21
    exact absurd hc21 (by decide)
theorem own_leaf5 (q0 : Int64) (q1 : Int64) (v1 : Int64) (v2 : Int64) (hv1 : (q0 &&& (1152921504606846975 : Int64)) = v1) (hv2 : (q1 &&& (1152921504606846975 : Int64)) = v2) (hc7 : (((fn1 v1 v2).toUInt64 >>> ((60 : Int32) &&& 0x3f).toInt64.toUInt64).toInt64) = (0 : Int64)) (hc15 : ¬ ((fn2 v1 v2 (fn1 v1 v2) (0 : Int32)) = (0 : Int32))) (hc17 : ¬ ((fn2 v1 v2 (fn1 v1 v2) (1 : Int32)) = (0 : Int32))) (hc19 : ¬ ((fn2 v1 v2 (fn1 v1 v2) (2 : Int32)) = (0 : Int32))) (hc21 : ¬ ((fn2 v1 v2 (fn1 v1 v2) (3 : Int32)) = (0 : Int32))) (hc23 : (fn2 v1 v2 (fn1 v1 v2) (4 : Int32)) = (0 : Int32)) : False := by
    rw [own_ok v1 v2 (own_b q0 v1 hv1) (own_b q1 v2 hv2) _ 4 (by decide) (by decide)] at hc23
    exact absurd hc23 (by decide)
theorem own_leaf6 (q0 : Int64) (q1 : Int64) (v1 : Int64) (v2 : Int64) (hv1 : (q0 &&& (1152921504606846975 : Int64)) = v1) (hv2 : (q1 &&& (1152921504606846975 : Int64)) = v2) (hc7 : (((fn1 v1 v2).toUInt64 >>> ((60 : Int32) &&& 0x3f).toInt64.toUInt64).toInt64) = (0 : Int64)) (hc15 : ¬ ((fn2 v1 v2 (fn1 v1 v2) (0 : Int32)) = (0 : Int32))) (hc17 : ¬ ((fn2 v1 v2 (fn1 v1 v2) (1 : Int32)) = (0 : Int32))) (hc19 : ¬ ((fn2 v1 v2 (fn1 v1 v2) (2 : Int32)) = (0 : Int32))) (hc21 : ¬ ((fn2 v1 v2 (fn1 v1 v2) (3 : Int32)) = (0 : Int32))) (hc23 : ¬ ((fn2 v1 v2 (fn1 v1 v2) (4 : Int32)) = (0 : Int32))) (hc25 : (fn2 v1 v2 (fn1 v1 v2) (5 : Int32)) = (0 : Int32)) : False := by
    rw [own_ok v1 v2 (own_b q0 v1 hv1) (own_b q1 v2 hv2) _ 5 (by decide) (by decide)] at hc25
    exact absurd hc25 (by decide)
theorem own_leaf7 (q0 : Int64) (q1 : Int64) (v1 : Int64) (v2 : Int64) (hv1 : (q0 &&& (1152921504606846975 : Int64)) = v1) (hv2 : (q1 &&& (1152921504606846975 : Int64)) = v2) (hc7 : (((fn1 v1 v2).toUInt64 >>> ((60 : Int32) &&& 0x3f).toInt64.toUInt64).toInt64) = (0 : Int64)) (hc15 : ¬ ((fn2 v1 v2 (fn1 v1 v2) (0 : Int32)) = (0 : Int32))) (hc17 : ¬ ((fn2 v1 v2 (fn1 v1 v2) (1 : Int32)) = (0 : Int32))) (hc19 : ¬ ((fn2 v1 v2 (fn1 v1 v2) (2 : Int32)) = (0 : Int32))) (hc21 : ¬ ((fn2 v1 v2 (fn1 v1 v2) (3 : Int32)) = (0 : Int32))) (hc23 : ¬ ((fn2 v1 v2 (fn1 v1 v2) (4 : Int32)) = (0 : Int32))) (hc25 : ¬ ((fn2 v1 v2 (fn1 v1 v2) (5 : Int32)) = (0 : Int32))) (hc27 : (fn2 v1 v2 (fn1 v1 v2) (6 : Int32)) = (0 : Int32)) : False := by
    rw [own_ok v1 v2 (own_b q0 v1 hv1) (own_b q1 v2 hv2) _ 6 (by decide) (by decide)] at hc27
    exact absurd hc27 (by decide)
theorem own_leaf8 (q0 : Int64) (q1 : Int64) (v1 : Int64) (v2 : Int64) (hv1 : (q0 &&& (1152921504606846975 : Int64)) = v1) (hv2 : (q1 &&& (1152921504606846975 : Int64)) = v2) (hc7 : (((fn1 v1 v2).toUInt64 >>> ((60 : Int32) &&& 0x3f).toInt64.toUInt64).toInt64) = (0 : Int64)) (hc15 : ¬ ((fn2 v1 v2 (fn1 v1 v2) (0 : Int32)) = (0 : Int32))) (hc17 : ¬ ((fn2 v1 v2 (fn1 v1 v2) (1 : Int32)) = (0 : Int32))) (hc19 : ¬ ((fn2 v1 v2 (fn1 v1 v2) (2 : Int32)) = (0 : Int32))) (hc21 : ¬ ((fn2 v1 v2 (fn1 v1 v2) (3 : Int32)) = (0 : Int32))) (hc23 : ¬ ((fn2 v1 v2 (fn1 v1 v2) (4 : Int32)) = (0 : Int32))) (hc25 : ¬ ((fn2 v1 v2 (fn1 v1 v2) (5 : Int32)) = (0 : Int32))) (hc27 : ¬ ((fn2 v1 v2 (fn1 v1 v2) (6 : Int32)) = (0 : Int32))) (hc29 : (fn2 v1 v2 (fn1 v1 v2) (7 : Int32)) = (0 : Int32)) : False := by
    rw [own_ok v1 v2 (own_b q0 v1 hv1) (own_b q1 v2 hv2) _ 7 (by decide) (by decide)] at hc29
    exact absurd hc29 (by decide)
theorem own_leaf9 (q0 : Int64) (q1 : Int64) (v1 : Int64) (v2 : Int64) (hv1 : (q0 &&& (1152921504606846975 : Int64)) = v1) (hv2 : (q1 &&& (1152921504606846975 : Int64)) = v2) (hc7 : (((fn1 v1 v2).toUInt64 >>> ((60 : Int32) &&& 0x3f).toInt64.toUInt64).toInt64) = (0 : Int64)) (hc15 : ¬ ((fn2 v1 v2 (fn1 v1 v2) (0 : Int32)) = (0 : Int32))) (hc17 : ¬ ((fn2 v1 v2 (fn1 v1 v2) (1 : Int32)) = (0 : Int32))) (hc19 : ¬ ((fn2 v1 v2 (fn1 v1 v2) (2 : Int32)) = (0 : Int32))) (hc21 : ¬ ((fn2 v1 v2 (fn1 v1 v2) (3 : Int32)) = (0 : Int32))) (hc23 : ¬ ((fn2 v1 v2 (fn1 v1 v2) (4 : Int32)) = (0 : Int32))) (hc25 : ¬ ((fn2 v1 v2 (fn1 v1 v2) (5 : Int32)) = (0 : Int32))) (hc27 : ¬ ((fn2 v1 v2 (fn1 v1 v2) (6 : Int32)) = (0 : Int32))) (hc29 : ¬ ((fn2 v1 v2 (fn1 v1 v2) (7 : Int32)) = (0 : Int32))) (hc31 : (fn2 v1 v2 (fn1 v1 v2) (8 : Int32)) = (0 : Int32)) : False := by
    rw [own_ok v1 v2 (own_b q0 v1 hv1) (own_b q1 v2 hv2) _ 8 (by decide) (by decide)] at hc31
    exact absurd hc31 (by decide)
theorem own_leaf10 (q0 : Int64) (q1 : Int64) (v1 : Int64) (v2 : Int64) (hv1 : (q0 &&& (1152921504606846975 : Int64)) = v1) (hv2 : (q1 &&& (1152921504606846975 : Int64)) = v2) (hc7 : (((fn1 v1 v2).toUInt64 >>> ((60 : Int32) &&& 0x3f).toInt64.toUInt64).toInt64) = (0 : Int64)) (hc15 : ¬ ((fn2 v1 v2 (fn1 v1 v2) (0 : Int32)) = (0 : Int32))) (hc17 : ¬ ((fn2 v1 v2 (fn1 v1 v2) (1 : Int32)) = (0 : Int32))) (hc19 : ¬ ((fn2 v1 v2 (fn1 v1 v2) (2 : Int32)) = (0 : Int32))) (hc21 : ¬ ((fn2 v1 v2 (fn1 v1 v2) (3 : Int32)) = (0 : Int32))) (hc23 : ¬ ((fn2 v1 v2 (fn1 v1 v2) (4 : Int32)) = (0 : Int32))) (hc25 : ¬ ((fn2 v1 v2 (fn1 v1 v2) (5 : Int32)) = (0 : Int32))) (hc27 : ¬ ((fn2 v1 v2 (fn1 v1 v2) (6 : Int32)) = (0 : Int32))) (hc29 : ¬ ((fn2 v1 v2 (fn1 v1 v2) (7 : Int32)) = (0 : Int32))) (hc31 : ¬ ((fn2 v1 v2 (fn1 v1 v2) (8 : Int32)) = (0 : Int32))) (hc33 : (fn2 v1 v2 (fn1 v1 v2) (9 : Int32)) = (0 : Int32)) : False := by
    rw [own_ok v1 v2 (own_b q0 v1 hv1) (own_b q1 v2 hv2) _ 9 (by decide) (by decide)] at hc33
    exact absurd hc33 (by decide)
theorem own_leaf11 (q0 : Int64) (q1 : Int64) (v1 : Int64) (v2 : Int64) (hv1 : (q0 &&& (1152921504606846975 : Int64)) = v1) (hv2 : (q1 &&& (1152921504606846975 : Int64)) = v2) (hc7 : (((fn1 v1 v2).toUInt64 >>> ((60 : Int32) &&& 0x3f).toInt64.toUInt64).toInt64) = (0 : Int64)) (hc15 : ¬ ((fn2 v1 v2 (fn1 v1 v2) (0 : Int32)) = (0 : Int32))) (hc17 : ¬ ((fn2 v1 v2 (fn1 v1 v2) (1 : Int32)) = (0 : Int32))) (hc19 : ¬ ((fn2 v1 v2 (fn1 v1 v2) (2 : Int32)) = (0 : Int32))) (hc21 : ¬ ((fn2 v1 v2 (fn1 v1 v2) (3 : Int32)) = (0 : Int32))) (hc23 : ¬ ((fn2 v1 v2 (fn1 v1 v2) (4 : Int32)) = (0 : Int32))) (hc25 : ¬ ((fn2 v1 v2 (fn1 v1 v2) (5 : Int32)) = (0 : Int32))) (hc27 : ¬ ((fn2 v1 v2 (fn1 v1 v2) (6 : Int32)) = (0 : Int32))) (hc29 : ¬ ((fn2 v1 v2 (fn1 v1 v2) (7 : Int32)) = (0 : Int32))) (hc31 : ¬ ((fn2 v1 v2 (fn1 v1 v2) (8 : Int32)) = (0 : Int32))) (hc33 : ¬ ((fn2 v1 v2 (fn1 v1 v2) (9 : Int32)) = (0 : Int32))) (hc35 : (fn2 v1 v2 (fn1 v1 v2) (10 : Int32)) = (0 : Int32)) : False := by
    rw [own_ok v1 v2 (own_b q0 v1 hv1) (own_b q1 v2 hv2) _ 10 (by decide) (by decide)] at hc35
    exact absurd hc35 (by decide)
theorem own_leaf12 (q0 : Int64) (q1 : Int64) (v1 : Int64) (v2 : Int64) (hv1 : (q0 &&& (1152921504606846975 : Int64)) = v1) (hv2 : (q1 &&& (1152921504606846975 : Int64)) = v2) (hc7 : (((fn1 v1 v2).toUInt64 >>> ((60 : Int32) &&& 0x3f).toInt64.toUInt64).toInt64) = (0 : Int64)) (hc15 : ¬ ((fn2 v1 v2 (fn1 v1 v2) (0 : Int32)) = (0 : Int32))) (hc17 : ¬ ((fn2 v1 v2 (fn1 v1 v2) (1 : Int32)) = (0 : Int32))) (hc19 : ¬ ((fn2 v1 v2 (fn1 v1 v2) (2 : Int32)) = (0 : Int32))) (hc21 : ¬ ((fn2 v1 v2 (fn1 v1 v2) (3 : Int32)) = (0 : Int32))) (hc23 : ¬ ((fn2 v1 v2 (fn1 v1 v2) (4 : Int32)) = (0 : Int32))) (hc25 : ¬ ((fn2 v1 v2 (fn1 v1 v2) (5 : Int32)) = (0 : Int32))) (hc27 : ¬ ((fn2 v1 v2 (fn1 v1 v2) (6 : Int32)) = (0 : Int32))) (hc29 : ¬ ((fn2 v1 v2 (fn1 v1 v2) (7 : Int32)) = (0 : Int32))) (hc31 : ¬ ((fn2 v1 v2 (fn1 v1 v2) (8 : Int32)) = (0 : Int32))) (hc33 : ¬ ((fn2 v1 v2 (fn1 v1 v2) (9 : Int32)) = (0 : Int32))) (hc35 : ¬ ((fn2 v1 v2 (fn1 v1 v2) (10 : Int32)) = (0 : Int32))) (hc37 : (fn2 v1 v2 (fn1 v1 v2) (11 : Int32)) = (0 : Int32)) : False := by
    rw [own_ok v1 v2 (own_b q0 v1 hv1) (own_b q1 v2 hv2) _ 11 (by decide) (by decide)] at hc37
    exact absurd hc37 (by decide)
theorem own_leaf13 (q0 : Int64) (q1 : Int64) (v1 : Int64) (v2 : Int64) (hv1 : (q0 &&& (1152921504606846975 : Int64)) = v1) (hv2 : (q1 &&& (1152921504606846975 : Int64)) = v2) (hc7 : ¬ ((((fn1 v1 v2).toUInt64 >>> ((60 : Int32) &&& 0x3f).toInt64.toUInt64).toInt64) = (0 : Int64))) : False := by
    exact hc7 (own_top v1 v2 (own_b q0 v1 hv1) (own_b q1 v2 hv2))
theorem pn_0 : plainName "org/graphstride/HyperLogLogMaxPinLaw" = true := by first | (simp [plainName, overriddenIn]; done) | decide +kernel
theorem ef_0 (m : MethodId) (q0 : Int64) (q1 : Int64) : entryFrame m #[(.long q0), (.long q1)] maxLocals = mkF m 0 #[.val (.long q0), .second, .val (.long q1), .second, .unset, .unset, .unset, .unset, .unset, .unset] [] := by first | (simp [entryFrame, mkF, argsToLocals, Value.category, maxLocals]; done) | rfl
def Q0 (Z : State) (q0 : Int64) (q1 : Int64)  (h0 : Heap) (n0 : Nat) (v : Option Value) (h : Heap) (L : List Loc) : Prop := v = some (.int 1) ∧ Fr n0 L
set_option maxRecDepth 65536 in
set_option maxHeartbeats 40000000 in
theorem rm0 (l : Launch) (Z : State) (a0 : Array Value) (hw : ∀ d ∈ tables_1, d.before a0 Z = true) (ws : List Jvm.Cond) (q0 : Int64) (q1 : Int64)  (h0 : Heap) (n0 : Nat) (Z0 : n0 ≤ h0.size)  :
    MetFree l x (head1 (Jvm.Cond.code x code maxLocals ret :: ws) room_1) (fun a U => a = #[(.long q0), (.long q1)] ∧ Z.Warmed39 U.vm ∧ U.heap = h0) (fun _ _ _ _ _ => True) (fun _ U o U' => ∃ v L, o = .returned v ∧ Q0 Z q0 q1  h0 n0 v U'.heap L ∧ FrameEnd U o U' L 0 0) := by
  refine MetFree.of_bodySF (plainFor_of_name pn_0) hisR ?_
  intro p e s m args below meth c s₁ Bd hml0 hP hK
  obtain ⟨rfl, hZ, hh⟩ := hP
  have hx := Bd.exec
  have hby := Bd.bytes
  have hml : c.maxLocals = 10 := hml0
  have hown : s.vm.findClass "org/graphstride/HyperLogLogMaxPinLaw" = some m.cls := findClass_of_methodNamed Bd.named
  have hnm := (name_of_methodNamed Bd.named Bd.method).1
  have X0 : Stand p l e room_1 s m #[(.long q0), (.long q1)] below meth c s₁ [] 0 0 := Stand.of_body Bd
  have e0 : s₁.heap = h0 := by rw [← hh, Bd.state]; rfl
  have N0 := Fr.nil n0
  refine Ends.via (A := s₁.setTop (mkF m 0 #[.val (.long q0), .second, .val (.long q1), .second, .unset, .unset, .unset, .unset, .unset, .unset] [])) (kc := 0) (ks := 0) (Q := (Q0 Z q0 q1  h0 n0)) (fun t k => castTop (ef_0 m q0 q1) k) ?_
  show Ends p e below s 0 0 (Q0 Z q0 q1  h0 n0) (s₁.setTop (mkF m 0 #[.val (.long q0), .second, .val (.long q1), .second, .unset, .unset, .unset, .unset, .unset, .unset] []))
  refine Ends.via (fun _ k => XS.lloadN X0.here hx rfl (hb hby at_0) rfl k) ?_
  show Ends p e below s 0 0 (Q0 Z q0 q1  h0 n0) (s₁.setTop (mkF m 1 #[.val (.long q0), .second, .val (.long q1), .second, .unset, .unset, .unset, .unset, .unset, .unset] [(.long q0)]))
  refine Ends.via (X0.ldc2Long hx hown (mvT hZ (hw _ (List.mem_of_getElem? (i := 0) rfl))) (g := (mkF m 1 #[.val (.long q0), .second, .val (.long q1), .second, .unset, .unset, .unset, .unset, .unset, .unset] [(.long q0)])) rfl (hb hby at_1)) ?_
  show Ends p e below s 0 0 (Q0 Z q0 q1  h0 n0) (s₁.setTop (mkF m 4 #[.val (.long q0), .second, .val (.long q1), .second, .unset, .unset, .unset, .unset, .unset, .unset] [(.long (1152921504606846975 : Int64)), (.long q0)]))
  refine Ends.via (fun _ k => XS.land X0.here hx rfl (hb hby at_4) rfl k) ?_
  show Ends p e below s 0 0 (Q0 Z q0 q1  h0 n0) (s₁.setTop (mkF m 5 #[.val (.long q0), .second, .val (.long q1), .second, .unset, .unset, .unset, .unset, .unset, .unset] [(.long (q0 &&& (1152921504606846975 : Int64)))]))
  refine Ends.via (fun _ k => XS.lstore X0.here hx rfl (hb hby at_5) rfl (l' := #[.val (.long q0), .second, .val (.long q1), .second, .val (.long (q0 &&& (1152921504606846975 : Int64))), .second, .unset, .unset, .unset, .unset]) rfl k) ?_
  show Ends p e below s 0 0 (Q0 Z q0 q1  h0 n0) (s₁.setTop (mkF m 7 #[.val (.long q0), .second, .val (.long q1), .second, .val (.long (q0 &&& (1152921504606846975 : Int64))), .second, .unset, .unset, .unset, .unset] []))
  generalize hv1 : (q0 &&& (1152921504606846975 : Int64)) = v1
  refine Ends.via (fun _ k => XS.lloadN X0.here hx rfl (hb hby at_7) rfl k) ?_
  show Ends p e below s 0 0 (Q0 Z q0 q1  h0 n0) (s₁.setTop (mkF m 8 #[.val (.long q0), .second, .val (.long q1), .second, .val (.long v1), .second, .unset, .unset, .unset, .unset] [(.long q1)]))
  refine Ends.via (X0.ldc2Long hx hown (mvT hZ (hw _ (List.mem_of_getElem? (i := 0) rfl))) (g := (mkF m 8 #[.val (.long q0), .second, .val (.long q1), .second, .val (.long v1), .second, .unset, .unset, .unset, .unset] [(.long q1)])) rfl (hb hby at_8)) ?_
  show Ends p e below s 0 0 (Q0 Z q0 q1  h0 n0) (s₁.setTop (mkF m 11 #[.val (.long q0), .second, .val (.long q1), .second, .val (.long v1), .second, .unset, .unset, .unset, .unset] [(.long (1152921504606846975 : Int64)), (.long q1)]))
  refine Ends.via (fun _ k => XS.land X0.here hx rfl (hb hby at_11) rfl k) ?_
  show Ends p e below s 0 0 (Q0 Z q0 q1  h0 n0) (s₁.setTop (mkF m 12 #[.val (.long q0), .second, .val (.long q1), .second, .val (.long v1), .second, .unset, .unset, .unset, .unset] [(.long (q1 &&& (1152921504606846975 : Int64)))]))
  refine Ends.via (fun _ k => XS.lstore X0.here hx rfl (hb hby at_12) rfl (l' := #[.val (.long q0), .second, .val (.long q1), .second, .val (.long v1), .second, .val (.long (q1 &&& (1152921504606846975 : Int64))), .second, .unset, .unset]) rfl k) ?_
  show Ends p e below s 0 0 (Q0 Z q0 q1  h0 n0) (s₁.setTop (mkF m 14 #[.val (.long q0), .second, .val (.long q1), .second, .val (.long v1), .second, .val (.long (q1 &&& (1152921504606846975 : Int64))), .second, .unset, .unset] []))
  generalize hv2 : (q1 &&& (1152921504606846975 : Int64)) = v2
  refine Ends.via (fun _ k => XS.lload X0.here hx rfl (hb hby at_14) rfl k) ?_
  show Ends p e below s 0 0 (Q0 Z q0 q1  h0 n0) (s₁.setTop (mkF m 16 #[.val (.long q0), .second, .val (.long q1), .second, .val (.long v1), .second, .val (.long v2), .second, .unset, .unset] [(.long v1)]))
  refine Ends.via (fun _ k => XS.lload X0.here hx rfl (hb hby at_16) rfl k) ?_
  show Ends p e below s 0 0 (Q0 Z q0 q1  h0 n0) (s₁.setTop (mkF m 18 #[.val (.long q0), .second, .val (.long q1), .second, .val (.long v1), .second, .val (.long v2), .second, .unset, .unset] [(.long v2), (.long v1)]))
  obtain ⟨_, _, ⟨T6, L6, k6, n6⟩, -, X6, ⟨Lc6, hQ6, l6, y6, z6⟩, st6⟩ := Jvm.LawKit.callS X0 hx (y := (⟨"org/graphstride/HyperLogLog", "max", "(JJ)J"⟩ : MethodName)) hown (mvT hZ (hw _ (List.mem_of_getElem? (i := 1) rfl))) (mvT hZ (hw _ (List.mem_of_getElem? (i := 2) rfl))) (mvT hZ (hw _ (List.mem_of_getElem? (i := 3) rfl))) (mvT hZ (hw _ (List.mem_of_getElem? (i := 4) rfl))) (by decide) (backOf (W := 0) (rm1 l Z a0 hw [] v1 v2 h0 n0 Z0) hZ (hw _ (List.mem_of_getElem? (i := 4) rfl)) (hw _ (List.mem_of_getElem? (i := 3) rfl)) (by decide) (by decide)) (g := (mkF m 18 #[.val (.long q0), .second, .val (.long q1), .second, .val (.long v1), .second, .val (.long v2), .second, .unset, .unset] [(.long v2), (.long v1)])) rfl (by rw [hml]; rfl) (argsL := [(.long v1), (.long v2)]) (rest := []) (lenOf own_pd0 rfl) rfl (by show 2 * 0 + _ ≤ _; exact Nat.le_of_eq rfl) (hb hby at_18) (fun _ _ => ⟨rfl, e0, (by decide : 0 + 0 ≤ _), (by decide : 0 + 0 ≤ _)⟩)
  dsimp only [Pt.U, Pt.locs, Pt.cells, Pt.slots] at X6 l6 y6 z6 st6 hQ6
  subst l6 y6 z6
  obtain ⟨rfl, Nq6, e6⟩ := hQ6
  have N6 := Fr.app N0 Nq6
  refine Ends.via st6 ?_
  show Ends p e below s 0 0 (Q0 Z q0 q1  h0 n0) (T6.setTop (mkF m 21 #[.val (.long q0), .second, .val (.long q1), .second, .val (.long v1), .second, .val (.long v2), .second, .unset, .unset] [(.long (fn1 v1 v2))]))
  refine Ends.via (fun _ k => XS.lstore X6.here hx rfl (hb hby at_21) rfl (l' := #[.val (.long q0), .second, .val (.long q1), .second, .val (.long v1), .second, .val (.long v2), .second, .val (.long (fn1 v1 v2)), .second]) rfl k) ?_
  show Ends p e below s 0 0 (Q0 Z q0 q1  h0 n0) (T6.setTop (mkF m 23 #[.val (.long q0), .second, .val (.long q1), .second, .val (.long v1), .second, .val (.long v2), .second, .val (.long (fn1 v1 v2)), .second] []))
  refine Ends.via (fun _ k => XS.lload X6.here hx rfl (hb hby at_23) rfl k) ?_
  show Ends p e below s 0 0 (Q0 Z q0 q1  h0 n0) (T6.setTop (mkF m 25 #[.val (.long q0), .second, .val (.long q1), .second, .val (.long v1), .second, .val (.long v2), .second, .val (.long (fn1 v1 v2)), .second] [(.long (fn1 v1 v2))]))
  refine Ends.via (fun _ k => XS.bipush X6.here hx rfl (hb hby at_25) k) ?_
  show Ends p e below s 0 0 (Q0 Z q0 q1  h0 n0) (T6.setTop (mkF m 27 #[.val (.long q0), .second, .val (.long q1), .second, .val (.long v1), .second, .val (.long v2), .second, .val (.long (fn1 v1 v2)), .second] [(.int (60 : Int32)), (.long (fn1 v1 v2))]))
  refine Ends.via (fun _ k => XS.lushr X6.here hx rfl (hb hby at_27) rfl k) ?_
  show Ends p e below s 0 0 (Q0 Z q0 q1  h0 n0) (T6.setTop (mkF m 28 #[.val (.long q0), .second, .val (.long q1), .second, .val (.long v1), .second, .val (.long v2), .second, .val (.long (fn1 v1 v2)), .second] [(.long (((fn1 v1 v2).toUInt64 >>> ((60 : Int32) &&& 0x3f).toInt64.toUInt64).toInt64))]))
  refine Ends.via (fun _ k => XS.lconst X6.here hx rfl (hb hby at_28) k) ?_
  show Ends p e below s 0 0 (Q0 Z q0 q1  h0 n0) (T6.setTop (mkF m 29 #[.val (.long q0), .second, .val (.long q1), .second, .val (.long v1), .second, .val (.long v2), .second, .val (.long (fn1 v1 v2)), .second] [(.long (0 : Int64)), (.long (((fn1 v1 v2).toUInt64 >>> ((60 : Int32) &&& 0x3f).toInt64.toUInt64).toInt64))]))
  refine Ends.via (fun _ k => XS.lcmp X6.here hx rfl (hb hby at_29) rfl k) ?_
  show Ends p e below s 0 0 (Q0 Z q0 q1  h0 n0) (T6.setTop (mkF m 30 #[.val (.long q0), .second, .val (.long q1), .second, .val (.long v1), .second, .val (.long v2), .second, .val (.long (fn1 v1 v2)), .second] [(.int (lcmpW (((fn1 v1 v2).toUInt64 >>> ((60 : Int32) &&& 0x3f).toInt64.toUInt64).toInt64) (0 : Int64)))]))
  by_cases hc7 : (((fn1 v1 v2).toUInt64 >>> ((60 : Int32) &&& 0x3f).toInt64.toUInt64).toInt64) = (0 : Int64)
  · refine Ends.via (fun _ k => XS.ifNo X6.here hx rfl (hb hby at_30) rfl ((if0 _ _).trans (teq ((lw_eq _ _).mpr hc7)).2) k) ?_
    show Ends p e below s 0 0 (Q0 Z q0 q1  h0 n0) (T6.setTop (mkF m 33 #[.val (.long q0), .second, .val (.long q1), .second, .val (.long v1), .second, .val (.long v2), .second, .val (.long (fn1 v1 v2)), .second] []))
    refine Ends.via (fun _ k => XS.lload X6.here hx rfl (hb hby at_33) rfl k) ?_
    show Ends p e below s 0 0 (Q0 Z q0 q1  h0 n0) (T6.setTop (mkF m 35 #[.val (.long q0), .second, .val (.long q1), .second, .val (.long v1), .second, .val (.long v2), .second, .val (.long (fn1 v1 v2)), .second] [(.long v1)]))
    refine Ends.via (fun _ k => XS.lload X6.here hx rfl (hb hby at_35) rfl k) ?_
    show Ends p e below s 0 0 (Q0 Z q0 q1  h0 n0) (T6.setTop (mkF m 37 #[.val (.long q0), .second, .val (.long q1), .second, .val (.long v1), .second, .val (.long v2), .second, .val (.long (fn1 v1 v2)), .second] [(.long v2), (.long v1)]))
    refine Ends.via (fun _ k => XS.lload X6.here hx rfl (hb hby at_37) rfl k) ?_
    show Ends p e below s 0 0 (Q0 Z q0 q1  h0 n0) (T6.setTop (mkF m 39 #[.val (.long q0), .second, .val (.long q1), .second, .val (.long v1), .second, .val (.long v2), .second, .val (.long (fn1 v1 v2)), .second] [(.long (fn1 v1 v2)), (.long v2), (.long v1)]))
    refine Ends.via (fun _ k => XS.iconst X6.here hx rfl (hb hby at_39) k) ?_
    show Ends p e below s 0 0 (Q0 Z q0 q1  h0 n0) (T6.setTop (mkF m 40 #[.val (.long q0), .second, .val (.long q1), .second, .val (.long v1), .second, .val (.long v2), .second, .val (.long (fn1 v1 v2)), .second] [(.int (0 : Int32)), (.long (fn1 v1 v2)), (.long v2), (.long v1)]))
    obtain ⟨_, _, ⟨T14, L14, k14, n14⟩, -, X14, ⟨Lc14, hQ14, l14, y14, z14⟩, st14⟩ := Jvm.LawKit.callS X6 hx (y := (⟨"org/graphstride/HyperLogLogMaxPinLaw", "ok", "(JJJI)Z"⟩ : MethodName)) hown (mvT hZ (hw _ (List.mem_of_getElem? (i := 8) rfl))) (mvT hZ (hw _ (List.mem_of_getElem? (i := 9) rfl))) (mvT hZ (hw _ (List.mem_of_getElem? (i := 10) rfl))) (mvT hZ (hw _ (List.mem_of_getElem? (i := 11) rfl))) (by decide) (backOf (W := 0) (rm2 l Z a0 hw [] v1 v2 (fn1 v1 v2) (0 : Int32) h0 n0 Z0) hZ (hw _ (List.mem_of_getElem? (i := 11) rfl)) (hw _ (List.mem_of_getElem? (i := 10) rfl)) (by decide) (by decide)) (g := (mkF m 40 #[.val (.long q0), .second, .val (.long q1), .second, .val (.long v1), .second, .val (.long v2), .second, .val (.long (fn1 v1 v2)), .second] [(.int (0 : Int32)), (.long (fn1 v1 v2)), (.long v2), (.long v1)])) rfl (by rw [hml]; rfl) (argsL := [(.long v1), (.long v2), (.long (fn1 v1 v2)), (.int (0 : Int32))]) (rest := []) (lenOf own_pd3 rfl) rfl (by show 2 * 0 + _ ≤ _; exact Nat.le_of_eq rfl) (hb hby at_40) (fun _ _ => ⟨rfl, e6, (by decide : 0 + 0 ≤ _), (by decide : 0 + 0 ≤ _)⟩)
    dsimp only [Pt.U, Pt.locs, Pt.cells, Pt.slots] at X14 l14 y14 z14 st14 hQ14
    subst l14 y14 z14
    obtain ⟨rfl, Nq14, e14⟩ := hQ14
    have N14 := Fr.app N6 Nq14
    refine Ends.via st14 ?_
    show Ends p e below s 0 0 (Q0 Z q0 q1  h0 n0) (T14.setTop (mkF m 43 #[.val (.long q0), .second, .val (.long q1), .second, .val (.long v1), .second, .val (.long v2), .second, .val (.long (fn1 v1 v2)), .second] [(.int (fn2 v1 v2 (fn1 v1 v2) (0 : Int32)))]))
    by_cases hc15 : (fn2 v1 v2 (fn1 v1 v2) (0 : Int32)) = (0 : Int32)
    · refine Ends.via (fun _ k => XS.ifYes X14.here hx rfl (pc0 := 43) (pc' := 199) rfl (hb hby at_43) rfl ((if0 _ _).trans (teq hc15).1) (by decide) (by decide) k) ?_
      show Ends p e below s 0 0 (Q0 Z q0 q1  h0 n0) (T14.setTop (mkF m 199 #[.val (.long q0), .second, .val (.long q1), .second, .val (.long v1), .second, .val (.long v2), .second, .val (.long (fn1 v1 v2)), .second] []))
      refine Ends.via (fun _ k => XS.iconst X14.here hx rfl (hb hby at_199) k) ?_
      show Ends p e below s 0 0 (Q0 Z q0 q1  h0 n0) (T14.setTop (mkF m 200 #[.val (.long q0), .second, .val (.long q1), .second, .val (.long v1), .second, .val (.long v2), .second, .val (.long (fn1 v1 v2)), .second] [(.int (0 : Int32))]))
      refine Ends.ret X14 (v := some (.int (nar .boolean (0 : Int32)))) (fun h => by rw [Bd.returns] at h; cases h) Bd.notSynchronized (fun fs hr => retN X14 hx (t := .boolean) Bd.returns (by simp) (hb hby at_200) hr) ?_ (by decide) (by decide)
      exact absurd (own_leaf1 q0 q1 v1 v2 hv1 hv2 hc7 hc15) id
    · refine Ends.via (fun _ k => XS.ifNo X14.here hx rfl (hb hby at_43) rfl ((if0 _ _).trans (feq hc15).1) k) ?_
      show Ends p e below s 0 0 (Q0 Z q0 q1  h0 n0) (T14.setTop (mkF m 46 #[.val (.long q0), .second, .val (.long q1), .second, .val (.long v1), .second, .val (.long v2), .second, .val (.long (fn1 v1 v2)), .second] []))
      refine Ends.via (fun _ k => XS.lload X14.here hx rfl (hb hby at_46) rfl k) ?_
      show Ends p e below s 0 0 (Q0 Z q0 q1  h0 n0) (T14.setTop (mkF m 48 #[.val (.long q0), .second, .val (.long q1), .second, .val (.long v1), .second, .val (.long v2), .second, .val (.long (fn1 v1 v2)), .second] [(.long v1)]))
      refine Ends.via (fun _ k => XS.lload X14.here hx rfl (hb hby at_48) rfl k) ?_
      show Ends p e below s 0 0 (Q0 Z q0 q1  h0 n0) (T14.setTop (mkF m 50 #[.val (.long q0), .second, .val (.long q1), .second, .val (.long v1), .second, .val (.long v2), .second, .val (.long (fn1 v1 v2)), .second] [(.long v2), (.long v1)]))
      refine Ends.via (fun _ k => XS.lload X14.here hx rfl (hb hby at_50) rfl k) ?_
      show Ends p e below s 0 0 (Q0 Z q0 q1  h0 n0) (T14.setTop (mkF m 52 #[.val (.long q0), .second, .val (.long q1), .second, .val (.long v1), .second, .val (.long v2), .second, .val (.long (fn1 v1 v2)), .second] [(.long (fn1 v1 v2)), (.long v2), (.long v1)]))
      refine Ends.via (fun _ k => XS.iconst X14.here hx rfl (hb hby at_52) k) ?_
      show Ends p e below s 0 0 (Q0 Z q0 q1  h0 n0) (T14.setTop (mkF m 53 #[.val (.long q0), .second, .val (.long q1), .second, .val (.long v1), .second, .val (.long v2), .second, .val (.long (fn1 v1 v2)), .second] [(.int (1 : Int32)), (.long (fn1 v1 v2)), (.long v2), (.long v1)]))
      obtain ⟨_, _, ⟨T16, L16, k16, n16⟩, -, X16, ⟨Lc16, hQ16, l16, y16, z16⟩, st16⟩ := Jvm.LawKit.callS X14 hx (y := (⟨"org/graphstride/HyperLogLogMaxPinLaw", "ok", "(JJJI)Z"⟩ : MethodName)) hown (mvT hZ (hw _ (List.mem_of_getElem? (i := 8) rfl))) (mvT hZ (hw _ (List.mem_of_getElem? (i := 9) rfl))) (mvT hZ (hw _ (List.mem_of_getElem? (i := 10) rfl))) (mvT hZ (hw _ (List.mem_of_getElem? (i := 11) rfl))) (by decide) (backOf (W := 0) (rm2 l Z a0 hw [] v1 v2 (fn1 v1 v2) (1 : Int32) h0 n0 Z0) hZ (hw _ (List.mem_of_getElem? (i := 11) rfl)) (hw _ (List.mem_of_getElem? (i := 10) rfl)) (by decide) (by decide)) (g := (mkF m 53 #[.val (.long q0), .second, .val (.long q1), .second, .val (.long v1), .second, .val (.long v2), .second, .val (.long (fn1 v1 v2)), .second] [(.int (1 : Int32)), (.long (fn1 v1 v2)), (.long v2), (.long v1)])) rfl (by rw [hml]; rfl) (argsL := [(.long v1), (.long v2), (.long (fn1 v1 v2)), (.int (1 : Int32))]) (rest := []) (lenOf own_pd3 rfl) rfl (by show 2 * 0 + _ ≤ _; exact Nat.le_of_eq rfl) (hb hby at_53) (fun _ _ => ⟨rfl, e14, (by decide : 0 + 0 ≤ _), (by decide : 0 + 0 ≤ _)⟩)
      dsimp only [Pt.U, Pt.locs, Pt.cells, Pt.slots] at X16 l16 y16 z16 st16 hQ16
      subst l16 y16 z16
      obtain ⟨rfl, Nq16, e16⟩ := hQ16
      have N16 := Fr.app N14 Nq16
      refine Ends.via st16 ?_
      show Ends p e below s 0 0 (Q0 Z q0 q1  h0 n0) (T16.setTop (mkF m 56 #[.val (.long q0), .second, .val (.long q1), .second, .val (.long v1), .second, .val (.long v2), .second, .val (.long (fn1 v1 v2)), .second] [(.int (fn2 v1 v2 (fn1 v1 v2) (1 : Int32)))]))
      by_cases hc17 : (fn2 v1 v2 (fn1 v1 v2) (1 : Int32)) = (0 : Int32)
      · refine Ends.via (fun _ k => XS.ifYes X16.here hx rfl (pc0 := 56) (pc' := 199) rfl (hb hby at_56) rfl ((if0 _ _).trans (teq hc17).1) (by decide) (by decide) k) ?_
        show Ends p e below s 0 0 (Q0 Z q0 q1  h0 n0) (T16.setTop (mkF m 199 #[.val (.long q0), .second, .val (.long q1), .second, .val (.long v1), .second, .val (.long v2), .second, .val (.long (fn1 v1 v2)), .second] []))
        refine Ends.via (fun _ k => XS.iconst X16.here hx rfl (hb hby at_199) k) ?_
        show Ends p e below s 0 0 (Q0 Z q0 q1  h0 n0) (T16.setTop (mkF m 200 #[.val (.long q0), .second, .val (.long q1), .second, .val (.long v1), .second, .val (.long v2), .second, .val (.long (fn1 v1 v2)), .second] [(.int (0 : Int32))]))
        refine Ends.ret X16 (v := some (.int (nar .boolean (0 : Int32)))) (fun h => by rw [Bd.returns] at h; cases h) Bd.notSynchronized (fun fs hr => retN X16 hx (t := .boolean) Bd.returns (by simp) (hb hby at_200) hr) ?_ (by decide) (by decide)
        exact absurd (own_leaf2 q0 q1 v1 v2 hv1 hv2 hc7 hc15 hc17) id
      · refine Ends.via (fun _ k => XS.ifNo X16.here hx rfl (hb hby at_56) rfl ((if0 _ _).trans (feq hc17).1) k) ?_
        show Ends p e below s 0 0 (Q0 Z q0 q1  h0 n0) (T16.setTop (mkF m 59 #[.val (.long q0), .second, .val (.long q1), .second, .val (.long v1), .second, .val (.long v2), .second, .val (.long (fn1 v1 v2)), .second] []))
        refine Ends.via (fun _ k => XS.lload X16.here hx rfl (hb hby at_59) rfl k) ?_
        show Ends p e below s 0 0 (Q0 Z q0 q1  h0 n0) (T16.setTop (mkF m 61 #[.val (.long q0), .second, .val (.long q1), .second, .val (.long v1), .second, .val (.long v2), .second, .val (.long (fn1 v1 v2)), .second] [(.long v1)]))
        refine Ends.via (fun _ k => XS.lload X16.here hx rfl (hb hby at_61) rfl k) ?_
        show Ends p e below s 0 0 (Q0 Z q0 q1  h0 n0) (T16.setTop (mkF m 63 #[.val (.long q0), .second, .val (.long q1), .second, .val (.long v1), .second, .val (.long v2), .second, .val (.long (fn1 v1 v2)), .second] [(.long v2), (.long v1)]))
        refine Ends.via (fun _ k => XS.lload X16.here hx rfl (hb hby at_63) rfl k) ?_
        show Ends p e below s 0 0 (Q0 Z q0 q1  h0 n0) (T16.setTop (mkF m 65 #[.val (.long q0), .second, .val (.long q1), .second, .val (.long v1), .second, .val (.long v2), .second, .val (.long (fn1 v1 v2)), .second] [(.long (fn1 v1 v2)), (.long v2), (.long v1)]))
        refine Ends.via (fun _ k => XS.iconst X16.here hx rfl (hb hby at_65) k) ?_
        show Ends p e below s 0 0 (Q0 Z q0 q1  h0 n0) (T16.setTop (mkF m 66 #[.val (.long q0), .second, .val (.long q1), .second, .val (.long v1), .second, .val (.long v2), .second, .val (.long (fn1 v1 v2)), .second] [(.int (2 : Int32)), (.long (fn1 v1 v2)), (.long v2), (.long v1)]))
        obtain ⟨_, _, ⟨T18, L18, k18, n18⟩, -, X18, ⟨Lc18, hQ18, l18, y18, z18⟩, st18⟩ := Jvm.LawKit.callS X16 hx (y := (⟨"org/graphstride/HyperLogLogMaxPinLaw", "ok", "(JJJI)Z"⟩ : MethodName)) hown (mvT hZ (hw _ (List.mem_of_getElem? (i := 8) rfl))) (mvT hZ (hw _ (List.mem_of_getElem? (i := 9) rfl))) (mvT hZ (hw _ (List.mem_of_getElem? (i := 10) rfl))) (mvT hZ (hw _ (List.mem_of_getElem? (i := 11) rfl))) (by decide) (backOf (W := 0) (rm2 l Z a0 hw [] v1 v2 (fn1 v1 v2) (2 : Int32) h0 n0 Z0) hZ (hw _ (List.mem_of_getElem? (i := 11) rfl)) (hw _ (List.mem_of_getElem? (i := 10) rfl)) (by decide) (by decide)) (g := (mkF m 66 #[.val (.long q0), .second, .val (.long q1), .second, .val (.long v1), .second, .val (.long v2), .second, .val (.long (fn1 v1 v2)), .second] [(.int (2 : Int32)), (.long (fn1 v1 v2)), (.long v2), (.long v1)])) rfl (by rw [hml]; rfl) (argsL := [(.long v1), (.long v2), (.long (fn1 v1 v2)), (.int (2 : Int32))]) (rest := []) (lenOf own_pd3 rfl) rfl (by show 2 * 0 + _ ≤ _; exact Nat.le_of_eq rfl) (hb hby at_66) (fun _ _ => ⟨rfl, e16, (by decide : 0 + 0 ≤ _), (by decide : 0 + 0 ≤ _)⟩)
        dsimp only [Pt.U, Pt.locs, Pt.cells, Pt.slots] at X18 l18 y18 z18 st18 hQ18
        subst l18 y18 z18
        obtain ⟨rfl, Nq18, e18⟩ := hQ18
        have N18 := Fr.app N16 Nq18
        refine Ends.via st18 ?_
        show Ends p e below s 0 0 (Q0 Z q0 q1  h0 n0) (T18.setTop (mkF m 69 #[.val (.long q0), .second, .val (.long q1), .second, .val (.long v1), .second, .val (.long v2), .second, .val (.long (fn1 v1 v2)), .second] [(.int (fn2 v1 v2 (fn1 v1 v2) (2 : Int32)))]))
        by_cases hc19 : (fn2 v1 v2 (fn1 v1 v2) (2 : Int32)) = (0 : Int32)
        · refine Ends.via (fun _ k => XS.ifYes X18.here hx rfl (pc0 := 69) (pc' := 199) rfl (hb hby at_69) rfl ((if0 _ _).trans (teq hc19).1) (by decide) (by decide) k) ?_
          show Ends p e below s 0 0 (Q0 Z q0 q1  h0 n0) (T18.setTop (mkF m 199 #[.val (.long q0), .second, .val (.long q1), .second, .val (.long v1), .second, .val (.long v2), .second, .val (.long (fn1 v1 v2)), .second] []))
          refine Ends.via (fun _ k => XS.iconst X18.here hx rfl (hb hby at_199) k) ?_
          show Ends p e below s 0 0 (Q0 Z q0 q1  h0 n0) (T18.setTop (mkF m 200 #[.val (.long q0), .second, .val (.long q1), .second, .val (.long v1), .second, .val (.long v2), .second, .val (.long (fn1 v1 v2)), .second] [(.int (0 : Int32))]))
          refine Ends.ret X18 (v := some (.int (nar .boolean (0 : Int32)))) (fun h => by rw [Bd.returns] at h; cases h) Bd.notSynchronized (fun fs hr => retN X18 hx (t := .boolean) Bd.returns (by simp) (hb hby at_200) hr) ?_ (by decide) (by decide)
          exact absurd (own_leaf3 q0 q1 v1 v2 hv1 hv2 hc7 hc15 hc17 hc19) id
        · refine Ends.via (fun _ k => XS.ifNo X18.here hx rfl (hb hby at_69) rfl ((if0 _ _).trans (feq hc19).1) k) ?_
          show Ends p e below s 0 0 (Q0 Z q0 q1  h0 n0) (T18.setTop (mkF m 72 #[.val (.long q0), .second, .val (.long q1), .second, .val (.long v1), .second, .val (.long v2), .second, .val (.long (fn1 v1 v2)), .second] []))
          refine Ends.via (fun _ k => XS.lload X18.here hx rfl (hb hby at_72) rfl k) ?_
          show Ends p e below s 0 0 (Q0 Z q0 q1  h0 n0) (T18.setTop (mkF m 74 #[.val (.long q0), .second, .val (.long q1), .second, .val (.long v1), .second, .val (.long v2), .second, .val (.long (fn1 v1 v2)), .second] [(.long v1)]))
          refine Ends.via (fun _ k => XS.lload X18.here hx rfl (hb hby at_74) rfl k) ?_
          show Ends p e below s 0 0 (Q0 Z q0 q1  h0 n0) (T18.setTop (mkF m 76 #[.val (.long q0), .second, .val (.long q1), .second, .val (.long v1), .second, .val (.long v2), .second, .val (.long (fn1 v1 v2)), .second] [(.long v2), (.long v1)]))
          refine Ends.via (fun _ k => XS.lload X18.here hx rfl (hb hby at_76) rfl k) ?_
          show Ends p e below s 0 0 (Q0 Z q0 q1  h0 n0) (T18.setTop (mkF m 78 #[.val (.long q0), .second, .val (.long q1), .second, .val (.long v1), .second, .val (.long v2), .second, .val (.long (fn1 v1 v2)), .second] [(.long (fn1 v1 v2)), (.long v2), (.long v1)]))
          refine Ends.via (fun _ k => XS.iconst X18.here hx rfl (hb hby at_78) k) ?_
          show Ends p e below s 0 0 (Q0 Z q0 q1  h0 n0) (T18.setTop (mkF m 79 #[.val (.long q0), .second, .val (.long q1), .second, .val (.long v1), .second, .val (.long v2), .second, .val (.long (fn1 v1 v2)), .second] [(.int (3 : Int32)), (.long (fn1 v1 v2)), (.long v2), (.long v1)]))
          obtain ⟨_, _, ⟨T20, L20, k20, n20⟩, -, X20, ⟨Lc20, hQ20, l20, y20, z20⟩, st20⟩ := Jvm.LawKit.callS X18 hx (y := (⟨"org/graphstride/HyperLogLogMaxPinLaw", "ok", "(JJJI)Z"⟩ : MethodName)) hown (mvT hZ (hw _ (List.mem_of_getElem? (i := 8) rfl))) (mvT hZ (hw _ (List.mem_of_getElem? (i := 9) rfl))) (mvT hZ (hw _ (List.mem_of_getElem? (i := 10) rfl))) (mvT hZ (hw _ (List.mem_of_getElem? (i := 11) rfl))) (by decide) (backOf (W := 0) (rm2 l Z a0 hw [] v1 v2 (fn1 v1 v2) (3 : Int32) h0 n0 Z0) hZ (hw _ (List.mem_of_getElem? (i := 11) rfl)) (hw _ (List.mem_of_getElem? (i := 10) rfl)) (by decide) (by decide)) (g := (mkF m 79 #[.val (.long q0), .second, .val (.long q1), .second, .val (.long v1), .second, .val (.long v2), .second, .val (.long (fn1 v1 v2)), .second] [(.int (3 : Int32)), (.long (fn1 v1 v2)), (.long v2), (.long v1)])) rfl (by rw [hml]; rfl) (argsL := [(.long v1), (.long v2), (.long (fn1 v1 v2)), (.int (3 : Int32))]) (rest := []) (lenOf own_pd3 rfl) rfl (by show 2 * 0 + _ ≤ _; exact Nat.le_of_eq rfl) (hb hby at_79) (fun _ _ => ⟨rfl, e18, (by decide : 0 + 0 ≤ _), (by decide : 0 + 0 ≤ _)⟩)
          dsimp only [Pt.U, Pt.locs, Pt.cells, Pt.slots] at X20 l20 y20 z20 st20 hQ20
          subst l20 y20 z20
          obtain ⟨rfl, Nq20, e20⟩ := hQ20
          have N20 := Fr.app N18 Nq20
          refine Ends.via st20 ?_
          show Ends p e below s 0 0 (Q0 Z q0 q1  h0 n0) (T20.setTop (mkF m 82 #[.val (.long q0), .second, .val (.long q1), .second, .val (.long v1), .second, .val (.long v2), .second, .val (.long (fn1 v1 v2)), .second] [(.int (fn2 v1 v2 (fn1 v1 v2) (3 : Int32)))]))
          by_cases hc21 : (fn2 v1 v2 (fn1 v1 v2) (3 : Int32)) = (0 : Int32)
          · refine Ends.via (fun _ k => XS.ifYes X20.here hx rfl (pc0 := 82) (pc' := 199) rfl (hb hby at_82) rfl ((if0 _ _).trans (teq hc21).1) (by decide) (by decide) k) ?_
            show Ends p e below s 0 0 (Q0 Z q0 q1  h0 n0) (T20.setTop (mkF m 199 #[.val (.long q0), .second, .val (.long q1), .second, .val (.long v1), .second, .val (.long v2), .second, .val (.long (fn1 v1 v2)), .second] []))
            refine Ends.via (fun _ k => XS.iconst X20.here hx rfl (hb hby at_199) k) ?_
            show Ends p e below s 0 0 (Q0 Z q0 q1  h0 n0) (T20.setTop (mkF m 200 #[.val (.long q0), .second, .val (.long q1), .second, .val (.long v1), .second, .val (.long v2), .second, .val (.long (fn1 v1 v2)), .second] [(.int (0 : Int32))]))
            refine Ends.ret X20 (v := some (.int (nar .boolean (0 : Int32)))) (fun h => by rw [Bd.returns] at h; cases h) Bd.notSynchronized (fun fs hr => retN X20 hx (t := .boolean) Bd.returns (by simp) (hb hby at_200) hr) ?_ (by decide) (by decide)
            exact absurd (own_leaf4 q0 q1 v1 v2 hv1 hv2 hc7 hc15 hc17 hc19 hc21) id
          · refine Ends.via (fun _ k => XS.ifNo X20.here hx rfl (hb hby at_82) rfl ((if0 _ _).trans (feq hc21).1) k) ?_
            show Ends p e below s 0 0 (Q0 Z q0 q1  h0 n0) (T20.setTop (mkF m 85 #[.val (.long q0), .second, .val (.long q1), .second, .val (.long v1), .second, .val (.long v2), .second, .val (.long (fn1 v1 v2)), .second] []))
            refine Ends.via (fun _ k => XS.lload X20.here hx rfl (hb hby at_85) rfl k) ?_
            show Ends p e below s 0 0 (Q0 Z q0 q1  h0 n0) (T20.setTop (mkF m 87 #[.val (.long q0), .second, .val (.long q1), .second, .val (.long v1), .second, .val (.long v2), .second, .val (.long (fn1 v1 v2)), .second] [(.long v1)]))
            refine Ends.via (fun _ k => XS.lload X20.here hx rfl (hb hby at_87) rfl k) ?_
            show Ends p e below s 0 0 (Q0 Z q0 q1  h0 n0) (T20.setTop (mkF m 89 #[.val (.long q0), .second, .val (.long q1), .second, .val (.long v1), .second, .val (.long v2), .second, .val (.long (fn1 v1 v2)), .second] [(.long v2), (.long v1)]))
            refine Ends.via (fun _ k => XS.lload X20.here hx rfl (hb hby at_89) rfl k) ?_
            show Ends p e below s 0 0 (Q0 Z q0 q1  h0 n0) (T20.setTop (mkF m 91 #[.val (.long q0), .second, .val (.long q1), .second, .val (.long v1), .second, .val (.long v2), .second, .val (.long (fn1 v1 v2)), .second] [(.long (fn1 v1 v2)), (.long v2), (.long v1)]))
            refine Ends.via (fun _ k => XS.iconst X20.here hx rfl (hb hby at_91) k) ?_
            show Ends p e below s 0 0 (Q0 Z q0 q1  h0 n0) (T20.setTop (mkF m 92 #[.val (.long q0), .second, .val (.long q1), .second, .val (.long v1), .second, .val (.long v2), .second, .val (.long (fn1 v1 v2)), .second] [(.int (4 : Int32)), (.long (fn1 v1 v2)), (.long v2), (.long v1)]))
            obtain ⟨_, _, ⟨T22, L22, k22, n22⟩, -, X22, ⟨Lc22, hQ22, l22, y22, z22⟩, st22⟩ := Jvm.LawKit.callS X20 hx (y := (⟨"org/graphstride/HyperLogLogMaxPinLaw", "ok", "(JJJI)Z"⟩ : MethodName)) hown (mvT hZ (hw _ (List.mem_of_getElem? (i := 8) rfl))) (mvT hZ (hw _ (List.mem_of_getElem? (i := 9) rfl))) (mvT hZ (hw _ (List.mem_of_getElem? (i := 10) rfl))) (mvT hZ (hw _ (List.mem_of_getElem? (i := 11) rfl))) (by decide) (backOf (W := 0) (rm2 l Z a0 hw [] v1 v2 (fn1 v1 v2) (4 : Int32) h0 n0 Z0) hZ (hw _ (List.mem_of_getElem? (i := 11) rfl)) (hw _ (List.mem_of_getElem? (i := 10) rfl)) (by decide) (by decide)) (g := (mkF m 92 #[.val (.long q0), .second, .val (.long q1), .second, .val (.long v1), .second, .val (.long v2), .second, .val (.long (fn1 v1 v2)), .second] [(.int (4 : Int32)), (.long (fn1 v1 v2)), (.long v2), (.long v1)])) rfl (by rw [hml]; rfl) (argsL := [(.long v1), (.long v2), (.long (fn1 v1 v2)), (.int (4 : Int32))]) (rest := []) (lenOf own_pd3 rfl) rfl (by show 2 * 0 + _ ≤ _; exact Nat.le_of_eq rfl) (hb hby at_92) (fun _ _ => ⟨rfl, e20, (by decide : 0 + 0 ≤ _), (by decide : 0 + 0 ≤ _)⟩)
            dsimp only [Pt.U, Pt.locs, Pt.cells, Pt.slots] at X22 l22 y22 z22 st22 hQ22
            subst l22 y22 z22
            obtain ⟨rfl, Nq22, e22⟩ := hQ22
            have N22 := Fr.app N20 Nq22
            refine Ends.via st22 ?_
            show Ends p e below s 0 0 (Q0 Z q0 q1  h0 n0) (T22.setTop (mkF m 95 #[.val (.long q0), .second, .val (.long q1), .second, .val (.long v1), .second, .val (.long v2), .second, .val (.long (fn1 v1 v2)), .second] [(.int (fn2 v1 v2 (fn1 v1 v2) (4 : Int32)))]))
            by_cases hc23 : (fn2 v1 v2 (fn1 v1 v2) (4 : Int32)) = (0 : Int32)
            · refine Ends.via (fun _ k => XS.ifYes X22.here hx rfl (pc0 := 95) (pc' := 199) rfl (hb hby at_95) rfl ((if0 _ _).trans (teq hc23).1) (by decide) (by decide) k) ?_
              show Ends p e below s 0 0 (Q0 Z q0 q1  h0 n0) (T22.setTop (mkF m 199 #[.val (.long q0), .second, .val (.long q1), .second, .val (.long v1), .second, .val (.long v2), .second, .val (.long (fn1 v1 v2)), .second] []))
              refine Ends.via (fun _ k => XS.iconst X22.here hx rfl (hb hby at_199) k) ?_
              show Ends p e below s 0 0 (Q0 Z q0 q1  h0 n0) (T22.setTop (mkF m 200 #[.val (.long q0), .second, .val (.long q1), .second, .val (.long v1), .second, .val (.long v2), .second, .val (.long (fn1 v1 v2)), .second] [(.int (0 : Int32))]))
              refine Ends.ret X22 (v := some (.int (nar .boolean (0 : Int32)))) (fun h => by rw [Bd.returns] at h; cases h) Bd.notSynchronized (fun fs hr => retN X22 hx (t := .boolean) Bd.returns (by simp) (hb hby at_200) hr) ?_ (by decide) (by decide)
              exact absurd (own_leaf5 q0 q1 v1 v2 hv1 hv2 hc7 hc15 hc17 hc19 hc21 hc23) id
            · refine Ends.via (fun _ k => XS.ifNo X22.here hx rfl (hb hby at_95) rfl ((if0 _ _).trans (feq hc23).1) k) ?_
              show Ends p e below s 0 0 (Q0 Z q0 q1  h0 n0) (T22.setTop (mkF m 98 #[.val (.long q0), .second, .val (.long q1), .second, .val (.long v1), .second, .val (.long v2), .second, .val (.long (fn1 v1 v2)), .second] []))
              refine Ends.via (fun _ k => XS.lload X22.here hx rfl (hb hby at_98) rfl k) ?_
              show Ends p e below s 0 0 (Q0 Z q0 q1  h0 n0) (T22.setTop (mkF m 100 #[.val (.long q0), .second, .val (.long q1), .second, .val (.long v1), .second, .val (.long v2), .second, .val (.long (fn1 v1 v2)), .second] [(.long v1)]))
              refine Ends.via (fun _ k => XS.lload X22.here hx rfl (hb hby at_100) rfl k) ?_
              show Ends p e below s 0 0 (Q0 Z q0 q1  h0 n0) (T22.setTop (mkF m 102 #[.val (.long q0), .second, .val (.long q1), .second, .val (.long v1), .second, .val (.long v2), .second, .val (.long (fn1 v1 v2)), .second] [(.long v2), (.long v1)]))
              refine Ends.via (fun _ k => XS.lload X22.here hx rfl (hb hby at_102) rfl k) ?_
              show Ends p e below s 0 0 (Q0 Z q0 q1  h0 n0) (T22.setTop (mkF m 104 #[.val (.long q0), .second, .val (.long q1), .second, .val (.long v1), .second, .val (.long v2), .second, .val (.long (fn1 v1 v2)), .second] [(.long (fn1 v1 v2)), (.long v2), (.long v1)]))
              refine Ends.via (fun _ k => XS.iconst X22.here hx rfl (hb hby at_104) k) ?_
              show Ends p e below s 0 0 (Q0 Z q0 q1  h0 n0) (T22.setTop (mkF m 105 #[.val (.long q0), .second, .val (.long q1), .second, .val (.long v1), .second, .val (.long v2), .second, .val (.long (fn1 v1 v2)), .second] [(.int (5 : Int32)), (.long (fn1 v1 v2)), (.long v2), (.long v1)]))
              obtain ⟨_, _, ⟨T24, L24, k24, n24⟩, -, X24, ⟨Lc24, hQ24, l24, y24, z24⟩, st24⟩ := Jvm.LawKit.callS X22 hx (y := (⟨"org/graphstride/HyperLogLogMaxPinLaw", "ok", "(JJJI)Z"⟩ : MethodName)) hown (mvT hZ (hw _ (List.mem_of_getElem? (i := 8) rfl))) (mvT hZ (hw _ (List.mem_of_getElem? (i := 9) rfl))) (mvT hZ (hw _ (List.mem_of_getElem? (i := 10) rfl))) (mvT hZ (hw _ (List.mem_of_getElem? (i := 11) rfl))) (by decide) (backOf (W := 0) (rm2 l Z a0 hw [] v1 v2 (fn1 v1 v2) (5 : Int32) h0 n0 Z0) hZ (hw _ (List.mem_of_getElem? (i := 11) rfl)) (hw _ (List.mem_of_getElem? (i := 10) rfl)) (by decide) (by decide)) (g := (mkF m 105 #[.val (.long q0), .second, .val (.long q1), .second, .val (.long v1), .second, .val (.long v2), .second, .val (.long (fn1 v1 v2)), .second] [(.int (5 : Int32)), (.long (fn1 v1 v2)), (.long v2), (.long v1)])) rfl (by rw [hml]; rfl) (argsL := [(.long v1), (.long v2), (.long (fn1 v1 v2)), (.int (5 : Int32))]) (rest := []) (lenOf own_pd3 rfl) rfl (by show 2 * 0 + _ ≤ _; exact Nat.le_of_eq rfl) (hb hby at_105) (fun _ _ => ⟨rfl, e22, (by decide : 0 + 0 ≤ _), (by decide : 0 + 0 ≤ _)⟩)
              dsimp only [Pt.U, Pt.locs, Pt.cells, Pt.slots] at X24 l24 y24 z24 st24 hQ24
              subst l24 y24 z24
              obtain ⟨rfl, Nq24, e24⟩ := hQ24
              have N24 := Fr.app N22 Nq24
              refine Ends.via st24 ?_
              show Ends p e below s 0 0 (Q0 Z q0 q1  h0 n0) (T24.setTop (mkF m 108 #[.val (.long q0), .second, .val (.long q1), .second, .val (.long v1), .second, .val (.long v2), .second, .val (.long (fn1 v1 v2)), .second] [(.int (fn2 v1 v2 (fn1 v1 v2) (5 : Int32)))]))
              by_cases hc25 : (fn2 v1 v2 (fn1 v1 v2) (5 : Int32)) = (0 : Int32)
              · refine Ends.via (fun _ k => XS.ifYes X24.here hx rfl (pc0 := 108) (pc' := 199) rfl (hb hby at_108) rfl ((if0 _ _).trans (teq hc25).1) (by decide) (by decide) k) ?_
                show Ends p e below s 0 0 (Q0 Z q0 q1  h0 n0) (T24.setTop (mkF m 199 #[.val (.long q0), .second, .val (.long q1), .second, .val (.long v1), .second, .val (.long v2), .second, .val (.long (fn1 v1 v2)), .second] []))
                refine Ends.via (fun _ k => XS.iconst X24.here hx rfl (hb hby at_199) k) ?_
                show Ends p e below s 0 0 (Q0 Z q0 q1  h0 n0) (T24.setTop (mkF m 200 #[.val (.long q0), .second, .val (.long q1), .second, .val (.long v1), .second, .val (.long v2), .second, .val (.long (fn1 v1 v2)), .second] [(.int (0 : Int32))]))
                refine Ends.ret X24 (v := some (.int (nar .boolean (0 : Int32)))) (fun h => by rw [Bd.returns] at h; cases h) Bd.notSynchronized (fun fs hr => retN X24 hx (t := .boolean) Bd.returns (by simp) (hb hby at_200) hr) ?_ (by decide) (by decide)
                exact absurd (own_leaf6 q0 q1 v1 v2 hv1 hv2 hc7 hc15 hc17 hc19 hc21 hc23 hc25) id
              · refine Ends.via (fun _ k => XS.ifNo X24.here hx rfl (hb hby at_108) rfl ((if0 _ _).trans (feq hc25).1) k) ?_
                show Ends p e below s 0 0 (Q0 Z q0 q1  h0 n0) (T24.setTop (mkF m 111 #[.val (.long q0), .second, .val (.long q1), .second, .val (.long v1), .second, .val (.long v2), .second, .val (.long (fn1 v1 v2)), .second] []))
                refine Ends.via (fun _ k => XS.lload X24.here hx rfl (hb hby at_111) rfl k) ?_
                show Ends p e below s 0 0 (Q0 Z q0 q1  h0 n0) (T24.setTop (mkF m 113 #[.val (.long q0), .second, .val (.long q1), .second, .val (.long v1), .second, .val (.long v2), .second, .val (.long (fn1 v1 v2)), .second] [(.long v1)]))
                refine Ends.via (fun _ k => XS.lload X24.here hx rfl (hb hby at_113) rfl k) ?_
                show Ends p e below s 0 0 (Q0 Z q0 q1  h0 n0) (T24.setTop (mkF m 115 #[.val (.long q0), .second, .val (.long q1), .second, .val (.long v1), .second, .val (.long v2), .second, .val (.long (fn1 v1 v2)), .second] [(.long v2), (.long v1)]))
                refine Ends.via (fun _ k => XS.lload X24.here hx rfl (hb hby at_115) rfl k) ?_
                show Ends p e below s 0 0 (Q0 Z q0 q1  h0 n0) (T24.setTop (mkF m 117 #[.val (.long q0), .second, .val (.long q1), .second, .val (.long v1), .second, .val (.long v2), .second, .val (.long (fn1 v1 v2)), .second] [(.long (fn1 v1 v2)), (.long v2), (.long v1)]))
                refine Ends.via (fun _ k => XS.bipush X24.here hx rfl (hb hby at_117) k) ?_
                show Ends p e below s 0 0 (Q0 Z q0 q1  h0 n0) (T24.setTop (mkF m 119 #[.val (.long q0), .second, .val (.long q1), .second, .val (.long v1), .second, .val (.long v2), .second, .val (.long (fn1 v1 v2)), .second] [(.int (6 : Int32)), (.long (fn1 v1 v2)), (.long v2), (.long v1)]))
                obtain ⟨_, _, ⟨T26, L26, k26, n26⟩, -, X26, ⟨Lc26, hQ26, l26, y26, z26⟩, st26⟩ := Jvm.LawKit.callS X24 hx (y := (⟨"org/graphstride/HyperLogLogMaxPinLaw", "ok", "(JJJI)Z"⟩ : MethodName)) hown (mvT hZ (hw _ (List.mem_of_getElem? (i := 8) rfl))) (mvT hZ (hw _ (List.mem_of_getElem? (i := 9) rfl))) (mvT hZ (hw _ (List.mem_of_getElem? (i := 10) rfl))) (mvT hZ (hw _ (List.mem_of_getElem? (i := 11) rfl))) (by decide) (backOf (W := 0) (rm2 l Z a0 hw [] v1 v2 (fn1 v1 v2) (6 : Int32) h0 n0 Z0) hZ (hw _ (List.mem_of_getElem? (i := 11) rfl)) (hw _ (List.mem_of_getElem? (i := 10) rfl)) (by decide) (by decide)) (g := (mkF m 119 #[.val (.long q0), .second, .val (.long q1), .second, .val (.long v1), .second, .val (.long v2), .second, .val (.long (fn1 v1 v2)), .second] [(.int (6 : Int32)), (.long (fn1 v1 v2)), (.long v2), (.long v1)])) rfl (by rw [hml]; rfl) (argsL := [(.long v1), (.long v2), (.long (fn1 v1 v2)), (.int (6 : Int32))]) (rest := []) (lenOf own_pd3 rfl) rfl (by show 2 * 0 + _ ≤ _; exact Nat.le_of_eq rfl) (hb hby at_119) (fun _ _ => ⟨rfl, e24, (by decide : 0 + 0 ≤ _), (by decide : 0 + 0 ≤ _)⟩)
                dsimp only [Pt.U, Pt.locs, Pt.cells, Pt.slots] at X26 l26 y26 z26 st26 hQ26
                subst l26 y26 z26
                obtain ⟨rfl, Nq26, e26⟩ := hQ26
                have N26 := Fr.app N24 Nq26
                refine Ends.via st26 ?_
                show Ends p e below s 0 0 (Q0 Z q0 q1  h0 n0) (T26.setTop (mkF m 122 #[.val (.long q0), .second, .val (.long q1), .second, .val (.long v1), .second, .val (.long v2), .second, .val (.long (fn1 v1 v2)), .second] [(.int (fn2 v1 v2 (fn1 v1 v2) (6 : Int32)))]))
                by_cases hc27 : (fn2 v1 v2 (fn1 v1 v2) (6 : Int32)) = (0 : Int32)
                · refine Ends.via (fun _ k => XS.ifYes X26.here hx rfl (pc0 := 122) (pc' := 199) rfl (hb hby at_122) rfl ((if0 _ _).trans (teq hc27).1) (by decide) (by decide) k) ?_
                  show Ends p e below s 0 0 (Q0 Z q0 q1  h0 n0) (T26.setTop (mkF m 199 #[.val (.long q0), .second, .val (.long q1), .second, .val (.long v1), .second, .val (.long v2), .second, .val (.long (fn1 v1 v2)), .second] []))
                  refine Ends.via (fun _ k => XS.iconst X26.here hx rfl (hb hby at_199) k) ?_
                  show Ends p e below s 0 0 (Q0 Z q0 q1  h0 n0) (T26.setTop (mkF m 200 #[.val (.long q0), .second, .val (.long q1), .second, .val (.long v1), .second, .val (.long v2), .second, .val (.long (fn1 v1 v2)), .second] [(.int (0 : Int32))]))
                  refine Ends.ret X26 (v := some (.int (nar .boolean (0 : Int32)))) (fun h => by rw [Bd.returns] at h; cases h) Bd.notSynchronized (fun fs hr => retN X26 hx (t := .boolean) Bd.returns (by simp) (hb hby at_200) hr) ?_ (by decide) (by decide)
                  exact absurd (own_leaf7 q0 q1 v1 v2 hv1 hv2 hc7 hc15 hc17 hc19 hc21 hc23 hc25 hc27) id
                · refine Ends.via (fun _ k => XS.ifNo X26.here hx rfl (hb hby at_122) rfl ((if0 _ _).trans (feq hc27).1) k) ?_
                  show Ends p e below s 0 0 (Q0 Z q0 q1  h0 n0) (T26.setTop (mkF m 125 #[.val (.long q0), .second, .val (.long q1), .second, .val (.long v1), .second, .val (.long v2), .second, .val (.long (fn1 v1 v2)), .second] []))
                  refine Ends.via (fun _ k => XS.lload X26.here hx rfl (hb hby at_125) rfl k) ?_
                  show Ends p e below s 0 0 (Q0 Z q0 q1  h0 n0) (T26.setTop (mkF m 127 #[.val (.long q0), .second, .val (.long q1), .second, .val (.long v1), .second, .val (.long v2), .second, .val (.long (fn1 v1 v2)), .second] [(.long v1)]))
                  refine Ends.via (fun _ k => XS.lload X26.here hx rfl (hb hby at_127) rfl k) ?_
                  show Ends p e below s 0 0 (Q0 Z q0 q1  h0 n0) (T26.setTop (mkF m 129 #[.val (.long q0), .second, .val (.long q1), .second, .val (.long v1), .second, .val (.long v2), .second, .val (.long (fn1 v1 v2)), .second] [(.long v2), (.long v1)]))
                  refine Ends.via (fun _ k => XS.lload X26.here hx rfl (hb hby at_129) rfl k) ?_
                  show Ends p e below s 0 0 (Q0 Z q0 q1  h0 n0) (T26.setTop (mkF m 131 #[.val (.long q0), .second, .val (.long q1), .second, .val (.long v1), .second, .val (.long v2), .second, .val (.long (fn1 v1 v2)), .second] [(.long (fn1 v1 v2)), (.long v2), (.long v1)]))
                  refine Ends.via (fun _ k => XS.bipush X26.here hx rfl (hb hby at_131) k) ?_
                  show Ends p e below s 0 0 (Q0 Z q0 q1  h0 n0) (T26.setTop (mkF m 133 #[.val (.long q0), .second, .val (.long q1), .second, .val (.long v1), .second, .val (.long v2), .second, .val (.long (fn1 v1 v2)), .second] [(.int (7 : Int32)), (.long (fn1 v1 v2)), (.long v2), (.long v1)]))
                  obtain ⟨_, _, ⟨T28, L28, k28, n28⟩, -, X28, ⟨Lc28, hQ28, l28, y28, z28⟩, st28⟩ := Jvm.LawKit.callS X26 hx (y := (⟨"org/graphstride/HyperLogLogMaxPinLaw", "ok", "(JJJI)Z"⟩ : MethodName)) hown (mvT hZ (hw _ (List.mem_of_getElem? (i := 8) rfl))) (mvT hZ (hw _ (List.mem_of_getElem? (i := 9) rfl))) (mvT hZ (hw _ (List.mem_of_getElem? (i := 10) rfl))) (mvT hZ (hw _ (List.mem_of_getElem? (i := 11) rfl))) (by decide) (backOf (W := 0) (rm2 l Z a0 hw [] v1 v2 (fn1 v1 v2) (7 : Int32) h0 n0 Z0) hZ (hw _ (List.mem_of_getElem? (i := 11) rfl)) (hw _ (List.mem_of_getElem? (i := 10) rfl)) (by decide) (by decide)) (g := (mkF m 133 #[.val (.long q0), .second, .val (.long q1), .second, .val (.long v1), .second, .val (.long v2), .second, .val (.long (fn1 v1 v2)), .second] [(.int (7 : Int32)), (.long (fn1 v1 v2)), (.long v2), (.long v1)])) rfl (by rw [hml]; rfl) (argsL := [(.long v1), (.long v2), (.long (fn1 v1 v2)), (.int (7 : Int32))]) (rest := []) (lenOf own_pd3 rfl) rfl (by show 2 * 0 + _ ≤ _; exact Nat.le_of_eq rfl) (hb hby at_133) (fun _ _ => ⟨rfl, e26, (by decide : 0 + 0 ≤ _), (by decide : 0 + 0 ≤ _)⟩)
                  dsimp only [Pt.U, Pt.locs, Pt.cells, Pt.slots] at X28 l28 y28 z28 st28 hQ28
                  subst l28 y28 z28
                  obtain ⟨rfl, Nq28, e28⟩ := hQ28
                  have N28 := Fr.app N26 Nq28
                  refine Ends.via st28 ?_
                  show Ends p e below s 0 0 (Q0 Z q0 q1  h0 n0) (T28.setTop (mkF m 136 #[.val (.long q0), .second, .val (.long q1), .second, .val (.long v1), .second, .val (.long v2), .second, .val (.long (fn1 v1 v2)), .second] [(.int (fn2 v1 v2 (fn1 v1 v2) (7 : Int32)))]))
                  by_cases hc29 : (fn2 v1 v2 (fn1 v1 v2) (7 : Int32)) = (0 : Int32)
                  · refine Ends.via (fun _ k => XS.ifYes X28.here hx rfl (pc0 := 136) (pc' := 199) rfl (hb hby at_136) rfl ((if0 _ _).trans (teq hc29).1) (by decide) (by decide) k) ?_
                    show Ends p e below s 0 0 (Q0 Z q0 q1  h0 n0) (T28.setTop (mkF m 199 #[.val (.long q0), .second, .val (.long q1), .second, .val (.long v1), .second, .val (.long v2), .second, .val (.long (fn1 v1 v2)), .second] []))
                    refine Ends.via (fun _ k => XS.iconst X28.here hx rfl (hb hby at_199) k) ?_
                    show Ends p e below s 0 0 (Q0 Z q0 q1  h0 n0) (T28.setTop (mkF m 200 #[.val (.long q0), .second, .val (.long q1), .second, .val (.long v1), .second, .val (.long v2), .second, .val (.long (fn1 v1 v2)), .second] [(.int (0 : Int32))]))
                    refine Ends.ret X28 (v := some (.int (nar .boolean (0 : Int32)))) (fun h => by rw [Bd.returns] at h; cases h) Bd.notSynchronized (fun fs hr => retN X28 hx (t := .boolean) Bd.returns (by simp) (hb hby at_200) hr) ?_ (by decide) (by decide)
                    exact absurd (own_leaf8 q0 q1 v1 v2 hv1 hv2 hc7 hc15 hc17 hc19 hc21 hc23 hc25 hc27 hc29) id
                  · refine Ends.via (fun _ k => XS.ifNo X28.here hx rfl (hb hby at_136) rfl ((if0 _ _).trans (feq hc29).1) k) ?_
                    show Ends p e below s 0 0 (Q0 Z q0 q1  h0 n0) (T28.setTop (mkF m 139 #[.val (.long q0), .second, .val (.long q1), .second, .val (.long v1), .second, .val (.long v2), .second, .val (.long (fn1 v1 v2)), .second] []))
                    refine Ends.via (fun _ k => XS.lload X28.here hx rfl (hb hby at_139) rfl k) ?_
                    show Ends p e below s 0 0 (Q0 Z q0 q1  h0 n0) (T28.setTop (mkF m 141 #[.val (.long q0), .second, .val (.long q1), .second, .val (.long v1), .second, .val (.long v2), .second, .val (.long (fn1 v1 v2)), .second] [(.long v1)]))
                    refine Ends.via (fun _ k => XS.lload X28.here hx rfl (hb hby at_141) rfl k) ?_
                    show Ends p e below s 0 0 (Q0 Z q0 q1  h0 n0) (T28.setTop (mkF m 143 #[.val (.long q0), .second, .val (.long q1), .second, .val (.long v1), .second, .val (.long v2), .second, .val (.long (fn1 v1 v2)), .second] [(.long v2), (.long v1)]))
                    refine Ends.via (fun _ k => XS.lload X28.here hx rfl (hb hby at_143) rfl k) ?_
                    show Ends p e below s 0 0 (Q0 Z q0 q1  h0 n0) (T28.setTop (mkF m 145 #[.val (.long q0), .second, .val (.long q1), .second, .val (.long v1), .second, .val (.long v2), .second, .val (.long (fn1 v1 v2)), .second] [(.long (fn1 v1 v2)), (.long v2), (.long v1)]))
                    refine Ends.via (fun _ k => XS.bipush X28.here hx rfl (hb hby at_145) k) ?_
                    show Ends p e below s 0 0 (Q0 Z q0 q1  h0 n0) (T28.setTop (mkF m 147 #[.val (.long q0), .second, .val (.long q1), .second, .val (.long v1), .second, .val (.long v2), .second, .val (.long (fn1 v1 v2)), .second] [(.int (8 : Int32)), (.long (fn1 v1 v2)), (.long v2), (.long v1)]))
                    obtain ⟨_, _, ⟨T30, L30, k30, n30⟩, -, X30, ⟨Lc30, hQ30, l30, y30, z30⟩, st30⟩ := Jvm.LawKit.callS X28 hx (y := (⟨"org/graphstride/HyperLogLogMaxPinLaw", "ok", "(JJJI)Z"⟩ : MethodName)) hown (mvT hZ (hw _ (List.mem_of_getElem? (i := 8) rfl))) (mvT hZ (hw _ (List.mem_of_getElem? (i := 9) rfl))) (mvT hZ (hw _ (List.mem_of_getElem? (i := 10) rfl))) (mvT hZ (hw _ (List.mem_of_getElem? (i := 11) rfl))) (by decide) (backOf (W := 0) (rm2 l Z a0 hw [] v1 v2 (fn1 v1 v2) (8 : Int32) h0 n0 Z0) hZ (hw _ (List.mem_of_getElem? (i := 11) rfl)) (hw _ (List.mem_of_getElem? (i := 10) rfl)) (by decide) (by decide)) (g := (mkF m 147 #[.val (.long q0), .second, .val (.long q1), .second, .val (.long v1), .second, .val (.long v2), .second, .val (.long (fn1 v1 v2)), .second] [(.int (8 : Int32)), (.long (fn1 v1 v2)), (.long v2), (.long v1)])) rfl (by rw [hml]; rfl) (argsL := [(.long v1), (.long v2), (.long (fn1 v1 v2)), (.int (8 : Int32))]) (rest := []) (lenOf own_pd3 rfl) rfl (by show 2 * 0 + _ ≤ _; exact Nat.le_of_eq rfl) (hb hby at_147) (fun _ _ => ⟨rfl, e28, (by decide : 0 + 0 ≤ _), (by decide : 0 + 0 ≤ _)⟩)
                    dsimp only [Pt.U, Pt.locs, Pt.cells, Pt.slots] at X30 l30 y30 z30 st30 hQ30
                    subst l30 y30 z30
                    obtain ⟨rfl, Nq30, e30⟩ := hQ30
                    have N30 := Fr.app N28 Nq30
                    refine Ends.via st30 ?_
                    show Ends p e below s 0 0 (Q0 Z q0 q1  h0 n0) (T30.setTop (mkF m 150 #[.val (.long q0), .second, .val (.long q1), .second, .val (.long v1), .second, .val (.long v2), .second, .val (.long (fn1 v1 v2)), .second] [(.int (fn2 v1 v2 (fn1 v1 v2) (8 : Int32)))]))
                    by_cases hc31 : (fn2 v1 v2 (fn1 v1 v2) (8 : Int32)) = (0 : Int32)
                    · refine Ends.via (fun _ k => XS.ifYes X30.here hx rfl (pc0 := 150) (pc' := 199) rfl (hb hby at_150) rfl ((if0 _ _).trans (teq hc31).1) (by decide) (by decide) k) ?_
                      show Ends p e below s 0 0 (Q0 Z q0 q1  h0 n0) (T30.setTop (mkF m 199 #[.val (.long q0), .second, .val (.long q1), .second, .val (.long v1), .second, .val (.long v2), .second, .val (.long (fn1 v1 v2)), .second] []))
                      refine Ends.via (fun _ k => XS.iconst X30.here hx rfl (hb hby at_199) k) ?_
                      show Ends p e below s 0 0 (Q0 Z q0 q1  h0 n0) (T30.setTop (mkF m 200 #[.val (.long q0), .second, .val (.long q1), .second, .val (.long v1), .second, .val (.long v2), .second, .val (.long (fn1 v1 v2)), .second] [(.int (0 : Int32))]))
                      refine Ends.ret X30 (v := some (.int (nar .boolean (0 : Int32)))) (fun h => by rw [Bd.returns] at h; cases h) Bd.notSynchronized (fun fs hr => retN X30 hx (t := .boolean) Bd.returns (by simp) (hb hby at_200) hr) ?_ (by decide) (by decide)
                      exact absurd (own_leaf9 q0 q1 v1 v2 hv1 hv2 hc7 hc15 hc17 hc19 hc21 hc23 hc25 hc27 hc29 hc31) id
                    · refine Ends.via (fun _ k => XS.ifNo X30.here hx rfl (hb hby at_150) rfl ((if0 _ _).trans (feq hc31).1) k) ?_
                      show Ends p e below s 0 0 (Q0 Z q0 q1  h0 n0) (T30.setTop (mkF m 153 #[.val (.long q0), .second, .val (.long q1), .second, .val (.long v1), .second, .val (.long v2), .second, .val (.long (fn1 v1 v2)), .second] []))
                      refine Ends.via (fun _ k => XS.lload X30.here hx rfl (hb hby at_153) rfl k) ?_
                      show Ends p e below s 0 0 (Q0 Z q0 q1  h0 n0) (T30.setTop (mkF m 155 #[.val (.long q0), .second, .val (.long q1), .second, .val (.long v1), .second, .val (.long v2), .second, .val (.long (fn1 v1 v2)), .second] [(.long v1)]))
                      refine Ends.via (fun _ k => XS.lload X30.here hx rfl (hb hby at_155) rfl k) ?_
                      show Ends p e below s 0 0 (Q0 Z q0 q1  h0 n0) (T30.setTop (mkF m 157 #[.val (.long q0), .second, .val (.long q1), .second, .val (.long v1), .second, .val (.long v2), .second, .val (.long (fn1 v1 v2)), .second] [(.long v2), (.long v1)]))
                      refine Ends.via (fun _ k => XS.lload X30.here hx rfl (hb hby at_157) rfl k) ?_
                      show Ends p e below s 0 0 (Q0 Z q0 q1  h0 n0) (T30.setTop (mkF m 159 #[.val (.long q0), .second, .val (.long q1), .second, .val (.long v1), .second, .val (.long v2), .second, .val (.long (fn1 v1 v2)), .second] [(.long (fn1 v1 v2)), (.long v2), (.long v1)]))
                      refine Ends.via (fun _ k => XS.bipush X30.here hx rfl (hb hby at_159) k) ?_
                      show Ends p e below s 0 0 (Q0 Z q0 q1  h0 n0) (T30.setTop (mkF m 161 #[.val (.long q0), .second, .val (.long q1), .second, .val (.long v1), .second, .val (.long v2), .second, .val (.long (fn1 v1 v2)), .second] [(.int (9 : Int32)), (.long (fn1 v1 v2)), (.long v2), (.long v1)]))
                      obtain ⟨_, _, ⟨T32, L32, k32, n32⟩, -, X32, ⟨Lc32, hQ32, l32, y32, z32⟩, st32⟩ := Jvm.LawKit.callS X30 hx (y := (⟨"org/graphstride/HyperLogLogMaxPinLaw", "ok", "(JJJI)Z"⟩ : MethodName)) hown (mvT hZ (hw _ (List.mem_of_getElem? (i := 8) rfl))) (mvT hZ (hw _ (List.mem_of_getElem? (i := 9) rfl))) (mvT hZ (hw _ (List.mem_of_getElem? (i := 10) rfl))) (mvT hZ (hw _ (List.mem_of_getElem? (i := 11) rfl))) (by decide) (backOf (W := 0) (rm2 l Z a0 hw [] v1 v2 (fn1 v1 v2) (9 : Int32) h0 n0 Z0) hZ (hw _ (List.mem_of_getElem? (i := 11) rfl)) (hw _ (List.mem_of_getElem? (i := 10) rfl)) (by decide) (by decide)) (g := (mkF m 161 #[.val (.long q0), .second, .val (.long q1), .second, .val (.long v1), .second, .val (.long v2), .second, .val (.long (fn1 v1 v2)), .second] [(.int (9 : Int32)), (.long (fn1 v1 v2)), (.long v2), (.long v1)])) rfl (by rw [hml]; rfl) (argsL := [(.long v1), (.long v2), (.long (fn1 v1 v2)), (.int (9 : Int32))]) (rest := []) (lenOf own_pd3 rfl) rfl (by show 2 * 0 + _ ≤ _; exact Nat.le_of_eq rfl) (hb hby at_161) (fun _ _ => ⟨rfl, e30, (by decide : 0 + 0 ≤ _), (by decide : 0 + 0 ≤ _)⟩)
                      dsimp only [Pt.U, Pt.locs, Pt.cells, Pt.slots] at X32 l32 y32 z32 st32 hQ32
                      subst l32 y32 z32
                      obtain ⟨rfl, Nq32, e32⟩ := hQ32
                      have N32 := Fr.app N30 Nq32
                      refine Ends.via st32 ?_
                      show Ends p e below s 0 0 (Q0 Z q0 q1  h0 n0) (T32.setTop (mkF m 164 #[.val (.long q0), .second, .val (.long q1), .second, .val (.long v1), .second, .val (.long v2), .second, .val (.long (fn1 v1 v2)), .second] [(.int (fn2 v1 v2 (fn1 v1 v2) (9 : Int32)))]))
                      by_cases hc33 : (fn2 v1 v2 (fn1 v1 v2) (9 : Int32)) = (0 : Int32)
                      · refine Ends.via (fun _ k => XS.ifYes X32.here hx rfl (pc0 := 164) (pc' := 199) rfl (hb hby at_164) rfl ((if0 _ _).trans (teq hc33).1) (by decide) (by decide) k) ?_
                        show Ends p e below s 0 0 (Q0 Z q0 q1  h0 n0) (T32.setTop (mkF m 199 #[.val (.long q0), .second, .val (.long q1), .second, .val (.long v1), .second, .val (.long v2), .second, .val (.long (fn1 v1 v2)), .second] []))
                        refine Ends.via (fun _ k => XS.iconst X32.here hx rfl (hb hby at_199) k) ?_
                        show Ends p e below s 0 0 (Q0 Z q0 q1  h0 n0) (T32.setTop (mkF m 200 #[.val (.long q0), .second, .val (.long q1), .second, .val (.long v1), .second, .val (.long v2), .second, .val (.long (fn1 v1 v2)), .second] [(.int (0 : Int32))]))
                        refine Ends.ret X32 (v := some (.int (nar .boolean (0 : Int32)))) (fun h => by rw [Bd.returns] at h; cases h) Bd.notSynchronized (fun fs hr => retN X32 hx (t := .boolean) Bd.returns (by simp) (hb hby at_200) hr) ?_ (by decide) (by decide)
                        exact absurd (own_leaf10 q0 q1 v1 v2 hv1 hv2 hc7 hc15 hc17 hc19 hc21 hc23 hc25 hc27 hc29 hc31 hc33) id
                      · refine Ends.via (fun _ k => XS.ifNo X32.here hx rfl (hb hby at_164) rfl ((if0 _ _).trans (feq hc33).1) k) ?_
                        show Ends p e below s 0 0 (Q0 Z q0 q1  h0 n0) (T32.setTop (mkF m 167 #[.val (.long q0), .second, .val (.long q1), .second, .val (.long v1), .second, .val (.long v2), .second, .val (.long (fn1 v1 v2)), .second] []))
                        refine Ends.via (fun _ k => XS.lload X32.here hx rfl (hb hby at_167) rfl k) ?_
                        show Ends p e below s 0 0 (Q0 Z q0 q1  h0 n0) (T32.setTop (mkF m 169 #[.val (.long q0), .second, .val (.long q1), .second, .val (.long v1), .second, .val (.long v2), .second, .val (.long (fn1 v1 v2)), .second] [(.long v1)]))
                        refine Ends.via (fun _ k => XS.lload X32.here hx rfl (hb hby at_169) rfl k) ?_
                        show Ends p e below s 0 0 (Q0 Z q0 q1  h0 n0) (T32.setTop (mkF m 171 #[.val (.long q0), .second, .val (.long q1), .second, .val (.long v1), .second, .val (.long v2), .second, .val (.long (fn1 v1 v2)), .second] [(.long v2), (.long v1)]))
                        refine Ends.via (fun _ k => XS.lload X32.here hx rfl (hb hby at_171) rfl k) ?_
                        show Ends p e below s 0 0 (Q0 Z q0 q1  h0 n0) (T32.setTop (mkF m 173 #[.val (.long q0), .second, .val (.long q1), .second, .val (.long v1), .second, .val (.long v2), .second, .val (.long (fn1 v1 v2)), .second] [(.long (fn1 v1 v2)), (.long v2), (.long v1)]))
                        refine Ends.via (fun _ k => XS.bipush X32.here hx rfl (hb hby at_173) k) ?_
                        show Ends p e below s 0 0 (Q0 Z q0 q1  h0 n0) (T32.setTop (mkF m 175 #[.val (.long q0), .second, .val (.long q1), .second, .val (.long v1), .second, .val (.long v2), .second, .val (.long (fn1 v1 v2)), .second] [(.int (10 : Int32)), (.long (fn1 v1 v2)), (.long v2), (.long v1)]))
                        obtain ⟨_, _, ⟨T34, L34, k34, n34⟩, -, X34, ⟨Lc34, hQ34, l34, y34, z34⟩, st34⟩ := Jvm.LawKit.callS X32 hx (y := (⟨"org/graphstride/HyperLogLogMaxPinLaw", "ok", "(JJJI)Z"⟩ : MethodName)) hown (mvT hZ (hw _ (List.mem_of_getElem? (i := 8) rfl))) (mvT hZ (hw _ (List.mem_of_getElem? (i := 9) rfl))) (mvT hZ (hw _ (List.mem_of_getElem? (i := 10) rfl))) (mvT hZ (hw _ (List.mem_of_getElem? (i := 11) rfl))) (by decide) (backOf (W := 0) (rm2 l Z a0 hw [] v1 v2 (fn1 v1 v2) (10 : Int32) h0 n0 Z0) hZ (hw _ (List.mem_of_getElem? (i := 11) rfl)) (hw _ (List.mem_of_getElem? (i := 10) rfl)) (by decide) (by decide)) (g := (mkF m 175 #[.val (.long q0), .second, .val (.long q1), .second, .val (.long v1), .second, .val (.long v2), .second, .val (.long (fn1 v1 v2)), .second] [(.int (10 : Int32)), (.long (fn1 v1 v2)), (.long v2), (.long v1)])) rfl (by rw [hml]; rfl) (argsL := [(.long v1), (.long v2), (.long (fn1 v1 v2)), (.int (10 : Int32))]) (rest := []) (lenOf own_pd3 rfl) rfl (by show 2 * 0 + _ ≤ _; exact Nat.le_of_eq rfl) (hb hby at_175) (fun _ _ => ⟨rfl, e32, (by decide : 0 + 0 ≤ _), (by decide : 0 + 0 ≤ _)⟩)
                        dsimp only [Pt.U, Pt.locs, Pt.cells, Pt.slots] at X34 l34 y34 z34 st34 hQ34
                        subst l34 y34 z34
                        obtain ⟨rfl, Nq34, e34⟩ := hQ34
                        have N34 := Fr.app N32 Nq34
                        refine Ends.via st34 ?_
                        show Ends p e below s 0 0 (Q0 Z q0 q1  h0 n0) (T34.setTop (mkF m 178 #[.val (.long q0), .second, .val (.long q1), .second, .val (.long v1), .second, .val (.long v2), .second, .val (.long (fn1 v1 v2)), .second] [(.int (fn2 v1 v2 (fn1 v1 v2) (10 : Int32)))]))
                        by_cases hc35 : (fn2 v1 v2 (fn1 v1 v2) (10 : Int32)) = (0 : Int32)
                        · refine Ends.via (fun _ k => XS.ifYes X34.here hx rfl (pc0 := 178) (pc' := 199) rfl (hb hby at_178) rfl ((if0 _ _).trans (teq hc35).1) (by decide) (by decide) k) ?_
                          show Ends p e below s 0 0 (Q0 Z q0 q1  h0 n0) (T34.setTop (mkF m 199 #[.val (.long q0), .second, .val (.long q1), .second, .val (.long v1), .second, .val (.long v2), .second, .val (.long (fn1 v1 v2)), .second] []))
                          refine Ends.via (fun _ k => XS.iconst X34.here hx rfl (hb hby at_199) k) ?_
                          show Ends p e below s 0 0 (Q0 Z q0 q1  h0 n0) (T34.setTop (mkF m 200 #[.val (.long q0), .second, .val (.long q1), .second, .val (.long v1), .second, .val (.long v2), .second, .val (.long (fn1 v1 v2)), .second] [(.int (0 : Int32))]))
                          refine Ends.ret X34 (v := some (.int (nar .boolean (0 : Int32)))) (fun h => by rw [Bd.returns] at h; cases h) Bd.notSynchronized (fun fs hr => retN X34 hx (t := .boolean) Bd.returns (by simp) (hb hby at_200) hr) ?_ (by decide) (by decide)
                          exact absurd (own_leaf11 q0 q1 v1 v2 hv1 hv2 hc7 hc15 hc17 hc19 hc21 hc23 hc25 hc27 hc29 hc31 hc33 hc35) id
                        · refine Ends.via (fun _ k => XS.ifNo X34.here hx rfl (hb hby at_178) rfl ((if0 _ _).trans (feq hc35).1) k) ?_
                          show Ends p e below s 0 0 (Q0 Z q0 q1  h0 n0) (T34.setTop (mkF m 181 #[.val (.long q0), .second, .val (.long q1), .second, .val (.long v1), .second, .val (.long v2), .second, .val (.long (fn1 v1 v2)), .second] []))
                          refine Ends.via (fun _ k => XS.lload X34.here hx rfl (hb hby at_181) rfl k) ?_
                          show Ends p e below s 0 0 (Q0 Z q0 q1  h0 n0) (T34.setTop (mkF m 183 #[.val (.long q0), .second, .val (.long q1), .second, .val (.long v1), .second, .val (.long v2), .second, .val (.long (fn1 v1 v2)), .second] [(.long v1)]))
                          refine Ends.via (fun _ k => XS.lload X34.here hx rfl (hb hby at_183) rfl k) ?_
                          show Ends p e below s 0 0 (Q0 Z q0 q1  h0 n0) (T34.setTop (mkF m 185 #[.val (.long q0), .second, .val (.long q1), .second, .val (.long v1), .second, .val (.long v2), .second, .val (.long (fn1 v1 v2)), .second] [(.long v2), (.long v1)]))
                          refine Ends.via (fun _ k => XS.lload X34.here hx rfl (hb hby at_185) rfl k) ?_
                          show Ends p e below s 0 0 (Q0 Z q0 q1  h0 n0) (T34.setTop (mkF m 187 #[.val (.long q0), .second, .val (.long q1), .second, .val (.long v1), .second, .val (.long v2), .second, .val (.long (fn1 v1 v2)), .second] [(.long (fn1 v1 v2)), (.long v2), (.long v1)]))
                          refine Ends.via (fun _ k => XS.bipush X34.here hx rfl (hb hby at_187) k) ?_
                          show Ends p e below s 0 0 (Q0 Z q0 q1  h0 n0) (T34.setTop (mkF m 189 #[.val (.long q0), .second, .val (.long q1), .second, .val (.long v1), .second, .val (.long v2), .second, .val (.long (fn1 v1 v2)), .second] [(.int (11 : Int32)), (.long (fn1 v1 v2)), (.long v2), (.long v1)]))
                          obtain ⟨_, _, ⟨T36, L36, k36, n36⟩, -, X36, ⟨Lc36, hQ36, l36, y36, z36⟩, st36⟩ := Jvm.LawKit.callS X34 hx (y := (⟨"org/graphstride/HyperLogLogMaxPinLaw", "ok", "(JJJI)Z"⟩ : MethodName)) hown (mvT hZ (hw _ (List.mem_of_getElem? (i := 8) rfl))) (mvT hZ (hw _ (List.mem_of_getElem? (i := 9) rfl))) (mvT hZ (hw _ (List.mem_of_getElem? (i := 10) rfl))) (mvT hZ (hw _ (List.mem_of_getElem? (i := 11) rfl))) (by decide) (backOf (W := 0) (rm2 l Z a0 hw [] v1 v2 (fn1 v1 v2) (11 : Int32) h0 n0 Z0) hZ (hw _ (List.mem_of_getElem? (i := 11) rfl)) (hw _ (List.mem_of_getElem? (i := 10) rfl)) (by decide) (by decide)) (g := (mkF m 189 #[.val (.long q0), .second, .val (.long q1), .second, .val (.long v1), .second, .val (.long v2), .second, .val (.long (fn1 v1 v2)), .second] [(.int (11 : Int32)), (.long (fn1 v1 v2)), (.long v2), (.long v1)])) rfl (by rw [hml]; rfl) (argsL := [(.long v1), (.long v2), (.long (fn1 v1 v2)), (.int (11 : Int32))]) (rest := []) (lenOf own_pd3 rfl) rfl (by show 2 * 0 + _ ≤ _; exact Nat.le_of_eq rfl) (hb hby at_189) (fun _ _ => ⟨rfl, e34, (by decide : 0 + 0 ≤ _), (by decide : 0 + 0 ≤ _)⟩)
                          dsimp only [Pt.U, Pt.locs, Pt.cells, Pt.slots] at X36 l36 y36 z36 st36 hQ36
                          subst l36 y36 z36
                          obtain ⟨rfl, Nq36, e36⟩ := hQ36
                          have N36 := Fr.app N34 Nq36
                          refine Ends.via st36 ?_
                          show Ends p e below s 0 0 (Q0 Z q0 q1  h0 n0) (T36.setTop (mkF m 192 #[.val (.long q0), .second, .val (.long q1), .second, .val (.long v1), .second, .val (.long v2), .second, .val (.long (fn1 v1 v2)), .second] [(.int (fn2 v1 v2 (fn1 v1 v2) (11 : Int32)))]))
                          by_cases hc37 : (fn2 v1 v2 (fn1 v1 v2) (11 : Int32)) = (0 : Int32)
                          · refine Ends.via (fun _ k => XS.ifYes X36.here hx rfl (pc0 := 192) (pc' := 199) rfl (hb hby at_192) rfl ((if0 _ _).trans (teq hc37).1) (by decide) (by decide) k) ?_
                            show Ends p e below s 0 0 (Q0 Z q0 q1  h0 n0) (T36.setTop (mkF m 199 #[.val (.long q0), .second, .val (.long q1), .second, .val (.long v1), .second, .val (.long v2), .second, .val (.long (fn1 v1 v2)), .second] []))
                            refine Ends.via (fun _ k => XS.iconst X36.here hx rfl (hb hby at_199) k) ?_
                            show Ends p e below s 0 0 (Q0 Z q0 q1  h0 n0) (T36.setTop (mkF m 200 #[.val (.long q0), .second, .val (.long q1), .second, .val (.long v1), .second, .val (.long v2), .second, .val (.long (fn1 v1 v2)), .second] [(.int (0 : Int32))]))
                            refine Ends.ret X36 (v := some (.int (nar .boolean (0 : Int32)))) (fun h => by rw [Bd.returns] at h; cases h) Bd.notSynchronized (fun fs hr => retN X36 hx (t := .boolean) Bd.returns (by simp) (hb hby at_200) hr) ?_ (by decide) (by decide)
                            exact absurd (own_leaf12 q0 q1 v1 v2 hv1 hv2 hc7 hc15 hc17 hc19 hc21 hc23 hc25 hc27 hc29 hc31 hc33 hc35 hc37) id
                          · refine Ends.via (fun _ k => XS.ifNo X36.here hx rfl (hb hby at_192) rfl ((if0 _ _).trans (feq hc37).1) k) ?_
                            show Ends p e below s 0 0 (Q0 Z q0 q1  h0 n0) (T36.setTop (mkF m 195 #[.val (.long q0), .second, .val (.long q1), .second, .val (.long v1), .second, .val (.long v2), .second, .val (.long (fn1 v1 v2)), .second] []))
                            refine Ends.via (fun _ k => XS.iconst X36.here hx rfl (hb hby at_195) k) ?_
                            show Ends p e below s 0 0 (Q0 Z q0 q1  h0 n0) (T36.setTop (mkF m 196 #[.val (.long q0), .second, .val (.long q1), .second, .val (.long v1), .second, .val (.long v2), .second, .val (.long (fn1 v1 v2)), .second] [(.int (1 : Int32))]))
                            refine Ends.via (fun _ k => XS.goto X36.here hx rfl (pc0 := 196) (pc' := 200) rfl (hb hby at_196) (by decide) (by decide) k) ?_
                            show Ends p e below s 0 0 (Q0 Z q0 q1  h0 n0) (T36.setTop (mkF m 200 #[.val (.long q0), .second, .val (.long q1), .second, .val (.long v1), .second, .val (.long v2), .second, .val (.long (fn1 v1 v2)), .second] [(.int (1 : Int32))]))
                            refine Ends.ret X36 (v := some (.int (nar .boolean (1 : Int32)))) (fun h => by rw [Bd.returns] at h; cases h) Bd.notSynchronized (fun fs hr => retN X36 hx (t := .boolean) Bd.returns (by simp) (hb hby at_200) hr) ?_ (by decide) (by decide)
                            exact ⟨rfl, N36⟩
  · refine Ends.via (fun _ k => XS.ifYes X6.here hx rfl (pc0 := 30) (pc' := 199) rfl (hb hby at_30) rfl ((if0 _ _).trans (feq (mt (lw_eq _ _).mp hc7)).2) (by decide) (by decide) k) ?_
    show Ends p e below s 0 0 (Q0 Z q0 q1  h0 n0) (T6.setTop (mkF m 199 #[.val (.long q0), .second, .val (.long q1), .second, .val (.long v1), .second, .val (.long v2), .second, .val (.long (fn1 v1 v2)), .second] []))
    refine Ends.via (fun _ k => XS.iconst X6.here hx rfl (hb hby at_199) k) ?_
    show Ends p e below s 0 0 (Q0 Z q0 q1  h0 n0) (T6.setTop (mkF m 200 #[.val (.long q0), .second, .val (.long q1), .second, .val (.long v1), .second, .val (.long v2), .second, .val (.long (fn1 v1 v2)), .second] [(.int (0 : Int32))]))
    refine Ends.ret X6 (v := some (.int (nar .boolean (0 : Int32)))) (fun h => by rw [Bd.returns] at h; cases h) Bd.notSynchronized (fun fs hr => retN X6 hx (t := .boolean) Bd.returns (by simp) (hb hby at_200) hr) ?_ (by decide) (by decide)
    exact absurd (own_leaf13 q0 q1 v1 v2 hv1 hv2 hc7) id
set_option maxRecDepth 65536 in
set_option maxHeartbeats 40000000 in
theorem comes_1 {Post : Tables → Env → Array Value → State → Outcome → State → Prop} (hpost : ∀ tb e args s v u, (limb_1_1.after args s (.returned v) u = true ∧ limb_1_2.after args s (.returned v) u = true ∧ True) → FrameEnd s (.returned v) u (Jvm.fieldLocs frame_1_writes args s ++ Jvm.arrayLocs frame_1_arrays args s ++ Jvm.staticLocs frame_1_statics s) 0 0 → Post tb e args s (.returned v) u) :
    ArmFor flags0 classFile x code maxLocals ret World_1 tables_1 room_1 Calls_1 rest_1 Pre_1 Post := by
  intro l hfl _ _ p e ha hc hk s m args below hf hA hF happ hP
  obtain ⟨hcalls, hrest, hpre⟩ := hP
  obtain ⟨-, -, -, hnamed, -, -, -, hat⟩ := (Spec.applies_iff hf).mp happ
  obtain ⟨hg, hn⟩ := and_e (Cond.before_iff.mp (show (Jvm.Cond.and given_1 narrow_1).before args s = true from hpre))
  obtain ⟨hcnt, g0⟩ := and_e hg
  obtain ⟨t0, g1⟩ := and_e g0
  obtain ⟨w0, w1, rfl⟩ : ∃ w0 w1 : Value, args = #[w0, w1] := by
    have hs : args.size = 2 := by simpa [Cond.value, given_1] using hcnt
    obtain ⟨L⟩ := args
    match L, hs with
    | [w0, w1], _ => exact ⟨w0, w1, rfl⟩
  have hw := fun d (hd : d ∈ tables_1) => atoms_spec (ws := Jvm.Cond.code x code maxLocals ret :: tables_1) hat d (List.mem_cons_of_mem _ hd)
  obtain ⟨i0, ei0⟩ := isL_v t0
  obtain rfl : w0 = (.long i0) := Option.some.inj ei0
  obtain ⟨i1, ei1⟩ := isL_v g1
  obtain rfl : w1 = (.long i1) := Option.some.inj ei1
  obtain ⟨n, o, h1, h2, h3, _, L, rfl, ⟨rfl, N⟩, hq⟩ := rm0 l s _ hw tables_1 i0 i1 s.heap s.heap.size (Nat.le_refl _) p e ha hc hk s m _ below hf ((Spec.applies_iff_loose hf).mp happ).1 ⟨rfl, State.Warmed39.refl s, rfl⟩ trivial
  refine ⟨n, _, h1, h2, h3, hpost _ _ _ _ _ _ ⟨Cond.after_iff.mpr rfl, Cond.after_iff.mpr (eq_i res_at (Term.int_eval (1)) rfl), trivial⟩ ⟨hq.1, hq.2.1, (hq.2.2.sift fun y hy => Or.inr (N y hy)).mono (by decide) (by decide)⟩⟩
theorem main_1_1 : Claimed_1_1 := comes_1 fun _ _ _ _ _ _ h hF => ⟨h.1, hF⟩
theorem main_1_2 : Claimed_1_2 := comes_1 fun _ _ _ _ _ _ h hF => ⟨h.2.1, hF⟩
end Jvm.Pilot.@@N@@
namespace Jvm.Pilot.@@N@@
open Jvm Jvm.ClassFile Sem Op Lib Jvm.Free Jvm.Stand Jvm.Pilot.@@N@@.Jvm.D
/-! MADE BY PROGRAM (witnessworld.py) out of the Statement's table words and the real class files: 10 classes; the members and pool entries that the words name. The judged class is class 1, her method 3. -/
namespace start1
open Jvm.ClassFile
def u (s : String) : CpInfo := .utf8 (stringToUtf16 s)
/-- a pool by its gaps: so many unusable entries, then the entry; so many at the end -/
def gap : Nat → List CpInfo → List CpInfo
  | 0, r => r
  | n + 1, r => .unusable :: gap n r
def poolList (es : List (Nat × CpInfo)) (last : Nat) : List CpInfo := es.foldr (fun e r => gap e.1 (e.2 :: r)) (gap last [])
def pool (es : List (Nat × CpInfo)) (last : Nat) : Array CpInfo := ⟨poolList es last⟩
def fileOf (pool : Array CpInfo) (this : Nat) (attrs : Array Attribute := #[]) (ms : Array MethodInfo := #[]) (fl : Nat := 33) (sup : Nat := 0) (ifs : Array Nat := #[]) (fds : Array FieldInfo := #[]) : ClassFile where
  minorVersion := 0
  majorVersion := 65
  constantPool := pool
  accessFlags := fl
  thisClass := this
  superClass := sup
  interfaces := ifs
  fields := fds
  methods := ms
  attributes := attrs
def plain (name : String) (sup : Option ClassId) : Class where
  name := name
  kind := .ordinary
  loader := none
  accessFlags := 33
  super := sup
  interfaces := #[]
  cf := none
  fields := #[]
  methods := #[]
  instanceTypes := #[]
  staticTypes := #[]
  resolved := #[]
  callSites := []
  init := .initialized
  statics := none
  mirror := none

def pool0 : Array CpInfo := pool [(5, u "<init>"), (0, u "()V"), (1, .class_ 10), (1, u "java/lang/Object")] 113

def k0m0 : Method := { name := "<init>", desc := "()V", sig := { parameters := [], returnType := none }, accessFlags := 1, code := none }
/-- java/lang/Object -/
def k0 : Class := { plain "java/lang/Object" none with
  accessFlags := 33
  interfaces := #[]
  cf := some (fileOf pool0 8 #[] #[{ accessFlags := 1, nameIndex := 5, descriptorIndex := 6, attributes := #[] }] 33 0 #[] #[])
  fields := #[]
  methods := #[k0m0]
  instanceTypes := #[]
  staticTypes := #[]
  resolved := Array.replicate 124 none
  statics := none }

def pool1 : Array CpInfo := pool [(2, .class_ 4), (1, u "java/lang/Object"), (0, u "<init>"), (0, u "()V"), (0, .long 31), (1, .methodref 10 11), (0, .class_ 12), (0, .nameAndType 13 14), (0, u "org/graphstride/HyperLogLogMaxPinLaw"), (0, u "reg"), (0, u "(JI)I"), (0, .methodref 16 17), (0, .class_ 18), (0, .nameAndType 19 20), (0, u "java/lang/Math"), (0, u "max"), (0, u "(II)I"), (0, .long 1152921504606846975), (1, .methodref 24 25), (0, .class_ 26), (0, .nameAndType 19 27), (0, u "org/graphstride/HyperLogLog"), (0, u "(JJ)J"), (0, .methodref 10 29), (0, .nameAndType 30 31), (0, u "ok"), (0, u "(JJJI)Z"), (3, u "law"), (0, u "(JJ)Z")] 2

def k1m0 : Method := { name := "<init>", desc := "()V", sig := { parameters := [], returnType := none }, accessFlags := 2, code := none }
def k1c1 : Code := { maxStack := 4, maxLocals := 3, code := method_2_code, exceptionTable := #[], attributes := #[] }
def k1m1 : Method := { name := "reg", desc := "(JI)I", sig := { parameters := [.long, .int], returnType := some .int }, accessFlags := 10, code := some k1c1 }
def k1c2 : Code := { maxStack := 5, maxLocals := 7, code := method_3_code, exceptionTable := #[], attributes := #[] }
def k1m2 : Method := { name := "ok", desc := "(JJJI)Z", sig := { parameters := [.long, .long, .long, .int], returnType := some .boolean }, accessFlags := 10, code := some k1c2 }
def k1c3 : Code := { maxStack := 7, maxLocals := 10, code := code, exceptionTable := #[], attributes := #[] }
def k1m3 : Method := { name := "law", desc := "(JJ)Z", sig := { parameters := [.long, .long], returnType := some .boolean }, accessFlags := 9, code := some k1c3 }
/-- org/graphstride/HyperLogLogMaxPinLaw -/
def k1 : Class := { plain "org/graphstride/HyperLogLogMaxPinLaw" (some 0) with
  accessFlags := 49
  interfaces := #[]
  cf := some (fileOf pool1 10 #[] #[{ accessFlags := 2, nameIndex := 5, descriptorIndex := 6, attributes := #[] }, { accessFlags := 10, nameIndex := 13, descriptorIndex := 14, attributes := #[] }, { accessFlags := 10, nameIndex := 30, descriptorIndex := 31, attributes := #[] }, { accessFlags := 9, nameIndex := 35, descriptorIndex := 36, attributes := #[] }] 49 2 #[] #[])
  fields := #[]
  methods := #[k1m0, k1m1, k1m2, k1m3]
  instanceTypes := #[]
  staticTypes := #[]
  resolved := Array.replicate 39 none
  statics := none }

def pool2 : Array CpInfo := pool [(1, .class_ 2), (0, u "org/graphstride/HyperLogLog"), (1, .class_ 6), (1, u "java/lang/Object"), (8, u "registers"), (0, u "I"), (2, u "zerosShare"), (0, u "[D"), (28, .long 595056260442243600), (1, .long 17851687813267308015), (1, .long 18446744073709551615), (3, u "RANK_SHARE"), (9, u "ALPHA"), (0, u "D"), (16, u "MIN_REGISTERS"), (2, u "MAX_REGISTERS"), (0, u "REGISTERS_PER_WORD"), (1, u "REGISTER_BITS"), (1, u "TOP"), (1, u "TOP_BITS"), (0, u "J"), (8, u "max"), (0, u "(JJ)J")] 20

def k2c0 : Code := { maxStack := 7, maxLocals := 12, code := prog_19_method_5_code, exceptionTable := #[], attributes := #[] }
def k2m0 : Method := { name := "max", desc := "(JJ)J", sig := { parameters := [.long, .long], returnType := some .long }, accessFlags := 8, code := some k2c0 }
/-- org/graphstride/HyperLogLog -/
def k2 : Class := { plain "org/graphstride/HyperLogLog" (some 0) with
  accessFlags := 48
  interfaces := #[]
  cf := some (fileOf pool2 1 #[] #[{ accessFlags := 8, nameIndex := 105, descriptorIndex := 106, attributes := #[] }] 48 4 #[] #[{ accessFlags := 24, nameIndex := 85, descriptorIndex := 16, attributes := #[] }, { accessFlags := 24, nameIndex := 88, descriptorIndex := 16, attributes := #[] }, { accessFlags := 26, nameIndex := 89, descriptorIndex := 16, attributes := #[] }, { accessFlags := 26, nameIndex := 91, descriptorIndex := 16, attributes := #[] }, { accessFlags := 26, nameIndex := 93, descriptorIndex := 16, attributes := #[] }, { accessFlags := 26, nameIndex := 95, descriptorIndex := 96, attributes := #[] }, { accessFlags := 26, nameIndex := 67, descriptorIndex := 68, attributes := #[] }, { accessFlags := 26, nameIndex := 57, descriptorIndex := 20, attributes := #[] }, { accessFlags := 18, nameIndex := 15, descriptorIndex := 16, attributes := #[] }, { accessFlags := 18, nameIndex := 19, descriptorIndex := 20, attributes := #[] }])
  fields := #[{ name := "MIN_REGISTERS", type := .int, accessFlags := 24, slot := 0, constantValue := 0 }, { name := "MAX_REGISTERS", type := .int, accessFlags := 24, slot := 1, constantValue := 0 }, { name := "REGISTERS_PER_WORD", type := .int, accessFlags := 26, slot := 2, constantValue := 0 }, { name := "REGISTER_BITS", type := .int, accessFlags := 26, slot := 3, constantValue := 0 }, { name := "TOP", type := .int, accessFlags := 26, slot := 4, constantValue := 0 }, { name := "TOP_BITS", type := .long, accessFlags := 26, slot := 5, constantValue := 0 }, { name := "ALPHA", type := .double, accessFlags := 26, slot := 6, constantValue := 0 }, { name := "RANK_SHARE", type := (.array .double), accessFlags := 26, slot := 7, constantValue := 0 }, { name := "registers", type := .int, accessFlags := 18, slot := 0, constantValue := 0 }, { name := "zerosShare", type := (.array .double), accessFlags := 18, slot := 1, constantValue := 0 }]
  methods := #[k2m0]
  instanceTypes := #[.int, (.array .double)]
  staticTypes := #[.int, .int, .int, .int, .int, .long, .double, (.array .double)]
  resolved := Array.replicate 127 none
  statics := none }

def pool3 : Array CpInfo := pool [(1, .class_ 2), (0, u "java/lang/Math"), (1, .class_ 6), (1, u "java/lang/Object"), (0, u "<init>"), (0, u "()V"), (89, .class_ 100), (1, u "java/lang/Math$RandomNumberGeneratorHolder"), (71, u "negativeZeroFloatBits"), (0, u "J"), (2, u "negativeZeroDoubleBits"), (21, u "max"), (46, u "$assertionsDisabled"), (0, u "Z"), (88, u "(II)I"), (2, u "twoToTheDoubleScaleDown"), (0, u "D"), (4, u "twoToTheDoubleScaleUp"), (9, u "E"), (3, u "PI"), (2, u "TAU"), (2, u "DEGREES_TO_RADIANS"), (0, u "RADIANS_TO_DEGREES")] 94

def k3m0 : Method := { name := "<init>", desc := "()V", sig := { parameters := [], returnType := none }, accessFlags := 2, code := none }
def k3c1 : Code := { maxStack := 2, maxLocals := 2, code := jdk_29_method_65_code, exceptionTable := #[], attributes := #[] }
def k3m1 : Method := { name := "max", desc := "(II)I", sig := { parameters := [.int, .int], returnType := some .int }, accessFlags := 9, code := some k3c1 }
/-- java/lang/Math -/
def k3 : Class := { plain "java/lang/Math" (some 0) with
  accessFlags := 49
  interfaces := #[]
  cf := some (fileOf pool3 1 #[.nestMembers #[98]] #[{ accessFlags := 2, nameIndex := 7, descriptorIndex := 8, attributes := #[] }, { accessFlags := 9, nameIndex := 198, descriptorIndex := 335, attributes := #[] }] 49 4 #[] #[{ accessFlags := 25, nameIndex := 354, descriptorIndex := 339, attributes := #[] }, { accessFlags := 25, nameIndex := 358, descriptorIndex := 339, attributes := #[] }, { accessFlags := 25, nameIndex := 361, descriptorIndex := 339, attributes := #[] }, { accessFlags := 26, nameIndex := 364, descriptorIndex := 339, attributes := #[] }, { accessFlags := 26, nameIndex := 365, descriptorIndex := 339, attributes := #[] }, { accessFlags := 26, nameIndex := 172, descriptorIndex := 173, attributes := #[] }, { accessFlags := 26, nameIndex := 176, descriptorIndex := 173, attributes := #[] }, { accessFlags := 8, nameIndex := 344, descriptorIndex := 339, attributes := #[] }, { accessFlags := 8, nameIndex := 338, descriptorIndex := 339, attributes := #[] }, { accessFlags := 4120, nameIndex := 245, descriptorIndex := 246, attributes := #[] }])
  fields := #[{ name := "E", type := .double, accessFlags := 25, slot := 0, constantValue := 0 }, { name := "PI", type := .double, accessFlags := 25, slot := 1, constantValue := 0 }, { name := "TAU", type := .double, accessFlags := 25, slot := 2, constantValue := 0 }, { name := "DEGREES_TO_RADIANS", type := .double, accessFlags := 26, slot := 3, constantValue := 0 }, { name := "RADIANS_TO_DEGREES", type := .double, accessFlags := 26, slot := 4, constantValue := 0 }, { name := "negativeZeroFloatBits", type := .long, accessFlags := 26, slot := 5, constantValue := 0 }, { name := "negativeZeroDoubleBits", type := .long, accessFlags := 26, slot := 6, constantValue := 0 }, { name := "twoToTheDoubleScaleUp", type := .double, accessFlags := 8, slot := 7, constantValue := 0 }, { name := "twoToTheDoubleScaleDown", type := .double, accessFlags := 8, slot := 8, constantValue := 0 }, { name := "$assertionsDisabled", type := .boolean, accessFlags := 4120, slot := 9, constantValue := 0 }]
  methods := #[k3m0, k3m1]
  instanceTypes := #[]
  staticTypes := #[.double, .double, .double, .double, .double, .long, .long, .double, .double, .boolean]
  resolved := Array.replicate 460 none
  statics := none }

def pool4 : Array CpInfo := pool [(1, u "java/lang/Cloneable"), (0, .class_ 1), (0, u "java/lang/Object"), (0, .class_ 3)] 3

/-- java/lang/Cloneable -/
def k4 : Class := { plain "java/lang/Cloneable" (some 0) with
  accessFlags := 1537
  interfaces := #[]
  cf := some (fileOf pool4 2 #[] #[] 1537 4 #[] #[])
  fields := #[]
  methods := #[]
  instanceTypes := #[]
  staticTypes := #[]
  resolved := Array.replicate 8 none
  statics := none }

def pool5 : Array CpInfo := pool [(1, u "java/io/Serializable"), (0, .class_ 1), (0, u "java/lang/Object"), (0, .class_ 3)] 3

/-- java/io/Serializable -/
def k5 : Class := { plain "java/io/Serializable" (some 0) with
  accessFlags := 1537
  interfaces := #[]
  cf := some (fileOf pool5 2 #[] #[] 1537 4 #[] #[])
  fields := #[]
  methods := #[]
  instanceTypes := #[]
  staticTypes := #[]
  resolved := Array.replicate 8 none
  statics := none }

/-- the primitive byte -/
def k6 : Class := { plain "byte" none with kind := .primitive 'B', accessFlags := 0x411 }
/-- [B -/
def k7 : Class := { plain "[B" (some 0) with kind := .array 6 .byte, interfaces := #[4, 5], accessFlags := 1041 }

/-- the primitive int -/
def k8 : Class := { plain "int" none with kind := .primitive 'I', accessFlags := 0x411 }
/-- [I -/
def k9 : Class := { plain "[I" (some 0) with kind := .array 8 .int, interfaces := #[4, 5], accessFlags := 1041 }

def heap : Heap := #[]
def classes : Array Class := #[k0, k1, k2, k3, k4, k5, k6, k7, k8, k9]
def interned : List (Array UInt16 × Addr) := []
def slotsUsed : Nat := 0
def theMethod : MethodId := ⟨1, 3⟩
def args0 : Array Value := #[.long 5, .long 5]
def aboutOver (below : List Frame) : State where
  vm := { classes := classes, interned := interned.toArray }
  heap := heap
  slotsUsed := slotsUsed
  threads := #[{ frames := .invoking theMethod args0 :: below }]
def below0 : List Frame := [.native { method := ⟨0, 0⟩, args := #[] }]
def about1 : State := aboutOver below0
def p0 : Program := .bare "" "" ""
def e0 : Env := launch0.env 0 0 0
theorem w_frames : about1.frames = Frame.invoking theMethod args0 :: below0 := rfl
set_option maxRecDepth 65536 in
theorem w_args : argsFit about1.vm theMethod args0 = true := by decide +kernel
set_option maxRecDepth 65536 in
theorem w_heap : heapFits about1 = true := by decide +kernel
set_option maxRecDepth 65536 in
theorem w_runnable : about1.curStatus? = some .runnable := by decide +kernel
set_option maxRecDepth 65536 in
theorem w_alone : about1.alone = true := by decide +kernel
set_option maxRecDepth 65536 in
theorem w_named : about1.methodNamed? x = some theMethod := by decide +kernel
set_option maxRecDepth 65536 in
theorem w_hears : about1.hears theMethod below0 = true := by decide +kernel
set_option maxRecDepth 65536 in
theorem w_ripe : about1.ripe theMethod args0 below0 = true := by decide +kernel
theorem w_running : about1.status = .running := rfl
set_option maxRecDepth 65536 in
theorem w_room : about1.hasRoom e0.platform room_1 = true :=
  launch0.hasRoom_least _ room_1 (by decide +kernel) (by decide +kernel) (by decide +kernel) (by decide +kernel) (by decide +kernel) (by decide +kernel)
theorem allAtoms_all (ts : List Jvm.Cond) (a : Array Jvm.Value) (st : Jvm.State) : (allAtoms ts).before a st = ts.all (fun c => c.before a st) := by
  induction ts with
  | nil => rfl
  | cons c t ih =>
    show (Jvm.Cond.and c (allAtoms t)).before a st = _
    rw [Jvm.Cond.before_and, ih, List.all_cons]
def words1 : List Jvm.Cond := Jvm.Cond.code x code maxLocals ret :: tables_1
/-- a 'code' word, met by the world's own term for the bytes: nothing is compared byte by byte -/
theorem code_word {y : MethodName} {bytes : ByteArray} {mx : Nat} {rt : Option FieldType} {a : Array Value} {s : State} {m : MethodId} {meth : Method} {c : Code} (h1 : s.methodNamed? y = some m) (h2 : s.vm.method? m = some meth) (h3 : meth.code = some c) (h4 : c.code = bytes)
    (h5 : (c.maxLocals == mx && c.exceptionTable.isEmpty && decide (c.maxStack ≤ mostOperands) && decide (meth.sig.returnType = rt) && !meth.locks && decide (parseMethodDescriptor y.desc = some meth.sig)) = true) : (Jvm.Cond.code y bytes mx rt).before a s = true := by
  simp only [Bool.and_eq_true, beq_iff_eq, Bool.not_eq_true', decide_eq_true_eq] at h5
  obtain ⟨⟨⟨⟨⟨g1, g2⟩, g3⟩, g4⟩, g5⟩, g6⟩ := h5
  simp [Cond.before, Cond.holds, Cond.value, h1, h2, h3, h4, g1, g2, g3, g4, g5, g6]
def isCode : Jvm.Cond → Bool
  | .code _ _ _ _ => true
  | _ => false
theorem all_split {L : List Jvm.Cond} {P : Jvm.Cond → Bool} (h1 : L.all (fun c => isCode c || P c) = true) (h2 : ∀ c ∈ L.filter isCode, P c = true) : L.all P = true := by
  refine List.all_eq_true.mpr fun c hc => ?_
  have h := List.all_eq_true.mp h1 c hc
  rcases Bool.eq_false_or_eq_true (isCode c) with hi | hi
  · exact h2 c (List.mem_filter.mpr ⟨hc, hi⟩)
  · simpa [hi] using h
set_option maxRecDepth 65536 in
theorem w_c0 : (Jvm.Cond.code x code maxLocals ret).before args0 about1 = true := code_word (m := ⟨1, 3⟩) (meth := k1m3) (c := k1c3) (by decide +kernel) rfl rfl rfl (by decide +kernel)
set_option maxRecDepth 65536 in
theorem w_c1 : (Jvm.Cond.code ({ cls := "org/graphstride/HyperLogLog", name := "max", desc := "(JJ)J" } : Jvm.MethodName) prog_19_method_5_code (12 : Nat) (Option.some Jvm.ClassFile.FieldType.long)).before args0 about1 = true := code_word (m := ⟨2, 0⟩) (meth := k2m0) (c := k2c0) (by decide +kernel) rfl rfl rfl (by decide +kernel)
set_option maxRecDepth 65536 in
theorem w_c2 : (Jvm.Cond.code ({ cls := "org/graphstride/HyperLogLogMaxPinLaw", name := "ok", desc := "(JJJI)Z" } : Jvm.MethodName) method_3_code (7 : Nat) (Option.some Jvm.ClassFile.FieldType.boolean)).before args0 about1 = true := code_word (m := ⟨1, 2⟩) (meth := k1m2) (c := k1c2) (by decide +kernel) rfl rfl rfl (by decide +kernel)
set_option maxRecDepth 65536 in
theorem w_c3 : (Jvm.Cond.code ({ cls := "org/graphstride/HyperLogLogMaxPinLaw", name := "reg", desc := "(JI)I" } : Jvm.MethodName) method_2_code (3 : Nat) (Option.some Jvm.ClassFile.FieldType.int)).before args0 about1 = true := code_word (m := ⟨1, 1⟩) (meth := k1m1) (c := k1c1) (by decide +kernel) rfl rfl rfl (by decide +kernel)
set_option maxRecDepth 65536 in
theorem w_c4 : (Jvm.Cond.code ({ cls := "java/lang/Math", name := "max", desc := "(II)I" } : Jvm.MethodName) jdk_29_method_65_code (2 : Nat) (Option.some Jvm.ClassFile.FieldType.int)).before args0 about1 = true := code_word (m := ⟨3, 1⟩) (meth := k3m1) (c := k3c1) (by decide +kernel) rfl rfl rfl (by decide +kernel)
def codes1 : List Jvm.Cond := [Jvm.Cond.code x code maxLocals ret, Jvm.Cond.code ({ cls := "org/graphstride/HyperLogLog", name := "max", desc := "(JJ)J" } : Jvm.MethodName) prog_19_method_5_code (12 : Nat) (Option.some Jvm.ClassFile.FieldType.long), Jvm.Cond.code ({ cls := "org/graphstride/HyperLogLogMaxPinLaw", name := "ok", desc := "(JJJI)Z" } : Jvm.MethodName) method_3_code (7 : Nat) (Option.some Jvm.ClassFile.FieldType.boolean), Jvm.Cond.code ({ cls := "org/graphstride/HyperLogLogMaxPinLaw", name := "reg", desc := "(JI)I" } : Jvm.MethodName) method_2_code (3 : Nat) (Option.some Jvm.ClassFile.FieldType.int), Jvm.Cond.code ({ cls := "java/lang/Math", name := "max", desc := "(II)I" } : Jvm.MethodName) jdk_29_method_65_code (2 : Nat) (Option.some Jvm.ClassFile.FieldType.int)]
set_option maxRecDepth 65536 in
theorem codes_eq : words1.filter isCode = codes1 := rfl
theorem w_codes : ∀ c ∈ words1.filter isCode, c.before args0 about1 = true := by
  rw [codes_eq]
  intro c hc
  simp only [codes1, List.mem_cons, List.not_mem_nil, or_false] at hc
  rcases hc with rfl | rfl | rfl | rfl | rfl
  · exact w_c0
  · exact w_c1
  · exact w_c2
  · exact w_c3
  · exact w_c4
set_option maxRecDepth 65536 in
theorem w_t1 : words1.all (fun c => isCode c || c.before args0 about1) = true := by decide +kernel
theorem w_tables : (allAtoms (Jvm.Cond.code x code maxLocals ret :: tables_1)).before args0 about1 = true := by
  rw [allAtoms_all]
  show words1.all (fun c => c.before args0 about1) = true
  refine all_split ?_ w_codes
  rw [w_t1]
set_option maxRecDepth 65536 in
theorem w_case : (Jvm.Cond.and given_1 narrow_1).before args0 about1 = true := by decide +kernel
theorem w_applies : (headSpec (Jvm.Cond.code x code maxLocals ret :: tables_1) room_1).applies x e0.platform about1 = true :=
  (Spec.applies_iff w_frames).mpr ⟨w_running, w_runnable, w_alone, w_named, w_hears, w_ripe, w_room, w_tables⟩
theorem atStart : AtStart classFile x code maxLocals ret World_1 tables_1 room_1 Calls_1 rest_1 Pre_1 launch0 p0 e0 about1 theMethod args0 below0 :=
  ⟨lists_1, trivial, launch0.admits_env _ _ _, launch0.least_env, fairChoices_fair.cas, fairChoices_fair.clock, w_frames, w_args, w_heap, w_applies, trivial, trivial, w_case⟩
end start1
theorem witness_1 : WitnessClaimed_1 := ⟨start1.p0, start1.e0, start1.about1, start1.theMethod, start1.args0, start1.below0, start1.atStart⟩
end Jvm.Pilot.@@N@@
