import JvmDerived
import JvmDerived.Pilot.@@N@@Statement
import JvmDerived.Pilot.@@N@@Code
set_option linter.unusedVariables false
set_option linter.unusedSimpArgs false
namespace Jvm.RoadKit
open Sem ClassFile Op Lib Jvm.Stand Jvm.Free Jvm.LawKit
section New
variable {p : Program} {l : Launch} {e : Env} {R : Room} {s : State} {m : MethodId} {args : Array Value} {below : List Frame} {meth : Method} {c : Code} {T : State} {locs : List Loc} {cells slots : Nat}
theorem retI (X : Stand p l e R s m args below meth c T locs cells slots) (hx : p.tables.exec = Jvm.exec) {pc : Nat} {Ls : Array Slot} {z : Int32} {rest : List Value} (hret : meth.sig.returnType = some .int) (hd : decode c.code pc = .ok (.ireturn, 1)) {fs : List Frame}
    (hl : ∀ (f : JFrame) (acts : List Action), f.method = m → f.locked = none → f.entered = [] → (doReturn e (T.setTop f) acts (some (.int z))).1 = T.setFrames fs) : Steps p.tables e below (T.setTop (mkF m pc Ls (.int z :: rest))) (T.setFrames fs) := by
  have hm' : T.vm.method? m = some meth := X.method'
  have hn : narrow .int (.int z) = .int z := rfl
  show Steps p.tables e below (T.setTop { method := m, pc := pc, locals := Ls, stack := _ :: rest, locked := none }) _
  jvm_step X.here [X.here.top, hx, hd, hm', hret, hn]
  first | (intro acts; rw [hl _ acts rfl rfl rfl]) | rw [hl _ _ rfl rfl rfl]
  exact Steps.refl _
end New
end Jvm.RoadKit
namespace Jvm.Pilot.@@N@@
open Jvm Jvm.ClassFile Sem Op Lib Jvm.Free Jvm.Stand Jvm.LawKit Jvm.RoadKit Bundle Jvm.Pilot.@@N@@.Jvm.D
/-- from u the invocation ends, and what it returns and leaves is as Q says -/
def Ends (p : Program) (e : Env) (below : List Frame) (s : State) (kc ks : Nat) (Q : Option Value → Heap → List Loc → Prop) (u : State) : Prop :=
  ∃ s₂ o, Steps p.tables e below u s₂ ∧ s₂.status = .running ∧ Ended s₂ below o ∧ ∃ v L, o = .returned v ∧ Q v s₂.heap L ∧ FrameEnd s o s₂ L kc ks
theorem Ends.via {p : Program} {e : Env} {below : List Frame} {s : State} {kc ks : Nat} {Q : Option Value → Heap → List Loc → Prop} {A B : State} (h : ∀ t, Steps p.tables e below A t → Steps p.tables e below B t) (k : Ends p e below s kc ks Q A) : Ends p e below s kc ks Q B := by
  obtain ⟨s₂, o, h1, r⟩ := k
  exact ⟨s₂, o, h _ h1, r⟩
theorem Ends.ret {p : Program} {l : Launch} {e : Env} {R : Room} {s : State} {m : MethodId} {args : Array Value} {below : List Frame} {meth : Method} {c : Code} {T : State} {locs : List Loc} {cells slots kc ks : Nat} {Q : Option Value → Heap → List Loc → Prop} {u : State}
    (X : Stand p l e R s m args below meth c T locs cells slots) {v : Option Value} (hv : meth.sig.returnType = none → v = none) (hlocks : meth.locks = false)
    (hst : ∀ fs, (∀ (f : JFrame) (acts : List Action), f.method = m → f.locked = none → f.entered = [] → (doReturn e (T.setTop f) acts v).1 = T.setFrames fs) → Steps p.tables e below u (T.setFrames fs))
    (hQ : Q v T.heap locs) (h1 : cells ≤ kc) (h2 : slots ≤ ks) : Ends p e below s kc ks Q u := by
  obtain ⟨fs, hr, hrun, hended, hW, hsame⟩ := X.leave (v := v) hv hlocks
  exact ⟨_, _, hst fs hr, hrun, hended, _, _, rfl, hQ, ⟨_, rfl⟩, hW, hsame.mono h1 h2⟩

theorem own_pd0 : parseMethodDescriptor "(JJ)J" = some ⟨[.long, .long], some .long⟩ := by decide +kernel
theorem d1_0 : decode method_2_code 0 = .ok (.lload_n 0, 1) := by decide +kernel
theorem d1_1 : decode method_2_code 1 = .ok (.ldc2_w 9, 3) := by decide +kernel
theorem d1_4 : decode method_2_code 4 = .ok (.lrem, 1) := by decide +kernel
theorem d1_5 : decode method_2_code 5 = .ok (.lstore 4, 2) := by decide +kernel
theorem d1_7 : decode method_2_code 7 = .ok (.lload_n 2, 1) := by decide +kernel
theorem d1_8 : decode method_2_code 8 = .ok (.bipush 32, 2) := by decide +kernel
theorem d1_10 : decode method_2_code 10 = .ok (.lushr, 1) := by decide +kernel
theorem d1_11 : decode method_2_code 11 = .ok (.lstore 6, 2) := by decide +kernel
theorem d1_13 : decode method_2_code 13 = .ok (.lload_n 2, 1) := by decide +kernel
theorem d1_14 : decode method_2_code 14 = .ok (.ldc2_w 11, 3) := by decide +kernel
theorem d1_17 : decode method_2_code 17 = .ok (.land, 1) := by decide +kernel
theorem d1_18 : decode method_2_code 18 = .ok (.lstore 8, 2) := by decide +kernel
theorem d1_20 : decode method_2_code 20 = .ok (.lload 4, 2) := by decide +kernel
theorem d1_22 : decode method_2_code 22 = .ok (.lload 6, 2) := by decide +kernel
theorem d1_24 : decode method_2_code 24 = .ok (.lmul, 1) := by decide +kernel
theorem d1_25 : decode method_2_code 25 = .ok (.ldc2_w 9, 3) := by decide +kernel
theorem d1_28 : decode method_2_code 28 = .ok (.lrem, 1) := by decide +kernel
theorem d1_29 : decode method_2_code 29 = .ok (.ldc2_w 13, 3) := by decide +kernel
theorem d1_32 : decode method_2_code 32 = .ok (.lmul, 1) := by decide +kernel
theorem d1_33 : decode method_2_code 33 = .ok (.ldc2_w 9, 3) := by decide +kernel
theorem d1_36 : decode method_2_code 36 = .ok (.lrem, 1) := by decide +kernel
theorem d1_37 : decode method_2_code 37 = .ok (.lstore 10, 2) := by decide +kernel
theorem d1_39 : decode method_2_code 39 = .ok (.lload 4, 2) := by decide +kernel
theorem d1_41 : decode method_2_code 41 = .ok (.lload 8, 2) := by decide +kernel
theorem d1_43 : decode method_2_code 43 = .ok (.lmul, 1) := by decide +kernel
theorem d1_44 : decode method_2_code 44 = .ok (.ldc2_w 9, 3) := by decide +kernel
theorem d1_47 : decode method_2_code 47 = .ok (.lrem, 1) := by decide +kernel
theorem d1_48 : decode method_2_code 48 = .ok (.lstore 12, 2) := by decide +kernel
theorem d1_50 : decode method_2_code 50 = .ok (.lload 10, 2) := by decide +kernel
theorem d1_52 : decode method_2_code 52 = .ok (.lload 12, 2) := by decide +kernel
theorem d1_54 : decode method_2_code 54 = .ok (.ladd, 1) := by decide +kernel
theorem d1_55 : decode method_2_code 55 = .ok (.ldc2_w 9, 3) := by decide +kernel
theorem d1_58 : decode method_2_code 58 = .ok (.lrem, 1) := by decide +kernel
theorem d1_59 : decode method_2_code 59 = .ok (.lreturn, 1) := by decide +kernel
theorem pn_1 : plainName "com/example/crossbook/crossbook/PricesExecutableAmountPinLaw" = true := by first | (simp [plainName, overriddenIn]; done) | decide +kernel
theorem ef_1 (m : MethodId) (q0 : Int64) (q1 : Int64) : entryFrame m #[(.long q0), (.long q1)] 14 = mkF m 0 #[.val (.long q0), .second, .val (.long q1), .second, .unset, .unset, .unset, .unset, .unset, .unset, .unset, .unset, .unset, .unset] [] := by first | (simp [entryFrame, mkF, argsToLocals, Value.category]; done) | rfl
def fn1 (q0 : Int64) (q1 : Int64) : Int64 := (let v9 : Int64 := (q0 - (q0 / (100000000 : Int64)) * (100000000 : Int64)); (let v10 : Int64 := ((q1.toUInt64 >>> ((32 : Int32) &&& 0x3f).toInt64.toUInt64).toInt64); (let v11 : Int64 := (q1 &&& (4294967295 : Int64)); (let v12 : Int64 := ((((v9 * v10) - ((v9 * v10) / (100000000 : Int64)) * (100000000 : Int64)) * (4294967296 : Int64)) - ((((v9 * v10) - ((v9 * v10) / (100000000 : Int64)) * (100000000 : Int64)) * (4294967296 : Int64)) / (100000000 : Int64)) * (100000000 : Int64)); (let v13 : Int64 := ((v9 * v11) - ((v9 * v11) / (100000000 : Int64)) * (100000000 : Int64)); ((v12 + v13) - ((v12 + v13) / (100000000 : Int64)) * (100000000 : Int64)))))))
abbrev ROOM1 : Room := { frames := 0, cells := 0, slots := 0, locals := 0 }
def Q1 (Z : State) (q0 : Int64) (q1 : Int64)  (h0 : Heap) (n0 : Nat) (v : Option Value) (h : Heap) (L : List Loc) : Prop := v = some (.long (fn1 q0 q1)) ∧ Fr n0 L ∧ h = h0
set_option maxRecDepth 65536 in
set_option maxHeartbeats 40000000 in
theorem rm1 (l : Launch) (Z : State) (a0 : Array Value) (hw : ∀ d ∈ tables_1, d.before a0 Z = true) (ws : List Jvm.Cond) (q0 : Int64) (q1 : Int64)  (h0 : Heap) (n0 : Nat) (Z0 : n0 ≤ h0.size)  :
    MetFree l (⟨"com/example/crossbook/crossbook/PricesExecutableAmountPinLaw", "exactRest", "(JJ)J"⟩ : MethodName) (head1 (Jvm.Cond.code (⟨"com/example/crossbook/crossbook/PricesExecutableAmountPinLaw", "exactRest", "(JJ)J"⟩ : MethodName) method_2_code 14 (some .long) :: ws) ROOM1) (fun a U => a = #[(.long q0), (.long q1)] ∧ Z.Warmed39 U.vm ∧ U.heap = h0) (fun _ _ _ _ _ => True) (fun _ U o U' => ∃ v L, o = .returned v ∧ Q1 Z q0 q1  h0 n0 v U'.heap L ∧ FrameEnd U o U' L ROOM1.cells ROOM1.slots) := by
  refine MetFree.of_bodySF (plainFor_of_name pn_1) hisR ?_
  intro p e s m args below meth c s₁ Bd hml0 hP hK
  obtain ⟨rfl, hZ, hh⟩ := hP
  have hx := Bd.exec
  have hby := Bd.bytes
  have hml : c.maxLocals = 14 := hml0
  have hown : s.vm.findClass "com/example/crossbook/crossbook/PricesExecutableAmountPinLaw" = some m.cls := findClass_of_methodNamed Bd.named
  have hnm := (name_of_methodNamed Bd.named Bd.method).1
  have X0 : Stand p l e ROOM1 s m #[(.long q0), (.long q1)] below meth c s₁ [] 0 0 := Stand.of_body Bd
  have e0 : s₁.heap = h0 := by rw [← hh, Bd.state]; rfl
  have N0 := Fr.nil n0
  refine Ends.via (A := s₁.setTop (mkF m 0 #[.val (.long q0), .second, .val (.long q1), .second, .unset, .unset, .unset, .unset, .unset, .unset, .unset, .unset, .unset, .unset] [])) (kc := ROOM1.cells) (ks := ROOM1.slots) (Q := (Q1 Z q0 q1  h0 n0)) (fun t k => castTop (ef_1 m q0 q1) k) ?_
  show Ends p e below s ROOM1.cells ROOM1.slots (Q1 Z q0 q1  h0 n0) (s₁.setTop (mkF m 0 #[.val (.long q0), .second, .val (.long q1), .second, .unset, .unset, .unset, .unset, .unset, .unset, .unset, .unset, .unset, .unset] []))
  refine Ends.via (fun _ k => XS.lloadN X0.here hx rfl (hb hby d1_0) rfl k) ?_
  show Ends p e below s ROOM1.cells ROOM1.slots (Q1 Z q0 q1  h0 n0) (s₁.setTop (mkF m 1 #[.val (.long q0), .second, .val (.long q1), .second, .unset, .unset, .unset, .unset, .unset, .unset, .unset, .unset, .unset, .unset] [(.long q0)]))
  refine Ends.via (X0.ldc2Long hx hown (mvT hZ (hw _ (List.mem_of_getElem? (i := 5) rfl))) (g := (mkF m 1 #[.val (.long q0), .second, .val (.long q1), .second, .unset, .unset, .unset, .unset, .unset, .unset, .unset, .unset, .unset, .unset] [(.long q0)])) rfl (hb hby d1_1)) ?_
  show Ends p e below s ROOM1.cells ROOM1.slots (Q1 Z q0 q1  h0 n0) (s₁.setTop (mkF m 4 #[.val (.long q0), .second, .val (.long q1), .second, .unset, .unset, .unset, .unset, .unset, .unset, .unset, .unset, .unset, .unset] [(.long (100000000 : Int64)), (.long q0)]))
  refine Ends.via (fun _ k => XS.lrem X0.here hx rfl (hb hby d1_4) rfl (by decide) k) ?_
  show Ends p e below s ROOM1.cells ROOM1.slots (Q1 Z q0 q1  h0 n0) (s₁.setTop (mkF m 5 #[.val (.long q0), .second, .val (.long q1), .second, .unset, .unset, .unset, .unset, .unset, .unset, .unset, .unset, .unset, .unset] [(.long (q0 - (q0 / (100000000 : Int64)) * (100000000 : Int64)))]))
  refine Ends.via (fun _ k => XS.lstore X0.here hx rfl (hb hby d1_5) rfl (l' := #[.val (.long q0), .second, .val (.long q1), .second, .val (.long (q0 - (q0 / (100000000 : Int64)) * (100000000 : Int64))), .second, .unset, .unset, .unset, .unset, .unset, .unset, .unset, .unset]) rfl k) ?_
  show Ends p e below s ROOM1.cells ROOM1.slots (Q1 Z q0 q1  h0 n0) (s₁.setTop (mkF m 7 #[.val (.long q0), .second, .val (.long q1), .second, .val (.long (q0 - (q0 / (100000000 : Int64)) * (100000000 : Int64))), .second, .unset, .unset, .unset, .unset, .unset, .unset, .unset, .unset] []))
  generalize hv9 : (q0 - (q0 / (100000000 : Int64)) * (100000000 : Int64)) = v9
  refine Ends.via (fun _ k => XS.lloadN X0.here hx rfl (hb hby d1_7) rfl k) ?_
  show Ends p e below s ROOM1.cells ROOM1.slots (Q1 Z q0 q1  h0 n0) (s₁.setTop (mkF m 8 #[.val (.long q0), .second, .val (.long q1), .second, .val (.long v9), .second, .unset, .unset, .unset, .unset, .unset, .unset, .unset, .unset] [(.long q1)]))
  refine Ends.via (fun _ k => XS.bipush X0.here hx rfl (hb hby d1_8) k) ?_
  show Ends p e below s ROOM1.cells ROOM1.slots (Q1 Z q0 q1  h0 n0) (s₁.setTop (mkF m 10 #[.val (.long q0), .second, .val (.long q1), .second, .val (.long v9), .second, .unset, .unset, .unset, .unset, .unset, .unset, .unset, .unset] [(.int (32 : Int32)), (.long q1)]))
  refine Ends.via (fun _ k => XS.lushr X0.here hx rfl (hb hby d1_10) rfl k) ?_
  show Ends p e below s ROOM1.cells ROOM1.slots (Q1 Z q0 q1  h0 n0) (s₁.setTop (mkF m 11 #[.val (.long q0), .second, .val (.long q1), .second, .val (.long v9), .second, .unset, .unset, .unset, .unset, .unset, .unset, .unset, .unset] [(.long ((q1.toUInt64 >>> ((32 : Int32) &&& 0x3f).toInt64.toUInt64).toInt64))]))
  refine Ends.via (fun _ k => XS.lstore X0.here hx rfl (hb hby d1_11) rfl (l' := #[.val (.long q0), .second, .val (.long q1), .second, .val (.long v9), .second, .val (.long ((q1.toUInt64 >>> ((32 : Int32) &&& 0x3f).toInt64.toUInt64).toInt64)), .second, .unset, .unset, .unset, .unset, .unset, .unset]) rfl k) ?_
  show Ends p e below s ROOM1.cells ROOM1.slots (Q1 Z q0 q1  h0 n0) (s₁.setTop (mkF m 13 #[.val (.long q0), .second, .val (.long q1), .second, .val (.long v9), .second, .val (.long ((q1.toUInt64 >>> ((32 : Int32) &&& 0x3f).toInt64.toUInt64).toInt64)), .second, .unset, .unset, .unset, .unset, .unset, .unset] []))
  generalize hv10 : ((q1.toUInt64 >>> ((32 : Int32) &&& 0x3f).toInt64.toUInt64).toInt64) = v10
  refine Ends.via (fun _ k => XS.lloadN X0.here hx rfl (hb hby d1_13) rfl k) ?_
  show Ends p e below s ROOM1.cells ROOM1.slots (Q1 Z q0 q1  h0 n0) (s₁.setTop (mkF m 14 #[.val (.long q0), .second, .val (.long q1), .second, .val (.long v9), .second, .val (.long v10), .second, .unset, .unset, .unset, .unset, .unset, .unset] [(.long q1)]))
  refine Ends.via (X0.ldc2Long hx hown (mvT hZ (hw _ (List.mem_of_getElem? (i := 6) rfl))) (g := (mkF m 14 #[.val (.long q0), .second, .val (.long q1), .second, .val (.long v9), .second, .val (.long v10), .second, .unset, .unset, .unset, .unset, .unset, .unset] [(.long q1)])) rfl (hb hby d1_14)) ?_
  show Ends p e below s ROOM1.cells ROOM1.slots (Q1 Z q0 q1  h0 n0) (s₁.setTop (mkF m 17 #[.val (.long q0), .second, .val (.long q1), .second, .val (.long v9), .second, .val (.long v10), .second, .unset, .unset, .unset, .unset, .unset, .unset] [(.long (4294967295 : Int64)), (.long q1)]))
  refine Ends.via (fun _ k => XS.land X0.here hx rfl (hb hby d1_17) rfl k) ?_
  show Ends p e below s ROOM1.cells ROOM1.slots (Q1 Z q0 q1  h0 n0) (s₁.setTop (mkF m 18 #[.val (.long q0), .second, .val (.long q1), .second, .val (.long v9), .second, .val (.long v10), .second, .unset, .unset, .unset, .unset, .unset, .unset] [(.long (q1 &&& (4294967295 : Int64)))]))
  refine Ends.via (fun _ k => XS.lstore X0.here hx rfl (hb hby d1_18) rfl (l' := #[.val (.long q0), .second, .val (.long q1), .second, .val (.long v9), .second, .val (.long v10), .second, .val (.long (q1 &&& (4294967295 : Int64))), .second, .unset, .unset, .unset, .unset]) rfl k) ?_
  show Ends p e below s ROOM1.cells ROOM1.slots (Q1 Z q0 q1  h0 n0) (s₁.setTop (mkF m 20 #[.val (.long q0), .second, .val (.long q1), .second, .val (.long v9), .second, .val (.long v10), .second, .val (.long (q1 &&& (4294967295 : Int64))), .second, .unset, .unset, .unset, .unset] []))
  generalize hv11 : (q1 &&& (4294967295 : Int64)) = v11
  refine Ends.via (fun _ k => XS.lload X0.here hx rfl (hb hby d1_20) rfl k) ?_
  show Ends p e below s ROOM1.cells ROOM1.slots (Q1 Z q0 q1  h0 n0) (s₁.setTop (mkF m 22 #[.val (.long q0), .second, .val (.long q1), .second, .val (.long v9), .second, .val (.long v10), .second, .val (.long v11), .second, .unset, .unset, .unset, .unset] [(.long v9)]))
  refine Ends.via (fun _ k => XS.lload X0.here hx rfl (hb hby d1_22) rfl k) ?_
  show Ends p e below s ROOM1.cells ROOM1.slots (Q1 Z q0 q1  h0 n0) (s₁.setTop (mkF m 24 #[.val (.long q0), .second, .val (.long q1), .second, .val (.long v9), .second, .val (.long v10), .second, .val (.long v11), .second, .unset, .unset, .unset, .unset] [(.long v10), (.long v9)]))
  refine Ends.via (fun _ k => XS.lmul X0.here hx rfl (hb hby d1_24) rfl k) ?_
  show Ends p e below s ROOM1.cells ROOM1.slots (Q1 Z q0 q1  h0 n0) (s₁.setTop (mkF m 25 #[.val (.long q0), .second, .val (.long q1), .second, .val (.long v9), .second, .val (.long v10), .second, .val (.long v11), .second, .unset, .unset, .unset, .unset] [(.long (v9 * v10))]))
  refine Ends.via (X0.ldc2Long hx hown (mvT hZ (hw _ (List.mem_of_getElem? (i := 5) rfl))) (g := (mkF m 25 #[.val (.long q0), .second, .val (.long q1), .second, .val (.long v9), .second, .val (.long v10), .second, .val (.long v11), .second, .unset, .unset, .unset, .unset] [(.long (v9 * v10))])) rfl (hb hby d1_25)) ?_
  show Ends p e below s ROOM1.cells ROOM1.slots (Q1 Z q0 q1  h0 n0) (s₁.setTop (mkF m 28 #[.val (.long q0), .second, .val (.long q1), .second, .val (.long v9), .second, .val (.long v10), .second, .val (.long v11), .second, .unset, .unset, .unset, .unset] [(.long (100000000 : Int64)), (.long (v9 * v10))]))
  refine Ends.via (fun _ k => XS.lrem X0.here hx rfl (hb hby d1_28) rfl (by decide) k) ?_
  show Ends p e below s ROOM1.cells ROOM1.slots (Q1 Z q0 q1  h0 n0) (s₁.setTop (mkF m 29 #[.val (.long q0), .second, .val (.long q1), .second, .val (.long v9), .second, .val (.long v10), .second, .val (.long v11), .second, .unset, .unset, .unset, .unset] [(.long ((v9 * v10) - ((v9 * v10) / (100000000 : Int64)) * (100000000 : Int64)))]))
  refine Ends.via (X0.ldc2Long hx hown (mvT hZ (hw _ (List.mem_of_getElem? (i := 7) rfl))) (g := (mkF m 29 #[.val (.long q0), .second, .val (.long q1), .second, .val (.long v9), .second, .val (.long v10), .second, .val (.long v11), .second, .unset, .unset, .unset, .unset] [(.long ((v9 * v10) - ((v9 * v10) / (100000000 : Int64)) * (100000000 : Int64)))])) rfl (hb hby d1_29)) ?_
  show Ends p e below s ROOM1.cells ROOM1.slots (Q1 Z q0 q1  h0 n0) (s₁.setTop (mkF m 32 #[.val (.long q0), .second, .val (.long q1), .second, .val (.long v9), .second, .val (.long v10), .second, .val (.long v11), .second, .unset, .unset, .unset, .unset] [(.long (4294967296 : Int64)), (.long ((v9 * v10) - ((v9 * v10) / (100000000 : Int64)) * (100000000 : Int64)))]))
  refine Ends.via (fun _ k => XS.lmul X0.here hx rfl (hb hby d1_32) rfl k) ?_
  show Ends p e below s ROOM1.cells ROOM1.slots (Q1 Z q0 q1  h0 n0) (s₁.setTop (mkF m 33 #[.val (.long q0), .second, .val (.long q1), .second, .val (.long v9), .second, .val (.long v10), .second, .val (.long v11), .second, .unset, .unset, .unset, .unset] [(.long (((v9 * v10) - ((v9 * v10) / (100000000 : Int64)) * (100000000 : Int64)) * (4294967296 : Int64)))]))
  refine Ends.via (X0.ldc2Long hx hown (mvT hZ (hw _ (List.mem_of_getElem? (i := 5) rfl))) (g := (mkF m 33 #[.val (.long q0), .second, .val (.long q1), .second, .val (.long v9), .second, .val (.long v10), .second, .val (.long v11), .second, .unset, .unset, .unset, .unset] [(.long (((v9 * v10) - ((v9 * v10) / (100000000 : Int64)) * (100000000 : Int64)) * (4294967296 : Int64)))])) rfl (hb hby d1_33)) ?_
  show Ends p e below s ROOM1.cells ROOM1.slots (Q1 Z q0 q1  h0 n0) (s₁.setTop (mkF m 36 #[.val (.long q0), .second, .val (.long q1), .second, .val (.long v9), .second, .val (.long v10), .second, .val (.long v11), .second, .unset, .unset, .unset, .unset] [(.long (100000000 : Int64)), (.long (((v9 * v10) - ((v9 * v10) / (100000000 : Int64)) * (100000000 : Int64)) * (4294967296 : Int64)))]))
  refine Ends.via (fun _ k => XS.lrem X0.here hx rfl (hb hby d1_36) rfl (by decide) k) ?_
  show Ends p e below s ROOM1.cells ROOM1.slots (Q1 Z q0 q1  h0 n0) (s₁.setTop (mkF m 37 #[.val (.long q0), .second, .val (.long q1), .second, .val (.long v9), .second, .val (.long v10), .second, .val (.long v11), .second, .unset, .unset, .unset, .unset] [(.long ((((v9 * v10) - ((v9 * v10) / (100000000 : Int64)) * (100000000 : Int64)) * (4294967296 : Int64)) - ((((v9 * v10) - ((v9 * v10) / (100000000 : Int64)) * (100000000 : Int64)) * (4294967296 : Int64)) / (100000000 : Int64)) * (100000000 : Int64)))]))
  refine Ends.via (fun _ k => XS.lstore X0.here hx rfl (hb hby d1_37) rfl (l' := #[.val (.long q0), .second, .val (.long q1), .second, .val (.long v9), .second, .val (.long v10), .second, .val (.long v11), .second, .val (.long ((((v9 * v10) - ((v9 * v10) / (100000000 : Int64)) * (100000000 : Int64)) * (4294967296 : Int64)) - ((((v9 * v10) - ((v9 * v10) / (100000000 : Int64)) * (100000000 : Int64)) * (4294967296 : Int64)) / (100000000 : Int64)) * (100000000 : Int64))), .second, .unset, .unset]) rfl k) ?_
  show Ends p e below s ROOM1.cells ROOM1.slots (Q1 Z q0 q1  h0 n0) (s₁.setTop (mkF m 39 #[.val (.long q0), .second, .val (.long q1), .second, .val (.long v9), .second, .val (.long v10), .second, .val (.long v11), .second, .val (.long ((((v9 * v10) - ((v9 * v10) / (100000000 : Int64)) * (100000000 : Int64)) * (4294967296 : Int64)) - ((((v9 * v10) - ((v9 * v10) / (100000000 : Int64)) * (100000000 : Int64)) * (4294967296 : Int64)) / (100000000 : Int64)) * (100000000 : Int64))), .second, .unset, .unset] []))
  generalize hv12 : ((((v9 * v10) - ((v9 * v10) / (100000000 : Int64)) * (100000000 : Int64)) * (4294967296 : Int64)) - ((((v9 * v10) - ((v9 * v10) / (100000000 : Int64)) * (100000000 : Int64)) * (4294967296 : Int64)) / (100000000 : Int64)) * (100000000 : Int64)) = v12
  refine Ends.via (fun _ k => XS.lload X0.here hx rfl (hb hby d1_39) rfl k) ?_
  show Ends p e below s ROOM1.cells ROOM1.slots (Q1 Z q0 q1  h0 n0) (s₁.setTop (mkF m 41 #[.val (.long q0), .second, .val (.long q1), .second, .val (.long v9), .second, .val (.long v10), .second, .val (.long v11), .second, .val (.long v12), .second, .unset, .unset] [(.long v9)]))
  refine Ends.via (fun _ k => XS.lload X0.here hx rfl (hb hby d1_41) rfl k) ?_
  show Ends p e below s ROOM1.cells ROOM1.slots (Q1 Z q0 q1  h0 n0) (s₁.setTop (mkF m 43 #[.val (.long q0), .second, .val (.long q1), .second, .val (.long v9), .second, .val (.long v10), .second, .val (.long v11), .second, .val (.long v12), .second, .unset, .unset] [(.long v11), (.long v9)]))
  refine Ends.via (fun _ k => XS.lmul X0.here hx rfl (hb hby d1_43) rfl k) ?_
  show Ends p e below s ROOM1.cells ROOM1.slots (Q1 Z q0 q1  h0 n0) (s₁.setTop (mkF m 44 #[.val (.long q0), .second, .val (.long q1), .second, .val (.long v9), .second, .val (.long v10), .second, .val (.long v11), .second, .val (.long v12), .second, .unset, .unset] [(.long (v9 * v11))]))
  refine Ends.via (X0.ldc2Long hx hown (mvT hZ (hw _ (List.mem_of_getElem? (i := 5) rfl))) (g := (mkF m 44 #[.val (.long q0), .second, .val (.long q1), .second, .val (.long v9), .second, .val (.long v10), .second, .val (.long v11), .second, .val (.long v12), .second, .unset, .unset] [(.long (v9 * v11))])) rfl (hb hby d1_44)) ?_
  show Ends p e below s ROOM1.cells ROOM1.slots (Q1 Z q0 q1  h0 n0) (s₁.setTop (mkF m 47 #[.val (.long q0), .second, .val (.long q1), .second, .val (.long v9), .second, .val (.long v10), .second, .val (.long v11), .second, .val (.long v12), .second, .unset, .unset] [(.long (100000000 : Int64)), (.long (v9 * v11))]))
  refine Ends.via (fun _ k => XS.lrem X0.here hx rfl (hb hby d1_47) rfl (by decide) k) ?_
  show Ends p e below s ROOM1.cells ROOM1.slots (Q1 Z q0 q1  h0 n0) (s₁.setTop (mkF m 48 #[.val (.long q0), .second, .val (.long q1), .second, .val (.long v9), .second, .val (.long v10), .second, .val (.long v11), .second, .val (.long v12), .second, .unset, .unset] [(.long ((v9 * v11) - ((v9 * v11) / (100000000 : Int64)) * (100000000 : Int64)))]))
  refine Ends.via (fun _ k => XS.lstore X0.here hx rfl (hb hby d1_48) rfl (l' := #[.val (.long q0), .second, .val (.long q1), .second, .val (.long v9), .second, .val (.long v10), .second, .val (.long v11), .second, .val (.long v12), .second, .val (.long ((v9 * v11) - ((v9 * v11) / (100000000 : Int64)) * (100000000 : Int64))), .second]) rfl k) ?_
  show Ends p e below s ROOM1.cells ROOM1.slots (Q1 Z q0 q1  h0 n0) (s₁.setTop (mkF m 50 #[.val (.long q0), .second, .val (.long q1), .second, .val (.long v9), .second, .val (.long v10), .second, .val (.long v11), .second, .val (.long v12), .second, .val (.long ((v9 * v11) - ((v9 * v11) / (100000000 : Int64)) * (100000000 : Int64))), .second] []))
  generalize hv13 : ((v9 * v11) - ((v9 * v11) / (100000000 : Int64)) * (100000000 : Int64)) = v13
  refine Ends.via (fun _ k => XS.lload X0.here hx rfl (hb hby d1_50) rfl k) ?_
  show Ends p e below s ROOM1.cells ROOM1.slots (Q1 Z q0 q1  h0 n0) (s₁.setTop (mkF m 52 #[.val (.long q0), .second, .val (.long q1), .second, .val (.long v9), .second, .val (.long v10), .second, .val (.long v11), .second, .val (.long v12), .second, .val (.long v13), .second] [(.long v12)]))
  refine Ends.via (fun _ k => XS.lload X0.here hx rfl (hb hby d1_52) rfl k) ?_
  show Ends p e below s ROOM1.cells ROOM1.slots (Q1 Z q0 q1  h0 n0) (s₁.setTop (mkF m 54 #[.val (.long q0), .second, .val (.long q1), .second, .val (.long v9), .second, .val (.long v10), .second, .val (.long v11), .second, .val (.long v12), .second, .val (.long v13), .second] [(.long v13), (.long v12)]))
  refine Ends.via (fun _ k => XS.ladd X0.here hx rfl (hb hby d1_54) rfl k) ?_
  show Ends p e below s ROOM1.cells ROOM1.slots (Q1 Z q0 q1  h0 n0) (s₁.setTop (mkF m 55 #[.val (.long q0), .second, .val (.long q1), .second, .val (.long v9), .second, .val (.long v10), .second, .val (.long v11), .second, .val (.long v12), .second, .val (.long v13), .second] [(.long (v12 + v13))]))
  refine Ends.via (X0.ldc2Long hx hown (mvT hZ (hw _ (List.mem_of_getElem? (i := 5) rfl))) (g := (mkF m 55 #[.val (.long q0), .second, .val (.long q1), .second, .val (.long v9), .second, .val (.long v10), .second, .val (.long v11), .second, .val (.long v12), .second, .val (.long v13), .second] [(.long (v12 + v13))])) rfl (hb hby d1_55)) ?_
  show Ends p e below s ROOM1.cells ROOM1.slots (Q1 Z q0 q1  h0 n0) (s₁.setTop (mkF m 58 #[.val (.long q0), .second, .val (.long q1), .second, .val (.long v9), .second, .val (.long v10), .second, .val (.long v11), .second, .val (.long v12), .second, .val (.long v13), .second] [(.long (100000000 : Int64)), (.long (v12 + v13))]))
  refine Ends.via (fun _ k => XS.lrem X0.here hx rfl (hb hby d1_58) rfl (by decide) k) ?_
  show Ends p e below s ROOM1.cells ROOM1.slots (Q1 Z q0 q1  h0 n0) (s₁.setTop (mkF m 59 #[.val (.long q0), .second, .val (.long q1), .second, .val (.long v9), .second, .val (.long v10), .second, .val (.long v11), .second, .val (.long v12), .second, .val (.long v13), .second] [(.long ((v12 + v13) - ((v12 + v13) / (100000000 : Int64)) * (100000000 : Int64)))]))
  refine Ends.ret X0 (v := some (.long ((v12 + v13) - ((v12 + v13) / (100000000 : Int64)) * (100000000 : Int64)))) (fun h => by rw [Bd.returns] at h; cases h) Bd.notSynchronized (fun fs hr => retOut X0 hx Bd.returns rfl (Or.inr (Or.inl ⟨rfl, rfl, _, rfl⟩)) (hb hby d1_59) hr) ?_ (by decide) (by decide)
  have hfn : fn1 q0 q1 = ((v12 + v13) - ((v12 + v13) / (100000000 : Int64)) * (100000000 : Int64)) := by subst hv13; subst hv12; subst hv11; subst hv10; subst hv9; simp only [fn1]
  exact ⟨by rw [hfn], N0, e0⟩
theorem d2_0 : decode prog_29_method_6_code 0 = .ok (.lload_n 0, 1) := by decide +kernel
theorem d2_1 : decode prog_29_method_6_code 1 = .ok (.ldc2_w 9, 3) := by decide +kernel
theorem d2_4 : decode prog_29_method_6_code 4 = .ok (.lrem, 1) := by decide +kernel
theorem d2_5 : decode prog_29_method_6_code 5 = .ok (.lload_n 2, 1) := by decide +kernel
theorem d2_6 : decode prog_29_method_6_code 6 = .ok (.ldc2_w 9, 3) := by decide +kernel
theorem d2_9 : decode prog_29_method_6_code 9 = .ok (.lrem, 1) := by decide +kernel
theorem d2_10 : decode prog_29_method_6_code 10 = .ok (.lmul, 1) := by decide +kernel
theorem d2_11 : decode prog_29_method_6_code 11 = .ok (.ldc2_w 9, 3) := by decide +kernel
theorem d2_14 : decode prog_29_method_6_code 14 = .ok (.lrem, 1) := by decide +kernel
theorem d2_15 : decode prog_29_method_6_code 15 = .ok (.lstore 4, 2) := by decide +kernel
theorem d2_17 : decode prog_29_method_6_code 17 = .ok (.lload_n 0, 1) := by decide +kernel
theorem d2_18 : decode prog_29_method_6_code 18 = .ok (.lload 4, 2) := by decide +kernel
theorem d2_20 : decode prog_29_method_6_code 20 = .ok (.lload_n 2, 1) := by decide +kernel
theorem d2_21 : decode prog_29_method_6_code 21 = .ok (.ldiv, 1) := by decide +kernel
theorem d2_22 : decode prog_29_method_6_code 22 = .ok (.lsub, 1) := by decide +kernel
theorem d2_23 : decode prog_29_method_6_code 23 = .ok (.lreturn, 1) := by decide +kernel
theorem pn_2 : plainName "com/example/crossbook/crossbook/Prices" = true := by first | (simp [plainName, overriddenIn]; done) | decide +kernel
theorem ef_2 (m : MethodId) (q0 : Int64) (q1 : Int64) : entryFrame m #[(.long q0), (.long q1)] 6 = mkF m 0 #[.val (.long q0), .second, .val (.long q1), .second, .unset, .unset] [] := by first | (simp [entryFrame, mkF, argsToLocals, Value.category]; done) | rfl
def fn2 (q0 : Int64) (q1 : Int64) : Int64 := (let v15 : Int64 := (((q0 - (q0 / (100000000 : Int64)) * (100000000 : Int64)) * (q1 - (q1 / (100000000 : Int64)) * (100000000 : Int64))) - (((q0 - (q0 / (100000000 : Int64)) * (100000000 : Int64)) * (q1 - (q1 / (100000000 : Int64)) * (100000000 : Int64))) / (100000000 : Int64)) * (100000000 : Int64)); (q0 - (v15 / q1)))
abbrev ROOM2 : Room := { frames := 0, cells := 0, slots := 0, locals := 0 }
def Q2 (Z : State) (q0 : Int64) (q1 : Int64)  (h0 : Heap) (n0 : Nat) (v : Option Value) (h : Heap) (L : List Loc) : Prop := v = some (.long (fn2 q0 q1)) ∧ Fr n0 L ∧ h = h0
set_option maxRecDepth 65536 in
set_option maxHeartbeats 40000000 in
theorem rm2 (l : Launch) (Z : State) (a0 : Array Value) (hw : ∀ d ∈ tables_1, d.before a0 Z = true) (ws : List Jvm.Cond) (q0 : Int64) (q1 : Int64)  (h0 : Heap) (n0 : Nat) (Z0 : n0 ≤ h0.size) (hz : q1 ≠ 0) :
    MetFree l (⟨"com/example/crossbook/crossbook/Prices", "executableAmount", "(JJ)J"⟩ : MethodName) (head1 (Jvm.Cond.code (⟨"com/example/crossbook/crossbook/Prices", "executableAmount", "(JJ)J"⟩ : MethodName) prog_29_method_6_code 6 (some .long) :: ws) ROOM2) (fun a U => a = #[(.long q0), (.long q1)] ∧ Z.Warmed39 U.vm ∧ U.heap = h0) (fun _ _ _ _ _ => True) (fun _ U o U' => ∃ v L, o = .returned v ∧ Q2 Z q0 q1  h0 n0 v U'.heap L ∧ FrameEnd U o U' L ROOM2.cells ROOM2.slots) := by
  refine MetFree.of_bodySF (plainFor_of_name pn_2) hisR ?_
  intro p e s m args below meth c s₁ Bd hml0 hP hK
  obtain ⟨rfl, hZ, hh⟩ := hP
  have hx := Bd.exec
  have hby := Bd.bytes
  have hml : c.maxLocals = 6 := hml0
  have hown : s.vm.findClass "com/example/crossbook/crossbook/Prices" = some m.cls := findClass_of_methodNamed Bd.named
  have hnm := (name_of_methodNamed Bd.named Bd.method).1
  have X0 : Stand p l e ROOM2 s m #[(.long q0), (.long q1)] below meth c s₁ [] 0 0 := Stand.of_body Bd
  have e0 : s₁.heap = h0 := by rw [← hh, Bd.state]; rfl
  have N0 := Fr.nil n0
  refine Ends.via (A := s₁.setTop (mkF m 0 #[.val (.long q0), .second, .val (.long q1), .second, .unset, .unset] [])) (kc := ROOM2.cells) (ks := ROOM2.slots) (Q := (Q2 Z q0 q1  h0 n0)) (fun t k => castTop (ef_2 m q0 q1) k) ?_
  show Ends p e below s ROOM2.cells ROOM2.slots (Q2 Z q0 q1  h0 n0) (s₁.setTop (mkF m 0 #[.val (.long q0), .second, .val (.long q1), .second, .unset, .unset] []))
  refine Ends.via (fun _ k => XS.lloadN X0.here hx rfl (hb hby d2_0) rfl k) ?_
  show Ends p e below s ROOM2.cells ROOM2.slots (Q2 Z q0 q1  h0 n0) (s₁.setTop (mkF m 1 #[.val (.long q0), .second, .val (.long q1), .second, .unset, .unset] [(.long q0)]))
  refine Ends.via (X0.ldc2Long hx hown (mvT hZ (hw _ (List.mem_of_getElem? (i := 12) rfl))) (g := (mkF m 1 #[.val (.long q0), .second, .val (.long q1), .second, .unset, .unset] [(.long q0)])) rfl (hb hby d2_1)) ?_
  show Ends p e below s ROOM2.cells ROOM2.slots (Q2 Z q0 q1  h0 n0) (s₁.setTop (mkF m 4 #[.val (.long q0), .second, .val (.long q1), .second, .unset, .unset] [(.long (100000000 : Int64)), (.long q0)]))
  refine Ends.via (fun _ k => XS.lrem X0.here hx rfl (hb hby d2_4) rfl (by decide) k) ?_
  show Ends p e below s ROOM2.cells ROOM2.slots (Q2 Z q0 q1  h0 n0) (s₁.setTop (mkF m 5 #[.val (.long q0), .second, .val (.long q1), .second, .unset, .unset] [(.long (q0 - (q0 / (100000000 : Int64)) * (100000000 : Int64)))]))
  refine Ends.via (fun _ k => XS.lloadN X0.here hx rfl (hb hby d2_5) rfl k) ?_
  show Ends p e below s ROOM2.cells ROOM2.slots (Q2 Z q0 q1  h0 n0) (s₁.setTop (mkF m 6 #[.val (.long q0), .second, .val (.long q1), .second, .unset, .unset] [(.long q1), (.long (q0 - (q0 / (100000000 : Int64)) * (100000000 : Int64)))]))
  refine Ends.via (X0.ldc2Long hx hown (mvT hZ (hw _ (List.mem_of_getElem? (i := 12) rfl))) (g := (mkF m 6 #[.val (.long q0), .second, .val (.long q1), .second, .unset, .unset] [(.long q1), (.long (q0 - (q0 / (100000000 : Int64)) * (100000000 : Int64)))])) rfl (hb hby d2_6)) ?_
  show Ends p e below s ROOM2.cells ROOM2.slots (Q2 Z q0 q1  h0 n0) (s₁.setTop (mkF m 9 #[.val (.long q0), .second, .val (.long q1), .second, .unset, .unset] [(.long (100000000 : Int64)), (.long q1), (.long (q0 - (q0 / (100000000 : Int64)) * (100000000 : Int64)))]))
  refine Ends.via (fun _ k => XS.lrem X0.here hx rfl (hb hby d2_9) rfl (by decide) k) ?_
  show Ends p e below s ROOM2.cells ROOM2.slots (Q2 Z q0 q1  h0 n0) (s₁.setTop (mkF m 10 #[.val (.long q0), .second, .val (.long q1), .second, .unset, .unset] [(.long (q1 - (q1 / (100000000 : Int64)) * (100000000 : Int64))), (.long (q0 - (q0 / (100000000 : Int64)) * (100000000 : Int64)))]))
  refine Ends.via (fun _ k => XS.lmul X0.here hx rfl (hb hby d2_10) rfl k) ?_
  show Ends p e below s ROOM2.cells ROOM2.slots (Q2 Z q0 q1  h0 n0) (s₁.setTop (mkF m 11 #[.val (.long q0), .second, .val (.long q1), .second, .unset, .unset] [(.long ((q0 - (q0 / (100000000 : Int64)) * (100000000 : Int64)) * (q1 - (q1 / (100000000 : Int64)) * (100000000 : Int64))))]))
  refine Ends.via (X0.ldc2Long hx hown (mvT hZ (hw _ (List.mem_of_getElem? (i := 12) rfl))) (g := (mkF m 11 #[.val (.long q0), .second, .val (.long q1), .second, .unset, .unset] [(.long ((q0 - (q0 / (100000000 : Int64)) * (100000000 : Int64)) * (q1 - (q1 / (100000000 : Int64)) * (100000000 : Int64))))])) rfl (hb hby d2_11)) ?_
  show Ends p e below s ROOM2.cells ROOM2.slots (Q2 Z q0 q1  h0 n0) (s₁.setTop (mkF m 14 #[.val (.long q0), .second, .val (.long q1), .second, .unset, .unset] [(.long (100000000 : Int64)), (.long ((q0 - (q0 / (100000000 : Int64)) * (100000000 : Int64)) * (q1 - (q1 / (100000000 : Int64)) * (100000000 : Int64))))]))
  refine Ends.via (fun _ k => XS.lrem X0.here hx rfl (hb hby d2_14) rfl (by decide) k) ?_
  show Ends p e below s ROOM2.cells ROOM2.slots (Q2 Z q0 q1  h0 n0) (s₁.setTop (mkF m 15 #[.val (.long q0), .second, .val (.long q1), .second, .unset, .unset] [(.long (((q0 - (q0 / (100000000 : Int64)) * (100000000 : Int64)) * (q1 - (q1 / (100000000 : Int64)) * (100000000 : Int64))) - (((q0 - (q0 / (100000000 : Int64)) * (100000000 : Int64)) * (q1 - (q1 / (100000000 : Int64)) * (100000000 : Int64))) / (100000000 : Int64)) * (100000000 : Int64)))]))
  refine Ends.via (fun _ k => XS.lstore X0.here hx rfl (hb hby d2_15) rfl (l' := #[.val (.long q0), .second, .val (.long q1), .second, .val (.long (((q0 - (q0 / (100000000 : Int64)) * (100000000 : Int64)) * (q1 - (q1 / (100000000 : Int64)) * (100000000 : Int64))) - (((q0 - (q0 / (100000000 : Int64)) * (100000000 : Int64)) * (q1 - (q1 / (100000000 : Int64)) * (100000000 : Int64))) / (100000000 : Int64)) * (100000000 : Int64))), .second]) rfl k) ?_
  show Ends p e below s ROOM2.cells ROOM2.slots (Q2 Z q0 q1  h0 n0) (s₁.setTop (mkF m 17 #[.val (.long q0), .second, .val (.long q1), .second, .val (.long (((q0 - (q0 / (100000000 : Int64)) * (100000000 : Int64)) * (q1 - (q1 / (100000000 : Int64)) * (100000000 : Int64))) - (((q0 - (q0 / (100000000 : Int64)) * (100000000 : Int64)) * (q1 - (q1 / (100000000 : Int64)) * (100000000 : Int64))) / (100000000 : Int64)) * (100000000 : Int64))), .second] []))
  generalize hv15 : (((q0 - (q0 / (100000000 : Int64)) * (100000000 : Int64)) * (q1 - (q1 / (100000000 : Int64)) * (100000000 : Int64))) - (((q0 - (q0 / (100000000 : Int64)) * (100000000 : Int64)) * (q1 - (q1 / (100000000 : Int64)) * (100000000 : Int64))) / (100000000 : Int64)) * (100000000 : Int64)) = v15
  refine Ends.via (fun _ k => XS.lloadN X0.here hx rfl (hb hby d2_17) rfl k) ?_
  show Ends p e below s ROOM2.cells ROOM2.slots (Q2 Z q0 q1  h0 n0) (s₁.setTop (mkF m 18 #[.val (.long q0), .second, .val (.long q1), .second, .val (.long v15), .second] [(.long q0)]))
  refine Ends.via (fun _ k => XS.lload X0.here hx rfl (hb hby d2_18) rfl k) ?_
  show Ends p e below s ROOM2.cells ROOM2.slots (Q2 Z q0 q1  h0 n0) (s₁.setTop (mkF m 20 #[.val (.long q0), .second, .val (.long q1), .second, .val (.long v15), .second] [(.long v15), (.long q0)]))
  refine Ends.via (fun _ k => XS.lloadN X0.here hx rfl (hb hby d2_20) rfl k) ?_
  show Ends p e below s ROOM2.cells ROOM2.slots (Q2 Z q0 q1  h0 n0) (s₁.setTop (mkF m 21 #[.val (.long q0), .second, .val (.long q1), .second, .val (.long v15), .second] [(.long q1), (.long v15), (.long q0)]))
  refine Ends.via (fun _ k => XS.ldiv X0.here hx rfl (hb hby d2_21) rfl hz k) ?_
  show Ends p e below s ROOM2.cells ROOM2.slots (Q2 Z q0 q1  h0 n0) (s₁.setTop (mkF m 22 #[.val (.long q0), .second, .val (.long q1), .second, .val (.long v15), .second] [(.long (v15 / q1)), (.long q0)]))
  refine Ends.via (fun _ k => XS.lsub X0.here hx rfl (hb hby d2_22) rfl k) ?_
  show Ends p e below s ROOM2.cells ROOM2.slots (Q2 Z q0 q1  h0 n0) (s₁.setTop (mkF m 23 #[.val (.long q0), .second, .val (.long q1), .second, .val (.long v15), .second] [(.long (q0 - (v15 / q1)))]))
  refine Ends.ret X0 (v := some (.long (q0 - (v15 / q1)))) (fun h => by rw [Bd.returns] at h; cases h) Bd.notSynchronized (fun fs hr => retOut X0 hx Bd.returns rfl (Or.inr (Or.inl ⟨rfl, rfl, _, rfl⟩)) (hb hby d2_23) hr) ?_ (by decide) (by decide)
  have hfn : fn2 q0 q1 = (q0 - (v15 / q1)) := by subst hv15; simp only [fn2]
  exact ⟨by rw [hfn], N0, e0⟩
def own_r (x : Int64) : Int64 := x - (x / (100000000 : Int64)) * (100000000 : Int64)
theorem own_rem (x : Int64) (h : 0 ≤ x.toInt) : (own_r x).toInt = x.toInt % 100000000 := (c_lrem x 100000000 100000000 rfl).1 h
theorem own_mul (x y : Int64) (a b : Int) (hx : 0 ≤ x.toInt) (hxa : x.toInt ≤ a) (hy : 0 ≤ y.toInt) (hyb : y.toInt ≤ b) (hab : a * b < 9223372036854775808) : (x * y).toInt = x.toInt * y.toInt := by
  have h1 := c_lmul x y
  have h2 := rng64 (x * y)
  have h3 : 0 ≤ x.toInt * y.toInt := Int.mul_nonneg hx hy
  have h4 : x.toInt * y.toInt ≤ a * b := Int.mul_le_mul hxa hyb hy (by omega)
  omega
theorem own_add (x y : Int64) (hx : 0 ≤ x.toInt) (hx' : x.toInt < 100000000) (hy : 0 ≤ y.toInt) (hy' : y.toInt < 100000000) : (x + y).toInt = x.toInt + y.toInt := by
  have h1 := c_ladd x y
  have h2 := rng64 (x + y)
  omega
theorem own_mdle (x : Int) (h : 0 ≤ x) : x % 100000000 ≤ x := by omega
theorem own_md (x : Int) : 0 ≤ x % 100000000 ∧ x % 100000000 < 100000000 := by omega
theorem own_mix (k1 k2 k3 : Int) : ((k2 % 100000000 * 4294967296) % 100000000 + k3 % 100000000) % 100000000 = (100000000 * k1 + k2 * 4294967296 + k3) % 100000000 := by omega
theorem own_split (A P r u w : Int) (z1 : A = 100000000 * (A / 100000000) + r) (z2 : P = u * 4294967296 + w) : A * P = 100000000 * ((A / 100000000) * P) + (r * u) * 4294967296 + r * w := by
  generalize A / 100000000 = q at *
  subst z1 z2
  rw [Int.add_mul, Int.mul_assoc 100000000, Int.mul_add r, Int.mul_assoc r, Int.add_assoc]
theorem own_split2 (A P r t : Int) (z1 : A = 100000000 * (A / 100000000) + r) (z2 : P = 100000000 * (P / 100000000) + t) : A * P = 100000000 * ((A / 100000000) * P) + 100000000 * (r * (P / 100000000)) + r * t := by
  generalize A / 100000000 = q at *
  generalize P / 100000000 = q' at *
  subst z1 z2
  rw [Int.add_mul, Int.mul_assoc 100000000, Int.mul_add r, Int.mul_left_comm r, Int.add_assoc]
theorem own_f1 (a p : Int64) (ha : 0 ≤ a.toInt) (hp : 0 ≤ p.toInt) : (fn1 a p).toInt = (a.toInt * p.toInt) % 100000000 := by
  have hu := c_lushr p 32 32 (by decide) (by decide)
  have hw := c_maskL p 4294967295 32 (by decide) (by decide)
  have rp := rng64 p
  have hr := own_rem a ha
  show (own_r (own_r (own_r (own_r a * ((p.toUInt64 >>> ((32 : Int32) &&& 0x3f).toInt64.toUInt64).toInt64)) * (4294967296 : Int64)) + own_r (own_r a * (p &&& (4294967295 : Int64))))).toInt = _
  generalize ((p.toUInt64 >>> ((32 : Int32) &&& 0x3f).toInt64.toUInt64).toInt64) = u at *
  generalize (p &&& (4294967295 : Int64)) = w at *
  generalize own_r a = r at *
  have hu' : u.toInt = p.toInt / 4294967296 := by omega
  have hw' : w.toInt = p.toInt % 4294967296 := by omega
  have u0 : 0 ≤ u.toInt ∧ u.toInt ≤ 2147483648 := by omega
  have w0 : 0 ≤ w.toInt ∧ w.toInt ≤ 4294967296 := by omega
  have r0 : 0 ≤ r.toInt ∧ r.toInt ≤ 100000000 := by omega
  have z1 : a.toInt = 100000000 * (a.toInt / 100000000) + r.toInt := by omega
  have z2 : p.toInt = u.toInt * 4294967296 + w.toInt := by omega
  clear hu hw rp hr hu' hw'
  have m1 := own_mul r u 100000000 2147483648 r0.1 r0.2 u0.1 u0.2 (by decide)
  have m2 := own_mul r w 100000000 4294967296 r0.1 r0.2 w0.1 w0.2 (by decide)
  have q1 := own_rem (r * u) (m1 ▸ Int.mul_nonneg r0.1 u0.1)
  have q2 := own_rem (r * w) (m2 ▸ Int.mul_nonneg r0.1 w0.1)
  rw [m1] at q1
  rw [m2] at q2
  generalize own_r (r * u) = h1 at *
  generalize own_r (r * w) = lo at *
  have b1 := own_md (r.toInt * u.toInt)
  have b2 := own_md (r.toInt * w.toInt)
  rw [← q1] at b1
  rw [← q2] at b2
  have e4 : (4294967296 : Int64).toInt = 4294967296 := rfl
  have m3 := own_mul h1 4294967296 100000000 4294967296 b1.1 (Int.le_of_lt b1.2) (by decide) (by decide) (by decide)
  have q3 := own_rem (h1 * 4294967296) (m3 ▸ Int.mul_nonneg b1.1 (by decide))
  rw [m3, e4] at q3
  generalize own_r (h1 * 4294967296) = hi at *
  have b3 := own_md (h1.toInt * 4294967296)
  rw [← q3] at b3
  have a3 := own_add hi lo b3.1 b3.2 b2.1 b2.2
  have q4 := own_rem (hi + lo) (a3 ▸ Int.add_nonneg b3.1 b2.1)
  rw [q4, a3, q3, q1, q2, own_split _ _ _ _ _ z1 z2]
  exact own_mix _ _ _
theorem own_mix2 (k1 k2 k3 : Int) : k3 % 100000000 = (100000000 * k1 + 100000000 * k2 + k3) % 100000000 := by omega
theorem own_sub (a d : Int64) (ha : 0 ≤ d.toInt) (h : d.toInt ≤ a.toInt) : (a - d).toInt = a.toInt - d.toInt := by
  have s1 := c_lsub a d
  have s2 := rng64 (a - d)
  have s3 := rng64 a
  omega
theorem own_f2 (a p : Int64) (ha : 0 ≤ a.toInt) (hp : 1 ≤ p.toInt) : (fn2 a p).toInt = a.toInt - ((a.toInt * p.toInt) % 100000000) / p.toInt ∧ ((a.toInt * p.toInt) % 100000000) / p.toInt ≤ a.toInt ∧ 0 ≤ ((a.toInt * p.toInt) % 100000000) / p.toInt := by
  have hr := own_rem a ha
  have hs := own_rem p (by omega)
  show (a - own_r (own_r a * own_r p) / p).toInt = _ ∧ _
  generalize own_r a = r at *
  generalize own_r p = t at *
  have r0 : 0 ≤ r.toInt ∧ r.toInt ≤ 100000000 := by omega
  have t0 : 0 ≤ t.toInt ∧ t.toInt ≤ 100000000 := by omega
  have z1 : a.toInt = 100000000 * (a.toInt / 100000000) + r.toInt := by omega
  have z2 : p.toInt = 100000000 * (p.toInt / 100000000) + t.toInt := by omega
  clear hr hs
  have m1 := own_mul r t 100000000 100000000 r0.1 r0.2 t0.1 t0.2 (by decide)
  have q1 := own_rem (r * t) (m1 ▸ Int.mul_nonneg r0.1 t0.1)
  rw [m1] at q1
  generalize own_r (r * t) = v at *
  have k : v.toInt = (a.toInt * p.toInt) % 100000000 := by
    rw [q1, own_split2 _ _ _ _ z1 z2]; exact own_mix2 _ _ _
  have hpn : p ≠ -1 := fun h => by rw [h] at hp; exact absurd hp (by decide)
  have b := own_md (a.toInt * p.toInt)
  have d1 := (c_ldiv v p p.toInt rfl hpn).1 (k ▸ b.1)
  rw [k] at d1
  have hap : 0 ≤ a.toInt * p.toInt := Int.mul_nonneg ha (by omega)
  have d2 : 0 ≤ ((a.toInt * p.toInt) % 100000000) / p.toInt := Int.ediv_nonneg b.1 (by omega)
  have d3 : ((a.toInt * p.toInt) % 100000000) / p.toInt ≤ a.toInt := by
    have h5 : (a.toInt * p.toInt) % 100000000 ≤ a.toInt * p.toInt := own_mdle _ hap
    have : ((a.toInt * p.toInt) % 100000000) / p.toInt * p.toInt ≤ a.toInt * p.toInt := Int.le_trans (Int.ediv_mul_le _ (by omega)) h5
    exact Int.le_of_mul_le_mul_right this (by omega)
  refine ⟨?_, d3, d2⟩
  rw [own_sub a (v / p) (d1 ▸ d2) (d1 ▸ d3), d1]
theorem own_p (q0 q1 v1 v2 v4 v7 : Int64) (p2 : Int32) (hv1 : (q0 &&& (9223372036854775807 : Int64)) = v1) (hv2 : (q1 &&& (9223372036854775807 : Int64)) = v2) (hv4 : (if (p2 &&& (1 : Int32)) = (0 : Int32) then v2 else (v2 - (v2 / (100000000 : Int64)) * (100000000 : Int64))) = v4) (hv7 : (if v4 = (0 : Int64) then (1 : Int64) else v4) = v7) : 0 ≤ v1.toInt ∧ 1 ≤ v7.toInt := by
  have h1 := c_maskL q0 9223372036854775807 63 (by decide) (by decide)
  have h2 := c_maskL q1 9223372036854775807 63 (by decide) (by decide)
  rw [hv1] at h1; rw [hv2] at h2
  have h4 : 0 ≤ v4.toInt := by
    rw [← hv4]; split
    · omega
    · have := (c_lrem v2 100000000 100000000 rfl).1 (by omega); omega
  refine ⟨by omega, ?_⟩
  rw [← hv7]; split
  · decide
  · rename_i h
    have : v4.toInt ≠ 0 := fun h' => h (Int64.toInt_inj.mp h')
    omega
theorem own_p0 (q1 v2 v4 v7 : Int64) (p2 : Int32) (hv2 : (q1 &&& (9223372036854775807 : Int64)) = v2) (hv4 : (if (p2 &&& (1 : Int32)) = (0 : Int32) then v2 else (v2 - (v2 / (100000000 : Int64)) * (100000000 : Int64))) = v4) (hv7 : (if v4 = (0 : Int64) then (1 : Int64) else v4) = v7) : v7 ≠ 0 := fun h => by
  have := (own_p q1 q1 _ v2 v4 v7 p2 rfl hv2 hv4 hv7).2
  rw [h] at this; exact absurd this (by decide)
/-- the facts of a leaf -/
theorem own_all (q0 q1 v1 v2 v4 v7 : Int64) (p2 : Int32) (hv1 : (q0 &&& (9223372036854775807 : Int64)) = v1) (hv2 : (q1 &&& (9223372036854775807 : Int64)) = v2) (hv4 : (if (p2 &&& (1 : Int32)) = (0 : Int32) then v2 else (v2 - (v2 / (100000000 : Int64)) * (100000000 : Int64))) = v4) (hv7 : (if v4 = (0 : Int64) then (1 : Int64) else v4) = v7) :
    ∃ R D : Int, 0 ≤ v1.toInt ∧ 1 ≤ v7.toInt ∧ (fn1 v1 v7).toInt = R ∧ (fn2 v1 v7).toInt = v1.toInt - D ∧ 0 ≤ R ∧ R < 100000000 ∧ 0 ≤ D ∧ D ≤ v1.toInt ∧ D = R / v7.toInt ∧ (v1 - fn2 v1 v7).toInt = D := by
  obtain ⟨h1, h7⟩ := own_p q0 q1 v1 v2 v4 v7 p2 hv1 hv2 hv4 hv7
  obtain ⟨g1, g2, g3⟩ := own_f2 v1 v7 h1 h7
  have r1 := rng64 v1
  have s1 := c_lsub v1 (fn2 v1 v7)
  have s2 := rng64 (v1 - fn2 v1 v7)
  refine ⟨_, _, h1, h7, own_f1 v1 v7 h1 (by omega), g1, ?_, ?_, g3, g2, rfl, ?_⟩
  · exact Int.emod_nonneg _ (by decide)
  · exact Int.emod_lt_of_pos _ (by decide)
  · omega
theorem own_leaf1 (q0 : Int64) (q1 : Int64) (p2 : Int32) (v1 : Int64) (v2 : Int64) (v4 : Int64) (v7 : Int64) (hv1 : (q0 &&& (9223372036854775807 : Int64)) = v1) (hv2 : (q1 &&& (9223372036854775807 : Int64)) = v2) (hv4 : (if (p2 &&& (1 : Int32)) = (0 : Int32) then v2 else (v2 - (v2 / (100000000 : Int64)) * (100000000 : Int64))) = v4) (hv7 : (if v4 = (0 : Int64) then (1 : Int64) else v4) = v7) (hc17 : (fn2 v1 v7) < (0 : Int64)) : False := by
    obtain ⟨R, D, a1, a2, a3, a4, a5, a6, a7, a8, a9, a10⟩ := own_all q0 q1 v1 v2 v4 v7 p2 hv1 hv2 hv4 hv7
    have e0 : (0 : Int64).toInt = 0 := rfl
    rw [Int64.lt_iff_toInt_lt] at hc17; omega
theorem own_leaf2 (q0 : Int64) (q1 : Int64) (p2 : Int32) (v1 : Int64) (v2 : Int64) (v4 : Int64) (v7 : Int64) (hv1 : (q0 &&& (9223372036854775807 : Int64)) = v1) (hv2 : (q1 &&& (9223372036854775807 : Int64)) = v2) (hv4 : (if (p2 &&& (1 : Int32)) = (0 : Int32) then v2 else (v2 - (v2 / (100000000 : Int64)) * (100000000 : Int64))) = v4) (hv7 : (if v4 = (0 : Int64) then (1 : Int64) else v4) = v7) (hc17 : ¬ ((fn2 v1 v7) < (0 : Int64))) (hc18 : v1 < (fn2 v1 v7)) : False := by
    obtain ⟨R, D, a1, a2, a3, a4, a5, a6, a7, a8, a9, a10⟩ := own_all q0 q1 v1 v2 v4 v7 p2 hv1 hv2 hv4 hv7
    rw [Int64.lt_iff_toInt_lt] at hc18; omega
theorem own_leaf3 (q0 : Int64) (q1 : Int64) (p2 : Int32) (v1 : Int64) (v2 : Int64) (v4 : Int64) (v7 : Int64) (v19 : Int64) (hv1 : (q0 &&& (9223372036854775807 : Int64)) = v1) (hv2 : (q1 &&& (9223372036854775807 : Int64)) = v2) (hv4 : (if (p2 &&& (1 : Int32)) = (0 : Int32) then v2 else (v2 - (v2 / (100000000 : Int64)) * (100000000 : Int64))) = v4) (hv7 : (if v4 = (0 : Int64) then (1 : Int64) else v4) = v7) (hc17 : ¬ ((fn2 v1 v7) < (0 : Int64))) (hc18 : ¬ (v1 < (fn2 v1 v7))) (hv19 : (v1 - (fn2 v1 v7)) = v19) (hc20 : (fn1 v1 v7) < v7) (hc21 : ¬ (v19 = (0 : Int64))) : False := by
    obtain ⟨R, D, a1, a2, a3, a4, a5, a6, a7, a8, a9, a10⟩ := own_all q0 q1 v1 v2 v4 v7 p2 hv1 hv2 hv4 hv7
    rw [hv19] at a10
    rw [Int64.lt_iff_toInt_lt, a3] at hc20
    rw [Int.ediv_eq_zero_of_lt a5 hc20] at a9
    exact hc21 (Int64.toInt_inj.mp (a10.trans a9))
theorem own_leaf4 (q0 : Int64) (q1 : Int64) (p2 : Int32) (v1 : Int64) (v2 : Int64) (v4 : Int64) (v7 : Int64) (v19 : Int64) (hv1 : (q0 &&& (9223372036854775807 : Int64)) = v1) (hv2 : (q1 &&& (9223372036854775807 : Int64)) = v2) (hv4 : (if (p2 &&& (1 : Int32)) = (0 : Int32) then v2 else (v2 - (v2 / (100000000 : Int64)) * (100000000 : Int64))) = v4) (hv7 : (if v4 = (0 : Int64) then (1 : Int64) else v4) = v7) (hc17 : ¬ ((fn2 v1 v7) < (0 : Int64))) (hc18 : ¬ (v1 < (fn2 v1 v7))) (hv19 : (v1 - (fn2 v1 v7)) = v19) (hc20 : ¬ ((fn1 v1 v7) < v7)) (hc22 : (fn1 v1 v7) < v19) : False := by
    obtain ⟨R, D, a1, a2, a3, a4, a5, a6, a7, a8, a9, a10⟩ := own_all q0 q1 v1 v2 v4 v7 p2 hv1 hv2 hv4 hv7
    rw [hv19] at a10
    rw [Int64.lt_iff_toInt_lt, a3, a10] at hc22
    have := Int.ediv_le_self v7.toInt a5
    omega
theorem own_leaf5 (q0 : Int64) (q1 : Int64) (p2 : Int32) (v1 : Int64) (v2 : Int64) (v4 : Int64) (v7 : Int64) (v19 : Int64) (hv1 : (q0 &&& (9223372036854775807 : Int64)) = v1) (hv2 : (q1 &&& (9223372036854775807 : Int64)) = v2) (hv4 : (if (p2 &&& (1 : Int32)) = (0 : Int32) then v2 else (v2 - (v2 / (100000000 : Int64)) * (100000000 : Int64))) = v4) (hv7 : (if v4 = (0 : Int64) then (1 : Int64) else v4) = v7) (hc17 : ¬ ((fn2 v1 v7) < (0 : Int64))) (hc18 : ¬ (v1 < (fn2 v1 v7))) (hv19 : (v1 - (fn2 v1 v7)) = v19) (hc20 : ¬ ((fn1 v1 v7) < v7)) (hc22 : ¬ ((fn1 v1 v7) < v19)) (hc23 : (fn1 v1 v7) < (v19 * v7)) : False := by
    obtain ⟨R, D, a1, a2, a3, a4, a5, a6, a7, a8, a9, a10⟩ := own_all q0 q1 v1 v2 v4 v7 p2 hv1 hv2 hv4 hv7
    rw [hv19] at a10
    rw [Int64.lt_iff_toInt_lt, a3] at hc20 hc22 hc23
    have := own_mul v19 v7 100000000 100000000 (by omega) (by omega) (by omega) (by omega) (by decide)
    rw [this, a10, a9] at hc23
    have := Int.ediv_mul_le R (b := v7.toInt) (by omega)
    omega
theorem own_leaf6 (q0 : Int64) (q1 : Int64) (p2 : Int32) (v1 : Int64) (v2 : Int64) (v4 : Int64) (v7 : Int64) (v19 : Int64) (hv1 : (q0 &&& (9223372036854775807 : Int64)) = v1) (hv2 : (q1 &&& (9223372036854775807 : Int64)) = v2) (hv4 : (if (p2 &&& (1 : Int32)) = (0 : Int32) then v2 else (v2 - (v2 / (100000000 : Int64)) * (100000000 : Int64))) = v4) (hv7 : (if v4 = (0 : Int64) then (1 : Int64) else v4) = v7) (hc17 : ¬ ((fn2 v1 v7) < (0 : Int64))) (hc18 : ¬ (v1 < (fn2 v1 v7))) (hv19 : (v1 - (fn2 v1 v7)) = v19) (hc20 : ¬ ((fn1 v1 v7) < v7)) (hc22 : ¬ ((fn1 v1 v7) < v19)) (hc23 : ¬ ((fn1 v1 v7) < (v19 * v7))) (hc24 : ¬ ((fn1 v1 v7) < ((v19 + (1 : Int64)) * v7))) : False := by
    obtain ⟨R, D, a1, a2, a3, a4, a5, a6, a7, a8, a9, a10⟩ := own_all q0 q1 v1 v2 v4 v7 p2 hv1 hv2 hv4 hv7
    rw [hv19] at a10
    rw [Int64.lt_iff_toInt_lt, a3] at hc20 hc22 hc23 hc24
    have e1 : (1 : Int64).toInt = 1 := rfl
    have b1 := c_ladd v19 1
    have b2 := rng64 (v19 + 1)
    have b3 : (v19 + 1).toInt = D + 1 := by omega
    have := own_mul (v19 + 1) v7 100000001 100000000 (by omega) (by omega) (by omega) (by omega) (by decide)
    rw [this, b3, a9] at hc24
    exact hc24 (Int.lt_ediv_add_one_mul_self R (by omega))
theorem pn_0 : plainName "com/example/crossbook/crossbook/PricesExecutableAmountPinLaw" = true := by first | (simp [plainName, overriddenIn]; done) | decide +kernel
theorem ef_0 (m : MethodId) (q0 : Int64) (q1 : Int64) (p2 : Int32) : entryFrame m #[(.long q0), (.long q1), (.int p2)] maxLocals = mkF m 0 #[.val (.long q0), .second, .val (.long q1), .second, .val (.int p2), .unset, .unset, .unset, .unset, .unset, .unset, .unset, .unset, .unset, .unset] [] := by first | (simp [entryFrame, mkF, argsToLocals, Value.category, maxLocals]; done) | rfl
def Q0 (Z : State) (q0 : Int64) (q1 : Int64) (p2 : Int32)  (h0 : Heap) (n0 : Nat) (v : Option Value) (h : Heap) (L : List Loc) : Prop := v = some (.int 1) ∧ Fr n0 L
set_option maxRecDepth 65536 in
set_option maxHeartbeats 40000000 in
theorem rm0 (l : Launch) (Z : State) (a0 : Array Value) (hw : ∀ d ∈ tables_1, d.before a0 Z = true) (ws : List Jvm.Cond) (q0 : Int64) (q1 : Int64) (p2 : Int32)  (h0 : Heap) (n0 : Nat) (Z0 : n0 ≤ h0.size)  :
    MetFree l x (head1 (Jvm.Cond.code x code maxLocals ret :: ws) room_1) (fun a U => a = #[(.long q0), (.long q1), (.int p2)] ∧ Z.Warmed39 U.vm ∧ U.heap = h0) (fun _ _ _ _ _ => True) (fun _ U o U' => ∃ v L, o = .returned v ∧ Q0 Z q0 q1 p2  h0 n0 v U'.heap L ∧ FrameEnd U o U' L 0 0) := by
  refine MetFree.of_bodySF (plainFor_of_name pn_0) hisR ?_
  intro p e s m args below meth c s₁ Bd hml0 hP hK
  obtain ⟨rfl, hZ, hh⟩ := hP
  have hx := Bd.exec
  have hby := Bd.bytes
  have hml : c.maxLocals = 15 := hml0
  have hown : s.vm.findClass "com/example/crossbook/crossbook/PricesExecutableAmountPinLaw" = some m.cls := findClass_of_methodNamed Bd.named
  have hnm := (name_of_methodNamed Bd.named Bd.method).1
  have X0 : Stand p l e room_1 s m #[(.long q0), (.long q1), (.int p2)] below meth c s₁ [] 0 0 := Stand.of_body Bd
  have e0 : s₁.heap = h0 := by rw [← hh, Bd.state]; rfl
  have N0 := Fr.nil n0
  refine Ends.via (A := s₁.setTop (mkF m 0 #[.val (.long q0), .second, .val (.long q1), .second, .val (.int p2), .unset, .unset, .unset, .unset, .unset, .unset, .unset, .unset, .unset, .unset] [])) (kc := 0) (ks := 0) (Q := (Q0 Z q0 q1 p2  h0 n0)) (fun t k => castTop (ef_0 m q0 q1 p2) k) ?_
  show Ends p e below s 0 0 (Q0 Z q0 q1 p2  h0 n0) (s₁.setTop (mkF m 0 #[.val (.long q0), .second, .val (.long q1), .second, .val (.int p2), .unset, .unset, .unset, .unset, .unset, .unset, .unset, .unset, .unset, .unset] []))
  refine Ends.via (fun _ k => XS.lloadN X0.here hx rfl (hb hby at_0) rfl k) ?_
  show Ends p e below s 0 0 (Q0 Z q0 q1 p2  h0 n0) (s₁.setTop (mkF m 1 #[.val (.long q0), .second, .val (.long q1), .second, .val (.int p2), .unset, .unset, .unset, .unset, .unset, .unset, .unset, .unset, .unset, .unset] [(.long q0)]))
  refine Ends.via (X0.ldc2Long hx hown (mvT hZ (hw _ (List.mem_of_getElem? (i := 0) rfl))) (g := (mkF m 1 #[.val (.long q0), .second, .val (.long q1), .second, .val (.int p2), .unset, .unset, .unset, .unset, .unset, .unset, .unset, .unset, .unset, .unset] [(.long q0)])) rfl (hb hby at_1)) ?_
  show Ends p e below s 0 0 (Q0 Z q0 q1 p2  h0 n0) (s₁.setTop (mkF m 4 #[.val (.long q0), .second, .val (.long q1), .second, .val (.int p2), .unset, .unset, .unset, .unset, .unset, .unset, .unset, .unset, .unset, .unset] [(.long (9223372036854775807 : Int64)), (.long q0)]))
  refine Ends.via (fun _ k => XS.land X0.here hx rfl (hb hby at_4) rfl k) ?_
  show Ends p e below s 0 0 (Q0 Z q0 q1 p2  h0 n0) (s₁.setTop (mkF m 5 #[.val (.long q0), .second, .val (.long q1), .second, .val (.int p2), .unset, .unset, .unset, .unset, .unset, .unset, .unset, .unset, .unset, .unset] [(.long (q0 &&& (9223372036854775807 : Int64)))]))
  refine Ends.via (fun _ k => XS.lstore X0.here hx rfl (hb hby at_5) rfl (l' := #[.val (.long q0), .second, .val (.long q1), .second, .val (.int p2), .val (.long (q0 &&& (9223372036854775807 : Int64))), .second, .unset, .unset, .unset, .unset, .unset, .unset, .unset, .unset]) rfl k) ?_
  show Ends p e below s 0 0 (Q0 Z q0 q1 p2  h0 n0) (s₁.setTop (mkF m 7 #[.val (.long q0), .second, .val (.long q1), .second, .val (.int p2), .val (.long (q0 &&& (9223372036854775807 : Int64))), .second, .unset, .unset, .unset, .unset, .unset, .unset, .unset, .unset] []))
  generalize hv1 : (q0 &&& (9223372036854775807 : Int64)) = v1
  refine Ends.via (fun _ k => XS.lloadN X0.here hx rfl (hb hby at_7) rfl k) ?_
  show Ends p e below s 0 0 (Q0 Z q0 q1 p2  h0 n0) (s₁.setTop (mkF m 8 #[.val (.long q0), .second, .val (.long q1), .second, .val (.int p2), .val (.long v1), .second, .unset, .unset, .unset, .unset, .unset, .unset, .unset, .unset] [(.long q1)]))
  refine Ends.via (X0.ldc2Long hx hown (mvT hZ (hw _ (List.mem_of_getElem? (i := 0) rfl))) (g := (mkF m 8 #[.val (.long q0), .second, .val (.long q1), .second, .val (.int p2), .val (.long v1), .second, .unset, .unset, .unset, .unset, .unset, .unset, .unset, .unset] [(.long q1)])) rfl (hb hby at_8)) ?_
  show Ends p e below s 0 0 (Q0 Z q0 q1 p2  h0 n0) (s₁.setTop (mkF m 11 #[.val (.long q0), .second, .val (.long q1), .second, .val (.int p2), .val (.long v1), .second, .unset, .unset, .unset, .unset, .unset, .unset, .unset, .unset] [(.long (9223372036854775807 : Int64)), (.long q1)]))
  refine Ends.via (fun _ k => XS.land X0.here hx rfl (hb hby at_11) rfl k) ?_
  show Ends p e below s 0 0 (Q0 Z q0 q1 p2  h0 n0) (s₁.setTop (mkF m 12 #[.val (.long q0), .second, .val (.long q1), .second, .val (.int p2), .val (.long v1), .second, .unset, .unset, .unset, .unset, .unset, .unset, .unset, .unset] [(.long (q1 &&& (9223372036854775807 : Int64)))]))
  refine Ends.via (fun _ k => XS.lstore X0.here hx rfl (hb hby at_12) rfl (l' := #[.val (.long q0), .second, .val (.long q1), .second, .val (.int p2), .val (.long v1), .second, .val (.long (q1 &&& (9223372036854775807 : Int64))), .second, .unset, .unset, .unset, .unset, .unset, .unset]) rfl k) ?_
  show Ends p e below s 0 0 (Q0 Z q0 q1 p2  h0 n0) (s₁.setTop (mkF m 14 #[.val (.long q0), .second, .val (.long q1), .second, .val (.int p2), .val (.long v1), .second, .val (.long (q1 &&& (9223372036854775807 : Int64))), .second, .unset, .unset, .unset, .unset, .unset, .unset] []))
  generalize hv2 : (q1 &&& (9223372036854775807 : Int64)) = v2
  refine Ends.via (fun _ k => XS.iload X0.here hx rfl (hb hby at_14) rfl k) ?_
  show Ends p e below s 0 0 (Q0 Z q0 q1 p2  h0 n0) (s₁.setTop (mkF m 16 #[.val (.long q0), .second, .val (.long q1), .second, .val (.int p2), .val (.long v1), .second, .val (.long v2), .second, .unset, .unset, .unset, .unset, .unset, .unset] [(.int p2)]))
  refine Ends.via (fun _ k => XS.iconst X0.here hx rfl (hb hby at_16) k) ?_
  show Ends p e below s 0 0 (Q0 Z q0 q1 p2  h0 n0) (s₁.setTop (mkF m 17 #[.val (.long q0), .second, .val (.long q1), .second, .val (.int p2), .val (.long v1), .second, .val (.long v2), .second, .unset, .unset, .unset, .unset, .unset, .unset] [(.int (1 : Int32)), (.int p2)]))
  refine Ends.via (fun _ k => XS.iand X0.here hx rfl (hb hby at_17) rfl k) ?_
  show Ends p e below s 0 0 (Q0 Z q0 q1 p2  h0 n0) (s₁.setTop (mkF m 18 #[.val (.long q0), .second, .val (.long q1), .second, .val (.int p2), .val (.long v1), .second, .val (.long v2), .second, .unset, .unset, .unset, .unset, .unset, .unset] [(.int (p2 &&& (1 : Int32)))]))
  have J5 : ∀ (Tj5 : State) (Lj5 : List Loc) (Xj5 : Stand p l e room_1 s m #[(.long q0), (.long q1), (.int p2)] below meth c Tj5 Lj5 0 0) (ej5 : Tj5.heap = h0) (Nj5 : Fr n0 Lj5) (v4 : Int64), (if (p2 &&& (1 : Int32)) = (0 : Int32) then v2 else (v2 - (v2 / (100000000 : Int64)) * (100000000 : Int64))) = v4 → Ends p e below s 0 0 (Q0 Z q0 q1 p2  h0 n0) (Tj5.setTop (mkF m 29 #[.val (.long q0), .second, .val (.long q1), .second, .val (.int p2), .val (.long v1), .second, .val (.long v4), .second, .unset, .unset, .unset, .unset, .unset, .unset] [])) := by
    intro Tj5 Lj5 Xj5 ej5 Nj5 v4 hv4
    refine Ends.via (fun _ k => XS.lload Xj5.here hx rfl (hb hby at_29) rfl k) ?_
    show Ends p e below s 0 0 (Q0 Z q0 q1 p2  h0 n0) (Tj5.setTop (mkF m 31 #[.val (.long q0), .second, .val (.long q1), .second, .val (.int p2), .val (.long v1), .second, .val (.long v4), .second, .unset, .unset, .unset, .unset, .unset, .unset] [(.long v4)]))
    refine Ends.via (fun _ k => XS.lconst Xj5.here hx rfl (hb hby at_31) k) ?_
    show Ends p e below s 0 0 (Q0 Z q0 q1 p2  h0 n0) (Tj5.setTop (mkF m 32 #[.val (.long q0), .second, .val (.long q1), .second, .val (.int p2), .val (.long v1), .second, .val (.long v4), .second, .unset, .unset, .unset, .unset, .unset, .unset] [(.long (0 : Int64)), (.long v4)]))
    refine Ends.via (fun _ k => XS.lcmp Xj5.here hx rfl (hb hby at_32) rfl k) ?_
    show Ends p e below s 0 0 (Q0 Z q0 q1 p2  h0 n0) (Tj5.setTop (mkF m 33 #[.val (.long q0), .second, .val (.long q1), .second, .val (.int p2), .val (.long v1), .second, .val (.long v4), .second, .unset, .unset, .unset, .unset, .unset, .unset] [(.int (lcmpW v4 (0 : Int64)))]))
    have J8 : ∀ (Tj8 : State) (Lj8 : List Loc) (Xj8 : Stand p l e room_1 s m #[(.long q0), (.long q1), (.int p2)] below meth c Tj8 Lj8 0 0) (ej8 : Tj8.heap = h0) (Nj8 : Fr n0 Lj8) (v7 : Int64), (if v4 = (0 : Int64) then (1 : Int64) else v4) = v7 → Ends p e below s 0 0 (Q0 Z q0 q1 p2  h0 n0) (Tj8.setTop (mkF m 39 #[.val (.long q0), .second, .val (.long q1), .second, .val (.int p2), .val (.long v1), .second, .val (.long v7), .second, .unset, .unset, .unset, .unset, .unset, .unset] [])) := by
      intro Tj8 Lj8 Xj8 ej8 Nj8 v7 hv7
      refine Ends.via (fun _ k => XS.lload Xj8.here hx rfl (hb hby at_39) rfl k) ?_
      show Ends p e below s 0 0 (Q0 Z q0 q1 p2  h0 n0) (Tj8.setTop (mkF m 41 #[.val (.long q0), .second, .val (.long q1), .second, .val (.int p2), .val (.long v1), .second, .val (.long v7), .second, .unset, .unset, .unset, .unset, .unset, .unset] [(.long v1)]))
      refine Ends.via (fun _ k => XS.lload Xj8.here hx rfl (hb hby at_41) rfl k) ?_
      show Ends p e below s 0 0 (Q0 Z q0 q1 p2  h0 n0) (Tj8.setTop (mkF m 43 #[.val (.long q0), .second, .val (.long q1), .second, .val (.int p2), .val (.long v1), .second, .val (.long v7), .second, .unset, .unset, .unset, .unset, .unset, .unset] [(.long v7), (.long v1)]))
      obtain ⟨_, _, ⟨T14, L14, k14, n14⟩, -, X14, ⟨Lc14, hQ14, l14, y14, z14⟩, st14⟩ := Jvm.LawKit.callS Xj8 hx (y := (⟨"com/example/crossbook/crossbook/PricesExecutableAmountPinLaw", "exactRest", "(JJ)J"⟩ : MethodName)) hown (mvT hZ (hw _ (List.mem_of_getElem? (i := 1) rfl))) (mvT hZ (hw _ (List.mem_of_getElem? (i := 2) rfl))) (mvT hZ (hw _ (List.mem_of_getElem? (i := 3) rfl))) (mvT hZ (hw _ (List.mem_of_getElem? (i := 4) rfl))) (by decide) (backOf (W := 0) (rm1 l Z a0 hw [] v1 v7 h0 n0 Z0) hZ (hw _ (List.mem_of_getElem? (i := 4) rfl)) (hw _ (List.mem_of_getElem? (i := 3) rfl)) (by decide) (by decide)) (g := (mkF m 43 #[.val (.long q0), .second, .val (.long q1), .second, .val (.int p2), .val (.long v1), .second, .val (.long v7), .second, .unset, .unset, .unset, .unset, .unset, .unset] [(.long v7), (.long v1)])) rfl (by rw [hml]; rfl) (argsL := [(.long v1), (.long v7)]) (rest := []) (lenOf own_pd0 rfl) rfl (by show 2 * 0 + _ ≤ _; exact Nat.le_of_eq rfl) (hb hby at_43) (fun _ _ => ⟨rfl, ej8, (by decide : 0 + 0 ≤ _), (by decide : 0 + 0 ≤ _)⟩)
      dsimp only [Pt.U, Pt.locs, Pt.cells, Pt.slots] at X14 l14 y14 z14 st14 hQ14
      subst l14 y14 z14
      obtain ⟨rfl, Nq14, e14⟩ := hQ14
      have N14 := Fr.app Nj8 Nq14
      refine Ends.via st14 ?_
      show Ends p e below s 0 0 (Q0 Z q0 q1 p2  h0 n0) (T14.setTop (mkF m 46 #[.val (.long q0), .second, .val (.long q1), .second, .val (.int p2), .val (.long v1), .second, .val (.long v7), .second, .unset, .unset, .unset, .unset, .unset, .unset] [(.long (fn1 v1 v7))]))
      refine Ends.via (fun _ k => XS.lstore X14.here hx rfl (hb hby at_46) rfl (l' := #[.val (.long q0), .second, .val (.long q1), .second, .val (.int p2), .val (.long v1), .second, .val (.long v7), .second, .val (.long (fn1 v1 v7)), .second, .unset, .unset, .unset, .unset]) rfl k) ?_
      show Ends p e below s 0 0 (Q0 Z q0 q1 p2  h0 n0) (T14.setTop (mkF m 48 #[.val (.long q0), .second, .val (.long q1), .second, .val (.int p2), .val (.long v1), .second, .val (.long v7), .second, .val (.long (fn1 v1 v7)), .second, .unset, .unset, .unset, .unset] []))
      refine Ends.via (fun _ k => XS.lload X14.here hx rfl (hb hby at_48) rfl k) ?_
      show Ends p e below s 0 0 (Q0 Z q0 q1 p2  h0 n0) (T14.setTop (mkF m 50 #[.val (.long q0), .second, .val (.long q1), .second, .val (.int p2), .val (.long v1), .second, .val (.long v7), .second, .val (.long (fn1 v1 v7)), .second, .unset, .unset, .unset, .unset] [(.long v1)]))
      refine Ends.via (fun _ k => XS.lload X14.here hx rfl (hb hby at_50) rfl k) ?_
      show Ends p e below s 0 0 (Q0 Z q0 q1 p2  h0 n0) (T14.setTop (mkF m 52 #[.val (.long q0), .second, .val (.long q1), .second, .val (.int p2), .val (.long v1), .second, .val (.long v7), .second, .val (.long (fn1 v1 v7)), .second, .unset, .unset, .unset, .unset] [(.long v7), (.long v1)]))
      obtain ⟨_, _, ⟨T16, L16, k16, n16⟩, -, X16, ⟨Lc16, hQ16, l16, y16, z16⟩, st16⟩ := Jvm.LawKit.callS X14 hx (y := (⟨"com/example/crossbook/crossbook/Prices", "executableAmount", "(JJ)J"⟩ : MethodName)) hown (mvT hZ (hw _ (List.mem_of_getElem? (i := 8) rfl))) (mvT hZ (hw _ (List.mem_of_getElem? (i := 9) rfl))) (mvT hZ (hw _ (List.mem_of_getElem? (i := 10) rfl))) (mvT hZ (hw _ (List.mem_of_getElem? (i := 11) rfl))) (by decide) (backOf (W := 0) (rm2 l Z a0 hw [] v1 v7 h0 n0 Z0 (own_p0 q1 v2 v4 v7 p2 hv2 hv4 hv7)) hZ (hw _ (List.mem_of_getElem? (i := 11) rfl)) (hw _ (List.mem_of_getElem? (i := 10) rfl)) (by decide) (by decide)) (g := (mkF m 52 #[.val (.long q0), .second, .val (.long q1), .second, .val (.int p2), .val (.long v1), .second, .val (.long v7), .second, .val (.long (fn1 v1 v7)), .second, .unset, .unset, .unset, .unset] [(.long v7), (.long v1)])) rfl (by rw [hml]; rfl) (argsL := [(.long v1), (.long v7)]) (rest := []) (lenOf own_pd0 rfl) rfl (by show 2 * 0 + _ ≤ _; exact Nat.le_of_eq rfl) (hb hby at_52) (fun _ _ => ⟨rfl, e14, (by decide : 0 + 0 ≤ _), (by decide : 0 + 0 ≤ _)⟩)
      dsimp only [Pt.U, Pt.locs, Pt.cells, Pt.slots] at X16 l16 y16 z16 st16 hQ16
      subst l16 y16 z16
      obtain ⟨rfl, Nq16, e16⟩ := hQ16
      have N16 := Fr.app N14 Nq16
      refine Ends.via st16 ?_
      show Ends p e below s 0 0 (Q0 Z q0 q1 p2  h0 n0) (T16.setTop (mkF m 55 #[.val (.long q0), .second, .val (.long q1), .second, .val (.int p2), .val (.long v1), .second, .val (.long v7), .second, .val (.long (fn1 v1 v7)), .second, .unset, .unset, .unset, .unset] [(.long (fn2 v1 v7))]))
      refine Ends.via (fun _ k => XS.lstore X16.here hx rfl (hb hby at_55) rfl (l' := #[.val (.long q0), .second, .val (.long q1), .second, .val (.int p2), .val (.long v1), .second, .val (.long v7), .second, .val (.long (fn1 v1 v7)), .second, .val (.long (fn2 v1 v7)), .second, .unset, .unset]) rfl k) ?_
      show Ends p e below s 0 0 (Q0 Z q0 q1 p2  h0 n0) (T16.setTop (mkF m 57 #[.val (.long q0), .second, .val (.long q1), .second, .val (.int p2), .val (.long v1), .second, .val (.long v7), .second, .val (.long (fn1 v1 v7)), .second, .val (.long (fn2 v1 v7)), .second, .unset, .unset] []))
      refine Ends.via (fun _ k => XS.lload X16.here hx rfl (hb hby at_57) rfl k) ?_
      show Ends p e below s 0 0 (Q0 Z q0 q1 p2  h0 n0) (T16.setTop (mkF m 59 #[.val (.long q0), .second, .val (.long q1), .second, .val (.int p2), .val (.long v1), .second, .val (.long v7), .second, .val (.long (fn1 v1 v7)), .second, .val (.long (fn2 v1 v7)), .second, .unset, .unset] [(.long (fn2 v1 v7))]))
      refine Ends.via (fun _ k => XS.lconst X16.here hx rfl (hb hby at_59) k) ?_
      show Ends p e below s 0 0 (Q0 Z q0 q1 p2  h0 n0) (T16.setTop (mkF m 60 #[.val (.long q0), .second, .val (.long q1), .second, .val (.int p2), .val (.long v1), .second, .val (.long v7), .second, .val (.long (fn1 v1 v7)), .second, .val (.long (fn2 v1 v7)), .second, .unset, .unset] [(.long (0 : Int64)), (.long (fn2 v1 v7))]))
      refine Ends.via (fun _ k => XS.lcmp X16.here hx rfl (hb hby at_60) rfl k) ?_
      show Ends p e below s 0 0 (Q0 Z q0 q1 p2  h0 n0) (T16.setTop (mkF m 61 #[.val (.long q0), .second, .val (.long q1), .second, .val (.int p2), .val (.long v1), .second, .val (.long v7), .second, .val (.long (fn1 v1 v7)), .second, .val (.long (fn2 v1 v7)), .second, .unset, .unset] [(.int (lcmpW (fn2 v1 v7) (0 : Int64)))]))
      by_cases hc17 : (fn2 v1 v7) < (0 : Int64)
      · refine Ends.via (fun _ k => XS.ifYes X16.here hx rfl (pc0 := 61) (pc' := 72) rfl (hb hby at_61) rfl ((if0 _ _).trans (tlt ((lw_lt _ _).mpr hc17)).1) (by decide) (by decide) k) ?_
        show Ends p e below s 0 0 (Q0 Z q0 q1 p2  h0 n0) (T16.setTop (mkF m 72 #[.val (.long q0), .second, .val (.long q1), .second, .val (.int p2), .val (.long v1), .second, .val (.long v7), .second, .val (.long (fn1 v1 v7)), .second, .val (.long (fn2 v1 v7)), .second, .unset, .unset] []))
        refine Ends.via (fun _ k => XS.iconst X16.here hx rfl (hb hby at_72) k) ?_
        show Ends p e below s 0 0 (Q0 Z q0 q1 p2  h0 n0) (T16.setTop (mkF m 73 #[.val (.long q0), .second, .val (.long q1), .second, .val (.int p2), .val (.long v1), .second, .val (.long v7), .second, .val (.long (fn1 v1 v7)), .second, .val (.long (fn2 v1 v7)), .second, .unset, .unset] [(.int (0 : Int32))]))
        refine Ends.ret X16 (v := some (.int (nar .boolean (0 : Int32)))) (fun h => by rw [Bd.returns] at h; cases h) Bd.notSynchronized (fun fs hr => retN X16 hx (t := .boolean) Bd.returns (by simp) (hb hby at_73) hr) ?_ (by decide) (by decide)
        exact absurd (own_leaf1 q0 q1 p2 v1 v2 v4 v7 hv1 hv2 hv4 hv7 hc17) id
      · refine Ends.via (fun _ k => XS.ifNo X16.here hx rfl (hb hby at_61) rfl ((if0 _ _).trans (flt (mt (lw_lt _ _).mp hc17)).1) k) ?_
        show Ends p e below s 0 0 (Q0 Z q0 q1 p2  h0 n0) (T16.setTop (mkF m 64 #[.val (.long q0), .second, .val (.long q1), .second, .val (.int p2), .val (.long v1), .second, .val (.long v7), .second, .val (.long (fn1 v1 v7)), .second, .val (.long (fn2 v1 v7)), .second, .unset, .unset] []))
        refine Ends.via (fun _ k => XS.lload X16.here hx rfl (hb hby at_64) rfl k) ?_
        show Ends p e below s 0 0 (Q0 Z q0 q1 p2  h0 n0) (T16.setTop (mkF m 66 #[.val (.long q0), .second, .val (.long q1), .second, .val (.int p2), .val (.long v1), .second, .val (.long v7), .second, .val (.long (fn1 v1 v7)), .second, .val (.long (fn2 v1 v7)), .second, .unset, .unset] [(.long (fn2 v1 v7))]))
        refine Ends.via (fun _ k => XS.lload X16.here hx rfl (hb hby at_66) rfl k) ?_
        show Ends p e below s 0 0 (Q0 Z q0 q1 p2  h0 n0) (T16.setTop (mkF m 68 #[.val (.long q0), .second, .val (.long q1), .second, .val (.int p2), .val (.long v1), .second, .val (.long v7), .second, .val (.long (fn1 v1 v7)), .second, .val (.long (fn2 v1 v7)), .second, .unset, .unset] [(.long v1), (.long (fn2 v1 v7))]))
        refine Ends.via (fun _ k => XS.lcmp X16.here hx rfl (hb hby at_68) rfl k) ?_
        show Ends p e below s 0 0 (Q0 Z q0 q1 p2  h0 n0) (T16.setTop (mkF m 69 #[.val (.long q0), .second, .val (.long q1), .second, .val (.int p2), .val (.long v1), .second, .val (.long v7), .second, .val (.long (fn1 v1 v7)), .second, .val (.long (fn2 v1 v7)), .second, .unset, .unset] [(.int (lcmpW (fn2 v1 v7) v1))]))
        by_cases hc18 : v1 < (fn2 v1 v7)
        · refine Ends.via (fun _ k => XS.ifNo X16.here hx rfl (hb hby at_69) rfl ((if0 _ _).trans (tlt ((lw_gt _ _).mpr hc18)).2.2.2) k) ?_
          show Ends p e below s 0 0 (Q0 Z q0 q1 p2  h0 n0) (T16.setTop (mkF m 72 #[.val (.long q0), .second, .val (.long q1), .second, .val (.int p2), .val (.long v1), .second, .val (.long v7), .second, .val (.long (fn1 v1 v7)), .second, .val (.long (fn2 v1 v7)), .second, .unset, .unset] []))
          refine Ends.via (fun _ k => XS.iconst X16.here hx rfl (hb hby at_72) k) ?_
          show Ends p e below s 0 0 (Q0 Z q0 q1 p2  h0 n0) (T16.setTop (mkF m 73 #[.val (.long q0), .second, .val (.long q1), .second, .val (.int p2), .val (.long v1), .second, .val (.long v7), .second, .val (.long (fn1 v1 v7)), .second, .val (.long (fn2 v1 v7)), .second, .unset, .unset] [(.int (0 : Int32))]))
          refine Ends.ret X16 (v := some (.int (nar .boolean (0 : Int32)))) (fun h => by rw [Bd.returns] at h; cases h) Bd.notSynchronized (fun fs hr => retN X16 hx (t := .boolean) Bd.returns (by simp) (hb hby at_73) hr) ?_ (by decide) (by decide)
          exact absurd (own_leaf2 q0 q1 p2 v1 v2 v4 v7 hv1 hv2 hv4 hv7 hc17 hc18) id
        · refine Ends.via (fun _ k => XS.ifYes X16.here hx rfl (pc0 := 69) (pc' := 74) rfl (hb hby at_69) rfl ((if0 _ _).trans (flt (mt (lw_gt _ _).mp hc18)).2.2.2) (by decide) (by decide) k) ?_
          show Ends p e below s 0 0 (Q0 Z q0 q1 p2  h0 n0) (T16.setTop (mkF m 74 #[.val (.long q0), .second, .val (.long q1), .second, .val (.int p2), .val (.long v1), .second, .val (.long v7), .second, .val (.long (fn1 v1 v7)), .second, .val (.long (fn2 v1 v7)), .second, .unset, .unset] []))
          refine Ends.via (fun _ k => XS.lload X16.here hx rfl (hb hby at_74) rfl k) ?_
          show Ends p e below s 0 0 (Q0 Z q0 q1 p2  h0 n0) (T16.setTop (mkF m 76 #[.val (.long q0), .second, .val (.long q1), .second, .val (.int p2), .val (.long v1), .second, .val (.long v7), .second, .val (.long (fn1 v1 v7)), .second, .val (.long (fn2 v1 v7)), .second, .unset, .unset] [(.long v1)]))
          refine Ends.via (fun _ k => XS.lload X16.here hx rfl (hb hby at_76) rfl k) ?_
          show Ends p e below s 0 0 (Q0 Z q0 q1 p2  h0 n0) (T16.setTop (mkF m 78 #[.val (.long q0), .second, .val (.long q1), .second, .val (.int p2), .val (.long v1), .second, .val (.long v7), .second, .val (.long (fn1 v1 v7)), .second, .val (.long (fn2 v1 v7)), .second, .unset, .unset] [(.long (fn2 v1 v7)), (.long v1)]))
          refine Ends.via (fun _ k => XS.lsub X16.here hx rfl (hb hby at_78) rfl k) ?_
          show Ends p e below s 0 0 (Q0 Z q0 q1 p2  h0 n0) (T16.setTop (mkF m 79 #[.val (.long q0), .second, .val (.long q1), .second, .val (.int p2), .val (.long v1), .second, .val (.long v7), .second, .val (.long (fn1 v1 v7)), .second, .val (.long (fn2 v1 v7)), .second, .unset, .unset] [(.long (v1 - (fn2 v1 v7)))]))
          refine Ends.via (fun _ k => XS.lstore X16.here hx rfl (hb hby at_79) rfl (l' := #[.val (.long q0), .second, .val (.long q1), .second, .val (.int p2), .val (.long v1), .second, .val (.long v7), .second, .val (.long (fn1 v1 v7)), .second, .val (.long (fn2 v1 v7)), .second, .val (.long (v1 - (fn2 v1 v7))), .second]) rfl k) ?_
          show Ends p e below s 0 0 (Q0 Z q0 q1 p2  h0 n0) (T16.setTop (mkF m 81 #[.val (.long q0), .second, .val (.long q1), .second, .val (.int p2), .val (.long v1), .second, .val (.long v7), .second, .val (.long (fn1 v1 v7)), .second, .val (.long (fn2 v1 v7)), .second, .val (.long (v1 - (fn2 v1 v7))), .second] []))
          generalize hv19 : (v1 - (fn2 v1 v7)) = v19
          refine Ends.via (fun _ k => XS.lload X16.here hx rfl (hb hby at_81) rfl k) ?_
          show Ends p e below s 0 0 (Q0 Z q0 q1 p2  h0 n0) (T16.setTop (mkF m 83 #[.val (.long q0), .second, .val (.long q1), .second, .val (.int p2), .val (.long v1), .second, .val (.long v7), .second, .val (.long (fn1 v1 v7)), .second, .val (.long (fn2 v1 v7)), .second, .val (.long v19), .second] [(.long v7)]))
          refine Ends.via (fun _ k => XS.lload X16.here hx rfl (hb hby at_83) rfl k) ?_
          show Ends p e below s 0 0 (Q0 Z q0 q1 p2  h0 n0) (T16.setTop (mkF m 85 #[.val (.long q0), .second, .val (.long q1), .second, .val (.int p2), .val (.long v1), .second, .val (.long v7), .second, .val (.long (fn1 v1 v7)), .second, .val (.long (fn2 v1 v7)), .second, .val (.long v19), .second] [(.long (fn1 v1 v7)), (.long v7)]))
          refine Ends.via (fun _ k => XS.lcmp X16.here hx rfl (hb hby at_85) rfl k) ?_
          show Ends p e below s 0 0 (Q0 Z q0 q1 p2  h0 n0) (T16.setTop (mkF m 86 #[.val (.long q0), .second, .val (.long q1), .second, .val (.int p2), .val (.long v1), .second, .val (.long v7), .second, .val (.long (fn1 v1 v7)), .second, .val (.long (fn2 v1 v7)), .second, .val (.long v19), .second] [(.int (lcmpW v7 (fn1 v1 v7)))]))
          by_cases hc20 : (fn1 v1 v7) < v7
          · refine Ends.via (fun _ k => XS.ifNo X16.here hx rfl (hb hby at_86) rfl ((if0 _ _).trans (tlt ((lw_gt _ _).mpr hc20)).2.2.2) k) ?_
            show Ends p e below s 0 0 (Q0 Z q0 q1 p2  h0 n0) (T16.setTop (mkF m 89 #[.val (.long q0), .second, .val (.long q1), .second, .val (.int p2), .val (.long v1), .second, .val (.long v7), .second, .val (.long (fn1 v1 v7)), .second, .val (.long (fn2 v1 v7)), .second, .val (.long v19), .second] []))
            refine Ends.via (fun _ k => XS.lload X16.here hx rfl (hb hby at_89) rfl k) ?_
            show Ends p e below s 0 0 (Q0 Z q0 q1 p2  h0 n0) (T16.setTop (mkF m 91 #[.val (.long q0), .second, .val (.long q1), .second, .val (.int p2), .val (.long v1), .second, .val (.long v7), .second, .val (.long (fn1 v1 v7)), .second, .val (.long (fn2 v1 v7)), .second, .val (.long v19), .second] [(.long v19)]))
            refine Ends.via (fun _ k => XS.lconst X16.here hx rfl (hb hby at_91) k) ?_
            show Ends p e below s 0 0 (Q0 Z q0 q1 p2  h0 n0) (T16.setTop (mkF m 92 #[.val (.long q0), .second, .val (.long q1), .second, .val (.int p2), .val (.long v1), .second, .val (.long v7), .second, .val (.long (fn1 v1 v7)), .second, .val (.long (fn2 v1 v7)), .second, .val (.long v19), .second] [(.long (0 : Int64)), (.long v19)]))
            refine Ends.via (fun _ k => XS.lcmp X16.here hx rfl (hb hby at_92) rfl k) ?_
            show Ends p e below s 0 0 (Q0 Z q0 q1 p2  h0 n0) (T16.setTop (mkF m 93 #[.val (.long q0), .second, .val (.long q1), .second, .val (.int p2), .val (.long v1), .second, .val (.long v7), .second, .val (.long (fn1 v1 v7)), .second, .val (.long (fn2 v1 v7)), .second, .val (.long v19), .second] [(.int (lcmpW v19 (0 : Int64)))]))
            by_cases hc21 : v19 = (0 : Int64)
            · refine Ends.via (fun _ k => XS.ifNo X16.here hx rfl (hb hby at_93) rfl ((if0 _ _).trans (teq ((lw_eq _ _).mpr hc21)).2) k) ?_
              show Ends p e below s 0 0 (Q0 Z q0 q1 p2  h0 n0) (T16.setTop (mkF m 96 #[.val (.long q0), .second, .val (.long q1), .second, .val (.int p2), .val (.long v1), .second, .val (.long v7), .second, .val (.long (fn1 v1 v7)), .second, .val (.long (fn2 v1 v7)), .second, .val (.long v19), .second] []))
              refine Ends.via (fun _ k => XS.iconst X16.here hx rfl (hb hby at_96) k) ?_
              show Ends p e below s 0 0 (Q0 Z q0 q1 p2  h0 n0) (T16.setTop (mkF m 97 #[.val (.long q0), .second, .val (.long q1), .second, .val (.int p2), .val (.long v1), .second, .val (.long v7), .second, .val (.long (fn1 v1 v7)), .second, .val (.long (fn2 v1 v7)), .second, .val (.long v19), .second] [(.int (1 : Int32))]))
              refine Ends.via (fun _ k => XS.goto X16.here hx rfl (pc0 := 97) (pc' := 101) rfl (hb hby at_97) (by decide) (by decide) k) ?_
              show Ends p e below s 0 0 (Q0 Z q0 q1 p2  h0 n0) (T16.setTop (mkF m 101 #[.val (.long q0), .second, .val (.long q1), .second, .val (.int p2), .val (.long v1), .second, .val (.long v7), .second, .val (.long (fn1 v1 v7)), .second, .val (.long (fn2 v1 v7)), .second, .val (.long v19), .second] [(.int (1 : Int32))]))
              refine Ends.ret X16 (v := some (.int (nar .boolean (1 : Int32)))) (fun h => by rw [Bd.returns] at h; cases h) Bd.notSynchronized (fun fs hr => retN X16 hx (t := .boolean) Bd.returns (by simp) (hb hby at_101) hr) ?_ (by decide) (by decide)
              exact ⟨rfl, N16⟩
            · refine Ends.via (fun _ k => XS.ifYes X16.here hx rfl (pc0 := 93) (pc' := 100) rfl (hb hby at_93) rfl ((if0 _ _).trans (feq (mt (lw_eq _ _).mp hc21)).2) (by decide) (by decide) k) ?_
              show Ends p e below s 0 0 (Q0 Z q0 q1 p2  h0 n0) (T16.setTop (mkF m 100 #[.val (.long q0), .second, .val (.long q1), .second, .val (.int p2), .val (.long v1), .second, .val (.long v7), .second, .val (.long (fn1 v1 v7)), .second, .val (.long (fn2 v1 v7)), .second, .val (.long v19), .second] []))
              refine Ends.via (fun _ k => XS.iconst X16.here hx rfl (hb hby at_100) k) ?_
              show Ends p e below s 0 0 (Q0 Z q0 q1 p2  h0 n0) (T16.setTop (mkF m 101 #[.val (.long q0), .second, .val (.long q1), .second, .val (.int p2), .val (.long v1), .second, .val (.long v7), .second, .val (.long (fn1 v1 v7)), .second, .val (.long (fn2 v1 v7)), .second, .val (.long v19), .second] [(.int (0 : Int32))]))
              refine Ends.ret X16 (v := some (.int (nar .boolean (0 : Int32)))) (fun h => by rw [Bd.returns] at h; cases h) Bd.notSynchronized (fun fs hr => retN X16 hx (t := .boolean) Bd.returns (by simp) (hb hby at_101) hr) ?_ (by decide) (by decide)
              exact absurd (own_leaf3 q0 q1 p2 v1 v2 v4 v7 v19 hv1 hv2 hv4 hv7 hc17 hc18 hv19 hc20 hc21) id
          · refine Ends.via (fun _ k => XS.ifYes X16.here hx rfl (pc0 := 86) (pc' := 102) rfl (hb hby at_86) rfl ((if0 _ _).trans (flt (mt (lw_gt _ _).mp hc20)).2.2.2) (by decide) (by decide) k) ?_
            show Ends p e below s 0 0 (Q0 Z q0 q1 p2  h0 n0) (T16.setTop (mkF m 102 #[.val (.long q0), .second, .val (.long q1), .second, .val (.int p2), .val (.long v1), .second, .val (.long v7), .second, .val (.long (fn1 v1 v7)), .second, .val (.long (fn2 v1 v7)), .second, .val (.long v19), .second] []))
            refine Ends.via (fun _ k => XS.lload X16.here hx rfl (hb hby at_102) rfl k) ?_
            show Ends p e below s 0 0 (Q0 Z q0 q1 p2  h0 n0) (T16.setTop (mkF m 104 #[.val (.long q0), .second, .val (.long q1), .second, .val (.int p2), .val (.long v1), .second, .val (.long v7), .second, .val (.long (fn1 v1 v7)), .second, .val (.long (fn2 v1 v7)), .second, .val (.long v19), .second] [(.long v19)]))
            refine Ends.via (fun _ k => XS.lload X16.here hx rfl (hb hby at_104) rfl k) ?_
            show Ends p e below s 0 0 (Q0 Z q0 q1 p2  h0 n0) (T16.setTop (mkF m 106 #[.val (.long q0), .second, .val (.long q1), .second, .val (.int p2), .val (.long v1), .second, .val (.long v7), .second, .val (.long (fn1 v1 v7)), .second, .val (.long (fn2 v1 v7)), .second, .val (.long v19), .second] [(.long (fn1 v1 v7)), (.long v19)]))
            refine Ends.via (fun _ k => XS.lcmp X16.here hx rfl (hb hby at_106) rfl k) ?_
            show Ends p e below s 0 0 (Q0 Z q0 q1 p2  h0 n0) (T16.setTop (mkF m 107 #[.val (.long q0), .second, .val (.long q1), .second, .val (.int p2), .val (.long v1), .second, .val (.long v7), .second, .val (.long (fn1 v1 v7)), .second, .val (.long (fn2 v1 v7)), .second, .val (.long v19), .second] [(.int (lcmpW v19 (fn1 v1 v7)))]))
            by_cases hc22 : (fn1 v1 v7) < v19
            · refine Ends.via (fun _ k => XS.ifNo X16.here hx rfl (hb hby at_107) rfl ((if0 _ _).trans (tlt ((lw_gt _ _).mpr hc22)).2.2.2) k) ?_
              show Ends p e below s 0 0 (Q0 Z q0 q1 p2  h0 n0) (T16.setTop (mkF m 110 #[.val (.long q0), .second, .val (.long q1), .second, .val (.int p2), .val (.long v1), .second, .val (.long v7), .second, .val (.long (fn1 v1 v7)), .second, .val (.long (fn2 v1 v7)), .second, .val (.long v19), .second] []))
              refine Ends.via (fun _ k => XS.iconst X16.here hx rfl (hb hby at_110) k) ?_
              show Ends p e below s 0 0 (Q0 Z q0 q1 p2  h0 n0) (T16.setTop (mkF m 111 #[.val (.long q0), .second, .val (.long q1), .second, .val (.int p2), .val (.long v1), .second, .val (.long v7), .second, .val (.long (fn1 v1 v7)), .second, .val (.long (fn2 v1 v7)), .second, .val (.long v19), .second] [(.int (0 : Int32))]))
              refine Ends.ret X16 (v := some (.int (nar .boolean (0 : Int32)))) (fun h => by rw [Bd.returns] at h; cases h) Bd.notSynchronized (fun fs hr => retN X16 hx (t := .boolean) Bd.returns (by simp) (hb hby at_111) hr) ?_ (by decide) (by decide)
              exact absurd (own_leaf4 q0 q1 p2 v1 v2 v4 v7 v19 hv1 hv2 hv4 hv7 hc17 hc18 hv19 hc20 hc22) id
            · refine Ends.via (fun _ k => XS.ifYes X16.here hx rfl (pc0 := 107) (pc' := 112) rfl (hb hby at_107) rfl ((if0 _ _).trans (flt (mt (lw_gt _ _).mp hc22)).2.2.2) (by decide) (by decide) k) ?_
              show Ends p e below s 0 0 (Q0 Z q0 q1 p2  h0 n0) (T16.setTop (mkF m 112 #[.val (.long q0), .second, .val (.long q1), .second, .val (.int p2), .val (.long v1), .second, .val (.long v7), .second, .val (.long (fn1 v1 v7)), .second, .val (.long (fn2 v1 v7)), .second, .val (.long v19), .second] []))
              refine Ends.via (fun _ k => XS.lload X16.here hx rfl (hb hby at_112) rfl k) ?_
              show Ends p e below s 0 0 (Q0 Z q0 q1 p2  h0 n0) (T16.setTop (mkF m 114 #[.val (.long q0), .second, .val (.long q1), .second, .val (.int p2), .val (.long v1), .second, .val (.long v7), .second, .val (.long (fn1 v1 v7)), .second, .val (.long (fn2 v1 v7)), .second, .val (.long v19), .second] [(.long v19)]))
              refine Ends.via (fun _ k => XS.lload X16.here hx rfl (hb hby at_114) rfl k) ?_
              show Ends p e below s 0 0 (Q0 Z q0 q1 p2  h0 n0) (T16.setTop (mkF m 116 #[.val (.long q0), .second, .val (.long q1), .second, .val (.int p2), .val (.long v1), .second, .val (.long v7), .second, .val (.long (fn1 v1 v7)), .second, .val (.long (fn2 v1 v7)), .second, .val (.long v19), .second] [(.long v7), (.long v19)]))
              refine Ends.via (fun _ k => XS.lmul X16.here hx rfl (hb hby at_116) rfl k) ?_
              show Ends p e below s 0 0 (Q0 Z q0 q1 p2  h0 n0) (T16.setTop (mkF m 117 #[.val (.long q0), .second, .val (.long q1), .second, .val (.int p2), .val (.long v1), .second, .val (.long v7), .second, .val (.long (fn1 v1 v7)), .second, .val (.long (fn2 v1 v7)), .second, .val (.long v19), .second] [(.long (v19 * v7))]))
              refine Ends.via (fun _ k => XS.lload X16.here hx rfl (hb hby at_117) rfl k) ?_
              show Ends p e below s 0 0 (Q0 Z q0 q1 p2  h0 n0) (T16.setTop (mkF m 119 #[.val (.long q0), .second, .val (.long q1), .second, .val (.int p2), .val (.long v1), .second, .val (.long v7), .second, .val (.long (fn1 v1 v7)), .second, .val (.long (fn2 v1 v7)), .second, .val (.long v19), .second] [(.long (fn1 v1 v7)), (.long (v19 * v7))]))
              refine Ends.via (fun _ k => XS.lcmp X16.here hx rfl (hb hby at_119) rfl k) ?_
              show Ends p e below s 0 0 (Q0 Z q0 q1 p2  h0 n0) (T16.setTop (mkF m 120 #[.val (.long q0), .second, .val (.long q1), .second, .val (.int p2), .val (.long v1), .second, .val (.long v7), .second, .val (.long (fn1 v1 v7)), .second, .val (.long (fn2 v1 v7)), .second, .val (.long v19), .second] [(.int (lcmpW (v19 * v7) (fn1 v1 v7)))]))
              by_cases hc23 : (fn1 v1 v7) < (v19 * v7)
              · refine Ends.via (fun _ k => XS.ifYes X16.here hx rfl (pc0 := 120) (pc' := 140) rfl (hb hby at_120) rfl ((if0 _ _).trans (tlt ((lw_gt _ _).mpr hc23)).2.2.1) (by decide) (by decide) k) ?_
                show Ends p e below s 0 0 (Q0 Z q0 q1 p2  h0 n0) (T16.setTop (mkF m 140 #[.val (.long q0), .second, .val (.long q1), .second, .val (.int p2), .val (.long v1), .second, .val (.long v7), .second, .val (.long (fn1 v1 v7)), .second, .val (.long (fn2 v1 v7)), .second, .val (.long v19), .second] []))
                refine Ends.via (fun _ k => XS.iconst X16.here hx rfl (hb hby at_140) k) ?_
                show Ends p e below s 0 0 (Q0 Z q0 q1 p2  h0 n0) (T16.setTop (mkF m 141 #[.val (.long q0), .second, .val (.long q1), .second, .val (.int p2), .val (.long v1), .second, .val (.long v7), .second, .val (.long (fn1 v1 v7)), .second, .val (.long (fn2 v1 v7)), .second, .val (.long v19), .second] [(.int (0 : Int32))]))
                refine Ends.ret X16 (v := some (.int (nar .boolean (0 : Int32)))) (fun h => by rw [Bd.returns] at h; cases h) Bd.notSynchronized (fun fs hr => retN X16 hx (t := .boolean) Bd.returns (by simp) (hb hby at_141) hr) ?_ (by decide) (by decide)
                exact absurd (own_leaf5 q0 q1 p2 v1 v2 v4 v7 v19 hv1 hv2 hv4 hv7 hc17 hc18 hv19 hc20 hc22 hc23) id
              · refine Ends.via (fun _ k => XS.ifNo X16.here hx rfl (hb hby at_120) rfl ((if0 _ _).trans (flt (mt (lw_gt _ _).mp hc23)).2.2.1) k) ?_
                show Ends p e below s 0 0 (Q0 Z q0 q1 p2  h0 n0) (T16.setTop (mkF m 123 #[.val (.long q0), .second, .val (.long q1), .second, .val (.int p2), .val (.long v1), .second, .val (.long v7), .second, .val (.long (fn1 v1 v7)), .second, .val (.long (fn2 v1 v7)), .second, .val (.long v19), .second] []))
                refine Ends.via (fun _ k => XS.lload X16.here hx rfl (hb hby at_123) rfl k) ?_
                show Ends p e below s 0 0 (Q0 Z q0 q1 p2  h0 n0) (T16.setTop (mkF m 125 #[.val (.long q0), .second, .val (.long q1), .second, .val (.int p2), .val (.long v1), .second, .val (.long v7), .second, .val (.long (fn1 v1 v7)), .second, .val (.long (fn2 v1 v7)), .second, .val (.long v19), .second] [(.long v19)]))
                refine Ends.via (fun _ k => XS.lconst X16.here hx rfl (hb hby at_125) k) ?_
                show Ends p e below s 0 0 (Q0 Z q0 q1 p2  h0 n0) (T16.setTop (mkF m 126 #[.val (.long q0), .second, .val (.long q1), .second, .val (.int p2), .val (.long v1), .second, .val (.long v7), .second, .val (.long (fn1 v1 v7)), .second, .val (.long (fn2 v1 v7)), .second, .val (.long v19), .second] [(.long (1 : Int64)), (.long v19)]))
                refine Ends.via (fun _ k => XS.ladd X16.here hx rfl (hb hby at_126) rfl k) ?_
                show Ends p e below s 0 0 (Q0 Z q0 q1 p2  h0 n0) (T16.setTop (mkF m 127 #[.val (.long q0), .second, .val (.long q1), .second, .val (.int p2), .val (.long v1), .second, .val (.long v7), .second, .val (.long (fn1 v1 v7)), .second, .val (.long (fn2 v1 v7)), .second, .val (.long v19), .second] [(.long (v19 + (1 : Int64)))]))
                refine Ends.via (fun _ k => XS.lload X16.here hx rfl (hb hby at_127) rfl k) ?_
                show Ends p e below s 0 0 (Q0 Z q0 q1 p2  h0 n0) (T16.setTop (mkF m 129 #[.val (.long q0), .second, .val (.long q1), .second, .val (.int p2), .val (.long v1), .second, .val (.long v7), .second, .val (.long (fn1 v1 v7)), .second, .val (.long (fn2 v1 v7)), .second, .val (.long v19), .second] [(.long v7), (.long (v19 + (1 : Int64)))]))
                refine Ends.via (fun _ k => XS.lmul X16.here hx rfl (hb hby at_129) rfl k) ?_
                show Ends p e below s 0 0 (Q0 Z q0 q1 p2  h0 n0) (T16.setTop (mkF m 130 #[.val (.long q0), .second, .val (.long q1), .second, .val (.int p2), .val (.long v1), .second, .val (.long v7), .second, .val (.long (fn1 v1 v7)), .second, .val (.long (fn2 v1 v7)), .second, .val (.long v19), .second] [(.long ((v19 + (1 : Int64)) * v7))]))
                refine Ends.via (fun _ k => XS.lload X16.here hx rfl (hb hby at_130) rfl k) ?_
                show Ends p e below s 0 0 (Q0 Z q0 q1 p2  h0 n0) (T16.setTop (mkF m 132 #[.val (.long q0), .second, .val (.long q1), .second, .val (.int p2), .val (.long v1), .second, .val (.long v7), .second, .val (.long (fn1 v1 v7)), .second, .val (.long (fn2 v1 v7)), .second, .val (.long v19), .second] [(.long (fn1 v1 v7)), (.long ((v19 + (1 : Int64)) * v7))]))
                refine Ends.via (fun _ k => XS.lcmp X16.here hx rfl (hb hby at_132) rfl k) ?_
                show Ends p e below s 0 0 (Q0 Z q0 q1 p2  h0 n0) (T16.setTop (mkF m 133 #[.val (.long q0), .second, .val (.long q1), .second, .val (.int p2), .val (.long v1), .second, .val (.long v7), .second, .val (.long (fn1 v1 v7)), .second, .val (.long (fn2 v1 v7)), .second, .val (.long v19), .second] [(.int (lcmpW ((v19 + (1 : Int64)) * v7) (fn1 v1 v7)))]))
                by_cases hc24 : (fn1 v1 v7) < ((v19 + (1 : Int64)) * v7)
                · refine Ends.via (fun _ k => XS.ifNo X16.here hx rfl (hb hby at_133) rfl ((if0 _ _).trans (tlt ((lw_gt _ _).mpr hc24)).2.2.2) k) ?_
                  show Ends p e below s 0 0 (Q0 Z q0 q1 p2  h0 n0) (T16.setTop (mkF m 136 #[.val (.long q0), .second, .val (.long q1), .second, .val (.int p2), .val (.long v1), .second, .val (.long v7), .second, .val (.long (fn1 v1 v7)), .second, .val (.long (fn2 v1 v7)), .second, .val (.long v19), .second] []))
                  refine Ends.via (fun _ k => XS.iconst X16.here hx rfl (hb hby at_136) k) ?_
                  show Ends p e below s 0 0 (Q0 Z q0 q1 p2  h0 n0) (T16.setTop (mkF m 137 #[.val (.long q0), .second, .val (.long q1), .second, .val (.int p2), .val (.long v1), .second, .val (.long v7), .second, .val (.long (fn1 v1 v7)), .second, .val (.long (fn2 v1 v7)), .second, .val (.long v19), .second] [(.int (1 : Int32))]))
                  refine Ends.via (fun _ k => XS.goto X16.here hx rfl (pc0 := 137) (pc' := 141) rfl (hb hby at_137) (by decide) (by decide) k) ?_
                  show Ends p e below s 0 0 (Q0 Z q0 q1 p2  h0 n0) (T16.setTop (mkF m 141 #[.val (.long q0), .second, .val (.long q1), .second, .val (.int p2), .val (.long v1), .second, .val (.long v7), .second, .val (.long (fn1 v1 v7)), .second, .val (.long (fn2 v1 v7)), .second, .val (.long v19), .second] [(.int (1 : Int32))]))
                  refine Ends.ret X16 (v := some (.int (nar .boolean (1 : Int32)))) (fun h => by rw [Bd.returns] at h; cases h) Bd.notSynchronized (fun fs hr => retN X16 hx (t := .boolean) Bd.returns (by simp) (hb hby at_141) hr) ?_ (by decide) (by decide)
                  exact ⟨rfl, N16⟩
                · refine Ends.via (fun _ k => XS.ifYes X16.here hx rfl (pc0 := 133) (pc' := 140) rfl (hb hby at_133) rfl ((if0 _ _).trans (flt (mt (lw_gt _ _).mp hc24)).2.2.2) (by decide) (by decide) k) ?_
                  show Ends p e below s 0 0 (Q0 Z q0 q1 p2  h0 n0) (T16.setTop (mkF m 140 #[.val (.long q0), .second, .val (.long q1), .second, .val (.int p2), .val (.long v1), .second, .val (.long v7), .second, .val (.long (fn1 v1 v7)), .second, .val (.long (fn2 v1 v7)), .second, .val (.long v19), .second] []))
                  refine Ends.via (fun _ k => XS.iconst X16.here hx rfl (hb hby at_140) k) ?_
                  show Ends p e below s 0 0 (Q0 Z q0 q1 p2  h0 n0) (T16.setTop (mkF m 141 #[.val (.long q0), .second, .val (.long q1), .second, .val (.int p2), .val (.long v1), .second, .val (.long v7), .second, .val (.long (fn1 v1 v7)), .second, .val (.long (fn2 v1 v7)), .second, .val (.long v19), .second] [(.int (0 : Int32))]))
                  refine Ends.ret X16 (v := some (.int (nar .boolean (0 : Int32)))) (fun h => by rw [Bd.returns] at h; cases h) Bd.notSynchronized (fun fs hr => retN X16 hx (t := .boolean) Bd.returns (by simp) (hb hby at_141) hr) ?_ (by decide) (by decide)
                  exact absurd (own_leaf6 q0 q1 p2 v1 v2 v4 v7 v19 hv1 hv2 hv4 hv7 hc17 hc18 hv19 hc20 hc22 hc23 hc24) id
    by_cases hc25 : v4 = (0 : Int64)
    · refine Ends.via (fun _ k => XS.ifNo Xj5.here hx rfl (hb hby at_33) rfl ((if0 _ _).trans (teq ((lw_eq _ _).mpr hc25)).2) k) ?_
      show Ends p e below s 0 0 (Q0 Z q0 q1 p2  h0 n0) (Tj5.setTop (mkF m 36 #[.val (.long q0), .second, .val (.long q1), .second, .val (.int p2), .val (.long v1), .second, .val (.long v4), .second, .unset, .unset, .unset, .unset, .unset, .unset] []))
      refine Ends.via (fun _ k => XS.lconst Xj5.here hx rfl (hb hby at_36) k) ?_
      show Ends p e below s 0 0 (Q0 Z q0 q1 p2  h0 n0) (Tj5.setTop (mkF m 37 #[.val (.long q0), .second, .val (.long q1), .second, .val (.int p2), .val (.long v1), .second, .val (.long v4), .second, .unset, .unset, .unset, .unset, .unset, .unset] [(.long (1 : Int64))]))
      refine Ends.via (fun _ k => XS.lstore Xj5.here hx rfl (hb hby at_37) rfl (l' := #[.val (.long q0), .second, .val (.long q1), .second, .val (.int p2), .val (.long v1), .second, .val (.long (1 : Int64)), .second, .unset, .unset, .unset, .unset, .unset, .unset]) rfl k) ?_
      show Ends p e below s 0 0 (Q0 Z q0 q1 p2  h0 n0) (Tj5.setTop (mkF m 39 #[.val (.long q0), .second, .val (.long q1), .second, .val (.int p2), .val (.long v1), .second, .val (.long (1 : Int64)), .second, .unset, .unset, .unset, .unset, .unset, .unset] []))
      exact J8 Tj5 _ Xj5 ej5 Nj5 (1 : Int64) (by first | rfl | simp only [if_pos hc25])
    · refine Ends.via (fun _ k => XS.ifYes Xj5.here hx rfl (pc0 := 33) (pc' := 39) rfl (hb hby at_33) rfl ((if0 _ _).trans (feq (mt (lw_eq _ _).mp hc25)).2) (by decide) (by decide) k) ?_
      show Ends p e below s 0 0 (Q0 Z q0 q1 p2  h0 n0) (Tj5.setTop (mkF m 39 #[.val (.long q0), .second, .val (.long q1), .second, .val (.int p2), .val (.long v1), .second, .val (.long v4), .second, .unset, .unset, .unset, .unset, .unset, .unset] []))
      exact J8 Tj5 _ Xj5 ej5 Nj5 v4 (by first | rfl | simp only [if_neg hc25])
  by_cases hc26 : (p2 &&& (1 : Int32)) = (0 : Int32)
  · refine Ends.via (fun _ k => XS.ifYes X0.here hx rfl (pc0 := 18) (pc' := 29) rfl (hb hby at_18) rfl ((if0 _ _).trans (teq hc26).1) (by decide) (by decide) k) ?_
    show Ends p e below s 0 0 (Q0 Z q0 q1 p2  h0 n0) (s₁.setTop (mkF m 29 #[.val (.long q0), .second, .val (.long q1), .second, .val (.int p2), .val (.long v1), .second, .val (.long v2), .second, .unset, .unset, .unset, .unset, .unset, .unset] []))
    exact J5 s₁ _ X0 e0 N0 v2 (by first | rfl | simp only [if_pos hc26])
  · refine Ends.via (fun _ k => XS.ifNo X0.here hx rfl (hb hby at_18) rfl ((if0 _ _).trans (feq hc26).1) k) ?_
    show Ends p e below s 0 0 (Q0 Z q0 q1 p2  h0 n0) (s₁.setTop (mkF m 21 #[.val (.long q0), .second, .val (.long q1), .second, .val (.int p2), .val (.long v1), .second, .val (.long v2), .second, .unset, .unset, .unset, .unset, .unset, .unset] []))
    refine Ends.via (fun _ k => XS.lload X0.here hx rfl (hb hby at_21) rfl k) ?_
    show Ends p e below s 0 0 (Q0 Z q0 q1 p2  h0 n0) (s₁.setTop (mkF m 23 #[.val (.long q0), .second, .val (.long q1), .second, .val (.int p2), .val (.long v1), .second, .val (.long v2), .second, .unset, .unset, .unset, .unset, .unset, .unset] [(.long v2)]))
    refine Ends.via (X0.ldc2Long hx hown (mvT hZ (hw _ (List.mem_of_getElem? (i := 5) rfl))) (g := (mkF m 23 #[.val (.long q0), .second, .val (.long q1), .second, .val (.int p2), .val (.long v1), .second, .val (.long v2), .second, .unset, .unset, .unset, .unset, .unset, .unset] [(.long v2)])) rfl (hb hby at_23)) ?_
    show Ends p e below s 0 0 (Q0 Z q0 q1 p2  h0 n0) (s₁.setTop (mkF m 26 #[.val (.long q0), .second, .val (.long q1), .second, .val (.int p2), .val (.long v1), .second, .val (.long v2), .second, .unset, .unset, .unset, .unset, .unset, .unset] [(.long (100000000 : Int64)), (.long v2)]))
    refine Ends.via (fun _ k => XS.lrem X0.here hx rfl (hb hby at_26) rfl (by decide) k) ?_
    show Ends p e below s 0 0 (Q0 Z q0 q1 p2  h0 n0) (s₁.setTop (mkF m 27 #[.val (.long q0), .second, .val (.long q1), .second, .val (.int p2), .val (.long v1), .second, .val (.long v2), .second, .unset, .unset, .unset, .unset, .unset, .unset] [(.long (v2 - (v2 / (100000000 : Int64)) * (100000000 : Int64)))]))
    refine Ends.via (fun _ k => XS.lstore X0.here hx rfl (hb hby at_27) rfl (l' := #[.val (.long q0), .second, .val (.long q1), .second, .val (.int p2), .val (.long v1), .second, .val (.long (v2 - (v2 / (100000000 : Int64)) * (100000000 : Int64))), .second, .unset, .unset, .unset, .unset, .unset, .unset]) rfl k) ?_
    show Ends p e below s 0 0 (Q0 Z q0 q1 p2  h0 n0) (s₁.setTop (mkF m 29 #[.val (.long q0), .second, .val (.long q1), .second, .val (.int p2), .val (.long v1), .second, .val (.long (v2 - (v2 / (100000000 : Int64)) * (100000000 : Int64))), .second, .unset, .unset, .unset, .unset, .unset, .unset] []))
    exact J5 s₁ _ X0 e0 N0 (v2 - (v2 / (100000000 : Int64)) * (100000000 : Int64)) (by first | rfl | simp only [if_neg hc26])
set_option maxRecDepth 65536 in
set_option maxHeartbeats 40000000 in
theorem comes_1 {Post : Tables → Env → Array Value → State → Outcome → State → Prop} (hpost : ∀ tb e args s v u, (limb_1_1.after args s (.returned v) u = true ∧ limb_1_2.after args s (.returned v) u = true ∧ True) → FrameEnd s (.returned v) u (Jvm.fieldLocs frame_1_writes args s ++ Jvm.arrayLocs frame_1_arrays args s ++ Jvm.staticLocs frame_1_statics s) 0 0 → Post tb e args s (.returned v) u) :
    ArmFor flags0 classFile x code maxLocals ret World_1 tables_1 room_1 Calls_1 rest_1 Pre_1 Post := by
  intro l hfl _ _ p e ha hc hk s m args below hf hA hF happ hP
  obtain ⟨hcalls, hrest, hpre⟩ := hP
  obtain ⟨-, -, -, hnamed, -, -, -, hat⟩ := (Spec.applies_iff hf).mp happ
  obtain ⟨hg, hn⟩ := and_e (Cond.before_iff.mp (show (Jvm.Cond.and given_1 narrow_1).before args s = true from hpre))
  obtain ⟨hcnt, g0⟩ := and_e hg
  obtain ⟨t0, g1⟩ := and_e g0
  obtain ⟨t1, g2⟩ := and_e g1
  obtain ⟨w0, w1, w2, rfl⟩ : ∃ w0 w1 w2 : Value, args = #[w0, w1, w2] := by
    have hs : args.size = 3 := by simpa [Cond.value, given_1] using hcnt
    obtain ⟨L⟩ := args
    match L, hs with
    | [w0, w1, w2], _ => exact ⟨w0, w1, w2, rfl⟩
  have hw := fun d (hd : d ∈ tables_1) => atoms_spec (ws := Jvm.Cond.code x code maxLocals ret :: tables_1) hat d (List.mem_cons_of_mem _ hd)
  obtain ⟨i0, ei0⟩ := isL_v t0
  obtain rfl : w0 = (.long i0) := Option.some.inj ei0
  obtain ⟨i1, ei1⟩ := isL_v t1
  obtain rfl : w1 = (.long i1) := Option.some.inj ei1
  obtain ⟨i2, ei2⟩ := is_v g2
  obtain rfl : w2 = (.int i2) := Option.some.inj ei2
  obtain ⟨n, o, h1, h2, h3, _, L, rfl, ⟨rfl, N⟩, hq⟩ := rm0 l s _ hw tables_1 i0 i1 i2 s.heap s.heap.size (Nat.le_refl _) p e ha hc hk s m _ below hf ((Spec.applies_iff_loose hf).mp happ).1 ⟨rfl, State.Warmed39.refl s, rfl⟩ trivial
  refine ⟨n, _, h1, h2, h3, hpost _ _ _ _ _ _ ⟨Cond.after_iff.mpr rfl, Cond.after_iff.mpr (eq_i res_at (Term.int_eval (1)) rfl), trivial⟩ ⟨hq.1, hq.2.1, (hq.2.2.sift fun y hy => Or.inr (N y hy)).mono (by decide) (by decide)⟩⟩
theorem main_1_1 : Claimed_1_1 := comes_1 fun _ _ _ _ _ _ h hF => ⟨h.1, hF⟩
theorem main_1_2 : Claimed_1_2 := comes_1 fun _ _ _ _ _ _ h hF => ⟨h.2.1, hF⟩
end Jvm.Pilot.@@N@@
namespace Jvm.Pilot.@@N@@
open Jvm Jvm.ClassFile Sem Op Lib Jvm.Free Jvm.Stand Jvm.Pilot.@@N@@.Jvm.D
/-! MADE BY PROGRAM (witnessworld.py) out of the Statement's table words and the real class files: 9 classes; the members and pool entries that the words name. The judged class is class 1, her method 2. -/
namespace start1
open Jvm.ClassFile
def u (s : String) : CpInfo := .utf8 (stringToUtf16 s)
/-- a pool by its gaps: so many unusable entries, then the entry; so many at the end -/
def gap : Nat → List CpInfo → List CpInfo
  | 0, r => r
  | n + 1, r => .unusable :: gap n r
def poolList (es : List (Nat × CpInfo)) (last : Nat) : List CpInfo := es.foldr (fun e r => gap e.1 (e.2 :: r)) (gap last [])
def pool (es : List (Nat × CpInfo)) (last : Nat) : Array CpInfo := ⟨poolList es last⟩
def fileOf (pool : Array CpInfo) (this : Nat) (attrs : Array Attribute := #[]) (ms : Array MethodInfo := #[]) (fl : Nat := 33) (sup : Nat := 0) (ifs : Array Nat := #[]) (fds : Array FieldInfo := #[]) : ClassFile where
  minorVersion := 0
  majorVersion := 65
  constantPool := pool
  accessFlags := fl
  thisClass := this
  superClass := sup
  interfaces := ifs
  fields := fds
  methods := ms
  attributes := attrs
def plain (name : String) (sup : Option ClassId) : Class where
  name := name
  kind := .ordinary
  loader := none
  accessFlags := 33
  super := sup
  interfaces := #[]
  cf := none
  fields := #[]
  methods := #[]
  instanceTypes := #[]
  staticTypes := #[]
  resolved := #[]
  callSites := []
  init := .initialized
  statics := none
  mirror := none

def pool0 : Array CpInfo := pool [(5, u "<init>"), (0, u "()V"), (1, .class_ 10), (1, u "java/lang/Object")] 113

def k0m0 : Method := { name := "<init>", desc := "()V", sig := { parameters := [], returnType := none }, accessFlags := 1, code := none }
/-- java/lang/Object -/
def k0 : Class := { plain "java/lang/Object" none with
  accessFlags := 33
  interfaces := #[]
  cf := some (fileOf pool0 8 #[] #[{ accessFlags := 1, nameIndex := 5, descriptorIndex := 6, attributes := #[] }] 33 0 #[] #[])
  fields := #[]
  methods := #[k0m0]
  instanceTypes := #[]
  staticTypes := #[]
  resolved := Array.replicate 124 none
  statics := none }

def pool1 : Array CpInfo := pool [(2, .class_ 4), (1, u "java/lang/Object"), (0, u "<init>"), (0, u "()V"), (0, .class_ 8), (0, u "com/example/crossbook/crossbook/PricesExecutableAmountPinLaw"), (0, .long 100000000), (1, .long 4294967295), (1, .long 4294967296), (3, .long 9223372036854775807), (1, .methodref 7 20), (0, .nameAndType 21 22), (0, u "exactRest"), (0, u "(JJ)J"), (0, .methodref 24 25), (0, .class_ 26), (0, .nameAndType 27 22), (0, u "com/example/crossbook/crossbook/Prices"), (0, u "executableAmount"), (0, u "M"), (0, u "J"), (3, u "law"), (0, u "(JJI)Z")] 3

def k1m0 : Method := { name := "<init>", desc := "()V", sig := { parameters := [], returnType := none }, accessFlags := 2, code := none }
def k1c1 : Code := { maxStack := 4, maxLocals := 14, code := method_2_code, exceptionTable := #[], attributes := #[] }
def k1m1 : Method := { name := "exactRest", desc := "(JJ)J", sig := { parameters := [.long, .long], returnType := some .long }, accessFlags := 10, code := some k1c1 }
def k1c2 : Code := { maxStack := 4, maxLocals := 15, code := code, exceptionTable := #[], attributes := #[] }
def k1m2 : Method := { name := "law", desc := "(JJI)Z", sig := { parameters := [.long, .long, .int], returnType := some .boolean }, accessFlags := 9, code := some k1c2 }
/-- com/example/crossbook/crossbook/PricesExecutableAmountPinLaw -/
def k1 : Class := { plain "com/example/crossbook/crossbook/PricesExecutableAmountPinLaw" (some 0) with
  accessFlags := 49
  interfaces := #[]
  cf := some (fileOf pool1 7 #[] #[{ accessFlags := 2, nameIndex := 5, descriptorIndex := 6, attributes := #[] }, { accessFlags := 10, nameIndex := 21, descriptorIndex := 22, attributes := #[] }, { accessFlags := 9, nameIndex := 33, descriptorIndex := 34, attributes := #[] }] 49 2 #[] #[{ accessFlags := 26, nameIndex := 28, descriptorIndex := 29, attributes := #[] }])
  fields := #[{ name := "M", type := .long, accessFlags := 26, slot := 0, constantValue := 0 }]
  methods := #[k1m0, k1m1, k1m2]
  instanceTypes := #[]
  staticTypes := #[.long]
  resolved := Array.replicate 38 none
  statics := none }

def pool2 : Array CpInfo := pool [(2, .class_ 4), (1, u "java/lang/Object"), (0, u "<init>"), (0, u "()V"), (0, .class_ 8), (0, u "com/example/crossbook/crossbook/Prices"), (0, .long 100000000), (12, u "(JJ)J"), (15, u "SCALE_DIGITS"), (0, u "I"), (2, u "SCALE"), (0, u "J"), (9, u "executableAmount")] 4

def k2m0 : Method := { name := "<init>", desc := "()V", sig := { parameters := [], returnType := none }, accessFlags := 2, code := none }
def k2c1 : Code := { maxStack := 6, maxLocals := 6, code := prog_29_method_6_code, exceptionTable := #[], attributes := #[] }
def k2m1 : Method := { name := "executableAmount", desc := "(JJ)J", sig := { parameters := [.long, .long], returnType := some .long }, accessFlags := 8, code := some k2c1 }
/-- com/example/crossbook/crossbook/Prices -/
def k2 : Class := { plain "com/example/crossbook/crossbook/Prices" (some 0) with
  accessFlags := 48
  interfaces := #[]
  cf := some (fileOf pool2 7 #[] #[{ accessFlags := 2, nameIndex := 5, descriptorIndex := 6, attributes := #[] }, { accessFlags := 8, nameIndex := 53, descriptorIndex := 22, attributes := #[] }] 48 2 #[] #[{ accessFlags := 24, nameIndex := 38, descriptorIndex := 39, attributes := #[] }, { accessFlags := 26, nameIndex := 42, descriptorIndex := 43, attributes := #[] }])
  fields := #[{ name := "SCALE_DIGITS", type := .int, accessFlags := 24, slot := 0, constantValue := 0 }, { name := "SCALE", type := .long, accessFlags := 26, slot := 1, constantValue := 0 }]
  methods := #[k2m0, k2m1]
  instanceTypes := #[]
  staticTypes := #[.int, .long]
  resolved := Array.replicate 58 none
  statics := none }

def pool3 : Array CpInfo := pool [(1, u "java/lang/Cloneable"), (0, .class_ 1), (0, u "java/lang/Object"), (0, .class_ 3)] 3

/-- java/lang/Cloneable -/
def k3 : Class := { plain "java/lang/Cloneable" (some 0) with
  accessFlags := 1537
  interfaces := #[]
  cf := some (fileOf pool3 2 #[] #[] 1537 4 #[] #[])
  fields := #[]
  methods := #[]
  instanceTypes := #[]
  staticTypes := #[]
  resolved := Array.replicate 8 none
  statics := none }

def pool4 : Array CpInfo := pool [(1, u "java/io/Serializable"), (0, .class_ 1), (0, u "java/lang/Object"), (0, .class_ 3)] 3

/-- java/io/Serializable -/
def k4 : Class := { plain "java/io/Serializable" (some 0) with
  accessFlags := 1537
  interfaces := #[]
  cf := some (fileOf pool4 2 #[] #[] 1537 4 #[] #[])
  fields := #[]
  methods := #[]
  instanceTypes := #[]
  staticTypes := #[]
  resolved := Array.replicate 8 none
  statics := none }

/-- the primitive byte -/
def k5 : Class := { plain "byte" none with kind := .primitive 'B', accessFlags := 0x411 }
/-- [B -/
def k6 : Class := { plain "[B" (some 0) with kind := .array 5 .byte, interfaces := #[3, 4], accessFlags := 1041 }

/-- the primitive int -/
def k7 : Class := { plain "int" none with kind := .primitive 'I', accessFlags := 0x411 }
/-- [I -/
def k8 : Class := { plain "[I" (some 0) with kind := .array 7 .int, interfaces := #[3, 4], accessFlags := 1041 }

def heap : Heap := #[]
def classes : Array Class := #[k0, k1, k2, k3, k4, k5, k6, k7, k8]
def interned : List (Array UInt16 × Addr) := []
def slotsUsed : Nat := 0
def theMethod : MethodId := ⟨1, 2⟩
def args0 : Array Value := #[.long 5, .long 5, .int 5]
def aboutOver (below : List Frame) : State where
  vm := { classes := classes, interned := interned.toArray }
  heap := heap
  slotsUsed := slotsUsed
  threads := #[{ frames := .invoking theMethod args0 :: below }]
def below0 : List Frame := [.native { method := ⟨0, 0⟩, args := #[] }]
def about1 : State := aboutOver below0
def p0 : Program := .bare "" "" ""
def e0 : Env := launch0.env 0 0 0
theorem w_frames : about1.frames = Frame.invoking theMethod args0 :: below0 := rfl
set_option maxRecDepth 65536 in
theorem w_args : argsFit about1.vm theMethod args0 = true := by decide +kernel
set_option maxRecDepth 65536 in
theorem w_heap : heapFits about1 = true := by decide +kernel
set_option maxRecDepth 65536 in
theorem w_runnable : about1.curStatus? = some .runnable := by decide +kernel
set_option maxRecDepth 65536 in
theorem w_alone : about1.alone = true := by decide +kernel
set_option maxRecDepth 65536 in
theorem w_named : about1.methodNamed? x = some theMethod := by decide +kernel
set_option maxRecDepth 65536 in
theorem w_hears : about1.hears theMethod below0 = true := by decide +kernel
set_option maxRecDepth 65536 in
theorem w_ripe : about1.ripe theMethod args0 below0 = true := by decide +kernel
theorem w_running : about1.status = .running := rfl
set_option maxRecDepth 65536 in
theorem w_room : about1.hasRoom e0.platform room_1 = true :=
  launch0.hasRoom_least _ room_1 (by decide +kernel) (by decide +kernel) (by decide +kernel) (by decide +kernel) (by decide +kernel) (by decide +kernel)
theorem allAtoms_all (ts : List Jvm.Cond) (a : Array Jvm.Value) (st : Jvm.State) : (allAtoms ts).before a st = ts.all (fun c => c.before a st) := by
  induction ts with
  | nil => rfl
  | cons c t ih =>
    show (Jvm.Cond.and c (allAtoms t)).before a st = _
    rw [Jvm.Cond.before_and, ih, List.all_cons]
def words1 : List Jvm.Cond := Jvm.Cond.code x code maxLocals ret :: tables_1
/-- a 'code' word, met by the world's own term for the bytes: nothing is compared byte by byte -/
theorem code_word {y : MethodName} {bytes : ByteArray} {mx : Nat} {rt : Option FieldType} {a : Array Value} {s : State} {m : MethodId} {meth : Method} {c : Code} (h1 : s.methodNamed? y = some m) (h2 : s.vm.method? m = some meth) (h3 : meth.code = some c) (h4 : c.code = bytes)
    (h5 : (c.maxLocals == mx && c.exceptionTable.isEmpty && decide (c.maxStack ≤ mostOperands) && decide (meth.sig.returnType = rt) && !meth.locks && decide (parseMethodDescriptor y.desc = some meth.sig)) = true) : (Jvm.Cond.code y bytes mx rt).before a s = true := by
  simp only [Bool.and_eq_true, beq_iff_eq, Bool.not_eq_true', decide_eq_true_eq] at h5
  obtain ⟨⟨⟨⟨⟨g1, g2⟩, g3⟩, g4⟩, g5⟩, g6⟩ := h5
  simp [Cond.before, Cond.holds, Cond.value, h1, h2, h3, h4, g1, g2, g3, g4, g5, g6]
def isCode : Jvm.Cond → Bool
  | .code _ _ _ _ => true
  | _ => false
theorem all_split {L : List Jvm.Cond} {P : Jvm.Cond → Bool} (h1 : L.all (fun c => isCode c || P c) = true) (h2 : ∀ c ∈ L.filter isCode, P c = true) : L.all P = true := by
  refine List.all_eq_true.mpr fun c hc => ?_
  have h := List.all_eq_true.mp h1 c hc
  rcases Bool.eq_false_or_eq_true (isCode c) with hi | hi
  · exact h2 c (List.mem_filter.mpr ⟨hc, hi⟩)
  · simpa [hi] using h
set_option maxRecDepth 65536 in
theorem w_c0 : (Jvm.Cond.code x code maxLocals ret).before args0 about1 = true := code_word (m := ⟨1, 2⟩) (meth := k1m2) (c := k1c2) (by decide +kernel) rfl rfl rfl (by decide +kernel)
set_option maxRecDepth 65536 in
theorem w_c1 : (Jvm.Cond.code ({ cls := "com/example/crossbook/crossbook/PricesExecutableAmountPinLaw", name := "exactRest", desc := "(JJ)J" } : Jvm.MethodName) method_2_code (14 : Nat) (Option.some Jvm.ClassFile.FieldType.long)).before args0 about1 = true := code_word (m := ⟨1, 1⟩) (meth := k1m1) (c := k1c1) (by decide +kernel) rfl rfl rfl (by decide +kernel)
set_option maxRecDepth 65536 in
theorem w_c2 : (Jvm.Cond.code ({ cls := "com/example/crossbook/crossbook/Prices", name := "executableAmount", desc := "(JJ)J" } : Jvm.MethodName) prog_29_method_6_code (6 : Nat) (Option.some Jvm.ClassFile.FieldType.long)).before args0 about1 = true := code_word (m := ⟨2, 1⟩) (meth := k2m1) (c := k2c1) (by decide +kernel) rfl rfl rfl (by decide +kernel)
def codes1 : List Jvm.Cond := [Jvm.Cond.code x code maxLocals ret, Jvm.Cond.code ({ cls := "com/example/crossbook/crossbook/PricesExecutableAmountPinLaw", name := "exactRest", desc := "(JJ)J" } : Jvm.MethodName) method_2_code (14 : Nat) (Option.some Jvm.ClassFile.FieldType.long), Jvm.Cond.code ({ cls := "com/example/crossbook/crossbook/Prices", name := "executableAmount", desc := "(JJ)J" } : Jvm.MethodName) prog_29_method_6_code (6 : Nat) (Option.some Jvm.ClassFile.FieldType.long)]
set_option maxRecDepth 65536 in
theorem codes_eq : words1.filter isCode = codes1 := rfl
theorem w_codes : ∀ c ∈ words1.filter isCode, c.before args0 about1 = true := by
  rw [codes_eq]
  intro c hc
  simp only [codes1, List.mem_cons, List.not_mem_nil, or_false] at hc
  rcases hc with rfl | rfl | rfl
  · exact w_c0
  · exact w_c1
  · exact w_c2
set_option maxRecDepth 65536 in
theorem w_t1 : words1.all (fun c => isCode c || c.before args0 about1) = true := by decide +kernel
theorem w_tables : (allAtoms (Jvm.Cond.code x code maxLocals ret :: tables_1)).before args0 about1 = true := by
  rw [allAtoms_all]
  show words1.all (fun c => c.before args0 about1) = true
  refine all_split ?_ w_codes
  rw [w_t1]
set_option maxRecDepth 65536 in
theorem w_case : (Jvm.Cond.and given_1 narrow_1).before args0 about1 = true := by decide +kernel
theorem w_applies : (headSpec (Jvm.Cond.code x code maxLocals ret :: tables_1) room_1).applies x e0.platform about1 = true :=
  (Spec.applies_iff w_frames).mpr ⟨w_running, w_runnable, w_alone, w_named, w_hears, w_ripe, w_room, w_tables⟩
theorem atStart : AtStart classFile x code maxLocals ret World_1 tables_1 room_1 Calls_1 rest_1 Pre_1 launch0 p0 e0 about1 theMethod args0 below0 :=
  ⟨lists_1, trivial, launch0.admits_env _ _ _, launch0.least_env, fairChoices_fair.cas, fairChoices_fair.clock, w_frames, w_args, w_heap, w_applies, trivial, trivial, w_case⟩
end start1
theorem witness_1 : WitnessClaimed_1 := ⟨start1.p0, start1.e0, start1.about1, start1.theMethod, start1.args0, start1.below0, start1.atStart⟩
end Jvm.Pilot.@@N@@
