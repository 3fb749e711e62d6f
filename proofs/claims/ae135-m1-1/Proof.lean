import JvmDerived
import JvmDerived.Pilot.@@N@@Statement
import JvmDerived.Pilot.@@N@@Code
set_option linter.unusedVariables false
set_option linter.unusedSimpArgs false
namespace Jvm.RoadKit
open Sem ClassFile Op Lib Jvm.Stand Jvm.Free Jvm.LawKit
section New
variable {p : Program} {l : Launch} {e : Env} {R : Room} {s : State} {m : MethodId} {args : Array Value} {below : List Frame} {meth : Method} {c : Code} {T : State} {locs : List Loc} {cells slots : Nat}
theorem retI (X : Stand p l e R s m args below meth c T locs cells slots) (hx : p.tables.exec = Jvm.exec) {pc : Nat} {Ls : Array Slot} {z : Int32} {rest : List Value} (hret : meth.sig.returnType = some .int) (hd : decode c.code pc = .ok (.ireturn, 1)) {fs : List Frame}
    (hl : ∀ (f : JFrame) (acts : List Action), f.method = m → f.locked = none → f.entered = [] → (doReturn e (T.setTop f) acts (some (.int z))).1 = T.setFrames fs) : Steps p.tables e below (T.setTop (mkF m pc Ls (.int z :: rest))) (T.setFrames fs) := by
  have hm' : T.vm.method? m = some meth := X.method'
  have hn : narrow .int (.int z) = .int z := rfl
  show Steps p.tables e below (T.setTop { method := m, pc := pc, locals := Ls, stack := _ :: rest, locked := none }) _
  jvm_step X.here [X.here.top, hx, hd, hm', hret, hn]
  first | (intro acts; rw [hl _ acts rfl rfl rfl]) | rw [hl _ _ rfl rfl rfl]
  exact Steps.refl _
end New
end Jvm.RoadKit
namespace Jvm.Pilot.@@N@@
open Jvm Jvm.ClassFile Sem Op Lib Jvm.Free Jvm.Stand Jvm.LawKit Jvm.RoadKit Bundle Jvm.Pilot.@@N@@.Jvm.D
/-- from u the invocation ends, and what it returns and leaves is as Q says -/
def Ends (p : Program) (e : Env) (below : List Frame) (s : State) (kc ks : Nat) (Q : Option Value → Heap → List Loc → Prop) (u : State) : Prop :=
  ∃ s₂ o, Steps p.tables e below u s₂ ∧ s₂.status = .running ∧ Ended s₂ below o ∧ ∃ v L, o = .returned v ∧ Q v s₂.heap L ∧ FrameEnd s o s₂ L kc ks
theorem Ends.via {p : Program} {e : Env} {below : List Frame} {s : State} {kc ks : Nat} {Q : Option Value → Heap → List Loc → Prop} {A B : State} (h : ∀ t, Steps p.tables e below A t → Steps p.tables e below B t) (k : Ends p e below s kc ks Q A) : Ends p e below s kc ks Q B := by
  obtain ⟨s₂, o, h1, r⟩ := k
  exact ⟨s₂, o, h _ h1, r⟩
theorem Ends.ret {p : Program} {l : Launch} {e : Env} {R : Room} {s : State} {m : MethodId} {args : Array Value} {below : List Frame} {meth : Method} {c : Code} {T : State} {locs : List Loc} {cells slots kc ks : Nat} {Q : Option Value → Heap → List Loc → Prop} {u : State}
    (X : Stand p l e R s m args below meth c T locs cells slots) {v : Option Value} (hv : meth.sig.returnType = none → v = none) (hlocks : meth.locks = false)
    (hst : ∀ fs, (∀ (f : JFrame) (acts : List Action), f.method = m → f.locked = none → f.entered = [] → (doReturn e (T.setTop f) acts v).1 = T.setFrames fs) → Steps p.tables e below u (T.setFrames fs))
    (hQ : Q v T.heap locs) (h1 : cells ≤ kc) (h2 : slots ≤ ks) : Ends p e below s kc ks Q u := by
  obtain ⟨fs, hr, hrun, hended, hW, hsame⟩ := X.leave (v := v) hv hlocks
  exact ⟨_, _, hst fs hr, hrun, hended, _, _, rfl, hQ, ⟨_, rfl⟩, hW, hsame.mono h1 h2⟩

theorem own_pd0 : parseMethodDescriptor "(J)J" = some ⟨[.long], some .long⟩ := by decide +kernel
theorem d1_0 : decode prog_24_method_3_code 0 = .ok (.lload_n 0, 1) := by decide +kernel
theorem d1_1 : decode prog_24_method_3_code 1 = .ok (.lconst 0, 1) := by decide +kernel
theorem d1_2 : decode prog_24_method_3_code 2 = .ok (.lcmp, 1) := by decide +kernel
theorem d1_3 : decode prog_24_method_3_code 3 = .ok (.ifCond .lt 8, 3) := by decide +kernel
theorem d1_6 : decode prog_24_method_3_code 6 = .ok (.lload_n 0, 1) := by decide +kernel
theorem d1_7 : decode prog_24_method_3_code 7 = .ok (.lstore_n 2, 1) := by decide +kernel
theorem d1_8 : decode prog_24_method_3_code 8 = .ok (.goto 22, 3) := by decide +kernel
theorem d1_11 : decode prog_24_method_3_code 11 = .ok (.lload_n 0, 1) := by decide +kernel
theorem d1_12 : decode prog_24_method_3_code 12 = .ok (.ldc2_w 59, 3) := by decide +kernel
theorem d1_15 : decode prog_24_method_3_code 15 = .ok (.lcmp, 1) := by decide +kernel
theorem d1_16 : decode prog_24_method_3_code 16 = .ok (.ifCond .ne 8, 3) := by decide +kernel
theorem d1_19 : decode prog_24_method_3_code 19 = .ok (.lconst 0, 1) := by decide +kernel
theorem d1_20 : decode prog_24_method_3_code 20 = .ok (.lstore_n 2, 1) := by decide +kernel
theorem d1_21 : decode prog_24_method_3_code 21 = .ok (.goto 9, 3) := by decide +kernel
theorem d1_24 : decode prog_24_method_3_code 24 = .ok (.lload_n 0, 1) := by decide +kernel
theorem d1_25 : decode prog_24_method_3_code 25 = .ok (.ldc2_w 61, 3) := by decide +kernel
theorem d1_28 : decode prog_24_method_3_code 28 = .ok (.lxor, 1) := by decide +kernel
theorem d1_29 : decode prog_24_method_3_code 29 = .ok (.lstore_n 2, 1) := by decide +kernel
theorem d1_30 : decode prog_24_method_3_code 30 = .ok (.lload_n 2, 1) := by decide +kernel
theorem d1_31 : decode prog_24_method_3_code 31 = .ok (.lreturn, 1) := by decide +kernel
theorem pn_1 : plainName "com/example/cordon/cordon/trusted/Tally" = true := by first | (simp [plainName, overriddenIn]; done) | decide +kernel
theorem ef_1 (m : MethodId) (q0 : Int64) : entryFrame m #[(.long q0)] 4 = mkF m 0 #[.val (.long q0), .second, .unset, .unset] [] := by first | (simp [entryFrame, mkF, argsToLocals, Value.category]; done) | rfl
def fn1 (q0 : Int64) : Int64 := (let v4 : Int64 := (if q0 < (0 : Int64) then (if q0 = (-9223372036854775808 : Int64) then (0 : Int64) else (q0 ^^^ (-1 : Int64))) else q0); v4)
abbrev ROOM1 : Room := { frames := 0, cells := 0, slots := 0, locals := 0 }
def Q1 (Z : State) (q0 : Int64)  (h0 : Heap) (n0 : Nat) (v : Option Value) (h : Heap) (L : List Loc) : Prop := v = some (.long (fn1 q0)) ∧ Fr n0 L ∧ h = h0
set_option maxRecDepth 65536 in
set_option maxHeartbeats 40000000 in
theorem rm1 (l : Launch) (Z : State) (a0 : Array Value) (hw : ∀ d ∈ tables_1, d.before a0 Z = true) (ws : List Jvm.Cond) (q0 : Int64)  (h0 : Heap) (n0 : Nat) (Z0 : n0 ≤ h0.size)  :
    MetFree l (⟨"com/example/cordon/cordon/trusted/Tally", "share", "(J)J"⟩ : MethodName) (head1 (Jvm.Cond.code (⟨"com/example/cordon/cordon/trusted/Tally", "share", "(J)J"⟩ : MethodName) prog_24_method_3_code 4 (some .long) :: ws) ROOM1) (fun a U => a = #[(.long q0)] ∧ Z.Warmed39 U.vm ∧ U.heap = h0) (fun _ _ _ _ _ => True) (fun _ U o U' => ∃ v L, o = .returned v ∧ Q1 Z q0  h0 n0 v U'.heap L ∧ FrameEnd U o U' L ROOM1.cells ROOM1.slots) := by
  refine MetFree.of_bodySF (plainFor_of_name pn_1) hisR ?_
  intro p e s m args below meth c s₁ Bd hml0 hP hK
  obtain ⟨rfl, hZ, hh⟩ := hP
  have hx := Bd.exec
  have hby := Bd.bytes
  have hml : c.maxLocals = 4 := hml0
  have hown : s.vm.findClass "com/example/cordon/cordon/trusted/Tally" = some m.cls := findClass_of_methodNamed Bd.named
  have hnm := (name_of_methodNamed Bd.named Bd.method).1
  have X0 : Stand p l e ROOM1 s m #[(.long q0)] below meth c s₁ [] 0 0 := Stand.of_body Bd
  have e0 : s₁.heap = h0 := by rw [← hh, Bd.state]; rfl
  have N0 := Fr.nil n0
  refine Ends.via (A := s₁.setTop (mkF m 0 #[.val (.long q0), .second, .unset, .unset] [])) (kc := ROOM1.cells) (ks := ROOM1.slots) (Q := (Q1 Z q0  h0 n0)) (fun t k => castTop (ef_1 m q0) k) ?_
  show Ends p e below s ROOM1.cells ROOM1.slots (Q1 Z q0  h0 n0) (s₁.setTop (mkF m 0 #[.val (.long q0), .second, .unset, .unset] []))
  refine Ends.via (fun _ k => XS.lloadN X0.here hx rfl (hb hby d1_0) rfl k) ?_
  show Ends p e below s ROOM1.cells ROOM1.slots (Q1 Z q0  h0 n0) (s₁.setTop (mkF m 1 #[.val (.long q0), .second, .unset, .unset] [(.long q0)]))
  refine Ends.via (fun _ k => XS.lconst X0.here hx rfl (hb hby d1_1) k) ?_
  show Ends p e below s ROOM1.cells ROOM1.slots (Q1 Z q0  h0 n0) (s₁.setTop (mkF m 2 #[.val (.long q0), .second, .unset, .unset] [(.long (0 : Int64)), (.long q0)]))
  refine Ends.via (fun _ k => XS.lcmp X0.here hx rfl (hb hby d1_2) rfl k) ?_
  show Ends p e below s ROOM1.cells ROOM1.slots (Q1 Z q0  h0 n0) (s₁.setTop (mkF m 3 #[.val (.long q0), .second, .unset, .unset] [(.int (lcmpW q0 (0 : Int64)))]))
  have J5 : ∀ (Tj5 : State) (Lj5 : List Loc) (Xj5 : Stand p l e ROOM1 s m #[(.long q0)] below meth c Tj5 Lj5 0 0) (ej5 : Tj5.heap = h0) (Nj5 : Fr n0 Lj5) (v4 : Int64), (if q0 < (0 : Int64) then (if q0 = (-9223372036854775808 : Int64) then (0 : Int64) else (q0 ^^^ (-1 : Int64))) else q0) = v4 → Ends p e below s ROOM1.cells ROOM1.slots (Q1 Z q0  h0 n0) (Tj5.setTop (mkF m 30 #[.val (.long q0), .second, .val (.long v4), .second] [])) := by
    intro Tj5 Lj5 Xj5 ej5 Nj5 v4 hv4
    refine Ends.via (fun _ k => XS.lloadN Xj5.here hx rfl (hb hby d1_30) rfl k) ?_
    show Ends p e below s ROOM1.cells ROOM1.slots (Q1 Z q0  h0 n0) (Tj5.setTop (mkF m 31 #[.val (.long q0), .second, .val (.long v4), .second] [(.long v4)]))
    refine Ends.ret Xj5 (v := some (.long v4)) (fun h => by rw [Bd.returns] at h; cases h) Bd.notSynchronized (fun fs hr => retOut Xj5 hx Bd.returns rfl (Or.inr (Or.inl ⟨rfl, rfl, _, rfl⟩)) (hb hby d1_31) hr) ?_ (by decide) (by decide)
    have hfn : fn1 q0 = v4 := by subst hv4; simp only [fn1]
    exact ⟨by rw [hfn], Nj5, ej5⟩
  by_cases hc6 : q0 < (0 : Int64)
  · refine Ends.via (fun _ k => XS.ifYes X0.here hx rfl (pc0 := 3) (pc' := 11) rfl (hb hby d1_3) rfl ((if0 _ _).trans (tlt ((lw_lt _ _).mpr hc6)).1) (by decide) (by decide) k) ?_
    show Ends p e below s ROOM1.cells ROOM1.slots (Q1 Z q0  h0 n0) (s₁.setTop (mkF m 11 #[.val (.long q0), .second, .unset, .unset] []))
    refine Ends.via (fun _ k => XS.lloadN X0.here hx rfl (hb hby d1_11) rfl k) ?_
    show Ends p e below s ROOM1.cells ROOM1.slots (Q1 Z q0  h0 n0) (s₁.setTop (mkF m 12 #[.val (.long q0), .second, .unset, .unset] [(.long q0)]))
    refine Ends.via (X0.ldc2Long hx hown (mvT hZ (hw _ (List.mem_of_getElem? (i := 6) rfl))) (g := (mkF m 12 #[.val (.long q0), .second, .unset, .unset] [(.long q0)])) rfl (hb hby d1_12)) ?_
    show Ends p e below s ROOM1.cells ROOM1.slots (Q1 Z q0  h0 n0) (s₁.setTop (mkF m 15 #[.val (.long q0), .second, .unset, .unset] [(.long (-9223372036854775808 : Int64)), (.long q0)]))
    refine Ends.via (fun _ k => XS.lcmp X0.here hx rfl (hb hby d1_15) rfl k) ?_
    show Ends p e below s ROOM1.cells ROOM1.slots (Q1 Z q0  h0 n0) (s₁.setTop (mkF m 16 #[.val (.long q0), .second, .unset, .unset] [(.int (lcmpW q0 (-9223372036854775808 : Int64)))]))
    by_cases hc7 : q0 = (-9223372036854775808 : Int64)
    · refine Ends.via (fun _ k => XS.ifNo X0.here hx rfl (hb hby d1_16) rfl ((if0 _ _).trans (teq ((lw_eq _ _).mpr hc7)).2) k) ?_
      show Ends p e below s ROOM1.cells ROOM1.slots (Q1 Z q0  h0 n0) (s₁.setTop (mkF m 19 #[.val (.long q0), .second, .unset, .unset] []))
      refine Ends.via (fun _ k => XS.lconst X0.here hx rfl (hb hby d1_19) k) ?_
      show Ends p e below s ROOM1.cells ROOM1.slots (Q1 Z q0  h0 n0) (s₁.setTop (mkF m 20 #[.val (.long q0), .second, .unset, .unset] [(.long (0 : Int64))]))
      refine Ends.via (fun _ k => XS.lstoreN X0.here hx rfl (hb hby d1_20) rfl (l' := #[.val (.long q0), .second, .val (.long (0 : Int64)), .second]) rfl k) ?_
      show Ends p e below s ROOM1.cells ROOM1.slots (Q1 Z q0  h0 n0) (s₁.setTop (mkF m 21 #[.val (.long q0), .second, .val (.long (0 : Int64)), .second] []))
      refine Ends.via (fun _ k => XS.goto X0.here hx rfl (pc0 := 21) (pc' := 30) rfl (hb hby d1_21) (by decide) (by decide) k) ?_
      show Ends p e below s ROOM1.cells ROOM1.slots (Q1 Z q0  h0 n0) (s₁.setTop (mkF m 30 #[.val (.long q0), .second, .val (.long (0 : Int64)), .second] []))
      exact J5 s₁ _ X0 e0 N0 (0 : Int64) (by first | rfl | simp only [if_pos hc6, if_pos hc7])
    · refine Ends.via (fun _ k => XS.ifYes X0.here hx rfl (pc0 := 16) (pc' := 24) rfl (hb hby d1_16) rfl ((if0 _ _).trans (feq (mt (lw_eq _ _).mp hc7)).2) (by decide) (by decide) k) ?_
      show Ends p e below s ROOM1.cells ROOM1.slots (Q1 Z q0  h0 n0) (s₁.setTop (mkF m 24 #[.val (.long q0), .second, .unset, .unset] []))
      refine Ends.via (fun _ k => XS.lloadN X0.here hx rfl (hb hby d1_24) rfl k) ?_
      show Ends p e below s ROOM1.cells ROOM1.slots (Q1 Z q0  h0 n0) (s₁.setTop (mkF m 25 #[.val (.long q0), .second, .unset, .unset] [(.long q0)]))
      refine Ends.via (X0.ldc2Long hx hown (mvT hZ (hw _ (List.mem_of_getElem? (i := 7) rfl))) (g := (mkF m 25 #[.val (.long q0), .second, .unset, .unset] [(.long q0)])) rfl (hb hby d1_25)) ?_
      show Ends p e below s ROOM1.cells ROOM1.slots (Q1 Z q0  h0 n0) (s₁.setTop (mkF m 28 #[.val (.long q0), .second, .unset, .unset] [(.long (-1 : Int64)), (.long q0)]))
      refine Ends.via (fun _ k => XS.lxor X0.here hx rfl (hb hby d1_28) rfl k) ?_
      show Ends p e below s ROOM1.cells ROOM1.slots (Q1 Z q0  h0 n0) (s₁.setTop (mkF m 29 #[.val (.long q0), .second, .unset, .unset] [(.long (q0 ^^^ (-1 : Int64)))]))
      refine Ends.via (fun _ k => XS.lstoreN X0.here hx rfl (hb hby d1_29) rfl (l' := #[.val (.long q0), .second, .val (.long (q0 ^^^ (-1 : Int64))), .second]) rfl k) ?_
      show Ends p e below s ROOM1.cells ROOM1.slots (Q1 Z q0  h0 n0) (s₁.setTop (mkF m 30 #[.val (.long q0), .second, .val (.long (q0 ^^^ (-1 : Int64))), .second] []))
      exact J5 s₁ _ X0 e0 N0 (q0 ^^^ (-1 : Int64)) (by first | rfl | simp only [if_pos hc6, if_neg hc7])
  · refine Ends.via (fun _ k => XS.ifNo X0.here hx rfl (hb hby d1_3) rfl ((if0 _ _).trans (flt (mt (lw_lt _ _).mp hc6)).1) k) ?_
    show Ends p e below s ROOM1.cells ROOM1.slots (Q1 Z q0  h0 n0) (s₁.setTop (mkF m 6 #[.val (.long q0), .second, .unset, .unset] []))
    refine Ends.via (fun _ k => XS.lloadN X0.here hx rfl (hb hby d1_6) rfl k) ?_
    show Ends p e below s ROOM1.cells ROOM1.slots (Q1 Z q0  h0 n0) (s₁.setTop (mkF m 7 #[.val (.long q0), .second, .unset, .unset] [(.long q0)]))
    refine Ends.via (fun _ k => XS.lstoreN X0.here hx rfl (hb hby d1_7) rfl (l' := #[.val (.long q0), .second, .val (.long q0), .second]) rfl k) ?_
    show Ends p e below s ROOM1.cells ROOM1.slots (Q1 Z q0  h0 n0) (s₁.setTop (mkF m 8 #[.val (.long q0), .second, .val (.long q0), .second] []))
    refine Ends.via (fun _ k => XS.goto X0.here hx rfl (pc0 := 8) (pc' := 30) rfl (hb hby d1_8) (by decide) (by decide) k) ?_
    show Ends p e below s ROOM1.cells ROOM1.slots (Q1 Z q0  h0 n0) (s₁.setTop (mkF m 30 #[.val (.long q0), .second, .val (.long q0), .second] []))
    exact J5 s₁ _ X0 e0 N0 q0 (by first | rfl | simp only [if_neg hc6])
theorem own_lnot (x : Int64) : (x ^^^ (-1 : Int64)).toInt = -1 - x.toInt := by
  have e1 : (x ^^^ (-1 : Int64)) = ~~~x := by
    apply Int64.toBitVec_inj.mp; rw [Int64.toBitVec_xor, Int64.toBitVec_not]
    show x.toBitVec ^^^ BitVec.allOnes 64 = _
    rw [BitVec.xor_allOnes]
  have e2 : (~~~x).toInt = (~~~x.toBitVec).toInt := by rw [← Int64.toBitVec_not]; rfl
  rw [e1, e2, BitVec.toInt_not]
  have e3 : x.toInt = x.toBitVec.toInt := rfl
  have := BitVec.toInt_eq_toNat_cond x.toBitVec
  have h4 := x.toBitVec.isLt
  have := bm64 (2 ^ 64 - 1 - x.toBitVec.toNat)
  have r := rng64 x
  have : -2 ^ 63 ≤ ((2 ^ 64 - 1 - (x.toBitVec.toNat : Int)).bmod (2 ^ 64)) ∧ ((2 ^ 64 - 1 - (x.toBitVec.toNat : Int)).bmod (2 ^ 64)) < 2 ^ 63 := ⟨Int.le_bmod (by decide), Int.bmod_lt (by decide)⟩
  split at * <;> omega
theorem own_lnn (x : Int64) : (x ^^^ (-1 : Int64)) ^^^ (-1 : Int64) = x := by rw [Int64.xor_assoc, Int64.xor_self, Int64.xor_zero]
theorem own_max (q0 v1 : Int64) (hv1 : (q0 &&& (9223372036854775807 : Int64)) = v1) : 0 ≤ v1.toInt := by
  have := c_maskL q0 9223372036854775807 63 (by decide) (by decide)
  rw [hv1] at this; omega
theorem own_share (x : Int64) (h : 0 ≤ x.toInt) : fn1 x = x := by
  simp only [fn1, Int64.lt_iff_toInt_lt]
  rw [if_neg]
  have : (0 : Int64).toInt = 0 := rfl
  omega
theorem own_mark (x : Int64) (h : 0 ≤ x.toInt) : fn1 (x ^^^ (-1 : Int64)) = if x = 9223372036854775807 then 0 else x := by
  have e0 : (0 : Int64).toInt = 0 := rfl
  have e1 := own_lnot x
  simp only [fn1, Int64.lt_iff_toInt_lt]
  rw [if_pos (by omega)]
  by_cases hx : x = 9223372036854775807
  · subst hx; decide
  · rw [if_neg hx, if_neg, own_lnn]
    intro h2
    have h3 := congrArg Int64.toInt h2
    have e2 : (-9223372036854775808 : Int64).toInt = -9223372036854775808 := rfl
    apply hx; apply Int64.toInt_inj.mp
    have e3 : (9223372036854775807 : Int64).toInt = 9223372036854775807 := rfl
    omega
theorem own_leaf1 (q0 : Int64) (v1 : Int64) (v10 : Int64) (v12 : Int32) (v18 : Int32) (hv1 : (q0 &&& (9223372036854775807 : Int64)) = v1) (hv10 : (fn1 (v1 ^^^ (-1 : Int64))) = v10) (hv12 : (if (fn1 v1) = v1 then (1 : Int32) else (0 : Int32)) = v12) (hv18 : (if v1 = (9223372036854775807 : Int64) then (if v10 = (0 : Int64) then (if (v1 ^^^ (-1 : Int64)) = (-9223372036854775808 : Int64) then (1 : Int32) else (0 : Int32)) else (0 : Int32)) else (if v10 = v1 then (1 : Int32) else (0 : Int32))) = v18) (hc20 : v12 = (0 : Int32)) : False := by
    rw [if_pos (own_share v1 (own_max q0 v1 hv1))] at hv12
    subst hv12; exact absurd hc20 (by decide)
theorem own_leaf2 (q0 : Int64) (v1 : Int64) (v10 : Int64) (v12 : Int32) (v18 : Int32) (hv1 : (q0 &&& (9223372036854775807 : Int64)) = v1) (hv10 : (fn1 (v1 ^^^ (-1 : Int64))) = v10) (hv12 : (if (fn1 v1) = v1 then (1 : Int32) else (0 : Int32)) = v12) (hv18 : (if v1 = (9223372036854775807 : Int64) then (if v10 = (0 : Int64) then (if (v1 ^^^ (-1 : Int64)) = (-9223372036854775808 : Int64) then (1 : Int32) else (0 : Int32)) else (0 : Int32)) else (if v10 = v1 then (1 : Int32) else (0 : Int32))) = v18) (hc20 : ¬ (v12 = (0 : Int32))) (hc21 : v18 = (0 : Int32)) : False := by
    rw [own_mark v1 (own_max q0 v1 hv1)] at hv10
    by_cases hx : v1 = 9223372036854775807
    · rw [if_pos hx] at hv10 hv18
      subst hv10; rw [if_pos rfl, if_pos (by rw [hx]; decide)] at hv18
      subst hv18; exact absurd hc21 (by decide)
    · rw [if_neg hx] at hv10 hv18
      rw [if_pos hv10.symm] at hv18
      subst hv18; exact absurd hc21 (by decide)
theorem pn_0 : plainName "com/example/cordon/cordon/trusted/TallySharePinLaw" = true := by first | (simp [plainName, overriddenIn]; done) | decide +kernel
theorem ef_0 (m : MethodId) (q0 : Int64) : entryFrame m #[(.long q0)] maxLocals = mkF m 0 #[.val (.long q0), .second, .unset, .unset, .unset, .unset, .unset, .unset, .unset, .unset] [] := by first | (simp [entryFrame, mkF, argsToLocals, Value.category, maxLocals]; done) | rfl
def Q0 (Z : State) (q0 : Int64)  (h0 : Heap) (n0 : Nat) (v : Option Value) (h : Heap) (L : List Loc) : Prop := v = some (.int 1) ∧ Fr n0 L
set_option maxRecDepth 65536 in
set_option maxHeartbeats 40000000 in
theorem rm0 (l : Launch) (Z : State) (a0 : Array Value) (hw : ∀ d ∈ tables_1, d.before a0 Z = true) (ws : List Jvm.Cond) (q0 : Int64)  (h0 : Heap) (n0 : Nat) (Z0 : n0 ≤ h0.size)  :
    MetFree l x (head1 (Jvm.Cond.code x code maxLocals ret :: ws) room_1) (fun a U => a = #[(.long q0)] ∧ Z.Warmed39 U.vm ∧ U.heap = h0) (fun _ _ _ _ _ => True) (fun _ U o U' => ∃ v L, o = .returned v ∧ Q0 Z q0  h0 n0 v U'.heap L ∧ FrameEnd U o U' L 0 0) := by
  refine MetFree.of_bodySF (plainFor_of_name pn_0) hisR ?_
  intro p e s m args below meth c s₁ Bd hml0 hP hK
  obtain ⟨rfl, hZ, hh⟩ := hP
  have hx := Bd.exec
  have hby := Bd.bytes
  have hml : c.maxLocals = 10 := hml0
  have hown : s.vm.findClass "com/example/cordon/cordon/trusted/TallySharePinLaw" = some m.cls := findClass_of_methodNamed Bd.named
  have hnm := (name_of_methodNamed Bd.named Bd.method).1
  have X0 : Stand p l e room_1 s m #[(.long q0)] below meth c s₁ [] 0 0 := Stand.of_body Bd
  have e0 : s₁.heap = h0 := by rw [← hh, Bd.state]; rfl
  have N0 := Fr.nil n0
  refine Ends.via (A := s₁.setTop (mkF m 0 #[.val (.long q0), .second, .unset, .unset, .unset, .unset, .unset, .unset, .unset, .unset] [])) (kc := 0) (ks := 0) (Q := (Q0 Z q0  h0 n0)) (fun t k => castTop (ef_0 m q0) k) ?_
  show Ends p e below s 0 0 (Q0 Z q0  h0 n0) (s₁.setTop (mkF m 0 #[.val (.long q0), .second, .unset, .unset, .unset, .unset, .unset, .unset, .unset, .unset] []))
  refine Ends.via (fun _ k => XS.lloadN X0.here hx rfl (hb hby at_0) rfl k) ?_
  show Ends p e below s 0 0 (Q0 Z q0  h0 n0) (s₁.setTop (mkF m 1 #[.val (.long q0), .second, .unset, .unset, .unset, .unset, .unset, .unset, .unset, .unset] [(.long q0)]))
  refine Ends.via (X0.ldc2Long hx hown (mvT hZ (hw _ (List.mem_of_getElem? (i := 0) rfl))) (g := (mkF m 1 #[.val (.long q0), .second, .unset, .unset, .unset, .unset, .unset, .unset, .unset, .unset] [(.long q0)])) rfl (hb hby at_1)) ?_
  show Ends p e below s 0 0 (Q0 Z q0  h0 n0) (s₁.setTop (mkF m 4 #[.val (.long q0), .second, .unset, .unset, .unset, .unset, .unset, .unset, .unset, .unset] [(.long (9223372036854775807 : Int64)), (.long q0)]))
  refine Ends.via (fun _ k => XS.land X0.here hx rfl (hb hby at_4) rfl k) ?_
  show Ends p e below s 0 0 (Q0 Z q0  h0 n0) (s₁.setTop (mkF m 5 #[.val (.long q0), .second, .unset, .unset, .unset, .unset, .unset, .unset, .unset, .unset] [(.long (q0 &&& (9223372036854775807 : Int64)))]))
  refine Ends.via (fun _ k => XS.lstoreN X0.here hx rfl (hb hby at_5) rfl (l' := #[.val (.long q0), .second, .val (.long (q0 &&& (9223372036854775807 : Int64))), .second, .unset, .unset, .unset, .unset, .unset, .unset]) rfl k) ?_
  show Ends p e below s 0 0 (Q0 Z q0  h0 n0) (s₁.setTop (mkF m 6 #[.val (.long q0), .second, .val (.long (q0 &&& (9223372036854775807 : Int64))), .second, .unset, .unset, .unset, .unset, .unset, .unset] []))
  generalize hv1 : (q0 &&& (9223372036854775807 : Int64)) = v1
  refine Ends.via (fun _ k => XS.lloadN X0.here hx rfl (hb hby at_6) rfl k) ?_
  show Ends p e below s 0 0 (Q0 Z q0  h0 n0) (s₁.setTop (mkF m 7 #[.val (.long q0), .second, .val (.long v1), .second, .unset, .unset, .unset, .unset, .unset, .unset] [(.long v1)]))
  obtain ⟨_, _, ⟨T8, L8, k8, n8⟩, -, X8, ⟨Lc8, hQ8, l8, y8, z8⟩, st8⟩ := Jvm.LawKit.callS X0 hx (y := (⟨"com/example/cordon/cordon/trusted/Tally", "share", "(J)J"⟩ : MethodName)) hown (mvT hZ (hw _ (List.mem_of_getElem? (i := 1) rfl))) (mvT hZ (hw _ (List.mem_of_getElem? (i := 2) rfl))) (mvT hZ (hw _ (List.mem_of_getElem? (i := 3) rfl))) (mvT hZ (hw _ (List.mem_of_getElem? (i := 4) rfl))) (by decide) (backOf (W := 0) (rm1 l Z a0 hw [] v1 h0 n0 Z0) hZ (hw _ (List.mem_of_getElem? (i := 4) rfl)) (hw _ (List.mem_of_getElem? (i := 3) rfl)) (by decide) (by decide)) (g := (mkF m 7 #[.val (.long q0), .second, .val (.long v1), .second, .unset, .unset, .unset, .unset, .unset, .unset] [(.long v1)])) rfl (by rw [hml]; rfl) (argsL := [(.long v1)]) (rest := []) (lenOf own_pd0 rfl) rfl (by show 2 * 0 + _ ≤ _; exact Nat.le_of_eq rfl) (hb hby at_7) (fun _ _ => ⟨rfl, e0, (by decide : 0 + 0 ≤ _), (by decide : 0 + 0 ≤ _)⟩)
  dsimp only [Pt.U, Pt.locs, Pt.cells, Pt.slots] at X8 l8 y8 z8 st8 hQ8
  subst l8 y8 z8
  obtain ⟨rfl, Nq8, e8⟩ := hQ8
  have N8 := Fr.app N0 Nq8
  refine Ends.via st8 ?_
  show Ends p e below s 0 0 (Q0 Z q0  h0 n0) (T8.setTop (mkF m 10 #[.val (.long q0), .second, .val (.long v1), .second, .unset, .unset, .unset, .unset, .unset, .unset] [(.long (fn1 v1))]))
  refine Ends.via (fun _ k => XS.lstore X8.here hx rfl (hb hby at_10) rfl (l' := #[.val (.long q0), .second, .val (.long v1), .second, .val (.long (fn1 v1)), .second, .unset, .unset, .unset, .unset]) rfl k) ?_
  show Ends p e below s 0 0 (Q0 Z q0  h0 n0) (T8.setTop (mkF m 12 #[.val (.long q0), .second, .val (.long v1), .second, .val (.long (fn1 v1)), .second, .unset, .unset, .unset, .unset] []))
  refine Ends.via (fun _ k => XS.lloadN X8.here hx rfl (hb hby at_12) rfl k) ?_
  show Ends p e below s 0 0 (Q0 Z q0  h0 n0) (T8.setTop (mkF m 13 #[.val (.long q0), .second, .val (.long v1), .second, .val (.long (fn1 v1)), .second, .unset, .unset, .unset, .unset] [(.long v1)]))
  refine Ends.via (X8.ldc2Long hx hown (mvT hZ (hw _ (List.mem_of_getElem? (i := 5) rfl))) (g := (mkF m 13 #[.val (.long q0), .second, .val (.long v1), .second, .val (.long (fn1 v1)), .second, .unset, .unset, .unset, .unset] [(.long v1)])) rfl (hb hby at_13)) ?_
  show Ends p e below s 0 0 (Q0 Z q0  h0 n0) (T8.setTop (mkF m 16 #[.val (.long q0), .second, .val (.long v1), .second, .val (.long (fn1 v1)), .second, .unset, .unset, .unset, .unset] [(.long (-1 : Int64)), (.long v1)]))
  refine Ends.via (fun _ k => XS.lxor X8.here hx rfl (hb hby at_16) rfl k) ?_
  show Ends p e below s 0 0 (Q0 Z q0  h0 n0) (T8.setTop (mkF m 17 #[.val (.long q0), .second, .val (.long v1), .second, .val (.long (fn1 v1)), .second, .unset, .unset, .unset, .unset] [(.long (v1 ^^^ (-1 : Int64)))]))
  obtain ⟨_, _, ⟨T9, L9, k9, n9⟩, -, X9, ⟨Lc9, hQ9, l9, y9, z9⟩, st9⟩ := Jvm.LawKit.callS X8 hx (y := (⟨"com/example/cordon/cordon/trusted/Tally", "share", "(J)J"⟩ : MethodName)) hown (mvT hZ (hw _ (List.mem_of_getElem? (i := 1) rfl))) (mvT hZ (hw _ (List.mem_of_getElem? (i := 2) rfl))) (mvT hZ (hw _ (List.mem_of_getElem? (i := 3) rfl))) (mvT hZ (hw _ (List.mem_of_getElem? (i := 4) rfl))) (by decide) (backOf (W := 0) (rm1 l Z a0 hw [] (v1 ^^^ (-1 : Int64)) h0 n0 Z0) hZ (hw _ (List.mem_of_getElem? (i := 4) rfl)) (hw _ (List.mem_of_getElem? (i := 3) rfl)) (by decide) (by decide)) (g := (mkF m 17 #[.val (.long q0), .second, .val (.long v1), .second, .val (.long (fn1 v1)), .second, .unset, .unset, .unset, .unset] [(.long (v1 ^^^ (-1 : Int64)))])) rfl (by rw [hml]; rfl) (argsL := [(.long (v1 ^^^ (-1 : Int64)))]) (rest := []) (lenOf own_pd0 rfl) rfl (by show 2 * 0 + _ ≤ _; exact Nat.le_of_eq rfl) (hb hby at_17) (fun _ _ => ⟨rfl, e8, (by decide : 0 + 0 ≤ _), (by decide : 0 + 0 ≤ _)⟩)
  dsimp only [Pt.U, Pt.locs, Pt.cells, Pt.slots] at X9 l9 y9 z9 st9 hQ9
  subst l9 y9 z9
  obtain ⟨rfl, Nq9, e9⟩ := hQ9
  have N9 := Fr.app N8 Nq9
  refine Ends.via st9 ?_
  show Ends p e below s 0 0 (Q0 Z q0  h0 n0) (T9.setTop (mkF m 20 #[.val (.long q0), .second, .val (.long v1), .second, .val (.long (fn1 v1)), .second, .unset, .unset, .unset, .unset] [(.long (fn1 (v1 ^^^ (-1 : Int64))))]))
  refine Ends.via (fun _ k => XS.lstore X9.here hx rfl (hb hby at_20) rfl (l' := #[.val (.long q0), .second, .val (.long v1), .second, .val (.long (fn1 v1)), .second, .val (.long (fn1 (v1 ^^^ (-1 : Int64)))), .second, .unset, .unset]) rfl k) ?_
  show Ends p e below s 0 0 (Q0 Z q0  h0 n0) (T9.setTop (mkF m 22 #[.val (.long q0), .second, .val (.long v1), .second, .val (.long (fn1 v1)), .second, .val (.long (fn1 (v1 ^^^ (-1 : Int64)))), .second, .unset, .unset] []))
  generalize hv10 : (fn1 (v1 ^^^ (-1 : Int64))) = v10
  refine Ends.via (fun _ k => XS.lload X9.here hx rfl (hb hby at_22) rfl k) ?_
  show Ends p e below s 0 0 (Q0 Z q0  h0 n0) (T9.setTop (mkF m 24 #[.val (.long q0), .second, .val (.long v1), .second, .val (.long (fn1 v1)), .second, .val (.long v10), .second, .unset, .unset] [(.long (fn1 v1))]))
  refine Ends.via (fun _ k => XS.lloadN X9.here hx rfl (hb hby at_24) rfl k) ?_
  show Ends p e below s 0 0 (Q0 Z q0  h0 n0) (T9.setTop (mkF m 25 #[.val (.long q0), .second, .val (.long v1), .second, .val (.long (fn1 v1)), .second, .val (.long v10), .second, .unset, .unset] [(.long v1), (.long (fn1 v1))]))
  refine Ends.via (fun _ k => XS.lcmp X9.here hx rfl (hb hby at_25) rfl k) ?_
  show Ends p e below s 0 0 (Q0 Z q0  h0 n0) (T9.setTop (mkF m 26 #[.val (.long q0), .second, .val (.long v1), .second, .val (.long (fn1 v1)), .second, .val (.long v10), .second, .unset, .unset] [(.int (lcmpW (fn1 v1) v1))]))
  have J13 : ∀ (Tj13 : State) (Lj13 : List Loc) (Xj13 : Stand p l e room_1 s m #[(.long q0)] below meth c Tj13 Lj13 0 0) (ej13 : Tj13.heap = h0) (Nj13 : Fr n0 Lj13) (v12 : Int32), (if (fn1 v1) = v1 then (1 : Int32) else (0 : Int32)) = v12 → Ends p e below s 0 0 (Q0 Z q0  h0 n0) (Tj13.setTop (mkF m 34 #[.val (.long q0), .second, .val (.long v1), .second, .val (.long (fn1 v1)), .second, .val (.long v10), .second, .unset, .unset] [(.int v12)])) := by
    intro Tj13 Lj13 Xj13 ej13 Nj13 v12 hv12
    refine Ends.via (fun _ k => XS.istore Xj13.here hx rfl (hb hby at_34) rfl (l' := #[.val (.long q0), .second, .val (.long v1), .second, .val (.long (fn1 v1)), .second, .val (.long v10), .second, .val (.int v12), .unset]) rfl k) ?_
    show Ends p e below s 0 0 (Q0 Z q0  h0 n0) (Tj13.setTop (mkF m 36 #[.val (.long q0), .second, .val (.long v1), .second, .val (.long (fn1 v1)), .second, .val (.long v10), .second, .val (.int v12), .unset] []))
    refine Ends.via (fun _ k => XS.lloadN Xj13.here hx rfl (hb hby at_36) rfl k) ?_
    show Ends p e below s 0 0 (Q0 Z q0  h0 n0) (Tj13.setTop (mkF m 37 #[.val (.long q0), .second, .val (.long v1), .second, .val (.long (fn1 v1)), .second, .val (.long v10), .second, .val (.int v12), .unset] [(.long v1)]))
    refine Ends.via (Xj13.ldc2Long hx hown (mvT hZ (hw _ (List.mem_of_getElem? (i := 0) rfl))) (g := (mkF m 37 #[.val (.long q0), .second, .val (.long v1), .second, .val (.long (fn1 v1)), .second, .val (.long v10), .second, .val (.int v12), .unset] [(.long v1)])) rfl (hb hby at_37)) ?_
    show Ends p e below s 0 0 (Q0 Z q0  h0 n0) (Tj13.setTop (mkF m 40 #[.val (.long q0), .second, .val (.long v1), .second, .val (.long (fn1 v1)), .second, .val (.long v10), .second, .val (.int v12), .unset] [(.long (9223372036854775807 : Int64)), (.long v1)]))
    refine Ends.via (fun _ k => XS.lcmp Xj13.here hx rfl (hb hby at_40) rfl k) ?_
    show Ends p e below s 0 0 (Q0 Z q0  h0 n0) (Tj13.setTop (mkF m 41 #[.val (.long q0), .second, .val (.long v1), .second, .val (.long (fn1 v1)), .second, .val (.long v10), .second, .val (.int v12), .unset] [(.int (lcmpW v1 (9223372036854775807 : Int64)))]))
    have J19 : ∀ (Tj19 : State) (Lj19 : List Loc) (Xj19 : Stand p l e room_1 s m #[(.long q0)] below meth c Tj19 Lj19 0 0) (ej19 : Tj19.heap = h0) (Nj19 : Fr n0 Lj19) (v18 : Int32), (if v1 = (9223372036854775807 : Int64) then (if v10 = (0 : Int64) then (if (v1 ^^^ (-1 : Int64)) = (-9223372036854775808 : Int64) then (1 : Int32) else (0 : Int32)) else (0 : Int32)) else (if v10 = v1 then (1 : Int32) else (0 : Int32))) = v18 → Ends p e below s 0 0 (Q0 Z q0  h0 n0) (Tj19.setTop (mkF m 87 #[.val (.long q0), .second, .val (.long v1), .second, .val (.long (fn1 v1)), .second, .val (.long v10), .second, .val (.int v12), .val (.int v18)] [])) := by
      intro Tj19 Lj19 Xj19 ej19 Nj19 v18 hv18
      refine Ends.via (fun _ k => XS.iload Xj19.here hx rfl (hb hby at_87) rfl k) ?_
      show Ends p e below s 0 0 (Q0 Z q0  h0 n0) (Tj19.setTop (mkF m 89 #[.val (.long q0), .second, .val (.long v1), .second, .val (.long (fn1 v1)), .second, .val (.long v10), .second, .val (.int v12), .val (.int v18)] [(.int v12)]))
      by_cases hc20 : v12 = (0 : Int32)
      · refine Ends.via (fun _ k => XS.ifYes Xj19.here hx rfl (pc0 := 89) (pc' := 101) rfl (hb hby at_89) rfl ((if0 _ _).trans (teq hc20).1) (by decide) (by decide) k) ?_
        show Ends p e below s 0 0 (Q0 Z q0  h0 n0) (Tj19.setTop (mkF m 101 #[.val (.long q0), .second, .val (.long v1), .second, .val (.long (fn1 v1)), .second, .val (.long v10), .second, .val (.int v12), .val (.int v18)] []))
        refine Ends.via (fun _ k => XS.iconst Xj19.here hx rfl (hb hby at_101) k) ?_
        show Ends p e below s 0 0 (Q0 Z q0  h0 n0) (Tj19.setTop (mkF m 102 #[.val (.long q0), .second, .val (.long v1), .second, .val (.long (fn1 v1)), .second, .val (.long v10), .second, .val (.int v12), .val (.int v18)] [(.int (0 : Int32))]))
        refine Ends.ret Xj19 (v := some (.int (nar .boolean (0 : Int32)))) (fun h => by rw [Bd.returns] at h; cases h) Bd.notSynchronized (fun fs hr => retN Xj19 hx (t := .boolean) Bd.returns (by simp) (hb hby at_102) hr) ?_ (by decide) (by decide)
        exact absurd (own_leaf1 q0 v1 v10 v12 v18 hv1 hv10 hv12 hv18 hc20) id
      · refine Ends.via (fun _ k => XS.ifNo Xj19.here hx rfl (hb hby at_89) rfl ((if0 _ _).trans (feq hc20).1) k) ?_
        show Ends p e below s 0 0 (Q0 Z q0  h0 n0) (Tj19.setTop (mkF m 92 #[.val (.long q0), .second, .val (.long v1), .second, .val (.long (fn1 v1)), .second, .val (.long v10), .second, .val (.int v12), .val (.int v18)] []))
        refine Ends.via (fun _ k => XS.iload Xj19.here hx rfl (hb hby at_92) rfl k) ?_
        show Ends p e below s 0 0 (Q0 Z q0  h0 n0) (Tj19.setTop (mkF m 94 #[.val (.long q0), .second, .val (.long v1), .second, .val (.long (fn1 v1)), .second, .val (.long v10), .second, .val (.int v12), .val (.int v18)] [(.int v18)]))
        by_cases hc21 : v18 = (0 : Int32)
        · refine Ends.via (fun _ k => XS.ifYes Xj19.here hx rfl (pc0 := 94) (pc' := 101) rfl (hb hby at_94) rfl ((if0 _ _).trans (teq hc21).1) (by decide) (by decide) k) ?_
          show Ends p e below s 0 0 (Q0 Z q0  h0 n0) (Tj19.setTop (mkF m 101 #[.val (.long q0), .second, .val (.long v1), .second, .val (.long (fn1 v1)), .second, .val (.long v10), .second, .val (.int v12), .val (.int v18)] []))
          refine Ends.via (fun _ k => XS.iconst Xj19.here hx rfl (hb hby at_101) k) ?_
          show Ends p e below s 0 0 (Q0 Z q0  h0 n0) (Tj19.setTop (mkF m 102 #[.val (.long q0), .second, .val (.long v1), .second, .val (.long (fn1 v1)), .second, .val (.long v10), .second, .val (.int v12), .val (.int v18)] [(.int (0 : Int32))]))
          refine Ends.ret Xj19 (v := some (.int (nar .boolean (0 : Int32)))) (fun h => by rw [Bd.returns] at h; cases h) Bd.notSynchronized (fun fs hr => retN Xj19 hx (t := .boolean) Bd.returns (by simp) (hb hby at_102) hr) ?_ (by decide) (by decide)
          exact absurd (own_leaf2 q0 v1 v10 v12 v18 hv1 hv10 hv12 hv18 hc20 hc21) id
        · refine Ends.via (fun _ k => XS.ifNo Xj19.here hx rfl (hb hby at_94) rfl ((if0 _ _).trans (feq hc21).1) k) ?_
          show Ends p e below s 0 0 (Q0 Z q0  h0 n0) (Tj19.setTop (mkF m 97 #[.val (.long q0), .second, .val (.long v1), .second, .val (.long (fn1 v1)), .second, .val (.long v10), .second, .val (.int v12), .val (.int v18)] []))
          refine Ends.via (fun _ k => XS.iconst Xj19.here hx rfl (hb hby at_97) k) ?_
          show Ends p e below s 0 0 (Q0 Z q0  h0 n0) (Tj19.setTop (mkF m 98 #[.val (.long q0), .second, .val (.long v1), .second, .val (.long (fn1 v1)), .second, .val (.long v10), .second, .val (.int v12), .val (.int v18)] [(.int (1 : Int32))]))
          refine Ends.via (fun _ k => XS.goto Xj19.here hx rfl (pc0 := 98) (pc' := 102) rfl (hb hby at_98) (by decide) (by decide) k) ?_
          show Ends p e below s 0 0 (Q0 Z q0  h0 n0) (Tj19.setTop (mkF m 102 #[.val (.long q0), .second, .val (.long v1), .second, .val (.long (fn1 v1)), .second, .val (.long v10), .second, .val (.int v12), .val (.int v18)] [(.int (1 : Int32))]))
          refine Ends.ret Xj19 (v := some (.int (nar .boolean (1 : Int32)))) (fun h => by rw [Bd.returns] at h; cases h) Bd.notSynchronized (fun fs hr => retN Xj19 hx (t := .boolean) Bd.returns (by simp) (hb hby at_102) hr) ?_ (by decide) (by decide)
          exact ⟨rfl, Nj19⟩
    by_cases hc22 : v1 = (9223372036854775807 : Int64)
    · refine Ends.via (fun _ k => XS.ifNo Xj13.here hx rfl (hb hby at_41) rfl ((if0 _ _).trans (teq ((lw_eq _ _).mpr hc22)).2) k) ?_
      show Ends p e below s 0 0 (Q0 Z q0  h0 n0) (Tj13.setTop (mkF m 44 #[.val (.long q0), .second, .val (.long v1), .second, .val (.long (fn1 v1)), .second, .val (.long v10), .second, .val (.int v12), .unset] []))
      refine Ends.via (fun _ k => XS.lload Xj13.here hx rfl (hb hby at_44) rfl k) ?_
      show Ends p e below s 0 0 (Q0 Z q0  h0 n0) (Tj13.setTop (mkF m 46 #[.val (.long q0), .second, .val (.long v1), .second, .val (.long (fn1 v1)), .second, .val (.long v10), .second, .val (.int v12), .unset] [(.long v10)]))
      refine Ends.via (fun _ k => XS.lconst Xj13.here hx rfl (hb hby at_46) k) ?_
      show Ends p e below s 0 0 (Q0 Z q0  h0 n0) (Tj13.setTop (mkF m 47 #[.val (.long q0), .second, .val (.long v1), .second, .val (.long (fn1 v1)), .second, .val (.long v10), .second, .val (.int v12), .unset] [(.long (0 : Int64)), (.long v10)]))
      refine Ends.via (fun _ k => XS.lcmp Xj13.here hx rfl (hb hby at_47) rfl k) ?_
      show Ends p e below s 0 0 (Q0 Z q0  h0 n0) (Tj13.setTop (mkF m 48 #[.val (.long q0), .second, .val (.long v1), .second, .val (.long (fn1 v1)), .second, .val (.long v10), .second, .val (.int v12), .unset] [(.int (lcmpW v10 (0 : Int64)))]))
      by_cases hc23 : v10 = (0 : Int64)
      · refine Ends.via (fun _ k => XS.ifNo Xj13.here hx rfl (hb hby at_48) rfl ((if0 _ _).trans (teq ((lw_eq _ _).mpr hc23)).2) k) ?_
        show Ends p e below s 0 0 (Q0 Z q0  h0 n0) (Tj13.setTop (mkF m 51 #[.val (.long q0), .second, .val (.long v1), .second, .val (.long (fn1 v1)), .second, .val (.long v10), .second, .val (.int v12), .unset] []))
        refine Ends.via (fun _ k => XS.lloadN Xj13.here hx rfl (hb hby at_51) rfl k) ?_
        show Ends p e below s 0 0 (Q0 Z q0  h0 n0) (Tj13.setTop (mkF m 52 #[.val (.long q0), .second, .val (.long v1), .second, .val (.long (fn1 v1)), .second, .val (.long v10), .second, .val (.int v12), .unset] [(.long v1)]))
        refine Ends.via (Xj13.ldc2Long hx hown (mvT hZ (hw _ (List.mem_of_getElem? (i := 5) rfl))) (g := (mkF m 52 #[.val (.long q0), .second, .val (.long v1), .second, .val (.long (fn1 v1)), .second, .val (.long v10), .second, .val (.int v12), .unset] [(.long v1)])) rfl (hb hby at_52)) ?_
        show Ends p e below s 0 0 (Q0 Z q0  h0 n0) (Tj13.setTop (mkF m 55 #[.val (.long q0), .second, .val (.long v1), .second, .val (.long (fn1 v1)), .second, .val (.long v10), .second, .val (.int v12), .unset] [(.long (-1 : Int64)), (.long v1)]))
        refine Ends.via (fun _ k => XS.lxor Xj13.here hx rfl (hb hby at_55) rfl k) ?_
        show Ends p e below s 0 0 (Q0 Z q0  h0 n0) (Tj13.setTop (mkF m 56 #[.val (.long q0), .second, .val (.long v1), .second, .val (.long (fn1 v1)), .second, .val (.long v10), .second, .val (.int v12), .unset] [(.long (v1 ^^^ (-1 : Int64)))]))
        refine Ends.via (Xj13.ldc2Long hx hown (mvT hZ (hw _ (List.mem_of_getElem? (i := 8) rfl))) (g := (mkF m 56 #[.val (.long q0), .second, .val (.long v1), .second, .val (.long (fn1 v1)), .second, .val (.long v10), .second, .val (.int v12), .unset] [(.long (v1 ^^^ (-1 : Int64)))])) rfl (hb hby at_56)) ?_
        show Ends p e below s 0 0 (Q0 Z q0  h0 n0) (Tj13.setTop (mkF m 59 #[.val (.long q0), .second, .val (.long v1), .second, .val (.long (fn1 v1)), .second, .val (.long v10), .second, .val (.int v12), .unset] [(.long (-9223372036854775808 : Int64)), (.long (v1 ^^^ (-1 : Int64)))]))
        refine Ends.via (fun _ k => XS.lcmp Xj13.here hx rfl (hb hby at_59) rfl k) ?_
        show Ends p e below s 0 0 (Q0 Z q0  h0 n0) (Tj13.setTop (mkF m 60 #[.val (.long q0), .second, .val (.long v1), .second, .val (.long (fn1 v1)), .second, .val (.long v10), .second, .val (.int v12), .unset] [(.int (lcmpW (v1 ^^^ (-1 : Int64)) (-9223372036854775808 : Int64)))]))
        by_cases hc24 : (v1 ^^^ (-1 : Int64)) = (-9223372036854775808 : Int64)
        · refine Ends.via (fun _ k => XS.ifNo Xj13.here hx rfl (hb hby at_60) rfl ((if0 _ _).trans (teq ((lw_eq _ _).mpr hc24)).2) k) ?_
          show Ends p e below s 0 0 (Q0 Z q0  h0 n0) (Tj13.setTop (mkF m 63 #[.val (.long q0), .second, .val (.long v1), .second, .val (.long (fn1 v1)), .second, .val (.long v10), .second, .val (.int v12), .unset] []))
          refine Ends.via (fun _ k => XS.iconst Xj13.here hx rfl (hb hby at_63) k) ?_
          show Ends p e below s 0 0 (Q0 Z q0  h0 n0) (Tj13.setTop (mkF m 64 #[.val (.long q0), .second, .val (.long v1), .second, .val (.long (fn1 v1)), .second, .val (.long v10), .second, .val (.int v12), .unset] [(.int (1 : Int32))]))
          refine Ends.via (fun _ k => XS.goto Xj13.here hx rfl (pc0 := 64) (pc' := 68) rfl (hb hby at_64) (by decide) (by decide) k) ?_
          show Ends p e below s 0 0 (Q0 Z q0  h0 n0) (Tj13.setTop (mkF m 68 #[.val (.long q0), .second, .val (.long v1), .second, .val (.long (fn1 v1)), .second, .val (.long v10), .second, .val (.int v12), .unset] [(.int (1 : Int32))]))
          refine Ends.via (fun _ k => XS.istore Xj13.here hx rfl (hb hby at_68) rfl (l' := #[.val (.long q0), .second, .val (.long v1), .second, .val (.long (fn1 v1)), .second, .val (.long v10), .second, .val (.int v12), .val (.int (1 : Int32))]) rfl k) ?_
          show Ends p e below s 0 0 (Q0 Z q0  h0 n0) (Tj13.setTop (mkF m 70 #[.val (.long q0), .second, .val (.long v1), .second, .val (.long (fn1 v1)), .second, .val (.long v10), .second, .val (.int v12), .val (.int (1 : Int32))] []))
          refine Ends.via (fun _ k => XS.goto Xj13.here hx rfl (pc0 := 70) (pc' := 87) rfl (hb hby at_70) (by decide) (by decide) k) ?_
          show Ends p e below s 0 0 (Q0 Z q0  h0 n0) (Tj13.setTop (mkF m 87 #[.val (.long q0), .second, .val (.long v1), .second, .val (.long (fn1 v1)), .second, .val (.long v10), .second, .val (.int v12), .val (.int (1 : Int32))] []))
          exact J19 Tj13 _ Xj13 ej13 Nj13 (1 : Int32) (by first | rfl | simp only [if_pos hc22, if_pos hc23, if_pos hc24])
        · refine Ends.via (fun _ k => XS.ifYes Xj13.here hx rfl (pc0 := 60) (pc' := 67) rfl (hb hby at_60) rfl ((if0 _ _).trans (feq (mt (lw_eq _ _).mp hc24)).2) (by decide) (by decide) k) ?_
          show Ends p e below s 0 0 (Q0 Z q0  h0 n0) (Tj13.setTop (mkF m 67 #[.val (.long q0), .second, .val (.long v1), .second, .val (.long (fn1 v1)), .second, .val (.long v10), .second, .val (.int v12), .unset] []))
          refine Ends.via (fun _ k => XS.iconst Xj13.here hx rfl (hb hby at_67) k) ?_
          show Ends p e below s 0 0 (Q0 Z q0  h0 n0) (Tj13.setTop (mkF m 68 #[.val (.long q0), .second, .val (.long v1), .second, .val (.long (fn1 v1)), .second, .val (.long v10), .second, .val (.int v12), .unset] [(.int (0 : Int32))]))
          refine Ends.via (fun _ k => XS.istore Xj13.here hx rfl (hb hby at_68) rfl (l' := #[.val (.long q0), .second, .val (.long v1), .second, .val (.long (fn1 v1)), .second, .val (.long v10), .second, .val (.int v12), .val (.int (0 : Int32))]) rfl k) ?_
          show Ends p e below s 0 0 (Q0 Z q0  h0 n0) (Tj13.setTop (mkF m 70 #[.val (.long q0), .second, .val (.long v1), .second, .val (.long (fn1 v1)), .second, .val (.long v10), .second, .val (.int v12), .val (.int (0 : Int32))] []))
          refine Ends.via (fun _ k => XS.goto Xj13.here hx rfl (pc0 := 70) (pc' := 87) rfl (hb hby at_70) (by decide) (by decide) k) ?_
          show Ends p e below s 0 0 (Q0 Z q0  h0 n0) (Tj13.setTop (mkF m 87 #[.val (.long q0), .second, .val (.long v1), .second, .val (.long (fn1 v1)), .second, .val (.long v10), .second, .val (.int v12), .val (.int (0 : Int32))] []))
          exact J19 Tj13 _ Xj13 ej13 Nj13 (0 : Int32) (by first | rfl | simp only [if_pos hc22, if_pos hc23, if_neg hc24])
      · refine Ends.via (fun _ k => XS.ifYes Xj13.here hx rfl (pc0 := 48) (pc' := 67) rfl (hb hby at_48) rfl ((if0 _ _).trans (feq (mt (lw_eq _ _).mp hc23)).2) (by decide) (by decide) k) ?_
        show Ends p e below s 0 0 (Q0 Z q0  h0 n0) (Tj13.setTop (mkF m 67 #[.val (.long q0), .second, .val (.long v1), .second, .val (.long (fn1 v1)), .second, .val (.long v10), .second, .val (.int v12), .unset] []))
        refine Ends.via (fun _ k => XS.iconst Xj13.here hx rfl (hb hby at_67) k) ?_
        show Ends p e below s 0 0 (Q0 Z q0  h0 n0) (Tj13.setTop (mkF m 68 #[.val (.long q0), .second, .val (.long v1), .second, .val (.long (fn1 v1)), .second, .val (.long v10), .second, .val (.int v12), .unset] [(.int (0 : Int32))]))
        refine Ends.via (fun _ k => XS.istore Xj13.here hx rfl (hb hby at_68) rfl (l' := #[.val (.long q0), .second, .val (.long v1), .second, .val (.long (fn1 v1)), .second, .val (.long v10), .second, .val (.int v12), .val (.int (0 : Int32))]) rfl k) ?_
        show Ends p e below s 0 0 (Q0 Z q0  h0 n0) (Tj13.setTop (mkF m 70 #[.val (.long q0), .second, .val (.long v1), .second, .val (.long (fn1 v1)), .second, .val (.long v10), .second, .val (.int v12), .val (.int (0 : Int32))] []))
        refine Ends.via (fun _ k => XS.goto Xj13.here hx rfl (pc0 := 70) (pc' := 87) rfl (hb hby at_70) (by decide) (by decide) k) ?_
        show Ends p e below s 0 0 (Q0 Z q0  h0 n0) (Tj13.setTop (mkF m 87 #[.val (.long q0), .second, .val (.long v1), .second, .val (.long (fn1 v1)), .second, .val (.long v10), .second, .val (.int v12), .val (.int (0 : Int32))] []))
        exact J19 Tj13 _ Xj13 ej13 Nj13 (0 : Int32) (by first | rfl | simp only [if_pos hc22, if_neg hc23])
    · refine Ends.via (fun _ k => XS.ifYes Xj13.here hx rfl (pc0 := 41) (pc' := 73) rfl (hb hby at_41) rfl ((if0 _ _).trans (feq (mt (lw_eq _ _).mp hc22)).2) (by decide) (by decide) k) ?_
      show Ends p e below s 0 0 (Q0 Z q0  h0 n0) (Tj13.setTop (mkF m 73 #[.val (.long q0), .second, .val (.long v1), .second, .val (.long (fn1 v1)), .second, .val (.long v10), .second, .val (.int v12), .unset] []))
      refine Ends.via (fun _ k => XS.lload Xj13.here hx rfl (hb hby at_73) rfl k) ?_
      show Ends p e below s 0 0 (Q0 Z q0  h0 n0) (Tj13.setTop (mkF m 75 #[.val (.long q0), .second, .val (.long v1), .second, .val (.long (fn1 v1)), .second, .val (.long v10), .second, .val (.int v12), .unset] [(.long v10)]))
      refine Ends.via (fun _ k => XS.lloadN Xj13.here hx rfl (hb hby at_75) rfl k) ?_
      show Ends p e below s 0 0 (Q0 Z q0  h0 n0) (Tj13.setTop (mkF m 76 #[.val (.long q0), .second, .val (.long v1), .second, .val (.long (fn1 v1)), .second, .val (.long v10), .second, .val (.int v12), .unset] [(.long v1), (.long v10)]))
      refine Ends.via (fun _ k => XS.lcmp Xj13.here hx rfl (hb hby at_76) rfl k) ?_
      show Ends p e below s 0 0 (Q0 Z q0  h0 n0) (Tj13.setTop (mkF m 77 #[.val (.long q0), .second, .val (.long v1), .second, .val (.long (fn1 v1)), .second, .val (.long v10), .second, .val (.int v12), .unset] [(.int (lcmpW v10 v1))]))
      by_cases hc25 : v10 = v1
      · refine Ends.via (fun _ k => XS.ifNo Xj13.here hx rfl (hb hby at_77) rfl ((if0 _ _).trans (teq ((lw_eq _ _).mpr hc25)).2) k) ?_
        show Ends p e below s 0 0 (Q0 Z q0  h0 n0) (Tj13.setTop (mkF m 80 #[.val (.long q0), .second, .val (.long v1), .second, .val (.long (fn1 v1)), .second, .val (.long v10), .second, .val (.int v12), .unset] []))
        refine Ends.via (fun _ k => XS.iconst Xj13.here hx rfl (hb hby at_80) k) ?_
        show Ends p e below s 0 0 (Q0 Z q0  h0 n0) (Tj13.setTop (mkF m 81 #[.val (.long q0), .second, .val (.long v1), .second, .val (.long (fn1 v1)), .second, .val (.long v10), .second, .val (.int v12), .unset] [(.int (1 : Int32))]))
        refine Ends.via (fun _ k => XS.goto Xj13.here hx rfl (pc0 := 81) (pc' := 85) rfl (hb hby at_81) (by decide) (by decide) k) ?_
        show Ends p e below s 0 0 (Q0 Z q0  h0 n0) (Tj13.setTop (mkF m 85 #[.val (.long q0), .second, .val (.long v1), .second, .val (.long (fn1 v1)), .second, .val (.long v10), .second, .val (.int v12), .unset] [(.int (1 : Int32))]))
        refine Ends.via (fun _ k => XS.istore Xj13.here hx rfl (hb hby at_85) rfl (l' := #[.val (.long q0), .second, .val (.long v1), .second, .val (.long (fn1 v1)), .second, .val (.long v10), .second, .val (.int v12), .val (.int (1 : Int32))]) rfl k) ?_
        show Ends p e below s 0 0 (Q0 Z q0  h0 n0) (Tj13.setTop (mkF m 87 #[.val (.long q0), .second, .val (.long v1), .second, .val (.long (fn1 v1)), .second, .val (.long v10), .second, .val (.int v12), .val (.int (1 : Int32))] []))
        exact J19 Tj13 _ Xj13 ej13 Nj13 (1 : Int32) (by first | rfl | simp only [if_neg hc22, if_pos hc25])
      · refine Ends.via (fun _ k => XS.ifYes Xj13.here hx rfl (pc0 := 77) (pc' := 84) rfl (hb hby at_77) rfl ((if0 _ _).trans (feq (mt (lw_eq _ _).mp hc25)).2) (by decide) (by decide) k) ?_
        show Ends p e below s 0 0 (Q0 Z q0  h0 n0) (Tj13.setTop (mkF m 84 #[.val (.long q0), .second, .val (.long v1), .second, .val (.long (fn1 v1)), .second, .val (.long v10), .second, .val (.int v12), .unset] []))
        refine Ends.via (fun _ k => XS.iconst Xj13.here hx rfl (hb hby at_84) k) ?_
        show Ends p e below s 0 0 (Q0 Z q0  h0 n0) (Tj13.setTop (mkF m 85 #[.val (.long q0), .second, .val (.long v1), .second, .val (.long (fn1 v1)), .second, .val (.long v10), .second, .val (.int v12), .unset] [(.int (0 : Int32))]))
        refine Ends.via (fun _ k => XS.istore Xj13.here hx rfl (hb hby at_85) rfl (l' := #[.val (.long q0), .second, .val (.long v1), .second, .val (.long (fn1 v1)), .second, .val (.long v10), .second, .val (.int v12), .val (.int (0 : Int32))]) rfl k) ?_
        show Ends p e below s 0 0 (Q0 Z q0  h0 n0) (Tj13.setTop (mkF m 87 #[.val (.long q0), .second, .val (.long v1), .second, .val (.long (fn1 v1)), .second, .val (.long v10), .second, .val (.int v12), .val (.int (0 : Int32))] []))
        exact J19 Tj13 _ Xj13 ej13 Nj13 (0 : Int32) (by first | rfl | simp only [if_neg hc22, if_neg hc25])
  by_cases hc26 : (fn1 v1) = v1
  · refine Ends.via (fun _ k => XS.ifNo X9.here hx rfl (hb hby at_26) rfl ((if0 _ _).trans (teq ((lw_eq _ _).mpr hc26)).2) k) ?_
    show Ends p e below s 0 0 (Q0 Z q0  h0 n0) (T9.setTop (mkF m 29 #[.val (.long q0), .second, .val (.long v1), .second, .val (.long (fn1 v1)), .second, .val (.long v10), .second, .unset, .unset] []))
    refine Ends.via (fun _ k => XS.iconst X9.here hx rfl (hb hby at_29) k) ?_
    show Ends p e below s 0 0 (Q0 Z q0  h0 n0) (T9.setTop (mkF m 30 #[.val (.long q0), .second, .val (.long v1), .second, .val (.long (fn1 v1)), .second, .val (.long v10), .second, .unset, .unset] [(.int (1 : Int32))]))
    refine Ends.via (fun _ k => XS.goto X9.here hx rfl (pc0 := 30) (pc' := 34) rfl (hb hby at_30) (by decide) (by decide) k) ?_
    show Ends p e below s 0 0 (Q0 Z q0  h0 n0) (T9.setTop (mkF m 34 #[.val (.long q0), .second, .val (.long v1), .second, .val (.long (fn1 v1)), .second, .val (.long v10), .second, .unset, .unset] [(.int (1 : Int32))]))
    exact J13 T9 _ X9 e9 N9 (1 : Int32) (by first | rfl | simp only [if_pos hc26])
  · refine Ends.via (fun _ k => XS.ifYes X9.here hx rfl (pc0 := 26) (pc' := 33) rfl (hb hby at_26) rfl ((if0 _ _).trans (feq (mt (lw_eq _ _).mp hc26)).2) (by decide) (by decide) k) ?_
    show Ends p e below s 0 0 (Q0 Z q0  h0 n0) (T9.setTop (mkF m 33 #[.val (.long q0), .second, .val (.long v1), .second, .val (.long (fn1 v1)), .second, .val (.long v10), .second, .unset, .unset] []))
    refine Ends.via (fun _ k => XS.iconst X9.here hx rfl (hb hby at_33) k) ?_
    show Ends p e below s 0 0 (Q0 Z q0  h0 n0) (T9.setTop (mkF m 34 #[.val (.long q0), .second, .val (.long v1), .second, .val (.long (fn1 v1)), .second, .val (.long v10), .second, .unset, .unset] [(.int (0 : Int32))]))
    exact J13 T9 _ X9 e9 N9 (0 : Int32) (by first | rfl | simp only [if_neg hc26])
set_option maxRecDepth 65536 in
set_option maxHeartbeats 40000000 in
theorem comes_1 {Post : Tables → Env → Array Value → State → Outcome → State → Prop} (hpost : ∀ tb e args s v u, (limb_1_1.after args s (.returned v) u = true ∧ limb_1_2.after args s (.returned v) u = true ∧ True) → FrameEnd s (.returned v) u (Jvm.fieldLocs frame_1_writes args s ++ Jvm.arrayLocs frame_1_arrays args s ++ Jvm.staticLocs frame_1_statics s) 0 0 → Post tb e args s (.returned v) u) :
    ArmFor flags0 classFile x code maxLocals ret World_1 tables_1 room_1 Calls_1 rest_1 Pre_1 Post := by
  intro l hfl _ _ p e ha hc hk s m args below hf hA hF happ hP
  obtain ⟨hcalls, hrest, hpre⟩ := hP
  obtain ⟨-, -, -, hnamed, -, -, -, hat⟩ := (Spec.applies_iff hf).mp happ
  obtain ⟨hg, hn⟩ := and_e (Cond.before_iff.mp (show (Jvm.Cond.and given_1 narrow_1).before args s = true from hpre))
  obtain ⟨hcnt, g0⟩ := and_e hg
  obtain ⟨w0, rfl⟩ : ∃ w0 : Value, args = #[w0] := by
    have hs : args.size = 1 := by simpa [Cond.value, given_1] using hcnt
    obtain ⟨L⟩ := args
    match L, hs with
    | [w0], _ => exact ⟨w0, rfl⟩
  have hw := fun d (hd : d ∈ tables_1) => atoms_spec (ws := Jvm.Cond.code x code maxLocals ret :: tables_1) hat d (List.mem_cons_of_mem _ hd)
  obtain ⟨i0, ei0⟩ := isL_v g0
  obtain rfl : w0 = (.long i0) := Option.some.inj ei0
  obtain ⟨n, o, h1, h2, h3, _, L, rfl, ⟨rfl, N⟩, hq⟩ := rm0 l s _ hw tables_1 i0 s.heap s.heap.size (Nat.le_refl _) p e ha hc hk s m _ below hf ((Spec.applies_iff_loose hf).mp happ).1 ⟨rfl, State.Warmed39.refl s, rfl⟩ trivial
  refine ⟨n, _, h1, h2, h3, hpost _ _ _ _ _ _ ⟨Cond.after_iff.mpr rfl, Cond.after_iff.mpr (eq_i res_at (Term.int_eval (1)) rfl), trivial⟩ ⟨hq.1, hq.2.1, (hq.2.2.sift fun y hy => Or.inr (N y hy)).mono (by decide) (by decide)⟩⟩
theorem main_1_1 : Claimed_1_1 := comes_1 fun _ _ _ _ _ _ h hF => ⟨h.1, hF⟩
theorem main_1_2 : Claimed_1_2 := comes_1 fun _ _ _ _ _ _ h hF => ⟨h.2.1, hF⟩
end Jvm.Pilot.@@N@@
namespace Jvm.Pilot.@@N@@
open Jvm Jvm.ClassFile Sem Op Lib Jvm.Free Jvm.Stand Jvm.Pilot.@@N@@.Jvm.D
/-! MADE BY PROGRAM (witnessworld.py) out of the Statement's table words and the real class files: 9 classes; the members and pool entries that the words name. The judged class is class 1, her method 1. -/
namespace start1
open Jvm.ClassFile
def u (s : String) : CpInfo := .utf8 (stringToUtf16 s)
/-- a pool by its gaps: so many unusable entries, then the entry; so many at the end -/
def gap : Nat → List CpInfo → List CpInfo
  | 0, r => r
  | n + 1, r => .unusable :: gap n r
def poolList (es : List (Nat × CpInfo)) (last : Nat) : List CpInfo := es.foldr (fun e r => gap e.1 (e.2 :: r)) (gap last [])
def pool (es : List (Nat × CpInfo)) (last : Nat) : Array CpInfo := ⟨poolList es last⟩
def fileOf (pool : Array CpInfo) (this : Nat) (attrs : Array Attribute := #[]) (ms : Array MethodInfo := #[]) (fl : Nat := 33) (sup : Nat := 0) (ifs : Array Nat := #[]) (fds : Array FieldInfo := #[]) : ClassFile where
  minorVersion := 0
  majorVersion := 65
  constantPool := pool
  accessFlags := fl
  thisClass := this
  superClass := sup
  interfaces := ifs
  fields := fds
  methods := ms
  attributes := attrs
def plain (name : String) (sup : Option ClassId) : Class where
  name := name
  kind := .ordinary
  loader := none
  accessFlags := 33
  super := sup
  interfaces := #[]
  cf := none
  fields := #[]
  methods := #[]
  instanceTypes := #[]
  staticTypes := #[]
  resolved := #[]
  callSites := []
  init := .initialized
  statics := none
  mirror := none

def pool0 : Array CpInfo := pool [(5, u "<init>"), (0, u "()V"), (1, .class_ 10), (1, u "java/lang/Object")] 113

def k0m0 : Method := { name := "<init>", desc := "()V", sig := { parameters := [], returnType := none }, accessFlags := 1, code := none }
/-- java/lang/Object -/
def k0 : Class := { plain "java/lang/Object" none with
  accessFlags := 33
  interfaces := #[]
  cf := some (fileOf pool0 8 #[] #[{ accessFlags := 1, nameIndex := 5, descriptorIndex := 6, attributes := #[] }] 33 0 #[] #[])
  fields := #[]
  methods := #[k0m0]
  instanceTypes := #[]
  staticTypes := #[]
  resolved := Array.replicate 124 none
  statics := none }

def pool1 : Array CpInfo := pool [(2, .class_ 4), (1, u "java/lang/Object"), (0, u "<init>"), (0, u "()V"), (2, .long 9223372036854775807), (1, .methodref 12 13), (0, .class_ 14), (0, .nameAndType 15 16), (0, u "com/example/cordon/cordon/trusted/Tally"), (0, u "share"), (0, u "(J)J"), (0, .long 18446744073709551615), (1, .long 9223372036854775808), (1, .class_ 22), (0, u "com/example/cordon/cordon/trusted/TallySharePinLaw"), (2, u "law"), (0, u "(J)Z")] 3

def k1m0 : Method := { name := "<init>", desc := "()V", sig := { parameters := [], returnType := none }, accessFlags := 2, code := none }
def k1c1 : Code := { maxStack := 4, maxLocals := 10, code := code, exceptionTable := #[], attributes := #[] }
def k1m1 : Method := { name := "law", desc := "(J)Z", sig := { parameters := [.long], returnType := some .boolean }, accessFlags := 9, code := some k1c1 }
/-- com/example/cordon/cordon/trusted/TallySharePinLaw -/
def k1 : Class := { plain "com/example/cordon/cordon/trusted/TallySharePinLaw" (some 0) with
  accessFlags := 49
  interfaces := #[]
  cf := some (fileOf pool1 21 #[] #[{ accessFlags := 2, nameIndex := 5, descriptorIndex := 6, attributes := #[] }, { accessFlags := 9, nameIndex := 25, descriptorIndex := 26, attributes := #[] }] 49 2 #[] #[])
  fields := #[]
  methods := #[k1m0, k1m1]
  instanceTypes := #[]
  staticTypes := #[]
  resolved := Array.replicate 30 none
  statics := none }

def pool2 : Array CpInfo := pool [(3, .class_ 4), (0, u "com/example/cordon/cordon/trusted/Tally"), (1, .class_ 8), (1, u "java/lang/Object"), (10, u "threadId"), (0, u "J"), (7, u "thread"), (0, u "Ljava/lang/ref/WeakReference;"), (7, u "left"), (21, .long 9223372036854775808), (1, .long 18446744073709551615), (7, u "LEFT"), (0, u "Ljava/lang/invoke/VarHandle;"), (12, u "share"), (0, u "(J)J"), (11, u "NONE"), (1, u "UNCHARGED"), (0, u "CHARGE"), (0, u "I"), (1, u "CHECK"), (1, u "RESUME"), (1, u "PUBLISH"), (1, u "RETURN"), (1, u "LEAVE"), (1, u "BLOCK_BITS"), (1, u "BLOCK_MASK"), (3, u "yielded")] 18

def k2c0 : Code := { maxStack := 4, maxLocals := 4, code := prog_24_method_3_code, exceptionTable := #[], attributes := #[] }
def k2m0 : Method := { name := "share", desc := "(J)J", sig := { parameters := [.long], returnType := some .long }, accessFlags := 8, code := some k2c0 }
/-- com/example/cordon/cordon/trusted/Tally -/
def k2 : Class := { plain "com/example/cordon/cordon/trusted/Tally" (some 0) with
  accessFlags := 48
  interfaces := #[]
  cf := some (fileOf pool2 3 #[] #[{ accessFlags := 8, nameIndex := 83, descriptorIndex := 84, attributes := #[] }] 48 6 #[] #[{ accessFlags := 24, nameIndex := 96, descriptorIndex := 20, attributes := #[] }, { accessFlags := 24, nameIndex := 98, descriptorIndex := 20, attributes := #[] }, { accessFlags := 24, nameIndex := 99, descriptorIndex := 100, attributes := #[] }, { accessFlags := 24, nameIndex := 102, descriptorIndex := 100, attributes := #[] }, { accessFlags := 24, nameIndex := 104, descriptorIndex := 100, attributes := #[] }, { accessFlags := 24, nameIndex := 106, descriptorIndex := 100, attributes := #[] }, { accessFlags := 24, nameIndex := 108, descriptorIndex := 100, attributes := #[] }, { accessFlags := 24, nameIndex := 110, descriptorIndex := 100, attributes := #[] }, { accessFlags := 24, nameIndex := 112, descriptorIndex := 100, attributes := #[] }, { accessFlags := 24, nameIndex := 114, descriptorIndex := 100, attributes := #[] }, { accessFlags := 26, nameIndex := 69, descriptorIndex := 70, attributes := #[] }, { accessFlags := 16, nameIndex := 19, descriptorIndex := 20, attributes := #[] }, { accessFlags := 16, nameIndex := 28, descriptorIndex := 29, attributes := #[] }, { accessFlags := 0, nameIndex := 37, descriptorIndex := 20, attributes := #[] }, { accessFlags := 0, nameIndex := 118, descriptorIndex := 100, attributes := #[] }])
  fields := #[{ name := "NONE", type := .long, accessFlags := 24, slot := 0, constantValue := 0 }, { name := "UNCHARGED", type := .long, accessFlags := 24, slot := 1, constantValue := 0 }, { name := "CHARGE", type := .int, accessFlags := 24, slot := 2, constantValue := 0 }, { name := "CHECK", type := .int, accessFlags := 24, slot := 3, constantValue := 0 }, { name := "RESUME", type := .int, accessFlags := 24, slot := 4, constantValue := 0 }, { name := "PUBLISH", type := .int, accessFlags := 24, slot := 5, constantValue := 0 }, { name := "RETURN", type := .int, accessFlags := 24, slot := 6, constantValue := 0 }, { name := "LEAVE", type := .int, accessFlags := 24, slot := 7, constantValue := 0 }, { name := "BLOCK_BITS", type := .int, accessFlags := 24, slot := 8, constantValue := 0 }, { name := "BLOCK_MASK", type := .int, accessFlags := 24, slot := 9, constantValue := 0 }, { name := "LEFT", type := (.object "java/lang/invoke/VarHandle"), accessFlags := 26, slot := 10, constantValue := 0 }, { name := "threadId", type := .long, accessFlags := 16, slot := 0, constantValue := 0 }, { name := "thread", type := (.object "java/lang/ref/WeakReference"), accessFlags := 16, slot := 1, constantValue := 0 }, { name := "left", type := .long, accessFlags := 0, slot := 2, constantValue := 0 }, { name := "yielded", type := .int, accessFlags := 0, slot := 3, constantValue := 0 }]
  methods := #[k2m0]
  instanceTypes := #[.long, (.object "java/lang/ref/WeakReference"), .long, .int]
  staticTypes := #[.long, .long, .int, .int, .int, .int, .int, .int, .int, .int, (.object "java/lang/invoke/VarHandle")]
  resolved := Array.replicate 137 none
  statics := none }

def pool3 : Array CpInfo := pool [(1, u "java/lang/Cloneable"), (0, .class_ 1), (0, u "java/lang/Object"), (0, .class_ 3)] 3

/-- java/lang/Cloneable -/
def k3 : Class := { plain "java/lang/Cloneable" (some 0) with
  accessFlags := 1537
  interfaces := #[]
  cf := some (fileOf pool3 2 #[] #[] 1537 4 #[] #[])
  fields := #[]
  methods := #[]
  instanceTypes := #[]
  staticTypes := #[]
  resolved := Array.replicate 8 none
  statics := none }

def pool4 : Array CpInfo := pool [(1, u "java/io/Serializable"), (0, .class_ 1), (0, u "java/lang/Object"), (0, .class_ 3)] 3

/-- java/io/Serializable -/
def k4 : Class := { plain "java/io/Serializable" (some 0) with
  accessFlags := 1537
  interfaces := #[]
  cf := some (fileOf pool4 2 #[] #[] 1537 4 #[] #[])
  fields := #[]
  methods := #[]
  instanceTypes := #[]
  staticTypes := #[]
  resolved := Array.replicate 8 none
  statics := none }

/-- the primitive byte -/
def k5 : Class := { plain "byte" none with kind := .primitive 'B', accessFlags := 0x411 }
/-- [B -/
def k6 : Class := { plain "[B" (some 0) with kind := .array 5 .byte, interfaces := #[3, 4], accessFlags := 1041 }

/-- the primitive int -/
def k7 : Class := { plain "int" none with kind := .primitive 'I', accessFlags := 0x411 }
/-- [I -/
def k8 : Class := { plain "[I" (some 0) with kind := .array 7 .int, interfaces := #[3, 4], accessFlags := 1041 }

def heap : Heap := #[]
def classes : Array Class := #[k0, k1, k2, k3, k4, k5, k6, k7, k8]
def interned : List (Array UInt16 × Addr) := []
def slotsUsed : Nat := 0
def theMethod : MethodId := ⟨1, 1⟩
def args0 : Array Value := #[.long 5]
def aboutOver (below : List Frame) : State where
  vm := { classes := classes, interned := interned.toArray }
  heap := heap
  slotsUsed := slotsUsed
  threads := #[{ frames := .invoking theMethod args0 :: below }]
def below0 : List Frame := [.native { method := ⟨0, 0⟩, args := #[] }]
def about1 : State := aboutOver below0
def p0 : Program := .bare "" "" ""
def e0 : Env := launch0.env 0 0 0
theorem w_frames : about1.frames = Frame.invoking theMethod args0 :: below0 := rfl
set_option maxRecDepth 65536 in
theorem w_args : argsFit about1.vm theMethod args0 = true := by decide +kernel
set_option maxRecDepth 65536 in
theorem w_heap : heapFits about1 = true := by decide +kernel
set_option maxRecDepth 65536 in
theorem w_runnable : about1.curStatus? = some .runnable := by decide +kernel
set_option maxRecDepth 65536 in
theorem w_alone : about1.alone = true := by decide +kernel
set_option maxRecDepth 65536 in
theorem w_named : about1.methodNamed? x = some theMethod := by decide +kernel
set_option maxRecDepth 65536 in
theorem w_hears : about1.hears theMethod below0 = true := by decide +kernel
set_option maxRecDepth 65536 in
theorem w_ripe : about1.ripe theMethod args0 below0 = true := by decide +kernel
theorem w_running : about1.status = .running := rfl
set_option maxRecDepth 65536 in
theorem w_room : about1.hasRoom e0.platform room_1 = true :=
  launch0.hasRoom_least _ room_1 (by decide +kernel) (by decide +kernel) (by decide +kernel) (by decide +kernel) (by decide +kernel) (by decide +kernel)
theorem allAtoms_all (ts : List Jvm.Cond) (a : Array Jvm.Value) (st : Jvm.State) : (allAtoms ts).before a st = ts.all (fun c => c.before a st) := by
  induction ts with
  | nil => rfl
  | cons c t ih =>
    show (Jvm.Cond.and c (allAtoms t)).before a st = _
    rw [Jvm.Cond.before_and, ih, List.all_cons]
def words1 : List Jvm.Cond := Jvm.Cond.code x code maxLocals ret :: tables_1
/-- a 'code' word, met by the world's own term for the bytes: nothing is compared byte by byte -/
theorem code_word {y : MethodName} {bytes : ByteArray} {mx : Nat} {rt : Option FieldType} {a : Array Value} {s : State} {m : MethodId} {meth : Method} {c : Code} (h1 : s.methodNamed? y = some m) (h2 : s.vm.method? m = some meth) (h3 : meth.code = some c) (h4 : c.code = bytes)
    (h5 : (c.maxLocals == mx && c.exceptionTable.isEmpty && decide (c.maxStack ≤ mostOperands) && decide (meth.sig.returnType = rt) && !meth.locks && decide (parseMethodDescriptor y.desc = some meth.sig)) = true) : (Jvm.Cond.code y bytes mx rt).before a s = true := by
  simp only [Bool.and_eq_true, beq_iff_eq, Bool.not_eq_true', decide_eq_true_eq] at h5
  obtain ⟨⟨⟨⟨⟨g1, g2⟩, g3⟩, g4⟩, g5⟩, g6⟩ := h5
  simp [Cond.before, Cond.holds, Cond.value, h1, h2, h3, h4, g1, g2, g3, g4, g5, g6]
def isCode : Jvm.Cond → Bool
  | .code _ _ _ _ => true
  | _ => false
theorem all_split {L : List Jvm.Cond} {P : Jvm.Cond → Bool} (h1 : L.all (fun c => isCode c || P c) = true) (h2 : ∀ c ∈ L.filter isCode, P c = true) : L.all P = true := by
  refine List.all_eq_true.mpr fun c hc => ?_
  have h := List.all_eq_true.mp h1 c hc
  rcases Bool.eq_false_or_eq_true (isCode c) with hi | hi
  · exact h2 c (List.mem_filter.mpr ⟨hc, hi⟩)
  · simpa [hi] using h
set_option maxRecDepth 65536 in
theorem w_c0 : (Jvm.Cond.code x code maxLocals ret).before args0 about1 = true := code_word (m := ⟨1, 1⟩) (meth := k1m1) (c := k1c1) (by decide +kernel) rfl rfl rfl (by decide +kernel)
set_option maxRecDepth 65536 in
theorem w_c1 : (Jvm.Cond.code ({ cls := "com/example/cordon/cordon/trusted/Tally", name := "share", desc := "(J)J" } : Jvm.MethodName) prog_24_method_3_code (4 : Nat) (Option.some Jvm.ClassFile.FieldType.long)).before args0 about1 = true := code_word (m := ⟨2, 0⟩) (meth := k2m0) (c := k2c0) (by decide +kernel) rfl rfl rfl (by decide +kernel)
def codes1 : List Jvm.Cond := [Jvm.Cond.code x code maxLocals ret, Jvm.Cond.code ({ cls := "com/example/cordon/cordon/trusted/Tally", name := "share", desc := "(J)J" } : Jvm.MethodName) prog_24_method_3_code (4 : Nat) (Option.some Jvm.ClassFile.FieldType.long)]
set_option maxRecDepth 65536 in
theorem codes_eq : words1.filter isCode = codes1 := rfl
theorem w_codes : ∀ c ∈ words1.filter isCode, c.before args0 about1 = true := by
  rw [codes_eq]
  intro c hc
  simp only [codes1, List.mem_cons, List.not_mem_nil, or_false] at hc
  rcases hc with rfl | rfl
  · exact w_c0
  · exact w_c1
set_option maxRecDepth 65536 in
theorem w_t1 : words1.all (fun c => isCode c || c.before args0 about1) = true := by decide +kernel
theorem w_tables : (allAtoms (Jvm.Cond.code x code maxLocals ret :: tables_1)).before args0 about1 = true := by
  rw [allAtoms_all]
  show words1.all (fun c => c.before args0 about1) = true
  refine all_split ?_ w_codes
  rw [w_t1]
set_option maxRecDepth 65536 in
theorem w_case : (Jvm.Cond.and given_1 narrow_1).before args0 about1 = true := by decide +kernel
theorem w_applies : (headSpec (Jvm.Cond.code x code maxLocals ret :: tables_1) room_1).applies x e0.platform about1 = true :=
  (Spec.applies_iff w_frames).mpr ⟨w_running, w_runnable, w_alone, w_named, w_hears, w_ripe, w_room, w_tables⟩
theorem atStart : AtStart classFile x code maxLocals ret World_1 tables_1 room_1 Calls_1 rest_1 Pre_1 launch0 p0 e0 about1 theMethod args0 below0 :=
  ⟨lists_1, trivial, launch0.admits_env _ _ _, launch0.least_env, fairChoices_fair.cas, fairChoices_fair.clock, w_frames, w_args, w_heap, w_applies, trivial, trivial, w_case⟩
end start1
theorem witness_1 : WitnessClaimed_1 := ⟨start1.p0, start1.e0, start1.about1, start1.theMethod, start1.args0, start1.below0, start1.atStart⟩
end Jvm.Pilot.@@N@@
