import JvmDerived
import JvmDerived.Pilot.@@N@@Statement
import JvmDerived.Pilot.@@N@@Code
set_option linter.unusedVariables false
set_option linter.unusedSimpArgs false
namespace Jvm.RoadKit
open Sem ClassFile Op Lib Jvm.Stand Jvm.Free Jvm.LawKit
section New
variable {p : Program} {l : Launch} {e : Env} {R : Room} {s : State} {m : MethodId} {args : Array Value} {below : List Frame} {meth : Method} {c : Code} {T : State} {locs : List Loc} {cells slots : Nat}
theorem retI (X : Stand p l e R s m args below meth c T locs cells slots) (hx : p.tables.exec = Jvm.exec) {pc : Nat} {Ls : Array Slot} {z : Int32} {rest : List Value} (hret : meth.sig.returnType = some .int) (hd : decode c.code pc = .ok (.ireturn, 1)) {fs : List Frame}
    (hl : ∀ (f : JFrame) (acts : List Action), f.method = m → f.locked = none → f.entered = [] → (doReturn e (T.setTop f) acts (some (.int z))).1 = T.setFrames fs) : Steps p.tables e below (T.setTop (mkF m pc Ls (.int z :: rest))) (T.setFrames fs) := by
  have hm' : T.vm.method? m = some meth := X.method'
  have hn : narrow .int (.int z) = .int z := rfl
  show Steps p.tables e below (T.setTop { method := m, pc := pc, locals := Ls, stack := _ :: rest, locked := none }) _
  jvm_step X.here [X.here.top, hx, hd, hm', hret, hn]
  first | (intro acts; rw [hl _ acts rfl rfl rfl]) | rw [hl _ _ rfl rfl rfl]
  exact Steps.refl _
end New
end Jvm.RoadKit
namespace Jvm.Pilot.@@N@@
open Jvm Jvm.ClassFile Sem Op Lib Jvm.Free Jvm.Stand Jvm.LawKit Jvm.RoadKit Bundle Jvm.Pilot.@@N@@.Jvm.D
/-- from u the invocation ends, and what it returns and leaves is as Q says -/
def Ends (p : Program) (e : Env) (below : List Frame) (s : State) (kc ks : Nat) (Q : Option Value → Heap → List Loc → Prop) (u : State) : Prop :=
  ∃ s₂ o, Steps p.tables e below u s₂ ∧ s₂.status = .running ∧ Ended s₂ below o ∧ ∃ v L, o = .returned v ∧ Q v s₂.heap L ∧ FrameEnd s o s₂ L kc ks
theorem Ends.via {p : Program} {e : Env} {below : List Frame} {s : State} {kc ks : Nat} {Q : Option Value → Heap → List Loc → Prop} {A B : State} (h : ∀ t, Steps p.tables e below A t → Steps p.tables e below B t) (k : Ends p e below s kc ks Q A) : Ends p e below s kc ks Q B := by
  obtain ⟨s₂, o, h1, r⟩ := k
  exact ⟨s₂, o, h _ h1, r⟩
theorem Ends.ret {p : Program} {l : Launch} {e : Env} {R : Room} {s : State} {m : MethodId} {args : Array Value} {below : List Frame} {meth : Method} {c : Code} {T : State} {locs : List Loc} {cells slots kc ks : Nat} {Q : Option Value → Heap → List Loc → Prop} {u : State}
    (X : Stand p l e R s m args below meth c T locs cells slots) {v : Option Value} (hv : meth.sig.returnType = none → v = none) (hlocks : meth.locks = false)
    (hst : ∀ fs, (∀ (f : JFrame) (acts : List Action), f.method = m → f.locked = none → f.entered = [] → (doReturn e (T.setTop f) acts v).1 = T.setFrames fs) → Steps p.tables e below u (T.setFrames fs))
    (hQ : Q v T.heap locs) (h1 : cells ≤ kc) (h2 : slots ≤ ks) : Ends p e below s kc ks Q u := by
  obtain ⟨fs, hr, hrun, hended, hW, hsame⟩ := X.leave (v := v) hv hlocks
  exact ⟨_, _, hst fs hr, hrun, hended, _, _, rfl, hQ, ⟨_, rfl⟩, hW, hsame.mono h1 h2⟩

theorem own_pd0 : parseMethodDescriptor "([JI)Z" = some ⟨[(.array .long), .int], some .boolean⟩ := by decide +kernel
theorem d1_0 : decode prog_56_method_3_code 0 = .ok (.aload_n 0, 1) := by decide +kernel
theorem d1_1 : decode prog_56_method_3_code 1 = .ok (.iload_n 1, 1) := by decide +kernel
theorem d1_2 : decode prog_56_method_3_code 2 = .ok (.bipush 6, 2) := by decide +kernel
theorem d1_4 : decode prog_56_method_3_code 4 = .ok (.iushr, 1) := by decide +kernel
theorem d1_5 : decode prog_56_method_3_code 5 = .ok (.laload, 1) := by decide +kernel
theorem d1_6 : decode prog_56_method_3_code 6 = .ok (.lconst 1, 1) := by decide +kernel
theorem d1_7 : decode prog_56_method_3_code 7 = .ok (.iload_n 1, 1) := by decide +kernel
theorem d1_8 : decode prog_56_method_3_code 8 = .ok (.lshl, 1) := by decide +kernel
theorem d1_9 : decode prog_56_method_3_code 9 = .ok (.land, 1) := by decide +kernel
theorem d1_10 : decode prog_56_method_3_code 10 = .ok (.lconst 0, 1) := by decide +kernel
theorem d1_11 : decode prog_56_method_3_code 11 = .ok (.lcmp, 1) := by decide +kernel
theorem d1_12 : decode prog_56_method_3_code 12 = .ok (.ifCond .eq 7, 3) := by decide +kernel
theorem d1_15 : decode prog_56_method_3_code 15 = .ok (.iconst 1, 1) := by decide +kernel
theorem d1_16 : decode prog_56_method_3_code 16 = .ok (.goto 4, 3) := by decide +kernel
theorem d1_19 : decode prog_56_method_3_code 19 = .ok (.iconst 0, 1) := by decide +kernel
theorem d1_20 : decode prog_56_method_3_code 20 = .ok (.ireturn, 1) := by decide +kernel
theorem pn_1 : plainName "org/graphstride/VertexBits" = true := by first | (simp [plainName, overriddenIn]; done) | decide +kernel
theorem ef_1 (m : MethodId) (a0 : Addr) (p1 : Int32) : entryFrame m #[(.ref a0), (.int p1)] 2 = mkF m 0 #[.val (.ref a0), .val (.int p1)] [] := by first | (simp [entryFrame, mkF, argsToLocals, Value.category]; done) | rfl
def fn1 (w : Int64) (p1 : Int32) : Int32 := (if (w &&& ((1 : Int64) <<< (p1 &&& 0x3f).toInt64)) = (0 : Int64) then (0 : Int32) else (1 : Int32))
abbrev ROOM1 : Room := { frames := 0, cells := 0, slots := 0, locals := 0 }
def Q1 (Z : State) (a0 : Addr) (p1 : Int32) (w : Int64) (cl : Cell) (h0 : Heap) (n0 : Nat) (v : Option Value) (h : Heap) (L : List Loc) : Prop := v = some (.int (fn1 w p1)) ∧ Fr n0 L ∧ h = h0
set_option maxRecDepth 65536 in
set_option maxHeartbeats 40000000 in
theorem rm1 (l : Launch) (Z : State) (a0 : Array Value) (hw : ∀ d ∈ tables_1, d.before a0 Z = true) (ws : List Jvm.Cond) (a0 : Addr) (p1 : Int32) (w : Int64) (cl : Cell) (h0 : Heap) (n0 : Nat) (Z0 : n0 ≤ h0.size) (Ar : Arr Z h0 a0 cl .long) (hin : ¬ (((p1.toUInt32 >>> ((6 : Int32) &&& 31).toUInt32).toInt32) < 0 ∨ cl.slots.size ≤ (((p1.toUInt32 >>> ((6 : Int32) &&& 31).toUInt32).toInt32)).toNatClampNeg)) (hat : cl.slots[(((p1.toUInt32 >>> ((6 : Int32) &&& 31).toUInt32).toInt32)).toNatClampNeg]? = some (.long w)) :
    MetFree l (⟨"org/graphstride/VertexBits", "isSet", "([JI)Z"⟩ : MethodName) (head1 (Jvm.Cond.code (⟨"org/graphstride/VertexBits", "isSet", "([JI)Z"⟩ : MethodName) prog_56_method_3_code 2 (some .boolean) :: ws) ROOM1) (fun a U => a = #[(.ref a0), (.int p1)] ∧ Z.Warmed39 U.vm ∧ U.heap = h0) (fun _ _ _ _ _ => True) (fun _ U o U' => ∃ v L, o = .returned v ∧ Q1 Z a0 p1 w cl h0 n0 v U'.heap L ∧ FrameEnd U o U' L ROOM1.cells ROOM1.slots) := by
  refine MetFree.of_bodySF (plainFor_of_name pn_1) hisR ?_
  intro p e s m args below meth c s₁ Bd hml0 hP hK
  obtain ⟨rfl, hZ, hh⟩ := hP
  have hx := Bd.exec
  have hby := Bd.bytes
  have hml : c.maxLocals = 2 := hml0
  have hown : s.vm.findClass "org/graphstride/VertexBits" = some m.cls := findClass_of_methodNamed Bd.named
  have hnm := (name_of_methodNamed Bd.named Bd.method).1
  have X0 : Stand p l e ROOM1 s m #[(.ref a0), (.int p1)] below meth c s₁ [] 0 0 := Stand.of_body Bd
  have e0 : s₁.heap = h0 := by rw [← hh, Bd.state]; rfl
  have N0 := Fr.nil n0
  refine Ends.via (A := s₁.setTop (mkF m 0 #[.val (.ref a0), .val (.int p1)] [])) (kc := ROOM1.cells) (ks := ROOM1.slots) (Q := (Q1 Z a0 p1 w cl h0 n0)) (fun t k => castTop (ef_1 m a0 p1) k) ?_
  show Ends p e below s ROOM1.cells ROOM1.slots (Q1 Z a0 p1 w cl h0 n0) (s₁.setTop (mkF m 0 #[.val (.ref a0), .val (.int p1)] []))
  refine Ends.via (fun _ k => XS.aloadN X0.here hx rfl (hb hby d1_0) rfl rfl k) ?_
  show Ends p e below s ROOM1.cells ROOM1.slots (Q1 Z a0 p1 w cl h0 n0) (s₁.setTop (mkF m 1 #[.val (.ref a0), .val (.int p1)] [(.ref a0)]))
  refine Ends.via (fun _ k => XS.iloadN X0.here hx rfl (hb hby d1_1) rfl k) ?_
  show Ends p e below s ROOM1.cells ROOM1.slots (Q1 Z a0 p1 w cl h0 n0) (s₁.setTop (mkF m 2 #[.val (.ref a0), .val (.int p1)] [(.int p1), (.ref a0)]))
  refine Ends.via (fun _ k => XS.bipush X0.here hx rfl (hb hby d1_2) k) ?_
  show Ends p e below s ROOM1.cells ROOM1.slots (Q1 Z a0 p1 w cl h0 n0) (s₁.setTop (mkF m 4 #[.val (.ref a0), .val (.int p1)] [(.int (6 : Int32)), (.int p1), (.ref a0)]))
  refine Ends.via (fun _ k => XS.iushr X0.here hx rfl (hb hby d1_4) rfl k) ?_
  show Ends p e below s ROOM1.cells ROOM1.slots (Q1 Z a0 p1 w cl h0 n0) (s₁.setTop (mkF m 5 #[.val (.ref a0), .val (.int p1)] [(.int ((p1.toUInt32 >>> ((6 : Int32) &&& 31).toUInt32).toInt32)), (.ref a0)]))
  refine Ends.via (X0.laload hx (j := ((p1.toUInt32 >>> ((6 : Int32) &&& 31).toUInt32).toInt32)) (v := (.long w)) (by rw [e0]; exact Ar.1) (State.isArrayOf_alike hZ.alike Ar.2.1) Ar.2.2 hin hat (g := (mkF m 5 #[.val (.ref a0), .val (.int p1)] [(.int ((p1.toUInt32 >>> ((6 : Int32) &&& 31).toUInt32).toInt32)), (.ref a0)])) rfl rfl (hb hby d1_5)) ?_
  show Ends p e below s ROOM1.cells ROOM1.slots (Q1 Z a0 p1 w cl h0 n0) (s₁.setTop (mkF m 6 #[.val (.ref a0), .val (.int p1)] [(.long w)]))
  refine Ends.via (fun _ k => XS.lconst X0.here hx rfl (hb hby d1_6) k) ?_
  show Ends p e below s ROOM1.cells ROOM1.slots (Q1 Z a0 p1 w cl h0 n0) (s₁.setTop (mkF m 7 #[.val (.ref a0), .val (.int p1)] [(.long (1 : Int64)), (.long w)]))
  refine Ends.via (fun _ k => XS.iloadN X0.here hx rfl (hb hby d1_7) rfl k) ?_
  show Ends p e below s ROOM1.cells ROOM1.slots (Q1 Z a0 p1 w cl h0 n0) (s₁.setTop (mkF m 8 #[.val (.ref a0), .val (.int p1)] [(.int p1), (.long (1 : Int64)), (.long w)]))
  refine Ends.via (fun _ k => XS.lshl X0.here hx rfl (hb hby d1_8) rfl k) ?_
  show Ends p e below s ROOM1.cells ROOM1.slots (Q1 Z a0 p1 w cl h0 n0) (s₁.setTop (mkF m 9 #[.val (.ref a0), .val (.int p1)] [(.long ((1 : Int64) <<< (p1 &&& 0x3f).toInt64)), (.long w)]))
  refine Ends.via (fun _ k => XS.land X0.here hx rfl (hb hby d1_9) rfl k) ?_
  show Ends p e below s ROOM1.cells ROOM1.slots (Q1 Z a0 p1 w cl h0 n0) (s₁.setTop (mkF m 10 #[.val (.ref a0), .val (.int p1)] [(.long (w &&& ((1 : Int64) <<< (p1 &&& 0x3f).toInt64)))]))
  refine Ends.via (fun _ k => XS.lconst X0.here hx rfl (hb hby d1_10) k) ?_
  show Ends p e below s ROOM1.cells ROOM1.slots (Q1 Z a0 p1 w cl h0 n0) (s₁.setTop (mkF m 11 #[.val (.ref a0), .val (.int p1)] [(.long (0 : Int64)), (.long (w &&& ((1 : Int64) <<< (p1 &&& 0x3f).toInt64)))]))
  refine Ends.via (fun _ k => XS.lcmp X0.here hx rfl (hb hby d1_11) rfl k) ?_
  show Ends p e below s ROOM1.cells ROOM1.slots (Q1 Z a0 p1 w cl h0 n0) (s₁.setTop (mkF m 12 #[.val (.ref a0), .val (.int p1)] [(.int (lcmpW (w &&& ((1 : Int64) <<< (p1 &&& 0x3f).toInt64)) (0 : Int64)))]))
  by_cases hc16 : (w &&& ((1 : Int64) <<< (p1 &&& 0x3f).toInt64)) = (0 : Int64)
  · refine Ends.via (fun _ k => XS.ifYes X0.here hx rfl (pc0 := 12) (pc' := 19) rfl (hb hby d1_12) rfl ((if0 _ _).trans (teq ((lw_eq _ _).mpr hc16)).1) (by decide) (by decide) k) ?_
    show Ends p e below s ROOM1.cells ROOM1.slots (Q1 Z a0 p1 w cl h0 n0) (s₁.setTop (mkF m 19 #[.val (.ref a0), .val (.int p1)] []))
    refine Ends.via (fun _ k => XS.iconst X0.here hx rfl (hb hby d1_19) k) ?_
    show Ends p e below s ROOM1.cells ROOM1.slots (Q1 Z a0 p1 w cl h0 n0) (s₁.setTop (mkF m 20 #[.val (.ref a0), .val (.int p1)] [(.int (0 : Int32))]))
    refine Ends.ret X0 (v := some (.int (nar .boolean (0 : Int32)))) (fun h => by rw [Bd.returns] at h; cases h) Bd.notSynchronized (fun fs hr => retN X0 hx (t := .boolean) Bd.returns (by simp) (hb hby d1_20) hr) ?_ (by decide) (by decide)
    have hfn : fn1 w p1 = (0 : Int32) := by simp only [fn1, if_pos hc16]
    exact ⟨by rw [hfn]; rfl, N0, e0⟩
  · refine Ends.via (fun _ k => XS.ifNo X0.here hx rfl (hb hby d1_12) rfl ((if0 _ _).trans (feq (mt (lw_eq _ _).mp hc16)).1) k) ?_
    show Ends p e below s ROOM1.cells ROOM1.slots (Q1 Z a0 p1 w cl h0 n0) (s₁.setTop (mkF m 15 #[.val (.ref a0), .val (.int p1)] []))
    refine Ends.via (fun _ k => XS.iconst X0.here hx rfl (hb hby d1_15) k) ?_
    show Ends p e below s ROOM1.cells ROOM1.slots (Q1 Z a0 p1 w cl h0 n0) (s₁.setTop (mkF m 16 #[.val (.ref a0), .val (.int p1)] [(.int (1 : Int32))]))
    refine Ends.via (fun _ k => XS.goto X0.here hx rfl (pc0 := 16) (pc' := 20) rfl (hb hby d1_16) (by decide) (by decide) k) ?_
    show Ends p e below s ROOM1.cells ROOM1.slots (Q1 Z a0 p1 w cl h0 n0) (s₁.setTop (mkF m 20 #[.val (.ref a0), .val (.int p1)] [(.int (1 : Int32))]))
    refine Ends.ret X0 (v := some (.int (nar .boolean (1 : Int32)))) (fun h => by rw [Bd.returns] at h; cases h) Bd.notSynchronized (fun fs hr => retN X0 hx (t := .boolean) Bd.returns (by simp) (hb hby d1_20) hr) ?_ (by decide) (by decide)
    have hfn : fn1 w p1 = (1 : Int32) := by simp only [fn1, if_neg hc16]
    exact ⟨by rw [hfn]; rfl, N0, e0⟩
def own_n (x : Int64) : Nat := x.toBitVec.toNat
theorem own_n_and (x y : Int64) : own_n (x &&& y) = own_n x &&& own_n y := by simp only [own_n, Int64.toBitVec_and, BitVec.toNat_and]
theorem own_n_lt (x : Int64) : own_n x < 2 ^ 64 := x.toBitVec.isLt
theorem own_n_shr (x : Int64) (s : UInt64) : own_n ((x.toUInt64 >>> s).toInt64) = own_n x / 2 ^ (s.toNat % 64) := by
  show (x.toUInt64 >>> s).toNat = _
  rw [UInt64.toNat_shiftRight, Nat.shiftRight_eq_div_pow]; rfl
theorem own_n_inj {x y : Int64} (h : own_n x = own_n y) : x = y := Int64.toBitVec_inj.mp (BitVec.eq_of_toNat_eq h)
theorem own_n_int (x : Int64) : (own_n x : Int) = x.toInt % 18446744073709551616 := by
  have e : x.toInt = x.toBitVec.toInt := rfl
  have h := x.toBitVec.isLt
  rw [e, BitVec.toInt_eq_toNat_cond]
  show ((x.toBitVec.toNat : Nat) : Int) = _
  split <;> omega
theorem own_one (p : Int32) : own_n ((1 : Int64) <<< (p &&& 0x3f).toInt64) = 2 ^ (p.toBitVec.toNat % 64) := by
  have h := c_lshl 1 p _ rfl
  have e := own_n_int ((1 : Int64) <<< (p &&& 0x3f).toInt64)
  have e1 : (1 : Int64).toInt = 1 := rfl
  rw [e1, Int.one_mul] at h
  have hk : 2 ^ (p.toBitVec.toNat % 64) < 2 ^ 64 := Nat.pow_lt_pow_right (by decide) (Nat.mod_lt _ (by decide))
  generalize 2 ^ (p.toBitVec.toNat % 64) = z at *
  omega
theorem own_pn (p : Int32) (h : 0 ≤ p.toInt) : (p.toBitVec.toNat : Int) = p.toInt := by
  have e : p.toInt = p.toBitVec.toInt := rfl
  have hl := p.toBitVec.isLt
  have e2 := BitVec.toInt_eq_toNat_cond p.toBitVec
  split at e2 <;> omega
theorem own_and2 (n i : Nat) : n &&& 2 ^ i = if n / 2 ^ i % 2 = 1 then 2 ^ i else 0 := by
  have hb : n.testBit i = decide (n / 2 ^ i % 2 = 1) := Nat.testBit_eq_decide_div_mod_eq
  apply Nat.eq_of_testBit_eq
  intro j
  rw [Nat.testBit_and, Nat.testBit_two_pow]
  by_cases c : n / 2 ^ i % 2 = 1
  · rw [if_pos c, Nat.testBit_two_pow]
    by_cases e : i = j
    · subst e; simp [hb, c]
    · simp [e]
  · rw [if_neg c, Nat.zero_testBit]
    by_cases e : i = j
    · subst e; simp [hb, c]
    · simp [e]
/-- the shift that lushr takes of r -/
theorem own_sh (r : Int32) : ((r &&& 0x3f).toInt64.toUInt64).toNat % 64 = r.toBitVec.toNat % 64 := by
  have h := c_mask r 0x3f 6 (by decide) (by decide)
  have h1 : (((r &&& 0x3f).toInt64.toUInt64).toNat : Int) = own_n (r &&& 0x3f).toInt64 := rfl
  rw [own_n_int, Int32.toInt_toInt64] at h1
  have e : r.toInt = r.toBitVec.toInt := rfl
  rw [e, BitVec.toInt_eq_toNat_cond] at h
  split at h <;> omega
theorem own_bit (w : Int64) (p r : Int32) (h : p.toBitVec.toNat % 64 = r.toBitVec.toNat % 64) : (((w.toUInt64 >>> (r &&& 0x3f).toInt64.toUInt64).toInt64) &&& (1 : Int64)) = (1 : Int64) ↔ ¬ (w &&& ((1 : Int64) <<< (p &&& 0x3f).toInt64)) = (0 : Int64) := by
  have e1 : own_n (1 : Int64) = 1 := rfl
  have e0 : own_n (0 : Int64) = 0 := rfl
  have a1 : own_n (((w.toUInt64 >>> (r &&& 0x3f).toInt64.toUInt64).toInt64) &&& (1 : Int64)) = own_n w / 2 ^ (p.toBitVec.toNat % 64) % 2 := by
    rw [own_n_and, own_n_shr, own_sh, e1, Nat.and_one_is_mod, h]
  have a2 : own_n (w &&& ((1 : Int64) <<< (p &&& 0x3f).toInt64)) = if own_n w / 2 ^ (p.toBitVec.toNat % 64) % 2 = 1 then 2 ^ (p.toBitVec.toNat % 64) else 0 := by
    rw [own_n_and, own_one, own_and2]
  have hp : 0 < 2 ^ (p.toBitVec.toNat % 64) := Nat.pow_pos (by decide)
  constructor
  · intro q z
    have q' := congrArg own_n q
    have z' := congrArg own_n z
    rw [a1, e1] at q'
    rw [a2, if_pos q', e0] at z'
    omega
  · intro q
    apply own_n_inj
    rw [a1, e1]
    by_cases c : own_n w / 2 ^ (p.toBitVec.toNat % 64) % 2 = 1
    · exact c
    · exact absurd (own_n_inj (by rw [a2, if_neg c, e0])) q
theorem own_v (p v : Int32) (h : ((p &&& (2147483647 : Int32)) % (192 : Int32)) = v) : 0 ≤ v.toInt ∧ v.toInt < 192 := by
  have h1 := c_mask p 2147483647 31 (by decide) (by decide)
  have h2 := (c_irem (p &&& 2147483647) 192 192 rfl).1 (by omega)
  rw [h] at h2; omega
theorem own_at (q0 q1 q2 : Int64) (v1 v6 : Int32) (v10 : Int64) (p3 : Int32) (hv1 : ((p3 &&& (2147483647 : Int32)) % (192 : Int32)) = v1) (hv6 : (v1 / (64 : Int32)) = v6) (hv10 : (if v6 = (0 : Int32) then q0 else (if v6 = (1 : Int32) then q1 else q2)) = v10) :
    ¬ ((v1.toUInt32 >>> ((6 : Int32) &&& 31).toUInt32).toInt32) < 0 ∧ ((v1.toUInt32 >>> ((6 : Int32) &&& 31).toUInt32).toInt32) < 3 ∧ ([(.long q0), (.long q1), (.long q2)] : List Value).getD (((v1.toUInt32 >>> ((6 : Int32) &&& 31).toUInt32).toInt32)).toNatClampNeg (.long (0 : Int64)) = (.long v10) := by
  have hr := own_v p3 v1 hv1
  have hj := c_iushr v1 6 6 (by decide) (by decide)
  have hd := (c_idiv v1 64 64 rfl (by decide)).1 hr.1
  rw [hv6] at hd
  generalize ((v1.toUInt32 >>> ((6 : Int32) &&& 31).toUInt32).toInt32) = j at *
  have e0 : (0 : Int32).toInt = 0 := rfl
  have e3 : (3 : Int32).toInt = 3 := rfl
  have e1 : (1 : Int32).toInt = 1 := rfl
  have ej : j.toNatClampNeg = v6.toInt.toNat := by show j.toInt.toNat = _; omega
  refine ⟨by rw [Int32.lt_iff_toInt_lt]; omega, by rw [Int32.lt_iff_toInt_lt]; omega, ?_⟩
  rw [ej, ← hv10]
  by_cases c0 : v6 = 0
  · rw [if_pos c0, c0]; rfl
  · rw [if_neg c0]
    by_cases c1 : v6 = 1
    · rw [if_pos c1, c1]; rfl
    · rw [if_neg c1]
      have n0 : v6.toInt ≠ 0 := fun h => c0 (Int32.toInt_inj.mp h)
      have n1 : v6.toInt ≠ 1 := fun h => c1 (Int32.toInt_inj.mp h)
      have : v6.toInt.toNat = 2 := by omega
      rw [this]; rfl
theorem own_leaf1 (q0 : Int64) (q1 : Int64) (q2 : Int64) (p3 : Int32) (v1 : Int32) (v6 : Int32) (v7 : Int32) (v10 : Int64) (v13 : Int32) (hv1 : ((p3 &&& (2147483647 : Int32)) % (192 : Int32)) = v1) (hv6 : (v1 / (64 : Int32)) = v6) (hv7 : (v1 % (64 : Int32)) = v7) (hv10 : (if v6 = (0 : Int32) then q0 else (if v6 = (1 : Int32) then q1 else q2)) = v10) (hv13 : (if (((v10.toUInt64 >>> (v7 &&& 0x3f).toInt64.toUInt64).toInt64) &&& (1 : Int64)) = (1 : Int64) then (1 : Int32) else (0 : Int32)) = v13) (hc19 : (fn1 v10 v1) = v13) (hc21 : q0 = q0) (hc23 : q1 = q1) (hc25 : ¬ (q2 = q2)) : False := by
    exact hc25 rfl
theorem own_leaf2 (q0 : Int64) (q1 : Int64) (q2 : Int64) (p3 : Int32) (v1 : Int32) (v6 : Int32) (v7 : Int32) (v10 : Int64) (v13 : Int32) (hv1 : ((p3 &&& (2147483647 : Int32)) % (192 : Int32)) = v1) (hv6 : (v1 / (64 : Int32)) = v6) (hv7 : (v1 % (64 : Int32)) = v7) (hv10 : (if v6 = (0 : Int32) then q0 else (if v6 = (1 : Int32) then q1 else q2)) = v10) (hv13 : (if (((v10.toUInt64 >>> (v7 &&& 0x3f).toInt64.toUInt64).toInt64) &&& (1 : Int64)) = (1 : Int64) then (1 : Int32) else (0 : Int32)) = v13) (hc19 : (fn1 v10 v1) = v13) (hc21 : q0 = q0) (hc23 : ¬ (q1 = q1)) : False := by
    exact hc23 rfl
theorem own_leaf3 (q0 : Int64) (q1 : Int64) (q2 : Int64) (p3 : Int32) (v1 : Int32) (v6 : Int32) (v7 : Int32) (v10 : Int64) (v13 : Int32) (hv1 : ((p3 &&& (2147483647 : Int32)) % (192 : Int32)) = v1) (hv6 : (v1 / (64 : Int32)) = v6) (hv7 : (v1 % (64 : Int32)) = v7) (hv10 : (if v6 = (0 : Int32) then q0 else (if v6 = (1 : Int32) then q1 else q2)) = v10) (hv13 : (if (((v10.toUInt64 >>> (v7 &&& 0x3f).toInt64.toUInt64).toInt64) &&& (1 : Int64)) = (1 : Int64) then (1 : Int32) else (0 : Int32)) = v13) (hc19 : (fn1 v10 v1) = v13) (hc21 : ¬ (q0 = q0)) : False := by
    exact hc21 rfl
theorem own_leaf4 (q0 : Int64) (q1 : Int64) (q2 : Int64) (p3 : Int32) (v1 : Int32) (v6 : Int32) (v7 : Int32) (v10 : Int64) (v13 : Int32) (hv1 : ((p3 &&& (2147483647 : Int32)) % (192 : Int32)) = v1) (hv6 : (v1 / (64 : Int32)) = v6) (hv7 : (v1 % (64 : Int32)) = v7) (hv10 : (if v6 = (0 : Int32) then q0 else (if v6 = (1 : Int32) then q1 else q2)) = v10) (hv13 : (if (((v10.toUInt64 >>> (v7 &&& 0x3f).toInt64.toUInt64).toInt64) &&& (1 : Int64)) = (1 : Int64) then (1 : Int32) else (0 : Int32)) = v13) (hc19 : ¬ ((fn1 v10 v1) = v13)) : False := by
    have hr := own_v p3 v1 hv1
    have h7 := (c_irem v1 64 64 rfl).1 hr.1
    rw [hv7] at h7
    have a1 := own_pn v1 hr.1
    have a2 := own_pn v7 (by omega)
    have hb := own_bit v10 v1 v7 (by omega)
    apply hc19
    rw [← hv13, fn1]
    by_cases c : (v10 &&& ((1 : Int64) <<< (v1 &&& 0x3f).toInt64)) = (0 : Int64)
    · rw [if_pos c, if_neg (fun q => hb.mp q c)]
    · rw [if_neg c, if_pos (hb.mpr c)]
theorem pn_0 : plainName "org/graphstride/VertexBitsIsSetPinLaw" = true := by first | (simp [plainName, overriddenIn]; done) | decide +kernel
theorem ef_0 (m : MethodId) (q0 : Int64) (q1 : Int64) (q2 : Int64) (p3 : Int32) : entryFrame m #[(.long q0), (.long q1), (.long q2), (.int p3)] maxLocals = mkF m 0 #[.val (.long q0), .second, .val (.long q1), .second, .val (.long q2), .second, .val (.int p3), .unset, .unset, .unset, .unset, .unset, .unset, .unset, .unset] [] := by first | (simp [entryFrame, mkF, argsToLocals, Value.category, maxLocals]; done) | rfl
def Q0 (Z : State) (q0 : Int64) (q1 : Int64) (q2 : Int64) (p3 : Int32)  (h0 : Heap) (n0 : Nat) (v : Option Value) (h : Heap) (L : List Loc) : Prop := v = some (.int 1) ∧ Fr n0 L
set_option maxRecDepth 65536 in
set_option maxHeartbeats 40000000 in
theorem rm0 (l : Launch) (Z : State) (a0 : Array Value) (hw : ∀ d ∈ tables_1, d.before a0 Z = true) (ws : List Jvm.Cond) (q0 : Int64) (q1 : Int64) (q2 : Int64) (p3 : Int32)  (h0 : Heap) (n0 : Nat) (Z0 : n0 ≤ h0.size)  :
    MetFree l x (head1 (Jvm.Cond.code x code maxLocals ret :: ws) room_1) (fun a U => a = #[(.long q0), (.long q1), (.long q2), (.int p3)] ∧ Z.Warmed39 U.vm ∧ U.heap = h0) (fun _ _ _ _ _ => True) (fun _ U o U' => ∃ v L, o = .returned v ∧ Q0 Z q0 q1 q2 p3  h0 n0 v U'.heap L ∧ FrameEnd U o U' L 16 128) := by
  refine MetFree.of_bodySF (plainFor_of_name pn_0) hisR ?_
  intro p e s m args below meth c s₁ Bd hml0 hP hK
  obtain ⟨rfl, hZ, hh⟩ := hP
  have hx := Bd.exec
  have hby := Bd.bytes
  have hml : c.maxLocals = 15 := hml0
  have hown : s.vm.findClass "org/graphstride/VertexBitsIsSetPinLaw" = some m.cls := findClass_of_methodNamed Bd.named
  have hnm := (name_of_methodNamed Bd.named Bd.method).1
  have X0 : Stand p l e room_1 s m #[(.long q0), (.long q1), (.long q2), (.int p3)] below meth c s₁ [] 0 0 := Stand.of_body Bd
  have e0 : s₁.heap = h0 := by rw [← hh, Bd.state]; rfl
  have N0 := Fr.nil n0
  refine Ends.via (A := s₁.setTop (mkF m 0 #[.val (.long q0), .second, .val (.long q1), .second, .val (.long q2), .second, .val (.int p3), .unset, .unset, .unset, .unset, .unset, .unset, .unset, .unset] [])) (kc := 16) (ks := 128) (Q := (Q0 Z q0 q1 q2 p3  h0 n0)) (fun t k => castTop (ef_0 m q0 q1 q2 p3) k) ?_
  show Ends p e below s 16 128 (Q0 Z q0 q1 q2 p3  h0 n0) (s₁.setTop (mkF m 0 #[.val (.long q0), .second, .val (.long q1), .second, .val (.long q2), .second, .val (.int p3), .unset, .unset, .unset, .unset, .unset, .unset, .unset, .unset] []))
  refine Ends.via (fun _ k => XS.iload X0.here hx rfl (hb hby at_0) rfl k) ?_
  show Ends p e below s 16 128 (Q0 Z q0 q1 q2 p3  h0 n0) (s₁.setTop (mkF m 2 #[.val (.long q0), .second, .val (.long q1), .second, .val (.long q2), .second, .val (.int p3), .unset, .unset, .unset, .unset, .unset, .unset, .unset, .unset] [(.int p3)]))
  refine Ends.via (X0.ldcInt hx hown (mvT hZ (hw _ (List.mem_of_getElem? (i := 0) rfl))) (g := (mkF m 2 #[.val (.long q0), .second, .val (.long q1), .second, .val (.long q2), .second, .val (.int p3), .unset, .unset, .unset, .unset, .unset, .unset, .unset, .unset] [(.int p3)])) rfl (hb hby at_2)) ?_
  show Ends p e below s 16 128 (Q0 Z q0 q1 q2 p3  h0 n0) (s₁.setTop (mkF m 4 #[.val (.long q0), .second, .val (.long q1), .second, .val (.long q2), .second, .val (.int p3), .unset, .unset, .unset, .unset, .unset, .unset, .unset, .unset] [(.int (2147483647 : Int32)), (.int p3)]))
  refine Ends.via (fun _ k => XS.iand X0.here hx rfl (hb hby at_4) rfl k) ?_
  show Ends p e below s 16 128 (Q0 Z q0 q1 q2 p3  h0 n0) (s₁.setTop (mkF m 5 #[.val (.long q0), .second, .val (.long q1), .second, .val (.long q2), .second, .val (.int p3), .unset, .unset, .unset, .unset, .unset, .unset, .unset, .unset] [(.int (p3 &&& (2147483647 : Int32)))]))
  refine Ends.via (fun _ k => XS.sipush X0.here hx rfl (hb hby at_5) k) ?_
  show Ends p e below s 16 128 (Q0 Z q0 q1 q2 p3  h0 n0) (s₁.setTop (mkF m 8 #[.val (.long q0), .second, .val (.long q1), .second, .val (.long q2), .second, .val (.int p3), .unset, .unset, .unset, .unset, .unset, .unset, .unset, .unset] [(.int (192 : Int32)), (.int (p3 &&& (2147483647 : Int32)))]))
  refine Ends.via (fun _ k => iremM X0 hx rfl (hb hby at_8) rfl (by decide) k) ?_
  show Ends p e below s 16 128 (Q0 Z q0 q1 q2 p3  h0 n0) (s₁.setTop (mkF m 9 #[.val (.long q0), .second, .val (.long q1), .second, .val (.long q2), .second, .val (.int p3), .unset, .unset, .unset, .unset, .unset, .unset, .unset, .unset] [(.int ((p3 &&& (2147483647 : Int32)) % (192 : Int32)))]))
  refine Ends.via (fun _ k => XS.istore X0.here hx rfl (hb hby at_9) rfl (l' := #[.val (.long q0), .second, .val (.long q1), .second, .val (.long q2), .second, .val (.int p3), .val (.int ((p3 &&& (2147483647 : Int32)) % (192 : Int32))), .unset, .unset, .unset, .unset, .unset, .unset, .unset]) rfl k) ?_
  show Ends p e below s 16 128 (Q0 Z q0 q1 q2 p3  h0 n0) (s₁.setTop (mkF m 11 #[.val (.long q0), .second, .val (.long q1), .second, .val (.long q2), .second, .val (.int p3), .val (.int ((p3 &&& (2147483647 : Int32)) % (192 : Int32))), .unset, .unset, .unset, .unset, .unset, .unset, .unset] []))
  generalize hv1 : ((p3 &&& (2147483647 : Int32)) % (192 : Int32)) = v1
  refine Ends.via (fun _ k => XS.iconst X0.here hx rfl (hb hby at_11) k) ?_
  show Ends p e below s 16 128 (Q0 Z q0 q1 q2 p3  h0 n0) (s₁.setTop (mkF m 12 #[.val (.long q0), .second, .val (.long q1), .second, .val (.long q2), .second, .val (.int p3), .val (.int v1), .unset, .unset, .unset, .unset, .unset, .unset, .unset] [(.int (3 : Int32))]))
  obtain ⟨T2, h2, k2, X2, e2, E2, A2, st2⟩ := newP X0 hx hZ (hw _ (List.mem_of_getElem? (i := 1) rfl)) e0 (g := (mkF m 12 #[.val (.long q0), .second, .val (.long q1), .second, .val (.long q2), .second, .val (.int p3), .val (.int v1), .unset, .unset, .unset, .unset, .unset, .unset, .unset] [(.int (3 : Int32))])) rfl (hb hby at_12) rfl (by decide) (cap := 3) (by decide) (by decide) (by decide) (by decide)
  obtain ⟨b2, g2⟩ : ∃ z, z = h0.size := ⟨_, rfl⟩
  rw [← g2] at A2 st2
  have g_b2 : n0 ≤ b2 := Nat.le_trans Z0 (Nat.le_of_eq g2.symm)
  have Z2 : n0 ≤ h2.size := Nat.le_trans Z0 E2.1
  have V2 : Arv Z h2 b2 k2 .long (3 : Int32) [(.long (0 : Int64)), (.long (0 : Int64)), (.long (0 : Int64))] (.long (0 : Int64)) := (Arv.new A2 (by decide)).pad (pad_rep [] (.long (0 : Int64)) 3)
  refine Ends.via st2 ?_
  show Ends p e below s 16 128 (Q0 Z q0 q1 q2 p3  h0 n0) (T2.setTop (mkF m 14 #[.val (.long q0), .second, .val (.long q1), .second, .val (.long q2), .second, .val (.int p3), .val (.int v1), .unset, .unset, .unset, .unset, .unset, .unset, .unset] [(.ref b2)]))
  refine Ends.via (fun _ k => XS.astore X2.here hx rfl (hb hby at_14) rfl rfl (l' := #[.val (.long q0), .second, .val (.long q1), .second, .val (.long q2), .second, .val (.int p3), .val (.int v1), .val (.ref b2), .unset, .unset, .unset, .unset, .unset, .unset]) rfl k) ?_
  show Ends p e below s 16 128 (Q0 Z q0 q1 q2 p3  h0 n0) (T2.setTop (mkF m 16 #[.val (.long q0), .second, .val (.long q1), .second, .val (.long q2), .second, .val (.int p3), .val (.int v1), .val (.ref b2), .unset, .unset, .unset, .unset, .unset, .unset] []))
  refine Ends.via (fun _ k => XS.aload X2.here hx rfl (hb hby at_16) rfl rfl k) ?_
  show Ends p e below s 16 128 (Q0 Z q0 q1 q2 p3  h0 n0) (T2.setTop (mkF m 18 #[.val (.long q0), .second, .val (.long q1), .second, .val (.long q2), .second, .val (.int p3), .val (.int v1), .val (.ref b2), .unset, .unset, .unset, .unset, .unset, .unset] [(.ref b2)]))
  refine Ends.via (fun _ k => XS.iconst X2.here hx rfl (hb hby at_18) k) ?_
  show Ends p e below s 16 128 (Q0 Z q0 q1 q2 p3  h0 n0) (T2.setTop (mkF m 19 #[.val (.long q0), .second, .val (.long q1), .second, .val (.long q2), .second, .val (.int p3), .val (.int v1), .val (.ref b2), .unset, .unset, .unset, .unset, .unset, .unset] [(.int (0 : Int32)), (.ref b2)]))
  refine Ends.via (fun _ k => XS.lloadN X2.here hx rfl (hb hby at_19) rfl k) ?_
  show Ends p e below s 16 128 (Q0 Z q0 q1 q2 p3  h0 n0) (T2.setTop (mkF m 20 #[.val (.long q0), .second, .val (.long q1), .second, .val (.long q2), .second, .val (.int p3), .val (.int v1), .val (.ref b2), .unset, .unset, .unset, .unset, .unset, .unset] [(.long q0), (.int (0 : Int32)), (.ref b2)]))
  obtain ⟨cl3, Ar3, qk3, S3, Ng3, Hs3, Gf3⟩ := id V2
  have hin3 : ¬ ((0 : Int32) < 0 ∨ cl3.slots.size ≤ ((0 : Int32)).toNatClampNeg) := inb_of S3 ⟨by decide, by decide⟩
  obtain ⟨T3, h3, X3, e3, W3, st3⟩ := stJ X2 hx hZ e2 Ar3 (j := (0 : Int32)) hin3 (g := (mkF m 20 #[.val (.long q0), .second, .val (.long q1), .second, .val (.long q2), .second, .val (.int p3), .val (.int v1), .val (.ref b2), .unset, .unset, .unset, .unset, .unset, .unset] [(.long q0), (.int (0 : Int32)), (.ref b2)])) rfl rfl (hb hby at_20)
  have V3 : Arv Z h3 b2 k2 .long (3 : Int32) [(.long q0), (.long (0 : Int64)), (.long (0 : Int64))] (.long (0 : Int64)) := Arv.set Ar3 qk3 S3 Ng3 Hs3 Gf3 rfl W3 0 rfl (Nat.le_of_ble_eq_true rfl)
  have Z3 : n0 ≤ h3.size := Nat.le_trans Z2 (Keep.of_wr W3).1
  have N3 := Fr.snoc X3 N0 g_b2
  refine Ends.via st3 ?_
  show Ends p e below s 16 128 (Q0 Z q0 q1 q2 p3  h0 n0) (T3.setTop (mkF m 21 #[.val (.long q0), .second, .val (.long q1), .second, .val (.long q2), .second, .val (.int p3), .val (.int v1), .val (.ref b2), .unset, .unset, .unset, .unset, .unset, .unset] []))
  refine Ends.via (fun _ k => XS.aload X3.here hx rfl (hb hby at_21) rfl rfl k) ?_
  show Ends p e below s 16 128 (Q0 Z q0 q1 q2 p3  h0 n0) (T3.setTop (mkF m 23 #[.val (.long q0), .second, .val (.long q1), .second, .val (.long q2), .second, .val (.int p3), .val (.int v1), .val (.ref b2), .unset, .unset, .unset, .unset, .unset, .unset] [(.ref b2)]))
  refine Ends.via (fun _ k => XS.iconst X3.here hx rfl (hb hby at_23) k) ?_
  show Ends p e below s 16 128 (Q0 Z q0 q1 q2 p3  h0 n0) (T3.setTop (mkF m 24 #[.val (.long q0), .second, .val (.long q1), .second, .val (.long q2), .second, .val (.int p3), .val (.int v1), .val (.ref b2), .unset, .unset, .unset, .unset, .unset, .unset] [(.int (1 : Int32)), (.ref b2)]))
  refine Ends.via (fun _ k => XS.lloadN X3.here hx rfl (hb hby at_24) rfl k) ?_
  show Ends p e below s 16 128 (Q0 Z q0 q1 q2 p3  h0 n0) (T3.setTop (mkF m 25 #[.val (.long q0), .second, .val (.long q1), .second, .val (.long q2), .second, .val (.int p3), .val (.int v1), .val (.ref b2), .unset, .unset, .unset, .unset, .unset, .unset] [(.long q1), (.int (1 : Int32)), (.ref b2)]))
  obtain ⟨cl4, Ar4, qk4, S4, Ng4, Hs4, Gf4⟩ := id V3
  have hin4 : ¬ ((1 : Int32) < 0 ∨ cl4.slots.size ≤ ((1 : Int32)).toNatClampNeg) := inb_of S4 ⟨by decide, by decide⟩
  obtain ⟨T4, h4, X4, e4, W4, st4⟩ := stJ X3 hx hZ e3 Ar4 (j := (1 : Int32)) hin4 (g := (mkF m 25 #[.val (.long q0), .second, .val (.long q1), .second, .val (.long q2), .second, .val (.int p3), .val (.int v1), .val (.ref b2), .unset, .unset, .unset, .unset, .unset, .unset] [(.long q1), (.int (1 : Int32)), (.ref b2)])) rfl rfl (hb hby at_25)
  have V4 : Arv Z h4 b2 k2 .long (3 : Int32) [(.long q0), (.long q1), (.long (0 : Int64))] (.long (0 : Int64)) := Arv.set Ar4 qk4 S4 Ng4 Hs4 Gf4 rfl W4 1 rfl (Nat.le_of_ble_eq_true rfl)
  have Z4 : n0 ≤ h4.size := Nat.le_trans Z3 (Keep.of_wr W4).1
  have N4 := Fr.snoc X4 N3 g_b2
  refine Ends.via st4 ?_
  show Ends p e below s 16 128 (Q0 Z q0 q1 q2 p3  h0 n0) (T4.setTop (mkF m 26 #[.val (.long q0), .second, .val (.long q1), .second, .val (.long q2), .second, .val (.int p3), .val (.int v1), .val (.ref b2), .unset, .unset, .unset, .unset, .unset, .unset] []))
  refine Ends.via (fun _ k => XS.aload X4.here hx rfl (hb hby at_26) rfl rfl k) ?_
  show Ends p e below s 16 128 (Q0 Z q0 q1 q2 p3  h0 n0) (T4.setTop (mkF m 28 #[.val (.long q0), .second, .val (.long q1), .second, .val (.long q2), .second, .val (.int p3), .val (.int v1), .val (.ref b2), .unset, .unset, .unset, .unset, .unset, .unset] [(.ref b2)]))
  refine Ends.via (fun _ k => XS.iconst X4.here hx rfl (hb hby at_28) k) ?_
  show Ends p e below s 16 128 (Q0 Z q0 q1 q2 p3  h0 n0) (T4.setTop (mkF m 29 #[.val (.long q0), .second, .val (.long q1), .second, .val (.long q2), .second, .val (.int p3), .val (.int v1), .val (.ref b2), .unset, .unset, .unset, .unset, .unset, .unset] [(.int (2 : Int32)), (.ref b2)]))
  refine Ends.via (fun _ k => XS.lload X4.here hx rfl (hb hby at_29) rfl k) ?_
  show Ends p e below s 16 128 (Q0 Z q0 q1 q2 p3  h0 n0) (T4.setTop (mkF m 31 #[.val (.long q0), .second, .val (.long q1), .second, .val (.long q2), .second, .val (.int p3), .val (.int v1), .val (.ref b2), .unset, .unset, .unset, .unset, .unset, .unset] [(.long q2), (.int (2 : Int32)), (.ref b2)]))
  obtain ⟨cl5, Ar5, qk5, S5, Ng5, Hs5, Gf5⟩ := id V4
  have hin5 : ¬ ((2 : Int32) < 0 ∨ cl5.slots.size ≤ ((2 : Int32)).toNatClampNeg) := inb_of S5 ⟨by decide, by decide⟩
  obtain ⟨T5, h5, X5, e5, W5, st5⟩ := stJ X4 hx hZ e4 Ar5 (j := (2 : Int32)) hin5 (g := (mkF m 31 #[.val (.long q0), .second, .val (.long q1), .second, .val (.long q2), .second, .val (.int p3), .val (.int v1), .val (.ref b2), .unset, .unset, .unset, .unset, .unset, .unset] [(.long q2), (.int (2 : Int32)), (.ref b2)])) rfl rfl (hb hby at_31)
  have V5 : Arv Z h5 b2 k2 .long (3 : Int32) [(.long q0), (.long q1), (.long q2)] (.long (0 : Int64)) := Arv.set Ar5 qk5 S5 Ng5 Hs5 Gf5 rfl W5 2 rfl (Nat.le_of_ble_eq_true rfl)
  have Z5 : n0 ≤ h5.size := Nat.le_trans Z4 (Keep.of_wr W5).1
  have N5 := Fr.snoc X5 N4 g_b2
  refine Ends.via st5 ?_
  show Ends p e below s 16 128 (Q0 Z q0 q1 q2 p3  h0 n0) (T5.setTop (mkF m 32 #[.val (.long q0), .second, .val (.long q1), .second, .val (.long q2), .second, .val (.int p3), .val (.int v1), .val (.ref b2), .unset, .unset, .unset, .unset, .unset, .unset] []))
  refine Ends.via (fun _ k => XS.iload X5.here hx rfl (hb hby at_32) rfl k) ?_
  show Ends p e below s 16 128 (Q0 Z q0 q1 q2 p3  h0 n0) (T5.setTop (mkF m 34 #[.val (.long q0), .second, .val (.long q1), .second, .val (.long q2), .second, .val (.int p3), .val (.int v1), .val (.ref b2), .unset, .unset, .unset, .unset, .unset, .unset] [(.int v1)]))
  refine Ends.via (fun _ k => XS.bipush X5.here hx rfl (hb hby at_34) k) ?_
  show Ends p e below s 16 128 (Q0 Z q0 q1 q2 p3  h0 n0) (T5.setTop (mkF m 36 #[.val (.long q0), .second, .val (.long q1), .second, .val (.long q2), .second, .val (.int p3), .val (.int v1), .val (.ref b2), .unset, .unset, .unset, .unset, .unset, .unset] [(.int (64 : Int32)), (.int v1)]))
  refine Ends.via (fun _ k => XS.idiv X5.here hx rfl (hb hby at_36) rfl (by decide) k) ?_
  show Ends p e below s 16 128 (Q0 Z q0 q1 q2 p3  h0 n0) (T5.setTop (mkF m 37 #[.val (.long q0), .second, .val (.long q1), .second, .val (.long q2), .second, .val (.int p3), .val (.int v1), .val (.ref b2), .unset, .unset, .unset, .unset, .unset, .unset] [(.int (v1 / (64 : Int32)))]))
  refine Ends.via (fun _ k => XS.istore X5.here hx rfl (hb hby at_37) rfl (l' := #[.val (.long q0), .second, .val (.long q1), .second, .val (.long q2), .second, .val (.int p3), .val (.int v1), .val (.ref b2), .val (.int (v1 / (64 : Int32))), .unset, .unset, .unset, .unset, .unset]) rfl k) ?_
  show Ends p e below s 16 128 (Q0 Z q0 q1 q2 p3  h0 n0) (T5.setTop (mkF m 39 #[.val (.long q0), .second, .val (.long q1), .second, .val (.long q2), .second, .val (.int p3), .val (.int v1), .val (.ref b2), .val (.int (v1 / (64 : Int32))), .unset, .unset, .unset, .unset, .unset] []))
  generalize hv6 : (v1 / (64 : Int32)) = v6
  refine Ends.via (fun _ k => XS.iload X5.here hx rfl (hb hby at_39) rfl k) ?_
  show Ends p e below s 16 128 (Q0 Z q0 q1 q2 p3  h0 n0) (T5.setTop (mkF m 41 #[.val (.long q0), .second, .val (.long q1), .second, .val (.long q2), .second, .val (.int p3), .val (.int v1), .val (.ref b2), .val (.int v6), .unset, .unset, .unset, .unset, .unset] [(.int v1)]))
  refine Ends.via (fun _ k => XS.bipush X5.here hx rfl (hb hby at_41) k) ?_
  show Ends p e below s 16 128 (Q0 Z q0 q1 q2 p3  h0 n0) (T5.setTop (mkF m 43 #[.val (.long q0), .second, .val (.long q1), .second, .val (.long q2), .second, .val (.int p3), .val (.int v1), .val (.ref b2), .val (.int v6), .unset, .unset, .unset, .unset, .unset] [(.int (64 : Int32)), (.int v1)]))
  refine Ends.via (fun _ k => iremM X5 hx rfl (hb hby at_43) rfl (by decide) k) ?_
  show Ends p e below s 16 128 (Q0 Z q0 q1 q2 p3  h0 n0) (T5.setTop (mkF m 44 #[.val (.long q0), .second, .val (.long q1), .second, .val (.long q2), .second, .val (.int p3), .val (.int v1), .val (.ref b2), .val (.int v6), .unset, .unset, .unset, .unset, .unset] [(.int (v1 % (64 : Int32)))]))
  refine Ends.via (fun _ k => XS.istore X5.here hx rfl (hb hby at_44) rfl (l' := #[.val (.long q0), .second, .val (.long q1), .second, .val (.long q2), .second, .val (.int p3), .val (.int v1), .val (.ref b2), .val (.int v6), .val (.int (v1 % (64 : Int32))), .unset, .unset, .unset, .unset]) rfl k) ?_
  show Ends p e below s 16 128 (Q0 Z q0 q1 q2 p3  h0 n0) (T5.setTop (mkF m 46 #[.val (.long q0), .second, .val (.long q1), .second, .val (.long q2), .second, .val (.int p3), .val (.int v1), .val (.ref b2), .val (.int v6), .val (.int (v1 % (64 : Int32))), .unset, .unset, .unset, .unset] []))
  generalize hv7 : (v1 % (64 : Int32)) = v7
  refine Ends.via (fun _ k => XS.iload X5.here hx rfl (hb hby at_46) rfl k) ?_
  show Ends p e below s 16 128 (Q0 Z q0 q1 q2 p3  h0 n0) (T5.setTop (mkF m 48 #[.val (.long q0), .second, .val (.long q1), .second, .val (.long q2), .second, .val (.int p3), .val (.int v1), .val (.ref b2), .val (.int v6), .val (.int v7), .unset, .unset, .unset, .unset] [(.int v6)]))
  have J11 : ∀ (Tj11 : State) (Lj11 : List Loc) (Xj11 : Stand p l e room_1 s m #[(.long q0), (.long q1), (.long q2), (.int p3)] below meth c Tj11 Lj11 1 3) (ej11 : Tj11.heap = h5) (Nj11 : Fr n0 Lj11) (v10 : Int64), (if v6 = (0 : Int32) then q0 else (if v6 = (1 : Int32) then q1 else q2)) = v10 → Ends p e below s 16 128 (Q0 Z q0 q1 q2 p3  h0 n0) (Tj11.setTop (mkF m 73 #[.val (.long q0), .second, .val (.long q1), .second, .val (.long q2), .second, .val (.int p3), .val (.int v1), .val (.ref b2), .val (.int v6), .val (.int v7), .val (.long v10), .second, .unset, .unset] [])) := by
    intro Tj11 Lj11 Xj11 ej11 Nj11 v10 hv10
    refine Ends.via (fun _ k => XS.lload Xj11.here hx rfl (hb hby at_73) rfl k) ?_
    show Ends p e below s 16 128 (Q0 Z q0 q1 q2 p3  h0 n0) (Tj11.setTop (mkF m 75 #[.val (.long q0), .second, .val (.long q1), .second, .val (.long q2), .second, .val (.int p3), .val (.int v1), .val (.ref b2), .val (.int v6), .val (.int v7), .val (.long v10), .second, .unset, .unset] [(.long v10)]))
    refine Ends.via (fun _ k => XS.iload Xj11.here hx rfl (hb hby at_75) rfl k) ?_
    show Ends p e below s 16 128 (Q0 Z q0 q1 q2 p3  h0 n0) (Tj11.setTop (mkF m 77 #[.val (.long q0), .second, .val (.long q1), .second, .val (.long q2), .second, .val (.int p3), .val (.int v1), .val (.ref b2), .val (.int v6), .val (.int v7), .val (.long v10), .second, .unset, .unset] [(.int v7), (.long v10)]))
    refine Ends.via (fun _ k => XS.lushr Xj11.here hx rfl (hb hby at_77) rfl k) ?_
    show Ends p e below s 16 128 (Q0 Z q0 q1 q2 p3  h0 n0) (Tj11.setTop (mkF m 78 #[.val (.long q0), .second, .val (.long q1), .second, .val (.long q2), .second, .val (.int p3), .val (.int v1), .val (.ref b2), .val (.int v6), .val (.int v7), .val (.long v10), .second, .unset, .unset] [(.long ((v10.toUInt64 >>> (v7 &&& 0x3f).toInt64.toUInt64).toInt64))]))
    refine Ends.via (fun _ k => XS.lconst Xj11.here hx rfl (hb hby at_78) k) ?_
    show Ends p e below s 16 128 (Q0 Z q0 q1 q2 p3  h0 n0) (Tj11.setTop (mkF m 79 #[.val (.long q0), .second, .val (.long q1), .second, .val (.long q2), .second, .val (.int p3), .val (.int v1), .val (.ref b2), .val (.int v6), .val (.int v7), .val (.long v10), .second, .unset, .unset] [(.long (1 : Int64)), (.long ((v10.toUInt64 >>> (v7 &&& 0x3f).toInt64.toUInt64).toInt64))]))
    refine Ends.via (fun _ k => XS.land Xj11.here hx rfl (hb hby at_79) rfl k) ?_
    show Ends p e below s 16 128 (Q0 Z q0 q1 q2 p3  h0 n0) (Tj11.setTop (mkF m 80 #[.val (.long q0), .second, .val (.long q1), .second, .val (.long q2), .second, .val (.int p3), .val (.int v1), .val (.ref b2), .val (.int v6), .val (.int v7), .val (.long v10), .second, .unset, .unset] [(.long (((v10.toUInt64 >>> (v7 &&& 0x3f).toInt64.toUInt64).toInt64) &&& (1 : Int64)))]))
    refine Ends.via (fun _ k => XS.lconst Xj11.here hx rfl (hb hby at_80) k) ?_
    show Ends p e below s 16 128 (Q0 Z q0 q1 q2 p3  h0 n0) (Tj11.setTop (mkF m 81 #[.val (.long q0), .second, .val (.long q1), .second, .val (.long q2), .second, .val (.int p3), .val (.int v1), .val (.ref b2), .val (.int v6), .val (.int v7), .val (.long v10), .second, .unset, .unset] [(.long (1 : Int64)), (.long (((v10.toUInt64 >>> (v7 &&& 0x3f).toInt64.toUInt64).toInt64) &&& (1 : Int64)))]))
    refine Ends.via (fun _ k => XS.lcmp Xj11.here hx rfl (hb hby at_81) rfl k) ?_
    show Ends p e below s 16 128 (Q0 Z q0 q1 q2 p3  h0 n0) (Tj11.setTop (mkF m 82 #[.val (.long q0), .second, .val (.long q1), .second, .val (.long q2), .second, .val (.int p3), .val (.int v1), .val (.ref b2), .val (.int v6), .val (.int v7), .val (.long v10), .second, .unset, .unset] [(.int (lcmpW (((v10.toUInt64 >>> (v7 &&& 0x3f).toInt64.toUInt64).toInt64) &&& (1 : Int64)) (1 : Int64)))]))
    have J14 : ∀ (Tj14 : State) (Lj14 : List Loc) (Xj14 : Stand p l e room_1 s m #[(.long q0), (.long q1), (.long q2), (.int p3)] below meth c Tj14 Lj14 1 3) (ej14 : Tj14.heap = h5) (Nj14 : Fr n0 Lj14) (v13 : Int32), (if (((v10.toUInt64 >>> (v7 &&& 0x3f).toInt64.toUInt64).toInt64) &&& (1 : Int64)) = (1 : Int64) then (1 : Int32) else (0 : Int32)) = v13 → Ends p e below s 16 128 (Q0 Z q0 q1 q2 p3  h0 n0) (Tj14.setTop (mkF m 90 #[.val (.long q0), .second, .val (.long q1), .second, .val (.long q2), .second, .val (.int p3), .val (.int v1), .val (.ref b2), .val (.int v6), .val (.int v7), .val (.long v10), .second, .unset, .unset] [(.int v13)])) := by
      intro Tj14 Lj14 Xj14 ej14 Nj14 v13 hv13
      refine Ends.via (fun _ k => XS.istore Xj14.here hx rfl (hb hby at_90) rfl (l' := #[.val (.long q0), .second, .val (.long q1), .second, .val (.long q2), .second, .val (.int p3), .val (.int v1), .val (.ref b2), .val (.int v6), .val (.int v7), .val (.long v10), .second, .val (.int v13), .unset]) rfl k) ?_
      show Ends p e below s 16 128 (Q0 Z q0 q1 q2 p3  h0 n0) (Tj14.setTop (mkF m 92 #[.val (.long q0), .second, .val (.long q1), .second, .val (.long q2), .second, .val (.int p3), .val (.int v1), .val (.ref b2), .val (.int v6), .val (.int v7), .val (.long v10), .second, .val (.int v13), .unset] []))
      refine Ends.via (fun _ k => XS.aload Xj14.here hx rfl (hb hby at_92) rfl rfl k) ?_
      show Ends p e below s 16 128 (Q0 Z q0 q1 q2 p3  h0 n0) (Tj14.setTop (mkF m 94 #[.val (.long q0), .second, .val (.long q1), .second, .val (.long q2), .second, .val (.int p3), .val (.int v1), .val (.ref b2), .val (.int v6), .val (.int v7), .val (.long v10), .second, .val (.int v13), .unset] [(.ref b2)]))
      refine Ends.via (fun _ k => XS.iload Xj14.here hx rfl (hb hby at_94) rfl k) ?_
      show Ends p e below s 16 128 (Q0 Z q0 q1 q2 p3  h0 n0) (Tj14.setTop (mkF m 96 #[.val (.long q0), .second, .val (.long q1), .second, .val (.long q2), .second, .val (.int p3), .val (.int v1), .val (.ref b2), .val (.int v6), .val (.int v7), .val (.long v10), .second, .val (.int v13), .unset] [(.int v1), (.ref b2)]))
      obtain ⟨cl18, Ar18, qk18, S18, Ng18, Hs18, Gf18⟩ := id V5
      have at18 := own_at q0 q1 q2 v1 v6 v10 p3 hv1 hv6 hv10
      have hin18 := inb_of S18 ⟨at18.1, at18.2.1⟩
      obtain ⟨_, _, ⟨T17, L17, k17, n17⟩, -, X17, ⟨Lc17, hQ17, l17, y17, z17⟩, st17⟩ := Jvm.LawKit.callS Xj14 hx (y := (⟨"org/graphstride/VertexBits", "isSet", "([JI)Z"⟩ : MethodName)) hown (mvT hZ (hw _ (List.mem_of_getElem? (i := 2) rfl))) (mvT hZ (hw _ (List.mem_of_getElem? (i := 3) rfl))) (mvT hZ (hw _ (List.mem_of_getElem? (i := 4) rfl))) (mvT hZ (hw _ (List.mem_of_getElem? (i := 5) rfl))) (by decide) (backOf (W := 0) (rm1 l Z _ hw [] b2 v1 v10 cl18 h5 n0 Z5 Ar18 hin18 (Hs18.at hin18 at18.2.2)) hZ (hw _ (List.mem_of_getElem? (i := 5) rfl)) (hw _ (List.mem_of_getElem? (i := 4) rfl)) (by decide) (by decide)) (g := (mkF m 96 #[.val (.long q0), .second, .val (.long q1), .second, .val (.long q2), .second, .val (.int p3), .val (.int v1), .val (.ref b2), .val (.int v6), .val (.int v7), .val (.long v10), .second, .val (.int v13), .unset] [(.int v1), (.ref b2)])) rfl (by rw [hml]; rfl) (argsL := [(.ref b2), (.int v1)]) (rest := []) (lenOf own_pd0 rfl) rfl (by show 2 * 0 + _ ≤ _; exact Nat.le_of_eq rfl) (hb hby at_96) (fun _ _ => ⟨rfl, ej14, (by decide : 1 + 0 ≤ _), (by decide : 3 + 0 ≤ _)⟩)
      dsimp only [Pt.U, Pt.locs, Pt.cells, Pt.slots] at X17 l17 y17 z17 st17 hQ17
      subst l17 y17 z17
      obtain ⟨rfl, Nq17, e17⟩ := hQ17
      have N17 := Fr.app Nj14 Nq17
      refine Ends.via st17 ?_
      show Ends p e below s 16 128 (Q0 Z q0 q1 q2 p3  h0 n0) (T17.setTop (mkF m 99 #[.val (.long q0), .second, .val (.long q1), .second, .val (.long q2), .second, .val (.int p3), .val (.int v1), .val (.ref b2), .val (.int v6), .val (.int v7), .val (.long v10), .second, .val (.int v13), .unset] [(.int (fn1 v10 v1))]))
      refine Ends.via (fun _ k => XS.istore X17.here hx rfl (hb hby at_99) rfl (l' := #[.val (.long q0), .second, .val (.long q1), .second, .val (.long q2), .second, .val (.int p3), .val (.int v1), .val (.ref b2), .val (.int v6), .val (.int v7), .val (.long v10), .second, .val (.int v13), .val (.int (fn1 v10 v1))]) rfl k) ?_
      show Ends p e below s 16 128 (Q0 Z q0 q1 q2 p3  h0 n0) (T17.setTop (mkF m 101 #[.val (.long q0), .second, .val (.long q1), .second, .val (.long q2), .second, .val (.int p3), .val (.int v1), .val (.ref b2), .val (.int v6), .val (.int v7), .val (.long v10), .second, .val (.int v13), .val (.int (fn1 v10 v1))] []))
      refine Ends.via (fun _ k => XS.iload X17.here hx rfl (hb hby at_101) rfl k) ?_
      show Ends p e below s 16 128 (Q0 Z q0 q1 q2 p3  h0 n0) (T17.setTop (mkF m 103 #[.val (.long q0), .second, .val (.long q1), .second, .val (.long q2), .second, .val (.int p3), .val (.int v1), .val (.ref b2), .val (.int v6), .val (.int v7), .val (.long v10), .second, .val (.int v13), .val (.int (fn1 v10 v1))] [(.int (fn1 v10 v1))]))
      refine Ends.via (fun _ k => XS.iload X17.here hx rfl (hb hby at_103) rfl k) ?_
      show Ends p e below s 16 128 (Q0 Z q0 q1 q2 p3  h0 n0) (T17.setTop (mkF m 105 #[.val (.long q0), .second, .val (.long q1), .second, .val (.long q2), .second, .val (.int p3), .val (.int v1), .val (.ref b2), .val (.int v6), .val (.int v7), .val (.long v10), .second, .val (.int v13), .val (.int (fn1 v10 v1))] [(.int v13), (.int (fn1 v10 v1))]))
      by_cases hc19 : (fn1 v10 v1) = v13
      · refine Ends.via (fun _ k => XS.icmpNo X17.here hx rfl (hb hby at_105) rfl (teq hc19).2 k) ?_
        show Ends p e below s 16 128 (Q0 Z q0 q1 q2 p3  h0 n0) (T17.setTop (mkF m 108 #[.val (.long q0), .second, .val (.long q1), .second, .val (.long q2), .second, .val (.int p3), .val (.int v1), .val (.ref b2), .val (.int v6), .val (.int v7), .val (.long v10), .second, .val (.int v13), .val (.int (fn1 v10 v1))] []))
        refine Ends.via (fun _ k => XS.aload X17.here hx rfl (hb hby at_108) rfl rfl k) ?_
        show Ends p e below s 16 128 (Q0 Z q0 q1 q2 p3  h0 n0) (T17.setTop (mkF m 110 #[.val (.long q0), .second, .val (.long q1), .second, .val (.long q2), .second, .val (.int p3), .val (.int v1), .val (.ref b2), .val (.int v6), .val (.int v7), .val (.long v10), .second, .val (.int v13), .val (.int (fn1 v10 v1))] [(.ref b2)]))
        refine Ends.via (fun _ k => XS.iconst X17.here hx rfl (hb hby at_110) k) ?_
        show Ends p e below s 16 128 (Q0 Z q0 q1 q2 p3  h0 n0) (T17.setTop (mkF m 111 #[.val (.long q0), .second, .val (.long q1), .second, .val (.long q2), .second, .val (.int p3), .val (.int v1), .val (.ref b2), .val (.int v6), .val (.int v7), .val (.long v10), .second, .val (.int v13), .val (.int (fn1 v10 v1))] [(.int (0 : Int32)), (.ref b2)]))
        obtain ⟨cl20, Ar20, qk20, S20, Ng20, Hs20, Gf20⟩ := id V5
        have hin20 : ¬ ((0 : Int32) < 0 ∨ cl20.slots.size ≤ ((0 : Int32)).toNatClampNeg) := inb_of S20 ⟨by decide, by decide⟩
        have hat20 : cl20.slots[((0 : Int32)).toNatClampNeg]? = some (.long q0) := Hs20.at hin20 rfl
        refine Ends.via (X17.laload hx (j := (0 : Int32)) (v := (.long q0)) (by rw [e17]; exact Ar20.1) (State.isArrayOf_alike hZ.alike Ar20.2.1) Ar20.2.2 hin20 hat20 (g := (mkF m 111 #[.val (.long q0), .second, .val (.long q1), .second, .val (.long q2), .second, .val (.int p3), .val (.int v1), .val (.ref b2), .val (.int v6), .val (.int v7), .val (.long v10), .second, .val (.int v13), .val (.int (fn1 v10 v1))] [(.int (0 : Int32)), (.ref b2)])) rfl rfl (hb hby at_111)) ?_
        show Ends p e below s 16 128 (Q0 Z q0 q1 q2 p3  h0 n0) (T17.setTop (mkF m 112 #[.val (.long q0), .second, .val (.long q1), .second, .val (.long q2), .second, .val (.int p3), .val (.int v1), .val (.ref b2), .val (.int v6), .val (.int v7), .val (.long v10), .second, .val (.int v13), .val (.int (fn1 v10 v1))] [(.long q0)]))
        refine Ends.via (fun _ k => XS.lloadN X17.here hx rfl (hb hby at_112) rfl k) ?_
        show Ends p e below s 16 128 (Q0 Z q0 q1 q2 p3  h0 n0) (T17.setTop (mkF m 113 #[.val (.long q0), .second, .val (.long q1), .second, .val (.long q2), .second, .val (.int p3), .val (.int v1), .val (.ref b2), .val (.int v6), .val (.int v7), .val (.long v10), .second, .val (.int v13), .val (.int (fn1 v10 v1))] [(.long q0), (.long q0)]))
        refine Ends.via (fun _ k => XS.lcmp X17.here hx rfl (hb hby at_113) rfl k) ?_
        show Ends p e below s 16 128 (Q0 Z q0 q1 q2 p3  h0 n0) (T17.setTop (mkF m 114 #[.val (.long q0), .second, .val (.long q1), .second, .val (.long q2), .second, .val (.int p3), .val (.int v1), .val (.ref b2), .val (.int v6), .val (.int v7), .val (.long v10), .second, .val (.int v13), .val (.int (fn1 v10 v1))] [(.int (lcmpW q0 q0))]))
        by_cases hc21 : q0 = q0
        · refine Ends.via (fun _ k => XS.ifNo X17.here hx rfl (hb hby at_114) rfl ((if0 _ _).trans (teq ((lw_eq _ _).mpr hc21)).2) k) ?_
          show Ends p e below s 16 128 (Q0 Z q0 q1 q2 p3  h0 n0) (T17.setTop (mkF m 117 #[.val (.long q0), .second, .val (.long q1), .second, .val (.long q2), .second, .val (.int p3), .val (.int v1), .val (.ref b2), .val (.int v6), .val (.int v7), .val (.long v10), .second, .val (.int v13), .val (.int (fn1 v10 v1))] []))
          refine Ends.via (fun _ k => XS.aload X17.here hx rfl (hb hby at_117) rfl rfl k) ?_
          show Ends p e below s 16 128 (Q0 Z q0 q1 q2 p3  h0 n0) (T17.setTop (mkF m 119 #[.val (.long q0), .second, .val (.long q1), .second, .val (.long q2), .second, .val (.int p3), .val (.int v1), .val (.ref b2), .val (.int v6), .val (.int v7), .val (.long v10), .second, .val (.int v13), .val (.int (fn1 v10 v1))] [(.ref b2)]))
          refine Ends.via (fun _ k => XS.iconst X17.here hx rfl (hb hby at_119) k) ?_
          show Ends p e below s 16 128 (Q0 Z q0 q1 q2 p3  h0 n0) (T17.setTop (mkF m 120 #[.val (.long q0), .second, .val (.long q1), .second, .val (.long q2), .second, .val (.int p3), .val (.int v1), .val (.ref b2), .val (.int v6), .val (.int v7), .val (.long v10), .second, .val (.int v13), .val (.int (fn1 v10 v1))] [(.int (1 : Int32)), (.ref b2)]))
          obtain ⟨cl22, Ar22, qk22, S22, Ng22, Hs22, Gf22⟩ := id V5
          have hin22 : ¬ ((1 : Int32) < 0 ∨ cl22.slots.size ≤ ((1 : Int32)).toNatClampNeg) := inb_of S22 ⟨by decide, by decide⟩
          have hat22 : cl22.slots[((1 : Int32)).toNatClampNeg]? = some (.long q1) := Hs22.at hin22 rfl
          refine Ends.via (X17.laload hx (j := (1 : Int32)) (v := (.long q1)) (by rw [e17]; exact Ar22.1) (State.isArrayOf_alike hZ.alike Ar22.2.1) Ar22.2.2 hin22 hat22 (g := (mkF m 120 #[.val (.long q0), .second, .val (.long q1), .second, .val (.long q2), .second, .val (.int p3), .val (.int v1), .val (.ref b2), .val (.int v6), .val (.int v7), .val (.long v10), .second, .val (.int v13), .val (.int (fn1 v10 v1))] [(.int (1 : Int32)), (.ref b2)])) rfl rfl (hb hby at_120)) ?_
          show Ends p e below s 16 128 (Q0 Z q0 q1 q2 p3  h0 n0) (T17.setTop (mkF m 121 #[.val (.long q0), .second, .val (.long q1), .second, .val (.long q2), .second, .val (.int p3), .val (.int v1), .val (.ref b2), .val (.int v6), .val (.int v7), .val (.long v10), .second, .val (.int v13), .val (.int (fn1 v10 v1))] [(.long q1)]))
          refine Ends.via (fun _ k => XS.lloadN X17.here hx rfl (hb hby at_121) rfl k) ?_
          show Ends p e below s 16 128 (Q0 Z q0 q1 q2 p3  h0 n0) (T17.setTop (mkF m 122 #[.val (.long q0), .second, .val (.long q1), .second, .val (.long q2), .second, .val (.int p3), .val (.int v1), .val (.ref b2), .val (.int v6), .val (.int v7), .val (.long v10), .second, .val (.int v13), .val (.int (fn1 v10 v1))] [(.long q1), (.long q1)]))
          refine Ends.via (fun _ k => XS.lcmp X17.here hx rfl (hb hby at_122) rfl k) ?_
          show Ends p e below s 16 128 (Q0 Z q0 q1 q2 p3  h0 n0) (T17.setTop (mkF m 123 #[.val (.long q0), .second, .val (.long q1), .second, .val (.long q2), .second, .val (.int p3), .val (.int v1), .val (.ref b2), .val (.int v6), .val (.int v7), .val (.long v10), .second, .val (.int v13), .val (.int (fn1 v10 v1))] [(.int (lcmpW q1 q1))]))
          by_cases hc23 : q1 = q1
          · refine Ends.via (fun _ k => XS.ifNo X17.here hx rfl (hb hby at_123) rfl ((if0 _ _).trans (teq ((lw_eq _ _).mpr hc23)).2) k) ?_
            show Ends p e below s 16 128 (Q0 Z q0 q1 q2 p3  h0 n0) (T17.setTop (mkF m 126 #[.val (.long q0), .second, .val (.long q1), .second, .val (.long q2), .second, .val (.int p3), .val (.int v1), .val (.ref b2), .val (.int v6), .val (.int v7), .val (.long v10), .second, .val (.int v13), .val (.int (fn1 v10 v1))] []))
            refine Ends.via (fun _ k => XS.aload X17.here hx rfl (hb hby at_126) rfl rfl k) ?_
            show Ends p e below s 16 128 (Q0 Z q0 q1 q2 p3  h0 n0) (T17.setTop (mkF m 128 #[.val (.long q0), .second, .val (.long q1), .second, .val (.long q2), .second, .val (.int p3), .val (.int v1), .val (.ref b2), .val (.int v6), .val (.int v7), .val (.long v10), .second, .val (.int v13), .val (.int (fn1 v10 v1))] [(.ref b2)]))
            refine Ends.via (fun _ k => XS.iconst X17.here hx rfl (hb hby at_128) k) ?_
            show Ends p e below s 16 128 (Q0 Z q0 q1 q2 p3  h0 n0) (T17.setTop (mkF m 129 #[.val (.long q0), .second, .val (.long q1), .second, .val (.long q2), .second, .val (.int p3), .val (.int v1), .val (.ref b2), .val (.int v6), .val (.int v7), .val (.long v10), .second, .val (.int v13), .val (.int (fn1 v10 v1))] [(.int (2 : Int32)), (.ref b2)]))
            obtain ⟨cl24, Ar24, qk24, S24, Ng24, Hs24, Gf24⟩ := id V5
            have hin24 : ¬ ((2 : Int32) < 0 ∨ cl24.slots.size ≤ ((2 : Int32)).toNatClampNeg) := inb_of S24 ⟨by decide, by decide⟩
            have hat24 : cl24.slots[((2 : Int32)).toNatClampNeg]? = some (.long q2) := Hs24.at hin24 rfl
            refine Ends.via (X17.laload hx (j := (2 : Int32)) (v := (.long q2)) (by rw [e17]; exact Ar24.1) (State.isArrayOf_alike hZ.alike Ar24.2.1) Ar24.2.2 hin24 hat24 (g := (mkF m 129 #[.val (.long q0), .second, .val (.long q1), .second, .val (.long q2), .second, .val (.int p3), .val (.int v1), .val (.ref b2), .val (.int v6), .val (.int v7), .val (.long v10), .second, .val (.int v13), .val (.int (fn1 v10 v1))] [(.int (2 : Int32)), (.ref b2)])) rfl rfl (hb hby at_129)) ?_
            show Ends p e below s 16 128 (Q0 Z q0 q1 q2 p3  h0 n0) (T17.setTop (mkF m 130 #[.val (.long q0), .second, .val (.long q1), .second, .val (.long q2), .second, .val (.int p3), .val (.int v1), .val (.ref b2), .val (.int v6), .val (.int v7), .val (.long v10), .second, .val (.int v13), .val (.int (fn1 v10 v1))] [(.long q2)]))
            refine Ends.via (fun _ k => XS.lload X17.here hx rfl (hb hby at_130) rfl k) ?_
            show Ends p e below s 16 128 (Q0 Z q0 q1 q2 p3  h0 n0) (T17.setTop (mkF m 132 #[.val (.long q0), .second, .val (.long q1), .second, .val (.long q2), .second, .val (.int p3), .val (.int v1), .val (.ref b2), .val (.int v6), .val (.int v7), .val (.long v10), .second, .val (.int v13), .val (.int (fn1 v10 v1))] [(.long q2), (.long q2)]))
            refine Ends.via (fun _ k => XS.lcmp X17.here hx rfl (hb hby at_132) rfl k) ?_
            show Ends p e below s 16 128 (Q0 Z q0 q1 q2 p3  h0 n0) (T17.setTop (mkF m 133 #[.val (.long q0), .second, .val (.long q1), .second, .val (.long q2), .second, .val (.int p3), .val (.int v1), .val (.ref b2), .val (.int v6), .val (.int v7), .val (.long v10), .second, .val (.int v13), .val (.int (fn1 v10 v1))] [(.int (lcmpW q2 q2))]))
            by_cases hc25 : q2 = q2
            · refine Ends.via (fun _ k => XS.ifNo X17.here hx rfl (hb hby at_133) rfl ((if0 _ _).trans (teq ((lw_eq _ _).mpr hc25)).2) k) ?_
              show Ends p e below s 16 128 (Q0 Z q0 q1 q2 p3  h0 n0) (T17.setTop (mkF m 136 #[.val (.long q0), .second, .val (.long q1), .second, .val (.long q2), .second, .val (.int p3), .val (.int v1), .val (.ref b2), .val (.int v6), .val (.int v7), .val (.long v10), .second, .val (.int v13), .val (.int (fn1 v10 v1))] []))
              refine Ends.via (fun _ k => XS.iconst X17.here hx rfl (hb hby at_136) k) ?_
              show Ends p e below s 16 128 (Q0 Z q0 q1 q2 p3  h0 n0) (T17.setTop (mkF m 137 #[.val (.long q0), .second, .val (.long q1), .second, .val (.long q2), .second, .val (.int p3), .val (.int v1), .val (.ref b2), .val (.int v6), .val (.int v7), .val (.long v10), .second, .val (.int v13), .val (.int (fn1 v10 v1))] [(.int (1 : Int32))]))
              refine Ends.via (fun _ k => XS.goto X17.here hx rfl (pc0 := 137) (pc' := 141) rfl (hb hby at_137) (by decide) (by decide) k) ?_
              show Ends p e below s 16 128 (Q0 Z q0 q1 q2 p3  h0 n0) (T17.setTop (mkF m 141 #[.val (.long q0), .second, .val (.long q1), .second, .val (.long q2), .second, .val (.int p3), .val (.int v1), .val (.ref b2), .val (.int v6), .val (.int v7), .val (.long v10), .second, .val (.int v13), .val (.int (fn1 v10 v1))] [(.int (1 : Int32))]))
              refine Ends.ret X17 (v := some (.int (nar .boolean (1 : Int32)))) (fun h => by rw [Bd.returns] at h; cases h) Bd.notSynchronized (fun fs hr => retN X17 hx (t := .boolean) Bd.returns (by simp) (hb hby at_141) hr) ?_ (by decide) (by decide)
              exact ⟨rfl, N17⟩
            · refine Ends.via (fun _ k => XS.ifYes X17.here hx rfl (pc0 := 133) (pc' := 140) rfl (hb hby at_133) rfl ((if0 _ _).trans (feq (mt (lw_eq _ _).mp hc25)).2) (by decide) (by decide) k) ?_
              show Ends p e below s 16 128 (Q0 Z q0 q1 q2 p3  h0 n0) (T17.setTop (mkF m 140 #[.val (.long q0), .second, .val (.long q1), .second, .val (.long q2), .second, .val (.int p3), .val (.int v1), .val (.ref b2), .val (.int v6), .val (.int v7), .val (.long v10), .second, .val (.int v13), .val (.int (fn1 v10 v1))] []))
              refine Ends.via (fun _ k => XS.iconst X17.here hx rfl (hb hby at_140) k) ?_
              show Ends p e below s 16 128 (Q0 Z q0 q1 q2 p3  h0 n0) (T17.setTop (mkF m 141 #[.val (.long q0), .second, .val (.long q1), .second, .val (.long q2), .second, .val (.int p3), .val (.int v1), .val (.ref b2), .val (.int v6), .val (.int v7), .val (.long v10), .second, .val (.int v13), .val (.int (fn1 v10 v1))] [(.int (0 : Int32))]))
              refine Ends.ret X17 (v := some (.int (nar .boolean (0 : Int32)))) (fun h => by rw [Bd.returns] at h; cases h) Bd.notSynchronized (fun fs hr => retN X17 hx (t := .boolean) Bd.returns (by simp) (hb hby at_141) hr) ?_ (by decide) (by decide)
              exact absurd (own_leaf1 q0 q1 q2 p3 v1 v6 v7 v10 v13 hv1 hv6 hv7 hv10 hv13 hc19 hc21 hc23 hc25) id
          · refine Ends.via (fun _ k => XS.ifYes X17.here hx rfl (pc0 := 123) (pc' := 140) rfl (hb hby at_123) rfl ((if0 _ _).trans (feq (mt (lw_eq _ _).mp hc23)).2) (by decide) (by decide) k) ?_
            show Ends p e below s 16 128 (Q0 Z q0 q1 q2 p3  h0 n0) (T17.setTop (mkF m 140 #[.val (.long q0), .second, .val (.long q1), .second, .val (.long q2), .second, .val (.int p3), .val (.int v1), .val (.ref b2), .val (.int v6), .val (.int v7), .val (.long v10), .second, .val (.int v13), .val (.int (fn1 v10 v1))] []))
            refine Ends.via (fun _ k => XS.iconst X17.here hx rfl (hb hby at_140) k) ?_
            show Ends p e below s 16 128 (Q0 Z q0 q1 q2 p3  h0 n0) (T17.setTop (mkF m 141 #[.val (.long q0), .second, .val (.long q1), .second, .val (.long q2), .second, .val (.int p3), .val (.int v1), .val (.ref b2), .val (.int v6), .val (.int v7), .val (.long v10), .second, .val (.int v13), .val (.int (fn1 v10 v1))] [(.int (0 : Int32))]))
            refine Ends.ret X17 (v := some (.int (nar .boolean (0 : Int32)))) (fun h => by rw [Bd.returns] at h; cases h) Bd.notSynchronized (fun fs hr => retN X17 hx (t := .boolean) Bd.returns (by simp) (hb hby at_141) hr) ?_ (by decide) (by decide)
            exact absurd (own_leaf2 q0 q1 q2 p3 v1 v6 v7 v10 v13 hv1 hv6 hv7 hv10 hv13 hc19 hc21 hc23) id
        · refine Ends.via (fun _ k => XS.ifYes X17.here hx rfl (pc0 := 114) (pc' := 140) rfl (hb hby at_114) rfl ((if0 _ _).trans (feq (mt (lw_eq _ _).mp hc21)).2) (by decide) (by decide) k) ?_
          show Ends p e below s 16 128 (Q0 Z q0 q1 q2 p3  h0 n0) (T17.setTop (mkF m 140 #[.val (.long q0), .second, .val (.long q1), .second, .val (.long q2), .second, .val (.int p3), .val (.int v1), .val (.ref b2), .val (.int v6), .val (.int v7), .val (.long v10), .second, .val (.int v13), .val (.int (fn1 v10 v1))] []))
          refine Ends.via (fun _ k => XS.iconst X17.here hx rfl (hb hby at_140) k) ?_
          show Ends p e below s 16 128 (Q0 Z q0 q1 q2 p3  h0 n0) (T17.setTop (mkF m 141 #[.val (.long q0), .second, .val (.long q1), .second, .val (.long q2), .second, .val (.int p3), .val (.int v1), .val (.ref b2), .val (.int v6), .val (.int v7), .val (.long v10), .second, .val (.int v13), .val (.int (fn1 v10 v1))] [(.int (0 : Int32))]))
          refine Ends.ret X17 (v := some (.int (nar .boolean (0 : Int32)))) (fun h => by rw [Bd.returns] at h; cases h) Bd.notSynchronized (fun fs hr => retN X17 hx (t := .boolean) Bd.returns (by simp) (hb hby at_141) hr) ?_ (by decide) (by decide)
          exact absurd (own_leaf3 q0 q1 q2 p3 v1 v6 v7 v10 v13 hv1 hv6 hv7 hv10 hv13 hc19 hc21) id
      · refine Ends.via (fun _ k => XS.icmpYes X17.here hx rfl (pc0 := 105) (pc' := 140) rfl (hb hby at_105) rfl (feq hc19).2 (by decide) (by decide) k) ?_
        show Ends p e below s 16 128 (Q0 Z q0 q1 q2 p3  h0 n0) (T17.setTop (mkF m 140 #[.val (.long q0), .second, .val (.long q1), .second, .val (.long q2), .second, .val (.int p3), .val (.int v1), .val (.ref b2), .val (.int v6), .val (.int v7), .val (.long v10), .second, .val (.int v13), .val (.int (fn1 v10 v1))] []))
        refine Ends.via (fun _ k => XS.iconst X17.here hx rfl (hb hby at_140) k) ?_
        show Ends p e below s 16 128 (Q0 Z q0 q1 q2 p3  h0 n0) (T17.setTop (mkF m 141 #[.val (.long q0), .second, .val (.long q1), .second, .val (.long q2), .second, .val (.int p3), .val (.int v1), .val (.ref b2), .val (.int v6), .val (.int v7), .val (.long v10), .second, .val (.int v13), .val (.int (fn1 v10 v1))] [(.int (0 : Int32))]))
        refine Ends.ret X17 (v := some (.int (nar .boolean (0 : Int32)))) (fun h => by rw [Bd.returns] at h; cases h) Bd.notSynchronized (fun fs hr => retN X17 hx (t := .boolean) Bd.returns (by simp) (hb hby at_141) hr) ?_ (by decide) (by decide)
        exact absurd (own_leaf4 q0 q1 q2 p3 v1 v6 v7 v10 v13 hv1 hv6 hv7 hv10 hv13 hc19) id
    by_cases hc26 : (((v10.toUInt64 >>> (v7 &&& 0x3f).toInt64.toUInt64).toInt64) &&& (1 : Int64)) = (1 : Int64)
    · refine Ends.via (fun _ k => XS.ifNo Xj11.here hx rfl (hb hby at_82) rfl ((if0 _ _).trans (teq ((lw_eq _ _).mpr hc26)).2) k) ?_
      show Ends p e below s 16 128 (Q0 Z q0 q1 q2 p3  h0 n0) (Tj11.setTop (mkF m 85 #[.val (.long q0), .second, .val (.long q1), .second, .val (.long q2), .second, .val (.int p3), .val (.int v1), .val (.ref b2), .val (.int v6), .val (.int v7), .val (.long v10), .second, .unset, .unset] []))
      refine Ends.via (fun _ k => XS.iconst Xj11.here hx rfl (hb hby at_85) k) ?_
      show Ends p e below s 16 128 (Q0 Z q0 q1 q2 p3  h0 n0) (Tj11.setTop (mkF m 86 #[.val (.long q0), .second, .val (.long q1), .second, .val (.long q2), .second, .val (.int p3), .val (.int v1), .val (.ref b2), .val (.int v6), .val (.int v7), .val (.long v10), .second, .unset, .unset] [(.int (1 : Int32))]))
      refine Ends.via (fun _ k => XS.goto Xj11.here hx rfl (pc0 := 86) (pc' := 90) rfl (hb hby at_86) (by decide) (by decide) k) ?_
      show Ends p e below s 16 128 (Q0 Z q0 q1 q2 p3  h0 n0) (Tj11.setTop (mkF m 90 #[.val (.long q0), .second, .val (.long q1), .second, .val (.long q2), .second, .val (.int p3), .val (.int v1), .val (.ref b2), .val (.int v6), .val (.int v7), .val (.long v10), .second, .unset, .unset] [(.int (1 : Int32))]))
      exact J14 Tj11 _ Xj11 ej11 Nj11 (1 : Int32) (by first | (simp only [if_pos hc26]; done) | rfl)
    · refine Ends.via (fun _ k => XS.ifYes Xj11.here hx rfl (pc0 := 82) (pc' := 89) rfl (hb hby at_82) rfl ((if0 _ _).trans (feq (mt (lw_eq _ _).mp hc26)).2) (by decide) (by decide) k) ?_
      show Ends p e below s 16 128 (Q0 Z q0 q1 q2 p3  h0 n0) (Tj11.setTop (mkF m 89 #[.val (.long q0), .second, .val (.long q1), .second, .val (.long q2), .second, .val (.int p3), .val (.int v1), .val (.ref b2), .val (.int v6), .val (.int v7), .val (.long v10), .second, .unset, .unset] []))
      refine Ends.via (fun _ k => XS.iconst Xj11.here hx rfl (hb hby at_89) k) ?_
      show Ends p e below s 16 128 (Q0 Z q0 q1 q2 p3  h0 n0) (Tj11.setTop (mkF m 90 #[.val (.long q0), .second, .val (.long q1), .second, .val (.long q2), .second, .val (.int p3), .val (.int v1), .val (.ref b2), .val (.int v6), .val (.int v7), .val (.long v10), .second, .unset, .unset] [(.int (0 : Int32))]))
      exact J14 Tj11 _ Xj11 ej11 Nj11 (0 : Int32) (by first | (simp only [if_neg hc26]; done) | rfl)
  by_cases hc27 : v6 = (0 : Int32)
  · refine Ends.via (fun _ k => XS.ifNo X5.here hx rfl (hb hby at_48) rfl ((if0 _ _).trans (teq hc27).2) k) ?_
    show Ends p e below s 16 128 (Q0 Z q0 q1 q2 p3  h0 n0) (T5.setTop (mkF m 51 #[.val (.long q0), .second, .val (.long q1), .second, .val (.long q2), .second, .val (.int p3), .val (.int v1), .val (.ref b2), .val (.int v6), .val (.int v7), .unset, .unset, .unset, .unset] []))
    refine Ends.via (fun _ k => XS.lloadN X5.here hx rfl (hb hby at_51) rfl k) ?_
    show Ends p e below s 16 128 (Q0 Z q0 q1 q2 p3  h0 n0) (T5.setTop (mkF m 52 #[.val (.long q0), .second, .val (.long q1), .second, .val (.long q2), .second, .val (.int p3), .val (.int v1), .val (.ref b2), .val (.int v6), .val (.int v7), .unset, .unset, .unset, .unset] [(.long q0)]))
    refine Ends.via (fun _ k => XS.lstore X5.here hx rfl (hb hby at_52) rfl (l' := #[.val (.long q0), .second, .val (.long q1), .second, .val (.long q2), .second, .val (.int p3), .val (.int v1), .val (.ref b2), .val (.int v6), .val (.int v7), .val (.long q0), .second, .unset, .unset]) rfl k) ?_
    show Ends p e below s 16 128 (Q0 Z q0 q1 q2 p3  h0 n0) (T5.setTop (mkF m 54 #[.val (.long q0), .second, .val (.long q1), .second, .val (.long q2), .second, .val (.int p3), .val (.int v1), .val (.ref b2), .val (.int v6), .val (.int v7), .val (.long q0), .second, .unset, .unset] []))
    refine Ends.via (fun _ k => XS.goto X5.here hx rfl (pc0 := 54) (pc' := 73) rfl (hb hby at_54) (by decide) (by decide) k) ?_
    show Ends p e below s 16 128 (Q0 Z q0 q1 q2 p3  h0 n0) (T5.setTop (mkF m 73 #[.val (.long q0), .second, .val (.long q1), .second, .val (.long q2), .second, .val (.int p3), .val (.int v1), .val (.ref b2), .val (.int v6), .val (.int v7), .val (.long q0), .second, .unset, .unset] []))
    exact J11 T5 _ X5 e5 N5 q0 (by first | (simp only [if_pos hc27]; done) | rfl)
  · refine Ends.via (fun _ k => XS.ifYes X5.here hx rfl (pc0 := 48) (pc' := 57) rfl (hb hby at_48) rfl ((if0 _ _).trans (feq hc27).2) (by decide) (by decide) k) ?_
    show Ends p e below s 16 128 (Q0 Z q0 q1 q2 p3  h0 n0) (T5.setTop (mkF m 57 #[.val (.long q0), .second, .val (.long q1), .second, .val (.long q2), .second, .val (.int p3), .val (.int v1), .val (.ref b2), .val (.int v6), .val (.int v7), .unset, .unset, .unset, .unset] []))
    refine Ends.via (fun _ k => XS.iload X5.here hx rfl (hb hby at_57) rfl k) ?_
    show Ends p e below s 16 128 (Q0 Z q0 q1 q2 p3  h0 n0) (T5.setTop (mkF m 59 #[.val (.long q0), .second, .val (.long q1), .second, .val (.long q2), .second, .val (.int p3), .val (.int v1), .val (.ref b2), .val (.int v6), .val (.int v7), .unset, .unset, .unset, .unset] [(.int v6)]))
    refine Ends.via (fun _ k => XS.iconst X5.here hx rfl (hb hby at_59) k) ?_
    show Ends p e below s 16 128 (Q0 Z q0 q1 q2 p3  h0 n0) (T5.setTop (mkF m 60 #[.val (.long q0), .second, .val (.long q1), .second, .val (.long q2), .second, .val (.int p3), .val (.int v1), .val (.ref b2), .val (.int v6), .val (.int v7), .unset, .unset, .unset, .unset] [(.int (1 : Int32)), (.int v6)]))
    by_cases hc28 : v6 = (1 : Int32)
    · refine Ends.via (fun _ k => XS.icmpNo X5.here hx rfl (hb hby at_60) rfl (teq hc28).2 k) ?_
      show Ends p e below s 16 128 (Q0 Z q0 q1 q2 p3  h0 n0) (T5.setTop (mkF m 63 #[.val (.long q0), .second, .val (.long q1), .second, .val (.long q2), .second, .val (.int p3), .val (.int v1), .val (.ref b2), .val (.int v6), .val (.int v7), .unset, .unset, .unset, .unset] []))
      refine Ends.via (fun _ k => XS.lloadN X5.here hx rfl (hb hby at_63) rfl k) ?_
      show Ends p e below s 16 128 (Q0 Z q0 q1 q2 p3  h0 n0) (T5.setTop (mkF m 64 #[.val (.long q0), .second, .val (.long q1), .second, .val (.long q2), .second, .val (.int p3), .val (.int v1), .val (.ref b2), .val (.int v6), .val (.int v7), .unset, .unset, .unset, .unset] [(.long q1)]))
      refine Ends.via (fun _ k => XS.lstore X5.here hx rfl (hb hby at_64) rfl (l' := #[.val (.long q0), .second, .val (.long q1), .second, .val (.long q2), .second, .val (.int p3), .val (.int v1), .val (.ref b2), .val (.int v6), .val (.int v7), .val (.long q1), .second, .unset, .unset]) rfl k) ?_
      show Ends p e below s 16 128 (Q0 Z q0 q1 q2 p3  h0 n0) (T5.setTop (mkF m 66 #[.val (.long q0), .second, .val (.long q1), .second, .val (.long q2), .second, .val (.int p3), .val (.int v1), .val (.ref b2), .val (.int v6), .val (.int v7), .val (.long q1), .second, .unset, .unset] []))
      refine Ends.via (fun _ k => XS.goto X5.here hx rfl (pc0 := 66) (pc' := 73) rfl (hb hby at_66) (by decide) (by decide) k) ?_
      show Ends p e below s 16 128 (Q0 Z q0 q1 q2 p3  h0 n0) (T5.setTop (mkF m 73 #[.val (.long q0), .second, .val (.long q1), .second, .val (.long q2), .second, .val (.int p3), .val (.int v1), .val (.ref b2), .val (.int v6), .val (.int v7), .val (.long q1), .second, .unset, .unset] []))
      exact J11 T5 _ X5 e5 N5 q1 (by first | (simp only [if_neg hc27, if_pos hc28]; done) | rfl)
    · refine Ends.via (fun _ k => XS.icmpYes X5.here hx rfl (pc0 := 60) (pc' := 69) rfl (hb hby at_60) rfl (feq hc28).2 (by decide) (by decide) k) ?_
      show Ends p e below s 16 128 (Q0 Z q0 q1 q2 p3  h0 n0) (T5.setTop (mkF m 69 #[.val (.long q0), .second, .val (.long q1), .second, .val (.long q2), .second, .val (.int p3), .val (.int v1), .val (.ref b2), .val (.int v6), .val (.int v7), .unset, .unset, .unset, .unset] []))
      refine Ends.via (fun _ k => XS.lload X5.here hx rfl (hb hby at_69) rfl k) ?_
      show Ends p e below s 16 128 (Q0 Z q0 q1 q2 p3  h0 n0) (T5.setTop (mkF m 71 #[.val (.long q0), .second, .val (.long q1), .second, .val (.long q2), .second, .val (.int p3), .val (.int v1), .val (.ref b2), .val (.int v6), .val (.int v7), .unset, .unset, .unset, .unset] [(.long q2)]))
      refine Ends.via (fun _ k => XS.lstore X5.here hx rfl (hb hby at_71) rfl (l' := #[.val (.long q0), .second, .val (.long q1), .second, .val (.long q2), .second, .val (.int p3), .val (.int v1), .val (.ref b2), .val (.int v6), .val (.int v7), .val (.long q2), .second, .unset, .unset]) rfl k) ?_
      show Ends p e below s 16 128 (Q0 Z q0 q1 q2 p3  h0 n0) (T5.setTop (mkF m 73 #[.val (.long q0), .second, .val (.long q1), .second, .val (.long q2), .second, .val (.int p3), .val (.int v1), .val (.ref b2), .val (.int v6), .val (.int v7), .val (.long q2), .second, .unset, .unset] []))
      exact J11 T5 _ X5 e5 N5 q2 (by first | (simp only [if_neg hc27, if_neg hc28]; done) | rfl)
set_option maxRecDepth 65536 in
set_option maxHeartbeats 40000000 in
theorem comes_1 {Post : Tables → Env → Array Value → State → Outcome → State → Prop} (hpost : ∀ tb e args s v u, (limb_1_1.after args s (.returned v) u = true ∧ limb_1_2.after args s (.returned v) u = true ∧ True) → FrameEnd s (.returned v) u (Jvm.fieldLocs frame_1_writes args s ++ Jvm.arrayLocs frame_1_arrays args s ++ Jvm.staticLocs frame_1_statics s) 16 128 → Post tb e args s (.returned v) u) :
    ArmFor flags0 classFile x code maxLocals ret World_1 tables_1 room_1 Calls_1 rest_1 Pre_1 Post := by
  intro l hfl _ _ p e ha hc hk s m args below hf hA hF happ hP
  obtain ⟨hcalls, hrest, hpre⟩ := hP
  obtain ⟨-, -, -, hnamed, -, -, -, hat⟩ := (Spec.applies_iff hf).mp happ
  obtain ⟨hg, hn⟩ := and_e (Cond.before_iff.mp (show (Jvm.Cond.and given_1 narrow_1).before args s = true from hpre))
  obtain ⟨hcnt, g0⟩ := and_e hg
  obtain ⟨t0, g1⟩ := and_e g0
  obtain ⟨t1, g2⟩ := and_e g1
  obtain ⟨t2, g3⟩ := and_e g2
  obtain ⟨w0, w1, w2, w3, rfl⟩ : ∃ w0 w1 w2 w3 : Value, args = #[w0, w1, w2, w3] := by
    have hs : args.size = 4 := by simpa [Cond.value, given_1] using hcnt
    obtain ⟨L⟩ := args
    match L, hs with
    | [w0, w1, w2, w3], _ => exact ⟨w0, w1, w2, w3, rfl⟩
  have hw := fun d (hd : d ∈ tables_1) => atoms_spec (ws := Jvm.Cond.code x code maxLocals ret :: tables_1) hat d (List.mem_cons_of_mem _ hd)
  obtain ⟨i0, ei0⟩ := isL_v t0
  obtain rfl : w0 = (.long i0) := Option.some.inj ei0
  obtain ⟨i1, ei1⟩ := isL_v t1
  obtain rfl : w1 = (.long i1) := Option.some.inj ei1
  obtain ⟨i2, ei2⟩ := isL_v t2
  obtain rfl : w2 = (.long i2) := Option.some.inj ei2
  obtain ⟨i3, ei3⟩ := is_v g3
  obtain rfl : w3 = (.int i3) := Option.some.inj ei3
  obtain ⟨n, o, h1, h2, h3, _, L, rfl, ⟨rfl, N⟩, hq⟩ := rm0 l s _ hw tables_1 i0 i1 i2 i3 s.heap s.heap.size (Nat.le_refl _) p e ha hc hk s m _ below hf ((Spec.applies_iff_loose hf).mp happ).1 ⟨rfl, State.Warmed39.refl s, rfl⟩ trivial
  refine ⟨n, _, h1, h2, h3, hpost _ _ _ _ _ _ ⟨Cond.after_iff.mpr rfl, Cond.after_iff.mpr (eq_i res_at (Term.int_eval (1)) rfl), trivial⟩ ⟨hq.1, hq.2.1, (hq.2.2.sift fun y hy => Or.inr (N y hy)).mono (by decide) (by decide)⟩⟩
theorem main_1_1 : Claimed_1_1 := comes_1 fun _ _ _ _ _ _ h hF => ⟨h.1, hF⟩
theorem main_1_2 : Claimed_1_2 := comes_1 fun _ _ _ _ _ _ h hF => ⟨h.2.1, hF⟩
end Jvm.Pilot.@@N@@
namespace Jvm.Pilot.@@N@@
open Jvm Jvm.ClassFile Sem Op Lib Jvm.Free Jvm.Stand Jvm.Pilot.@@N@@.Jvm.D
/-! MADE BY PROGRAM (witnessworld.py) out of the Statement's table words and the real class files: 11 classes; the members and pool entries that the words name. The judged class is class 1, her method 1. -/
namespace start1
open Jvm.ClassFile
def u (s : String) : CpInfo := .utf8 (stringToUtf16 s)
/-- a pool by its gaps: so many unusable entries, then the entry; so many at the end -/
def gap : Nat → List CpInfo → List CpInfo
  | 0, r => r
  | n + 1, r => .unusable :: gap n r
def poolList (es : List (Nat × CpInfo)) (last : Nat) : List CpInfo := es.foldr (fun e r => gap e.1 (e.2 :: r)) (gap last [])
def pool (es : List (Nat × CpInfo)) (last : Nat) : Array CpInfo := ⟨poolList es last⟩
def fileOf (pool : Array CpInfo) (this : Nat) (attrs : Array Attribute := #[]) (ms : Array MethodInfo := #[]) (fl : Nat := 33) (sup : Nat := 0) (ifs : Array Nat := #[]) (fds : Array FieldInfo := #[]) : ClassFile where
  minorVersion := 0
  majorVersion := 65
  constantPool := pool
  accessFlags := fl
  thisClass := this
  superClass := sup
  interfaces := ifs
  fields := fds
  methods := ms
  attributes := attrs
def plain (name : String) (sup : Option ClassId) : Class where
  name := name
  kind := .ordinary
  loader := none
  accessFlags := 33
  super := sup
  interfaces := #[]
  cf := none
  fields := #[]
  methods := #[]
  instanceTypes := #[]
  staticTypes := #[]
  resolved := #[]
  callSites := []
  init := .initialized
  statics := none
  mirror := none

def pool0 : Array CpInfo := pool [(5, u "<init>"), (0, u "()V"), (1, .class_ 10), (1, u "java/lang/Object")] 113

def k0m0 : Method := { name := "<init>", desc := "()V", sig := { parameters := [], returnType := none }, accessFlags := 1, code := none }
/-- java/lang/Object -/
def k0 : Class := { plain "java/lang/Object" none with
  accessFlags := 33
  interfaces := #[]
  cf := some (fileOf pool0 8 #[] #[{ accessFlags := 1, nameIndex := 5, descriptorIndex := 6, attributes := #[] }] 33 0 #[] #[])
  fields := #[]
  methods := #[k0m0]
  instanceTypes := #[]
  staticTypes := #[]
  resolved := Array.replicate 124 none
  statics := none }

def pool1 : Array CpInfo := pool [(2, .class_ 4), (1, u "java/lang/Object"), (0, u "<init>"), (0, u "()V"), (0, .integer 2147483647), (0, .methodref 9 10), (0, .class_ 11), (0, .nameAndType 12 13), (0, u "org/graphstride/VertexBits"), (0, u "isSet"), (0, u "([JI)Z"), (0, .class_ 15), (0, u "org/graphstride/VertexBitsIsSetPinLaw"), (2, u "law"), (0, u "(JJJI)Z")] 5

def k1m0 : Method := { name := "<init>", desc := "()V", sig := { parameters := [], returnType := none }, accessFlags := 1, code := none }
def k1c1 : Code := { maxStack := 4, maxLocals := 15, code := code, exceptionTable := #[], attributes := #[] }
def k1m1 : Method := { name := "law", desc := "(JJJI)Z", sig := { parameters := [.long, .long, .long, .int], returnType := some .boolean }, accessFlags := 9, code := some k1c1 }
/-- org/graphstride/VertexBitsIsSetPinLaw -/
def k1 : Class := { plain "org/graphstride/VertexBitsIsSetPinLaw" (some 0) with
  accessFlags := 49
  interfaces := #[]
  cf := some (fileOf pool1 14 #[] #[{ accessFlags := 1, nameIndex := 5, descriptorIndex := 6, attributes := #[] }, { accessFlags := 9, nameIndex := 18, descriptorIndex := 19, attributes := #[] }] 49 2 #[] #[])
  fields := #[]
  methods := #[k1m0, k1m1]
  instanceTypes := #[]
  staticTypes := #[]
  resolved := Array.replicate 25 none
  statics := none }

def pool2 : Array CpInfo := pool [(2, .class_ 4), (1, u "java/lang/Object"), (0, u "<init>"), (0, u "()V"), (4, .class_ 12), (0, u "org/graphstride/VertexBits"), (4, u "isSet"), (0, u "([JI)Z")] 5

def k2m0 : Method := { name := "<init>", desc := "()V", sig := { parameters := [], returnType := none }, accessFlags := 2, code := none }
def k2c1 : Code := { maxStack := 5, maxLocals := 2, code := prog_56_method_3_code, exceptionTable := #[], attributes := #[] }
def k2m1 : Method := { name := "isSet", desc := "([JI)Z", sig := { parameters := [(.array .long), .int], returnType := some .boolean }, accessFlags := 8, code := some k2c1 }
/-- org/graphstride/VertexBits -/
def k2 : Class := { plain "org/graphstride/VertexBits" (some 0) with
  accessFlags := 48
  interfaces := #[]
  cf := some (fileOf pool2 11 #[] #[{ accessFlags := 2, nameIndex := 5, descriptorIndex := 6, attributes := #[] }, { accessFlags := 8, nameIndex := 17, descriptorIndex := 18, attributes := #[] }] 48 2 #[] #[])
  fields := #[]
  methods := #[k2m0, k2m1]
  instanceTypes := #[]
  staticTypes := #[]
  resolved := Array.replicate 24 none
  statics := none }

def pool3 : Array CpInfo := pool [(1, u "java/lang/Cloneable"), (0, .class_ 1), (0, u "java/lang/Object"), (0, .class_ 3)] 3

/-- java/lang/Cloneable -/
def k3 : Class := { plain "java/lang/Cloneable" (some 0) with
  accessFlags := 1537
  interfaces := #[]
  cf := some (fileOf pool3 2 #[] #[] 1537 4 #[] #[])
  fields := #[]
  methods := #[]
  instanceTypes := #[]
  staticTypes := #[]
  resolved := Array.replicate 8 none
  statics := none }

def pool4 : Array CpInfo := pool [(1, u "java/io/Serializable"), (0, .class_ 1), (0, u "java/lang/Object"), (0, .class_ 3)] 3

/-- java/io/Serializable -/
def k4 : Class := { plain "java/io/Serializable" (some 0) with
  accessFlags := 1537
  interfaces := #[]
  cf := some (fileOf pool4 2 #[] #[] 1537 4 #[] #[])
  fields := #[]
  methods := #[]
  instanceTypes := #[]
  staticTypes := #[]
  resolved := Array.replicate 8 none
  statics := none }

/-- the primitive byte -/
def k5 : Class := { plain "byte" none with kind := .primitive 'B', accessFlags := 0x411 }
/-- [B -/
def k6 : Class := { plain "[B" (some 0) with kind := .array 5 .byte, interfaces := #[3, 4], accessFlags := 1041 }

/-- the primitive int -/
def k7 : Class := { plain "int" none with kind := .primitive 'I', accessFlags := 0x411 }
/-- [I -/
def k8 : Class := { plain "[I" (some 0) with kind := .array 7 .int, interfaces := #[3, 4], accessFlags := 1041 }

/-- the primitive long -/
def k9 : Class := { plain "long" none with kind := .primitive 'J', accessFlags := 0x411 }
/-- [J -/
def k10 : Class := { plain "[J" (some 0) with kind := .array 9 .long, interfaces := #[3, 4], accessFlags := 1041 }

def heap : Heap := #[]
def classes : Array Class := #[k0, k1, k2, k3, k4, k5, k6, k7, k8, k9, k10]
def interned : List (Array UInt16 × Addr) := []
def slotsUsed : Nat := 0
def theMethod : MethodId := ⟨1, 1⟩
def args0 : Array Value := #[.long 5, .long 5, .long 5, .int 5]
def aboutOver (below : List Frame) : State where
  vm := { classes := classes, interned := interned.toArray }
  heap := heap
  slotsUsed := slotsUsed
  threads := #[{ frames := .invoking theMethod args0 :: below }]
def below0 : List Frame := [.native { method := ⟨0, 0⟩, args := #[] }]
def about1 : State := aboutOver below0
def p0 : Program := .bare "" "" ""
def e0 : Env := launch0.env 0 0 0
theorem w_frames : about1.frames = Frame.invoking theMethod args0 :: below0 := rfl
set_option maxRecDepth 65536 in
theorem w_args : argsFit about1.vm theMethod args0 = true := by decide +kernel
set_option maxRecDepth 65536 in
theorem w_heap : heapFits about1 = true := by decide +kernel
set_option maxRecDepth 65536 in
theorem w_runnable : about1.curStatus? = some .runnable := by decide +kernel
set_option maxRecDepth 65536 in
theorem w_alone : about1.alone = true := by decide +kernel
set_option maxRecDepth 65536 in
theorem w_named : about1.methodNamed? x = some theMethod := by decide +kernel
set_option maxRecDepth 65536 in
theorem w_hears : about1.hears theMethod below0 = true := by decide +kernel
set_option maxRecDepth 65536 in
theorem w_ripe : about1.ripe theMethod args0 below0 = true := by decide +kernel
theorem w_running : about1.status = .running := rfl
set_option maxRecDepth 65536 in
theorem w_room : about1.hasRoom e0.platform room_1 = true :=
  launch0.hasRoom_least _ room_1 (by decide +kernel) (by decide +kernel) (by decide +kernel) (by decide +kernel) (by decide +kernel) (by decide +kernel)
theorem allAtoms_all (ts : List Jvm.Cond) (a : Array Jvm.Value) (st : Jvm.State) : (allAtoms ts).before a st = ts.all (fun c => c.before a st) := by
  induction ts with
  | nil => rfl
  | cons c t ih =>
    show (Jvm.Cond.and c (allAtoms t)).before a st = _
    rw [Jvm.Cond.before_and, ih, List.all_cons]
def words1 : List Jvm.Cond := Jvm.Cond.code x code maxLocals ret :: tables_1
/-- a 'code' word, met by the world's own term for the bytes: nothing is compared byte by byte -/
theorem code_word {y : MethodName} {bytes : ByteArray} {mx : Nat} {rt : Option FieldType} {a : Array Value} {s : State} {m : MethodId} {meth : Method} {c : Code} (h1 : s.methodNamed? y = some m) (h2 : s.vm.method? m = some meth) (h3 : meth.code = some c) (h4 : c.code = bytes)
    (h5 : (c.maxLocals == mx && c.exceptionTable.isEmpty && decide (c.maxStack ≤ mostOperands) && decide (meth.sig.returnType = rt) && !meth.locks && decide (parseMethodDescriptor y.desc = some meth.sig)) = true) : (Jvm.Cond.code y bytes mx rt).before a s = true := by
  simp only [Bool.and_eq_true, beq_iff_eq, Bool.not_eq_true', decide_eq_true_eq] at h5
  obtain ⟨⟨⟨⟨⟨g1, g2⟩, g3⟩, g4⟩, g5⟩, g6⟩ := h5
  simp [Cond.before, Cond.holds, Cond.value, h1, h2, h3, h4, g1, g2, g3, g4, g5, g6]
def isCode : Jvm.Cond → Bool
  | .code _ _ _ _ => true
  | _ => false
theorem all_split {L : List Jvm.Cond} {P : Jvm.Cond → Bool} (h1 : L.all (fun c => isCode c || P c) = true) (h2 : ∀ c ∈ L.filter isCode, P c = true) : L.all P = true := by
  refine List.all_eq_true.mpr fun c hc => ?_
  have h := List.all_eq_true.mp h1 c hc
  rcases Bool.eq_false_or_eq_true (isCode c) with hi | hi
  · exact h2 c (List.mem_filter.mpr ⟨hc, hi⟩)
  · simpa [hi] using h
set_option maxRecDepth 65536 in
theorem w_c0 : (Jvm.Cond.code x code maxLocals ret).before args0 about1 = true := code_word (m := ⟨1, 1⟩) (meth := k1m1) (c := k1c1) (by decide +kernel) rfl rfl rfl (by decide +kernel)
set_option maxRecDepth 65536 in
theorem w_c1 : (Jvm.Cond.code ({ cls := "org/graphstride/VertexBits", name := "isSet", desc := "([JI)Z" } : Jvm.MethodName) prog_56_method_3_code (2 : Nat) (Option.some Jvm.ClassFile.FieldType.boolean)).before args0 about1 = true := code_word (m := ⟨2, 1⟩) (meth := k2m1) (c := k2c1) (by decide +kernel) rfl rfl rfl (by decide +kernel)
def codes1 : List Jvm.Cond := [Jvm.Cond.code x code maxLocals ret, Jvm.Cond.code ({ cls := "org/graphstride/VertexBits", name := "isSet", desc := "([JI)Z" } : Jvm.MethodName) prog_56_method_3_code (2 : Nat) (Option.some Jvm.ClassFile.FieldType.boolean)]
set_option maxRecDepth 65536 in
theorem codes_eq : words1.filter isCode = codes1 := rfl
theorem w_codes : ∀ c ∈ words1.filter isCode, c.before args0 about1 = true := by
  rw [codes_eq]
  intro c hc
  simp only [codes1, List.mem_cons, List.not_mem_nil, or_false] at hc
  rcases hc with rfl | rfl
  · exact w_c0
  · exact w_c1
set_option maxRecDepth 65536 in
theorem w_t1 : words1.all (fun c => isCode c || c.before args0 about1) = true := by decide +kernel
theorem w_tables : (allAtoms (Jvm.Cond.code x code maxLocals ret :: tables_1)).before args0 about1 = true := by
  rw [allAtoms_all]
  show words1.all (fun c => c.before args0 about1) = true
  refine all_split ?_ w_codes
  rw [w_t1]
set_option maxRecDepth 65536 in
theorem w_case : (Jvm.Cond.and given_1 narrow_1).before args0 about1 = true := by decide +kernel
theorem w_applies : (headSpec (Jvm.Cond.code x code maxLocals ret :: tables_1) room_1).applies x e0.platform about1 = true :=
  (Spec.applies_iff w_frames).mpr ⟨w_running, w_runnable, w_alone, w_named, w_hears, w_ripe, w_room, w_tables⟩
theorem atStart : AtStart classFile x code maxLocals ret World_1 tables_1 room_1 Calls_1 rest_1 Pre_1 launch0 p0 e0 about1 theMethod args0 below0 :=
  ⟨lists_1, trivial, launch0.admits_env _ _ _, launch0.least_env, fairChoices_fair.cas, fairChoices_fair.clock, w_frames, w_args, w_heap, w_applies, trivial, trivial, w_case⟩
end start1
theorem witness_1 : WitnessClaimed_1 := ⟨start1.p0, start1.e0, start1.about1, start1.theMethod, start1.args0, start1.below0, start1.atStart⟩
end Jvm.Pilot.@@N@@
