import JvmDerived
import JvmDerived.Pilot.@@N@@Statement
import JvmDerived.Pilot.@@N@@Code
set_option linter.unusedVariables false
set_option linter.unusedSimpArgs false
namespace Jvm.RoadKit
open Sem ClassFile Op Lib Jvm.Stand Jvm.Free Jvm.LawKit
section New
variable {p : Program} {l : Launch} {e : Env} {R : Room} {s : State} {m : MethodId} {args : Array Value} {below : List Frame} {meth : Method} {c : Code} {T : State} {locs : List Loc} {cells slots : Nat}
theorem retI (X : Stand p l e R s m args below meth c T locs cells slots) (hx : p.tables.exec = Jvm.exec) {pc : Nat} {Ls : Array Slot} {z : Int32} {rest : List Value} (hret : meth.sig.returnType = some .int) (hd : decode c.code pc = .ok (.ireturn, 1)) {fs : List Frame}
    (hl : ∀ (f : JFrame) (acts : List Action), f.method = m → f.locked = none → f.entered = [] → (doReturn e (T.setTop f) acts (some (.int z))).1 = T.setFrames fs) : Steps p.tables e below (T.setTop (mkF m pc Ls (.int z :: rest))) (T.setFrames fs) := by
  have hm' : T.vm.method? m = some meth := X.method'
  have hn : narrow .int (.int z) = .int z := rfl
  show Steps p.tables e below (T.setTop { method := m, pc := pc, locals := Ls, stack := _ :: rest, locked := none }) _
  jvm_step X.here [X.here.top, hx, hd, hm', hret, hn]
  first | (intro acts; rw [hl _ acts rfl rfl rfl]) | rw [hl _ _ rfl rfl rfl]
  exact Steps.refl _
end New
end Jvm.RoadKit
namespace Jvm.Pilot.@@N@@
open Jvm Jvm.ClassFile Sem Op Lib Jvm.Free Jvm.Stand Jvm.LawKit Jvm.RoadKit Bundle Jvm.Pilot.@@N@@.Jvm.D
/-- from u the invocation ends, and what it returns and leaves is as Q says -/
def Ends (p : Program) (e : Env) (below : List Frame) (s : State) (kc ks : Nat) (Q : Option Value → Heap → List Loc → Prop) (u : State) : Prop :=
  ∃ s₂ o, Steps p.tables e below u s₂ ∧ s₂.status = .running ∧ Ended s₂ below o ∧ ∃ v L, o = .returned v ∧ Q v s₂.heap L ∧ FrameEnd s o s₂ L kc ks
theorem Ends.via {p : Program} {e : Env} {below : List Frame} {s : State} {kc ks : Nat} {Q : Option Value → Heap → List Loc → Prop} {A B : State} (h : ∀ t, Steps p.tables e below A t → Steps p.tables e below B t) (k : Ends p e below s kc ks Q A) : Ends p e below s kc ks Q B := by
  obtain ⟨s₂, o, h1, r⟩ := k
  exact ⟨s₂, o, h _ h1, r⟩
theorem Ends.ret {p : Program} {l : Launch} {e : Env} {R : Room} {s : State} {m : MethodId} {args : Array Value} {below : List Frame} {meth : Method} {c : Code} {T : State} {locs : List Loc} {cells slots kc ks : Nat} {Q : Option Value → Heap → List Loc → Prop} {u : State}
    (X : Stand p l e R s m args below meth c T locs cells slots) {v : Option Value} (hv : meth.sig.returnType = none → v = none) (hlocks : meth.locks = false)
    (hst : ∀ fs, (∀ (f : JFrame) (acts : List Action), f.method = m → f.locked = none → f.entered = [] → (doReturn e (T.setTop f) acts v).1 = T.setFrames fs) → Steps p.tables e below u (T.setFrames fs))
    (hQ : Q v T.heap locs) (h1 : cells ≤ kc) (h2 : slots ≤ ks) : Ends p e below s kc ks Q u := by
  obtain ⟨fs, hr, hrun, hended, hW, hsame⟩ := X.leave (v := v) hv hlocks
  exact ⟨_, _, hst fs hr, hrun, hended, _, _, rfl, hQ, ⟨_, rfl⟩, hW, hsame.mono h1 h2⟩

def own_Hs (Z : State) (h : Heap) (b : Addr) (k : ClassId) (n : Int32) (sm : Bool) : Prop :=
  ∃ vs : List Value, Arv Z h b k (.object "com/example/crossbook/crossbook/Holding") n vs .null ∧ vs.length = n.toNatClampNeg ∧ (sm = true → ∃ i, i < n.toNatClampNeg ∧ vs.getD i .null ≠ .null) ∧ (sm = false → ∀ i, vs.getD i .null = .null)
theorem own_mk {Z : State} {h : Heap} {b : Addr} {k : ClassId} {n : Int32} (V : Arv Z h b k (.object "com/example/crossbook/crossbook/Holding") n [] .null) : own_Hs Z h b k n false :=
  ⟨[] ++ List.replicate n.toNatClampNeg (Value.null), V.pad (pad_rep [] Value.null _), by simp, (fun h => by cases h), (fun _ i => by rw [pad_rep]; rfl)⟩
theorem own_ref {C : String} {v : Value} (h : fits (.object C) v = true) : v = .null ∨ ∃ y, v = .ref y := by cases v <;> simp [fits] at h ⊢
theorem own_lt {c : Cell} {j : Int32} (h : ¬ (j < 0 ∨ c.slots.size ≤ j.toNatClampNeg)) : j.toNatClampNeg < c.slots.size := Nat.lt_of_not_le fun q => h (Or.inr q)
theorem own_nat (n : Int32) (h : ¬ n < 0) : n.toInt - (0 : Int32).toInt = (((n.toInt - (0 : Int32).toInt).toNat : Nat) : Int) := by
  have e0 : (0 : Int32).toInt = 0 := rfl
  rw [Int32.lt_iff_toInt_lt] at h; omega
theorem own_inc {i n : Int32} (h0 : 0 ≤ i.toInt) (h : i < n) : (i + (1 : Int32)).toInt = i.toInt + 1 := by
  have e1 : (1 : Int32).toInt = 1 := rfl
  have a := c_iadd i 1
  have r1 := rng32 (i + 1)
  have r2 := rng32 n
  rw [Int32.lt_iff_toInt_lt] at h; omega
theorem own_dec0 {i n : Int32} {r : Nat} (h0 : 0 ≤ i.toInt) (hr : n.toInt - i.toInt = ((r + 1 : Nat) : Int)) (h : i < n) : n.toInt - (i + (1 : Int32)).toInt = (r : Int) := by
  have := own_inc h0 h; omega
theorem own_nn {i n : Int32} (h0 : 0 ≤ i.toInt) (h : i < n) : 0 ≤ (i + (1 : Int32)).toInt := by have := own_inc h0 h; omega
theorem own_more {i n : Int32} {vs : List Value} (h0 : 0 ≤ i.toInt) (h : i < n) (hall : ∀ j : Nat, j < i.toInt.toNat → vs.getD j .null = .null) (hv : vs.getD i.toNatClampNeg .null = .null) : ∀ j : Nat, j < (i + (1 : Int32)).toInt.toNat → vs.getD j .null = .null := fun j hj => by
  rw [own_inc h0 h] at hj
  by_cases c : j < i.toInt.toNat
  · exact hall j c
  · have e : j = i.toNatClampNeg := by show j = i.toInt.toNat; omega
    rw [e]; exact hv
theorem own_all (n i : Int32) (vs : List Value) (hge : ¬ i < n) (hall : ∀ j : Nat, j < i.toInt.toNat → vs.getD j .null = .null) (hlen : vs.length = n.toNatClampNeg) : ∀ j : Nat, vs.getD j .null = .null := fun j => by
  by_cases c : j < i.toInt.toNat
  · exact hall j c
  · rw [Int32.lt_iff_toInt_lt] at hge
    have e : n.toNatClampNeg = n.toInt.toNat := rfl
    rw [List.getD_eq_getElem?_getD, List.getElem?_eq_none (by omega)]; rfl
theorem own_no {sm : Bool} {vs : List Value} {n : Nat} (hT : sm = true → ∃ i, i < n ∧ vs.getD i .null ≠ .null) (h : ∀ j : Nat, vs.getD j .null = .null) : (if sm = true then (1 : Int32) else (0 : Int32)) = 0 := by
  cases sm with
  | false => rfl
  | true => obtain ⟨i, -, q⟩ := hT rfl; exact absurd (h i) q
theorem own_yes {sm : Bool} {vs : List Value} {y : Addr} {i : Nat} (hF : sm = false → ∀ i, vs.getD i .null = .null) (h : vs.getD i .null = .ref y) : (if sm = true then (1 : Int32) else (0 : Int32)) = 1 := by
  cases sm with
  | true => rfl
  | false => have q := hF rfl i; rw [h] at q; cases q
theorem own_il {vs : List Value} {p n : Int32} (hlen : vs.length = n.toNatClampNeg) (hj : ¬ p < 0) (hjn : p < n) : p.toNatClampNeg < vs.length := by
  have e1 : n.toNatClampNeg = n.toInt.toNat := rfl
  have e2 : p.toNatClampNeg = p.toInt.toNat := rfl
  have e0 : (0 : Int32).toInt = 0 := rfl
  rw [Int32.lt_iff_toInt_lt] at hj hjn; omega
theorem own_true {Z : State} {h : Heap} {b : Addr} {k : ClassId} {n p : Int32} {vs : List Value} {y : Addr} (V : Arv Z h b k (.object "com/example/crossbook/crossbook/Holding") n vs .null) (hlen : vs.length = n.toNatClampNeg) (hj : ¬ p < 0) (hjn : p < n) (hv : vs.getD p.toNatClampNeg .null = .ref y) : own_Hs Z h b k n true :=
  ⟨vs, V, hlen, fun _ => ⟨_, hlen ▸ own_il hlen hj hjn, by rw [hv]; exact nofun⟩, fun h => nomatch h⟩
theorem own_put {Z : State} {h : Heap} {b : Addr} {k : ClassId} {n p : Int32} {vs : List Value} {y : Addr} (V : Arv Z h b k (.object "com/example/crossbook/crossbook/Holding") n (vs.set p.toNatClampNeg (.ref y)) .null) (hlen : vs.length = n.toNatClampNeg) (hj : ¬ p < 0) (hjn : p < n) : own_Hs Z h b k n true :=
  own_true (y := y) V (by rw [List.length_set]; exact hlen) hj hjn (by rw [List.getD_eq_getElem?_getD, List.getElem?_set_self (own_il hlen hj hjn)]; rfl)
theorem own_n7 (p v : Int32) (h : (p &&& (7 : Int32)) = v) : ¬ v < 0 ∧ v.toNatClampNeg ≤ 7 := by
  have h1 := c_mask p 7 3 (by decide) (by decide)
  rw [h] at h1
  have e0 : (0 : Int32).toInt = 0 := rfl
  have e2 : v.toNatClampNeg = v.toInt.toNat := rfl
  rw [Int32.lt_iff_toInt_lt]; omega
theorem own_nz {n : Int32} (h : (0 : Int32) < n) : n ≠ 0 := fun e => by rw [e] at h; exact absurd h (by decide)
theorem own_ix (p : Int32) {n : Int32} (h : (0 : Int32) < n) : ¬ ((p &&& (2147483647 : Int32)) % n) < 0 ∧ ((p &&& (2147483647 : Int32)) % n) < n := by
  have h1 := c_mask p 2147483647 31 (by decide) (by decide)
  have e0 : (0 : Int32).toInt = 0 := rfl
  rw [Int32.lt_iff_toInt_lt] at h
  have h2 := (c_iremV (p &&& 2147483647) n).1 (by omega) (by omega)
  rw [Int32.lt_iff_toInt_lt, Int32.lt_iff_toInt_lt]; omega
theorem own_pd0 : parseMethodDescriptor "(I)V" = some ⟨[.int], none⟩ := by decide +kernel
theorem own_pd1 : parseMethodDescriptor "()Z" = some ⟨[], some .boolean⟩ := by decide +kernel
theorem own_pd2 : parseMethodDescriptor "()V" = some ⟨[], none⟩ := by decide +kernel
theorem own_pd3 : parseMethodDescriptor "(I)Lcom/example/crossbook/crossbook/Holding;" = some ⟨[.int], some (.object "com/example/crossbook/crossbook/Holding")⟩ := by decide +kernel
theorem d1_0 : decode prog_1_method_1_code 0 = .ok (.aload_n 0, 1) := by decide +kernel
theorem d1_1 : decode prog_1_method_1_code 1 = .ok (.invokespecial 1, 3) := by decide +kernel
theorem d1_4 : decode prog_1_method_1_code 4 = .ok (.aload_n 0, 1) := by decide +kernel
theorem d1_5 : decode prog_1_method_1_code 5 = .ok (.iload_n 1, 1) := by decide +kernel
theorem d1_6 : decode prog_1_method_1_code 6 = .ok (.anewarray 7, 3) := by decide +kernel
theorem d1_9 : decode prog_1_method_1_code 9 = .ok (.putfield 9, 3) := by decide +kernel
theorem d1_12 : decode prog_1_method_1_code 12 = .ok (.return_, 1) := by decide +kernel
theorem pn_1 : plainName "com/example/crossbook/crossbook/Account" = true := by first | (simp [plainName, overriddenIn]; done) | decide +kernel
theorem ef_1 (m : MethodId) (a0 : Addr) (p1 : Int32) : entryFrame m #[(.ref a0), (.int p1)] 2 = mkF m 0 #[.val (.ref a0), .val (.int p1)] [] := by first | (simp [entryFrame, mkF, argsToLocals, Value.category]; done) | rfl
abbrev ROOM1 : Room := { frames := 1, cells := 1, slots := 7, locals := 12 }
def Q1 (Z : State) (a0 : Addr) (p1 : Int32) (u_holdings : Value) (h0 : Heap) (n0 : Nat) (v : Option Value) (h : Heap) (L : List Loc) : Prop := v = none ∧ Fr n0 L ∧ Keep h0 h [a0] ∧ Exa Z h a0 "com/example/crossbook/crossbook/Account" ∧ ∃ (b : Addr) (k : ClassId), n0 ≤ b ∧ h0.size ≤ b ∧ Fld Z h a0 "com/example/crossbook/crossbook/Account" "holdings" "[Lcom/example/crossbook/crossbook/Holding;" (.ref b) ∧ own_Hs Z h b k p1 false ∧ Ovr Z k "com/example/crossbook/crossbook/Holding"
set_option maxRecDepth 65536 in
set_option maxHeartbeats 40000000 in
theorem rm1 (l : Launch) (Z : State) (a0 : Array Value) (hw : ∀ d ∈ tables_1, d.before a0 Z = true) (ws : List Jvm.Cond) (a0 : Addr) (p1 : Int32) (u_holdings : Value) (h0 : Heap) (n0 : Nat) (Z0 : n0 ≤ h0.size) (g_a0 : n0 ≤ a0) (E_a0 : Exa Z h0 a0 "com/example/crossbook/crossbook/Account") (F_holdings : Fld Z h0 a0 "com/example/crossbook/crossbook/Account" "holdings" "[Lcom/example/crossbook/crossbook/Holding;" u_holdings) (hp : ¬ p1 < 0) (hp7 : p1.toNatClampNeg ≤ 7) :
    MetFree l (⟨"com/example/crossbook/crossbook/Account", "<init>", "(I)V"⟩ : MethodName) (head1 (Jvm.Cond.code (⟨"com/example/crossbook/crossbook/Account", "<init>", "(I)V"⟩ : MethodName) prog_1_method_1_code 2 none :: ws) ROOM1) (fun a U => a = #[(.ref a0), (.int p1)] ∧ Z.Warmed39 U.vm ∧ U.heap = h0) (fun _ _ _ _ _ => True) (fun _ U o U' => ∃ v L, o = .returned v ∧ Q1 Z a0 p1 u_holdings h0 n0 v U'.heap L ∧ FrameEnd U o U' L ROOM1.cells ROOM1.slots) := by
  refine MetFree.of_bodySF (plainFor_of_name pn_1) hisR ?_
  intro p e s m args below meth c s₁ Bd hml0 hP hK
  obtain ⟨rfl, hZ, hh⟩ := hP
  have hx := Bd.exec
  have hby := Bd.bytes
  have hml : c.maxLocals = 2 := hml0
  have hown : s.vm.findClass "com/example/crossbook/crossbook/Account" = some m.cls := findClass_of_methodNamed Bd.named
  have hnm := (name_of_methodNamed Bd.named Bd.method).1
  have X0 : Stand p l e ROOM1 s m #[(.ref a0), (.int p1)] below meth c s₁ [] 0 0 := Stand.of_body Bd
  have e0 : s₁.heap = h0 := by rw [← hh, Bd.state]; rfl
  have N0 := Fr.nil n0
  refine Ends.via (A := s₁.setTop (mkF m 0 #[.val (.ref a0), .val (.int p1)] [])) (kc := ROOM1.cells) (ks := ROOM1.slots) (Q := (Q1 Z a0 p1 u_holdings h0 n0)) (fun t k => castTop (ef_1 m a0 p1) k) ?_
  show Ends p e below s ROOM1.cells ROOM1.slots (Q1 Z a0 p1 u_holdings h0 n0) (s₁.setTop (mkF m 0 #[.val (.ref a0), .val (.int p1)] []))
  refine Ends.via (fun _ k => XS.aloadN X0.here hx rfl (hb hby d1_0) rfl rfl k) ?_
  show Ends p e below s ROOM1.cells ROOM1.slots (Q1 Z a0 p1 u_holdings h0 n0) (s₁.setTop (mkF m 1 #[.val (.ref a0), .val (.int p1)] [(.ref a0)]))
  obtain ⟨T4, X4, e4, st4⟩ := initO X0 hx hZ hown (hw _ (List.mem_of_getElem? (i := 6) rfl)) (hw _ (List.mem_of_getElem? (i := 7) rfl)) (hw _ (List.mem_of_getElem? (i := 8) rfl)) e0 (g := (mkF m 1 #[.val (.ref a0), .val (.int p1)] [(.ref a0)])) rfl (by rw [hml]; rfl) rfl (hb hby d1_1) (by decide) (W := 0) (by show 2 * 0 + _ ≤ _; exact Nat.le_of_eq rfl) (by decide)
  refine Ends.via st4 ?_
  show Ends p e below s ROOM1.cells ROOM1.slots (Q1 Z a0 p1 u_holdings h0 n0) (T4.setTop (mkF m 4 #[.val (.ref a0), .val (.int p1)] []))
  refine Ends.via (fun _ k => XS.aloadN X4.here hx rfl (hb hby d1_4) rfl rfl k) ?_
  show Ends p e below s ROOM1.cells ROOM1.slots (Q1 Z a0 p1 u_holdings h0 n0) (T4.setTop (mkF m 5 #[.val (.ref a0), .val (.int p1)] [(.ref a0)]))
  refine Ends.via (fun _ k => XS.iloadN X4.here hx rfl (hb hby d1_5) rfl k) ?_
  show Ends p e below s ROOM1.cells ROOM1.slots (Q1 Z a0 p1 u_holdings h0 n0) (T4.setTop (mkF m 6 #[.val (.ref a0), .val (.int p1)] [(.int p1), (.ref a0)]))
  obtain ⟨T5, h5, k5, X5, e5, E5, A5, O5, st5⟩ := newR X4 hx hZ hown (hw _ (List.mem_of_getElem? (i := 9) rfl)) (hw _ (List.mem_of_getElem? (i := 10) rfl)) e4 (g := (mkF m 6 #[.val (.ref a0), .val (.int p1)] [(.int p1), (.ref a0)])) rfl (hb hby d1_6) rfl hp (cap := 7) hp7 (by decide) (by decide) (by decide)
  obtain ⟨b5, g5⟩ : ∃ z, z = h0.size := ⟨_, rfl⟩
  rw [← g5] at A5 st5
  have g_b5 : n0 ≤ b5 := Nat.le_trans Z0 (Nat.le_of_eq g5.symm)
  have sz_b5 : h0.size ≤ b5 := Nat.le_trans ((Keep.refl h0 [a0])).1 (Nat.le_of_eq g5.symm)
  have ne_a0_b5 : a0 ≠ b5 := Nat.ne_of_lt (Nat.lt_of_lt_of_le E_a0.lt (Nat.le_of_eq g5.symm))
  have f5_0 := E_a0.ext E5
  have f5_1 := F_holdings.ext E5
  have Z5 : n0 ≤ h5.size := Nat.le_trans Z0 E5.1
  have K5 := Keep.ext (Keep.refl h0 [a0]) E5
  have V5 : Arv Z h5 b5 k5 (.object "com/example/crossbook/crossbook/Holding") p1 [] .null := Arv.new A5 hp
  refine Ends.via st5 ?_
  show Ends p e below s ROOM1.cells ROOM1.slots (Q1 Z a0 p1 u_holdings h0 n0) (T5.setTop (mkF m 9 #[.val (.ref a0), .val (.int p1)] [(.ref b5), (.ref a0)]))
  obtain ⟨T6, h6, X6, e6, W6, st6⟩ := putF X5 hx hZ hown (host := "") (Or.inl (hw _ (List.mem_of_getElem? (i := 11) rfl))) Via.refl e5 f5_1 f5_0 (Or.inr ⟨(hw _ (List.mem_of_getElem? (i := 12) rfl)), rfl, hnm⟩) (hw _ (List.mem_of_getElem? (i := 1) rfl)) (ty := (.array (.object "com/example/crossbook/crossbook/Holding"))) (by decide) rfl rfl (g := (mkF m 9 #[.val (.ref a0), .val (.int p1)] [(.ref b5), (.ref a0)])) rfl rfl (hb hby d1_9)
  have f6_0 := f5_0.wr W6
  have f6_1 := f5_1.same W6
  have f6_2 := V5.other W6 (Ne.symm ne_a0_b5)
  have Z6 : n0 ≤ h6.size := Nat.le_trans Z5 (Keep.of_wr W6).1
  have K6 := Keep.wr K5 W6 (Or.inl (List.mem_of_getElem? (i := 0) rfl))
  have N6 := Fr.snoc X6 N0 g_a0
  refine Ends.via st6 ?_
  show Ends p e below s ROOM1.cells ROOM1.slots (Q1 Z a0 p1 u_holdings h0 n0) (T6.setTop (mkF m 12 #[.val (.ref a0), .val (.int p1)] []))
  refine Ends.ret X6 (v := none) (fun _ => rfl) Bd.notSynchronized (fun fs hr => X6.returnOut hx Bd.returns (hb hby d1_12) hr) ?_ (by decide) (by decide)
  rw [e6]
  exact ⟨rfl, N6, K6, f6_0, b5, k5, g_b5, sz_b5, f6_1, own_mk f6_2, O5⟩
theorem d3_0 : decode prog_1_method_3_code 0 = .ok (.aload_n 0, 1) := by decide +kernel
theorem d3_1 : decode prog_1_method_3_code 1 = .ok (.getfield 9, 3) := by decide +kernel
theorem d3_4 : decode prog_1_method_3_code 4 = .ok (.astore_n 1, 1) := by decide +kernel
theorem d3_5 : decode prog_1_method_3_code 5 = .ok (.aload_n 1, 1) := by decide +kernel
theorem d3_6 : decode prog_1_method_3_code 6 = .ok (.arraylength, 1) := by decide +kernel
theorem d3_7 : decode prog_1_method_3_code 7 = .ok (.istore_n 2, 1) := by decide +kernel
theorem d3_8 : decode prog_1_method_3_code 8 = .ok (.iconst 0, 1) := by decide +kernel
theorem d3_9 : decode prog_1_method_3_code 9 = .ok (.istore_n 3, 1) := by decide +kernel
theorem d3_10 : decode prog_1_method_3_code 10 = .ok (.iload_n 3, 1) := by decide +kernel
theorem d3_11 : decode prog_1_method_3_code 11 = .ok (.iload_n 2, 1) := by decide +kernel
theorem d3_12 : decode prog_1_method_3_code 12 = .ok (.if_icmp .ge 21, 3) := by decide +kernel
theorem d3_15 : decode prog_1_method_3_code 15 = .ok (.aload_n 1, 1) := by decide +kernel
theorem d3_16 : decode prog_1_method_3_code 16 = .ok (.iload_n 3, 1) := by decide +kernel
theorem d3_17 : decode prog_1_method_3_code 17 = .ok (.aaload, 1) := by decide +kernel
theorem d3_18 : decode prog_1_method_3_code 18 = .ok (.astore 4, 2) := by decide +kernel
theorem d3_20 : decode prog_1_method_3_code 20 = .ok (.aload 4, 2) := by decide +kernel
theorem d3_22 : decode prog_1_method_3_code 22 = .ok (.ifnull 5, 3) := by decide +kernel
theorem d3_25 : decode prog_1_method_3_code 25 = .ok (.iconst 1, 1) := by decide +kernel
theorem d3_26 : decode prog_1_method_3_code 26 = .ok (.ireturn, 1) := by decide +kernel
theorem d3_27 : decode prog_1_method_3_code 27 = .ok (.iinc 3 1, 3) := by decide +kernel
theorem d3_30 : decode prog_1_method_3_code 30 = .ok (.goto (-20), 3) := by decide +kernel
theorem d3_33 : decode prog_1_method_3_code 33 = .ok (.iconst 0, 1) := by decide +kernel
theorem d3_34 : decode prog_1_method_3_code 34 = .ok (.ireturn, 1) := by decide +kernel
theorem pn_3 : plainName "com/example/crossbook/crossbook/Account" = true := by first | (simp [plainName, overriddenIn]; done) | decide +kernel
theorem ef_3 (m : MethodId) (a0 : Addr) : entryFrame m #[(.ref a0)] 5 = mkF m 0 #[.val (.ref a0), .unset, .unset, .unset, .unset] [] := by first | (simp [entryFrame, mkF, argsToLocals, Value.category]; done) | rfl
abbrev ROOM3 : Room := { frames := 0, cells := 0, slots := 0, locals := 0 }
def Q3 (Z : State) (a0 : Addr) (b : Addr) (k : ClassId) (n : Int32) (sm : Bool) (h0 : Heap) (n0 : Nat) (v : Option Value) (h : Heap) (L : List Loc) : Prop := v = some (.int (if sm = true then (1 : Int32) else (0 : Int32))) ∧ Fr n0 L ∧ h = h0
set_option maxRecDepth 65536 in
set_option maxHeartbeats 40000000 in
theorem rm3 (l : Launch) (Z : State) (a0 : Array Value) (hw : ∀ d ∈ tables_1, d.before a0 Z = true) (ws : List Jvm.Cond) (a0 : Addr) (b : Addr) (k : ClassId) (n : Int32) (sm : Bool) (h0 : Heap) (n0 : Nat) (Z0 : n0 ≤ h0.size) (F_holdings : Fld Z h0 a0 "com/example/crossbook/crossbook/Account" "holdings" "[Lcom/example/crossbook/crossbook/Holding;" (.ref b)) (Hb : own_Hs Z h0 b k n sm) :
    MetFree l (⟨"com/example/crossbook/crossbook/Account", "holdsAny", "()Z"⟩ : MethodName) (head1 (Jvm.Cond.code (⟨"com/example/crossbook/crossbook/Account", "holdsAny", "()Z"⟩ : MethodName) prog_1_method_3_code 5 (some .boolean) :: ws) ROOM3) (fun a U => a = #[(.ref a0)] ∧ Z.Warmed39 U.vm ∧ U.heap = h0) (fun _ _ _ _ _ => True) (fun _ U o U' => ∃ v L, o = .returned v ∧ Q3 Z a0 b k n sm h0 n0 v U'.heap L ∧ FrameEnd U o U' L ROOM3.cells ROOM3.slots) := by
  refine MetFree.of_bodySF (plainFor_of_name pn_3) hisR ?_
  intro p e s m args below meth c s₁ Bd hml0 hP hK
  obtain ⟨rfl, hZ, hh⟩ := hP
  have hx := Bd.exec
  have hby := Bd.bytes
  have hml : c.maxLocals = 5 := hml0
  have hown : s.vm.findClass "com/example/crossbook/crossbook/Account" = some m.cls := findClass_of_methodNamed Bd.named
  have hnm := (name_of_methodNamed Bd.named Bd.method).1
  have X0 : Stand p l e ROOM3 s m #[(.ref a0)] below meth c s₁ [] 0 0 := Stand.of_body Bd
  have e0 : s₁.heap = h0 := by rw [← hh, Bd.state]; rfl
  have N0 := Fr.nil n0
  refine Ends.via (A := s₁.setTop (mkF m 0 #[.val (.ref a0), .unset, .unset, .unset, .unset] [])) (kc := ROOM3.cells) (ks := ROOM3.slots) (Q := (Q3 Z a0 b k n sm h0 n0)) (fun t k => castTop (ef_3 m a0) k) ?_
  show Ends p e below s ROOM3.cells ROOM3.slots (Q3 Z a0 b k n sm h0 n0) (s₁.setTop (mkF m 0 #[.val (.ref a0), .unset, .unset, .unset, .unset] []))
  obtain ⟨vs, Va, hlen, hT, hF⟩ := Hb
  obtain ⟨cl, Ar, qk, Sz, Ng, Hs, Gf⟩ := id Va
  refine Ends.via (fun _ k => XS.aloadN X0.here hx rfl (hb hby d3_0) rfl rfl k) ?_
  show Ends p e below s ROOM3.cells ROOM3.slots (Q3 Z a0 b k n sm h0 n0) (s₁.setTop (mkF m 1 #[.val (.ref a0), .unset, .unset, .unset, .unset] [(.ref a0)]))
  obtain ⟨T8, X8, e8, st8⟩ := getF X0 hx hZ hown (host := "") (Or.inl (hw _ (List.mem_of_getElem? (i := 11) rfl))) Via.refl e0 F_holdings (g := (mkF m 1 #[.val (.ref a0), .unset, .unset, .unset, .unset] [(.ref a0)])) rfl rfl (hb hby d3_1)
  refine Ends.via st8 ?_
  show Ends p e below s ROOM3.cells ROOM3.slots (Q3 Z a0 b k n sm h0 n0) (T8.setTop (mkF m 4 #[.val (.ref a0), .unset, .unset, .unset, .unset] [(.ref b)]))
  refine Ends.via (fun _ k => XS.astoreN X8.here hx rfl (hb hby d3_4) rfl rfl (l' := #[.val (.ref a0), .val (.ref b), .unset, .unset, .unset]) rfl k) ?_
  show Ends p e below s ROOM3.cells ROOM3.slots (Q3 Z a0 b k n sm h0 n0) (T8.setTop (mkF m 5 #[.val (.ref a0), .val (.ref b), .unset, .unset, .unset] []))
  refine Ends.via (fun _ k => XS.aloadN X8.here hx rfl (hb hby d3_5) rfl rfl k) ?_
  show Ends p e below s ROOM3.cells ROOM3.slots (Q3 Z a0 b k n sm h0 n0) (T8.setTop (mkF m 6 #[.val (.ref a0), .val (.ref b), .unset, .unset, .unset] [(.ref b)]))
  obtain ⟨cl9, Ar9, qk9, S9, Ng9, Hs9, Gf9⟩ := id Va
  refine Ends.via (by have q := X8.arraylength hx (by rw [e8]; exact Ar9.1) (State.isArrayOf_alike hZ.alike Ar9.2.1) (g := (mkF m 6 #[.val (.ref a0), .val (.ref b), .unset, .unset, .unset] [(.ref b)])) rfl rfl (hb hby d3_6); rw [len_of S9 Ng9] at q; exact q) ?_
  show Ends p e below s ROOM3.cells ROOM3.slots (Q3 Z a0 b k n sm h0 n0) (T8.setTop (mkF m 7 #[.val (.ref a0), .val (.ref b), .unset, .unset, .unset] [(.int n)]))
  refine Ends.via (fun _ k => XS.istoreN X8.here hx rfl (hb hby d3_7) rfl (l' := #[.val (.ref a0), .val (.ref b), .val (.int n), .unset, .unset]) rfl k) ?_
  show Ends p e below s ROOM3.cells ROOM3.slots (Q3 Z a0 b k n sm h0 n0) (T8.setTop (mkF m 8 #[.val (.ref a0), .val (.ref b), .val (.int n), .unset, .unset] []))
  refine Ends.via (fun _ k => XS.iconst X8.here hx rfl (hb hby d3_8) k) ?_
  show Ends p e below s ROOM3.cells ROOM3.slots (Q3 Z a0 b k n sm h0 n0) (T8.setTop (mkF m 9 #[.val (.ref a0), .val (.ref b), .val (.int n), .unset, .unset] [(.int (0 : Int32))]))
  refine Ends.via (fun _ k => XS.istoreN X8.here hx rfl (hb hby d3_9) rfl (l' := #[.val (.ref a0), .val (.ref b), .val (.int n), .val (.int (0 : Int32)), .unset]) rfl k) ?_
  show Ends p e below s ROOM3.cells ROOM3.slots (Q3 Z a0 b k n sm h0 n0) (T8.setTop (mkF m 10 #[.val (.ref a0), .val (.ref b), .val (.int n), .val (.int (0 : Int32)), .unset] []))
  have loop : ∀ (r : Nat) (i : Int32) (s4 : Slot) (Tl : State) (Ll : List Loc) (Xl : Stand p l e ROOM3 s m #[(.ref a0)] below meth c Tl Ll 0 0) (el : Tl.heap = h0) (Nl : Fr n0 Ll), n.toInt - i.toInt = (r : Int) → 0 ≤ i.toInt → (∀ j : Nat, j < i.toInt.toNat → vs.getD j .null = .null) → (s4 = .unset ∨ s4 = .val .null) → Ends p e below s ROOM3.cells ROOM3.slots (Q3 Z a0 b k n sm h0 n0) (Tl.setTop (mkF m 10 #[.val (.ref a0), .val (.ref b), .val (.int n), .val (.int i), s4] [])) := by
    intro r
    induction r with
    | zero =>
      intro i s4 Tl Ll Xl el Nl hr hi0 hall hs4
      have hge : ¬ i < n := by rw [Int32.lt_iff_toInt_lt]; omega
      refine Ends.via (fun _ k => XS.iloadN Xl.here hx rfl (hb hby d3_10) rfl k) ?_
      show Ends p e below s ROOM3.cells ROOM3.slots (Q3 Z a0 b k n sm h0 n0) (Tl.setTop (mkF m 11 #[.val (.ref a0), .val (.ref b), .val (.int n), .val (.int i), s4] [(.int i)]))
      refine Ends.via (fun _ k => XS.iloadN Xl.here hx rfl (hb hby d3_11) rfl k) ?_
      show Ends p e below s ROOM3.cells ROOM3.slots (Q3 Z a0 b k n sm h0 n0) (Tl.setTop (mkF m 12 #[.val (.ref a0), .val (.ref b), .val (.int n), .val (.int i), s4] [(.int n), (.int i)]))
      have hf10 : ¬ (i < n) := hge
      refine Ends.via (fun _ k => XS.icmpYes Xl.here hx rfl (pc0 := 12) (pc' := 33) rfl (hb hby d3_12) rfl (flt hf10).2.1 (by decide) (by decide) k) ?_
      show Ends p e below s ROOM3.cells ROOM3.slots (Q3 Z a0 b k n sm h0 n0) (Tl.setTop (mkF m 33 #[.val (.ref a0), .val (.ref b), .val (.int n), .val (.int i), s4] []))
      refine Ends.via (fun _ k => XS.iconst Xl.here hx rfl (hb hby d3_33) k) ?_
      show Ends p e below s ROOM3.cells ROOM3.slots (Q3 Z a0 b k n sm h0 n0) (Tl.setTop (mkF m 34 #[.val (.ref a0), .val (.ref b), .val (.int n), .val (.int i), s4] [(.int (0 : Int32))]))
      refine Ends.ret Xl (v := some (.int (nar .boolean (0 : Int32)))) (fun h => by rw [Bd.returns] at h; cases h) Bd.notSynchronized (fun fs hr => retN Xl hx (t := .boolean) Bd.returns (by simp) (hb hby d3_34) hr) ?_ (by decide) (by decide)
      exact ⟨congrArg some (congrArg Value.int (own_no hT (own_all n i vs hge hall hlen)).symm), Nl, el⟩
    | succ r ih =>
      intro i s4 Tl Ll Xl el Nl hr hi0 hall hs4
      have hlt : i < n := by rw [Int32.lt_iff_toInt_lt]; omega
      refine Ends.via (fun _ k => XS.iloadN Xl.here hx rfl (hb hby d3_10) rfl k) ?_
      show Ends p e below s ROOM3.cells ROOM3.slots (Q3 Z a0 b k n sm h0 n0) (Tl.setTop (mkF m 11 #[.val (.ref a0), .val (.ref b), .val (.int n), .val (.int i), s4] [(.int i)]))
      refine Ends.via (fun _ k => XS.iloadN Xl.here hx rfl (hb hby d3_11) rfl k) ?_
      show Ends p e below s ROOM3.cells ROOM3.slots (Q3 Z a0 b k n sm h0 n0) (Tl.setTop (mkF m 12 #[.val (.ref a0), .val (.ref b), .val (.int n), .val (.int i), s4] [(.int n), (.int i)]))
      have hf11 : i < n := hlt
      refine Ends.via (fun _ k => XS.icmpNo Xl.here hx rfl (hb hby d3_12) rfl (tlt hf11).2.1 k) ?_
      show Ends p e below s ROOM3.cells ROOM3.slots (Q3 Z a0 b k n sm h0 n0) (Tl.setTop (mkF m 15 #[.val (.ref a0), .val (.ref b), .val (.int n), .val (.int i), s4] []))
      refine Ends.via (fun _ k => XS.aloadN Xl.here hx rfl (hb hby d3_15) rfl rfl k) ?_
      show Ends p e below s ROOM3.cells ROOM3.slots (Q3 Z a0 b k n sm h0 n0) (Tl.setTop (mkF m 16 #[.val (.ref a0), .val (.ref b), .val (.int n), .val (.int i), s4] [(.ref b)]))
      refine Ends.via (fun _ k => XS.iloadN Xl.here hx rfl (hb hby d3_16) rfl k) ?_
      show Ends p e below s ROOM3.cells ROOM3.slots (Q3 Z a0 b k n sm h0 n0) (Tl.setTop (mkF m 17 #[.val (.ref a0), .val (.ref b), .val (.int n), .val (.int i), s4] [(.int i), (.ref b)]))
      have hin : ¬ (i < 0 ∨ cl.slots.size ≤ i.toNatClampNeg) := inb_of Sz ⟨by rw [Int32.lt_iff_toInt_lt]; have e0 : (0 : Int32).toInt = 0 := rfl; omega, hlt⟩
      have hat := Hs.at hin rfl
      rcases own_ref (Gf _ (own_lt hin)) with hv | ⟨y, hv⟩
      · rw [hv] at hat
        refine Ends.via (Xl.aaload hx (j := i) (v := .null) (by rw [el]; exact Ar.1) (State.isArrayOf_alike hZ.alike Ar.2.1) rfl Ar.2.2 hin hat (g := (mkF m 17 #[.val (.ref a0), .val (.ref b), .val (.int n), .val (.int i), s4] [(.int i), (.ref b)])) rfl rfl (hb hby d3_17)) ?_
        show Ends p e below s ROOM3.cells ROOM3.slots (Q3 Z a0 b k n sm h0 n0) (Tl.setTop (mkF m 18 #[.val (.ref a0), .val (.ref b), .val (.int n), .val (.int i), s4] [.null]))
        rcases hs4 with rfl | rfl
        · show Ends p e below s ROOM3.cells ROOM3.slots (Q3 Z a0 b k n sm h0 n0) (Tl.setTop (mkF m 18 #[.val (.ref a0), .val (.ref b), .val (.int n), .val (.int i), .unset] [.null]))
          refine Ends.via (fun _ k => XS.astore Xl.here hx rfl (hb hby d3_18) rfl rfl (l' := #[.val (.ref a0), .val (.ref b), .val (.int n), .val (.int i), .val .null]) rfl k) ?_
          show Ends p e below s ROOM3.cells ROOM3.slots (Q3 Z a0 b k n sm h0 n0) (Tl.setTop (mkF m 20 #[.val (.ref a0), .val (.ref b), .val (.int n), .val (.int i), .val .null] []))
          refine Ends.via (fun _ k => XS.aload Xl.here hx rfl (hb hby d3_20) rfl rfl k) ?_
          show Ends p e below s ROOM3.cells ROOM3.slots (Q3 Z a0 b k n sm h0 n0) (Tl.setTop (mkF m 22 #[.val (.ref a0), .val (.ref b), .val (.int n), .val (.int i), .val .null] [.null]))
          refine Ends.via (fun _ k => XS.ifnullYes Xl.here hx rfl (pc0 := 22) (pc' := 27) rfl (hb hby d3_22) rfl (by decide) (by decide) k) ?_
          show Ends p e below s ROOM3.cells ROOM3.slots (Q3 Z a0 b k n sm h0 n0) (Tl.setTop (mkF m 27 #[.val (.ref a0), .val (.ref b), .val (.int n), .val (.int i), .val .null] []))
          refine Ends.via (fun _ k => XS.iinc Xl.here hx rfl (hb hby d3_27) rfl (l' := #[.val (.ref a0), .val (.ref b), .val (.int n), .val (.int (i + (1 : Int32))), .val .null]) rfl k) ?_
          show Ends p e below s ROOM3.cells ROOM3.slots (Q3 Z a0 b k n sm h0 n0) (Tl.setTop (mkF m 30 #[.val (.ref a0), .val (.ref b), .val (.int n), .val (.int (i + (1 : Int32))), .val .null] []))
          refine Ends.via (fun _ k => XS.goto Xl.here hx rfl (pc0 := 30) (pc' := 10) rfl (hb hby d3_30) (by decide) (by decide) k) ?_
          show Ends p e below s ROOM3.cells ROOM3.slots (Q3 Z a0 b k n sm h0 n0) (Tl.setTop (mkF m 10 #[.val (.ref a0), .val (.ref b), .val (.int n), .val (.int (i + (1 : Int32))), .val .null] []))
          exact ih (i + (1 : Int32)) (.val .null) Tl _ Xl el Nl (own_dec0 hi0 hr hlt) (own_nn hi0 hlt) (own_more hi0 hlt hall hv) (Or.inr rfl)
        · show Ends p e below s ROOM3.cells ROOM3.slots (Q3 Z a0 b k n sm h0 n0) (Tl.setTop (mkF m 18 #[.val (.ref a0), .val (.ref b), .val (.int n), .val (.int i), .val .null] [.null]))
          refine Ends.via (fun _ k => XS.astore Xl.here hx rfl (hb hby d3_18) rfl rfl (l' := #[.val (.ref a0), .val (.ref b), .val (.int n), .val (.int i), .val .null]) rfl k) ?_
          show Ends p e below s ROOM3.cells ROOM3.slots (Q3 Z a0 b k n sm h0 n0) (Tl.setTop (mkF m 20 #[.val (.ref a0), .val (.ref b), .val (.int n), .val (.int i), .val .null] []))
          refine Ends.via (fun _ k => XS.aload Xl.here hx rfl (hb hby d3_20) rfl rfl k) ?_
          show Ends p e below s ROOM3.cells ROOM3.slots (Q3 Z a0 b k n sm h0 n0) (Tl.setTop (mkF m 22 #[.val (.ref a0), .val (.ref b), .val (.int n), .val (.int i), .val .null] [.null]))
          refine Ends.via (fun _ k => XS.ifnullYes Xl.here hx rfl (pc0 := 22) (pc' := 27) rfl (hb hby d3_22) rfl (by decide) (by decide) k) ?_
          show Ends p e below s ROOM3.cells ROOM3.slots (Q3 Z a0 b k n sm h0 n0) (Tl.setTop (mkF m 27 #[.val (.ref a0), .val (.ref b), .val (.int n), .val (.int i), .val .null] []))
          refine Ends.via (fun _ k => XS.iinc Xl.here hx rfl (hb hby d3_27) rfl (l' := #[.val (.ref a0), .val (.ref b), .val (.int n), .val (.int (i + (1 : Int32))), .val .null]) rfl k) ?_
          show Ends p e below s ROOM3.cells ROOM3.slots (Q3 Z a0 b k n sm h0 n0) (Tl.setTop (mkF m 30 #[.val (.ref a0), .val (.ref b), .val (.int n), .val (.int (i + (1 : Int32))), .val .null] []))
          refine Ends.via (fun _ k => XS.goto Xl.here hx rfl (pc0 := 30) (pc' := 10) rfl (hb hby d3_30) (by decide) (by decide) k) ?_
          show Ends p e below s ROOM3.cells ROOM3.slots (Q3 Z a0 b k n sm h0 n0) (Tl.setTop (mkF m 10 #[.val (.ref a0), .val (.ref b), .val (.int n), .val (.int (i + (1 : Int32))), .val .null] []))
          exact ih (i + (1 : Int32)) (.val .null) Tl _ Xl el Nl (own_dec0 hi0 hr hlt) (own_nn hi0 hlt) (own_more hi0 hlt hall hv) (Or.inr rfl)
      · rw [hv] at hat
        refine Ends.via (Xl.aaload hx (j := i) (v := (.ref y)) (by rw [el]; exact Ar.1) (State.isArrayOf_alike hZ.alike Ar.2.1) rfl Ar.2.2 hin hat (g := (mkF m 17 #[.val (.ref a0), .val (.ref b), .val (.int n), .val (.int i), s4] [(.int i), (.ref b)])) rfl rfl (hb hby d3_17)) ?_
        show Ends p e below s ROOM3.cells ROOM3.slots (Q3 Z a0 b k n sm h0 n0) (Tl.setTop (mkF m 18 #[.val (.ref a0), .val (.ref b), .val (.int n), .val (.int i), s4] [(.ref y)]))
        rcases hs4 with rfl | rfl
        · show Ends p e below s ROOM3.cells ROOM3.slots (Q3 Z a0 b k n sm h0 n0) (Tl.setTop (mkF m 18 #[.val (.ref a0), .val (.ref b), .val (.int n), .val (.int i), .unset] [(.ref y)]))
          refine Ends.via (fun _ k => XS.astore Xl.here hx rfl (hb hby d3_18) rfl rfl (l' := #[.val (.ref a0), .val (.ref b), .val (.int n), .val (.int i), .val (.ref y)]) rfl k) ?_
          show Ends p e below s ROOM3.cells ROOM3.slots (Q3 Z a0 b k n sm h0 n0) (Tl.setTop (mkF m 20 #[.val (.ref a0), .val (.ref b), .val (.int n), .val (.int i), .val (.ref y)] []))
          refine Ends.via (fun _ k => XS.aload Xl.here hx rfl (hb hby d3_20) rfl rfl k) ?_
          show Ends p e below s ROOM3.cells ROOM3.slots (Q3 Z a0 b k n sm h0 n0) (Tl.setTop (mkF m 22 #[.val (.ref a0), .val (.ref b), .val (.int n), .val (.int i), .val (.ref y)] [(.ref y)]))
          refine Ends.via (fun _ k => XS.ifnullNo Xl.here hx rfl (hb hby d3_22) rfl k) ?_
          show Ends p e below s ROOM3.cells ROOM3.slots (Q3 Z a0 b k n sm h0 n0) (Tl.setTop (mkF m 25 #[.val (.ref a0), .val (.ref b), .val (.int n), .val (.int i), .val (.ref y)] []))
          refine Ends.via (fun _ k => XS.iconst Xl.here hx rfl (hb hby d3_25) k) ?_
          show Ends p e below s ROOM3.cells ROOM3.slots (Q3 Z a0 b k n sm h0 n0) (Tl.setTop (mkF m 26 #[.val (.ref a0), .val (.ref b), .val (.int n), .val (.int i), .val (.ref y)] [(.int (1 : Int32))]))
          refine Ends.ret Xl (v := some (.int (nar .boolean (1 : Int32)))) (fun h => by rw [Bd.returns] at h; cases h) Bd.notSynchronized (fun fs hr => retN Xl hx (t := .boolean) Bd.returns (by simp) (hb hby d3_26) hr) ?_ (by decide) (by decide)
          exact ⟨congrArg some (congrArg Value.int (own_yes hF hv).symm), Nl, el⟩
        · show Ends p e below s ROOM3.cells ROOM3.slots (Q3 Z a0 b k n sm h0 n0) (Tl.setTop (mkF m 18 #[.val (.ref a0), .val (.ref b), .val (.int n), .val (.int i), .val .null] [(.ref y)]))
          refine Ends.via (fun _ k => XS.astore Xl.here hx rfl (hb hby d3_18) rfl rfl (l' := #[.val (.ref a0), .val (.ref b), .val (.int n), .val (.int i), .val (.ref y)]) rfl k) ?_
          show Ends p e below s ROOM3.cells ROOM3.slots (Q3 Z a0 b k n sm h0 n0) (Tl.setTop (mkF m 20 #[.val (.ref a0), .val (.ref b), .val (.int n), .val (.int i), .val (.ref y)] []))
          refine Ends.via (fun _ k => XS.aload Xl.here hx rfl (hb hby d3_20) rfl rfl k) ?_
          show Ends p e below s ROOM3.cells ROOM3.slots (Q3 Z a0 b k n sm h0 n0) (Tl.setTop (mkF m 22 #[.val (.ref a0), .val (.ref b), .val (.int n), .val (.int i), .val (.ref y)] [(.ref y)]))
          refine Ends.via (fun _ k => XS.ifnullNo Xl.here hx rfl (hb hby d3_22) rfl k) ?_
          show Ends p e below s ROOM3.cells ROOM3.slots (Q3 Z a0 b k n sm h0 n0) (Tl.setTop (mkF m 25 #[.val (.ref a0), .val (.ref b), .val (.int n), .val (.int i), .val (.ref y)] []))
          refine Ends.via (fun _ k => XS.iconst Xl.here hx rfl (hb hby d3_25) k) ?_
          show Ends p e below s ROOM3.cells ROOM3.slots (Q3 Z a0 b k n sm h0 n0) (Tl.setTop (mkF m 26 #[.val (.ref a0), .val (.ref b), .val (.int n), .val (.int i), .val (.ref y)] [(.int (1 : Int32))]))
          refine Ends.ret Xl (v := some (.int (nar .boolean (1 : Int32)))) (fun h => by rw [Bd.returns] at h; cases h) Bd.notSynchronized (fun fs hr => retN Xl hx (t := .boolean) Bd.returns (by simp) (hb hby d3_26) hr) ?_ (by decide) (by decide)
          exact ⟨congrArg some (congrArg Value.int (own_yes hF hv).symm), Nl, el⟩
  exact loop (n.toInt - (0 : Int32).toInt).toNat (0 : Int32) .unset T8 _ X8 e8 N0 (own_nat n Ng) (by decide) (fun j hj => absurd hj (Nat.not_lt_zero _)) (Or.inl rfl)
theorem d5_0 : decode prog_15_method_1_code 0 = .ok (.aload_n 0, 1) := by decide +kernel
theorem d5_1 : decode prog_15_method_1_code 1 = .ok (.invokespecial 1, 3) := by decide +kernel
theorem d5_4 : decode prog_15_method_1_code 4 = .ok (.return_, 1) := by decide +kernel
theorem pn_5 : plainName "com/example/crossbook/crossbook/Holding" = true := by first | (simp [plainName, overriddenIn]; done) | decide +kernel
theorem ef_5 (m : MethodId) (a0 : Addr) : entryFrame m #[(.ref a0)] 1 = mkF m 0 #[.val (.ref a0)] [] := by first | (simp [entryFrame, mkF, argsToLocals, Value.category]; done) | rfl
abbrev ROOM5 : Room := { frames := 1, cells := 0, slots := 0, locals := 12 }
def Q5 (Z : State) (a0 : Addr)  (h0 : Heap) (n0 : Nat) (v : Option Value) (h : Heap) (L : List Loc) : Prop := v = none ∧ Fr n0 L ∧ h = h0
set_option maxRecDepth 65536 in
set_option maxHeartbeats 40000000 in
theorem rm5 (l : Launch) (Z : State) (a0 : Array Value) (hw : ∀ d ∈ tables_1, d.before a0 Z = true) (ws : List Jvm.Cond) (a0 : Addr)  (h0 : Heap) (n0 : Nat) (Z0 : n0 ≤ h0.size)  :
    MetFree l (⟨"com/example/crossbook/crossbook/Holding", "<init>", "()V"⟩ : MethodName) (head1 (Jvm.Cond.code (⟨"com/example/crossbook/crossbook/Holding", "<init>", "()V"⟩ : MethodName) prog_15_method_1_code 1 none :: ws) ROOM5) (fun a U => a = #[(.ref a0)] ∧ Z.Warmed39 U.vm ∧ U.heap = h0) (fun _ _ _ _ _ => True) (fun _ U o U' => ∃ v L, o = .returned v ∧ Q5 Z a0  h0 n0 v U'.heap L ∧ FrameEnd U o U' L ROOM5.cells ROOM5.slots) := by
  refine MetFree.of_bodySF (plainFor_of_name pn_5) hisR ?_
  intro p e s m args below meth c s₁ Bd hml0 hP hK
  obtain ⟨rfl, hZ, hh⟩ := hP
  have hx := Bd.exec
  have hby := Bd.bytes
  have hml : c.maxLocals = 1 := hml0
  have hown : s.vm.findClass "com/example/crossbook/crossbook/Holding" = some m.cls := findClass_of_methodNamed Bd.named
  have hnm := (name_of_methodNamed Bd.named Bd.method).1
  have X0 : Stand p l e ROOM5 s m #[(.ref a0)] below meth c s₁ [] 0 0 := Stand.of_body Bd
  have e0 : s₁.heap = h0 := by rw [← hh, Bd.state]; rfl
  have N0 := Fr.nil n0
  refine Ends.via (A := s₁.setTop (mkF m 0 #[.val (.ref a0)] [])) (kc := ROOM5.cells) (ks := ROOM5.slots) (Q := (Q5 Z a0  h0 n0)) (fun t k => castTop (ef_5 m a0) k) ?_
  show Ends p e below s ROOM5.cells ROOM5.slots (Q5 Z a0  h0 n0) (s₁.setTop (mkF m 0 #[.val (.ref a0)] []))
  refine Ends.via (fun _ k => XS.aloadN X0.here hx rfl (hb hby d5_0) rfl rfl k) ?_
  show Ends p e below s ROOM5.cells ROOM5.slots (Q5 Z a0  h0 n0) (s₁.setTop (mkF m 1 #[.val (.ref a0)] [(.ref a0)]))
  obtain ⟨T24, X24, e24, st24⟩ := initO X0 hx hZ hown (hw _ (List.mem_of_getElem? (i := 29) rfl)) (hw _ (List.mem_of_getElem? (i := 7) rfl)) (hw _ (List.mem_of_getElem? (i := 8) rfl)) e0 (g := (mkF m 1 #[.val (.ref a0)] [(.ref a0)])) rfl (by rw [hml]; rfl) rfl (hb hby d5_1) (by decide) (W := 0) (by show 2 * 0 + _ ≤ _; exact Nat.le_of_eq rfl) (by decide)
  refine Ends.via st24 ?_
  show Ends p e below s ROOM5.cells ROOM5.slots (Q5 Z a0  h0 n0) (T24.setTop (mkF m 4 #[.val (.ref a0)] []))
  refine Ends.ret X24 (v := none) (fun _ => rfl) Bd.notSynchronized (fun fs hr => X24.returnOut hx Bd.returns (hb hby d5_4) hr) ?_ (by decide) (by decide)
  exact ⟨rfl, N0, e24⟩
theorem d4_0 : decode prog_1_method_4_code 0 = .ok (.aload_n 0, 1) := by decide +kernel
theorem d4_1 : decode prog_1_method_4_code 1 = .ok (.getfield 9, 3) := by decide +kernel
theorem d4_4 : decode prog_1_method_4_code 4 = .ok (.iload_n 1, 1) := by decide +kernel
theorem d4_5 : decode prog_1_method_4_code 5 = .ok (.aaload, 1) := by decide +kernel
theorem d4_6 : decode prog_1_method_4_code 6 = .ok (.astore_n 2, 1) := by decide +kernel
theorem d4_7 : decode prog_1_method_4_code 7 = .ok (.aload_n 2, 1) := by decide +kernel
theorem d4_8 : decode prog_1_method_4_code 8 = .ok (.ifnonnull 18, 3) := by decide +kernel
theorem d4_11 : decode prog_1_method_4_code 11 = .ok (.new 7, 3) := by decide +kernel
theorem d4_14 : decode prog_1_method_4_code 14 = .ok (.dup, 1) := by decide +kernel
theorem d4_15 : decode prog_1_method_4_code 15 = .ok (.invokespecial 15, 3) := by decide +kernel
theorem d4_18 : decode prog_1_method_4_code 18 = .ok (.astore_n 2, 1) := by decide +kernel
theorem d4_19 : decode prog_1_method_4_code 19 = .ok (.aload_n 0, 1) := by decide +kernel
theorem d4_20 : decode prog_1_method_4_code 20 = .ok (.getfield 9, 3) := by decide +kernel
theorem d4_23 : decode prog_1_method_4_code 23 = .ok (.iload_n 1, 1) := by decide +kernel
theorem d4_24 : decode prog_1_method_4_code 24 = .ok (.aload_n 2, 1) := by decide +kernel
theorem d4_25 : decode prog_1_method_4_code 25 = .ok (.aastore, 1) := by decide +kernel
theorem d4_26 : decode prog_1_method_4_code 26 = .ok (.aload_n 2, 1) := by decide +kernel
theorem d4_27 : decode prog_1_method_4_code 27 = .ok (.areturn, 1) := by decide +kernel
theorem pn_4 : plainName "com/example/crossbook/crossbook/Account" = true := by first | (simp [plainName, overriddenIn]; done) | decide +kernel
theorem ef_4 (m : MethodId) (a0 : Addr) (p1 : Int32) : entryFrame m #[(.ref a0), (.int p1)] 3 = mkF m 0 #[.val (.ref a0), .val (.int p1), .unset] [] := by first | (simp [entryFrame, mkF, argsToLocals, Value.category]; done) | rfl
abbrev ROOM4 : Room := { frames := 2, cells := 1, slots := 4, locals := 25 }
def Q4 (Z : State) (a0 : Addr) (p1 : Int32) (b : Addr) (k : ClassId) (n : Int32) (sm : Bool) (h0 : Heap) (n0 : Nat) (v : Option Value) (h : Heap) (L : List Loc) : Prop := (∃ y : Addr, v = some (.ref y)) ∧ Fr n0 L ∧ Keep h0 h [b] ∧ own_Hs Z h b k n true
set_option maxRecDepth 65536 in
set_option maxHeartbeats 40000000 in
theorem rm4 (l : Launch) (Z : State) (a0 : Array Value) (hw : ∀ d ∈ tables_1, d.before a0 Z = true) (ws : List Jvm.Cond) (a0 : Addr) (p1 : Int32) (b : Addr) (k : ClassId) (n : Int32) (sm : Bool) (h0 : Heap) (n0 : Nat) (Z0 : n0 ≤ h0.size) (F_holdings : Fld Z h0 a0 "com/example/crossbook/crossbook/Account" "holdings" "[Lcom/example/crossbook/crossbook/Holding;" (.ref b)) (Hb : own_Hs Z h0 b k n sm) (O : Ovr Z k "com/example/crossbook/crossbook/Holding") (g_b : n0 ≤ b) (hj : ¬ p1 < 0) (hjn : p1 < n) (hne : a0 ≠ b) :
    MetFree l (⟨"com/example/crossbook/crossbook/Account", "holdingToCredit", "(I)Lcom/example/crossbook/crossbook/Holding;"⟩ : MethodName) (head1 (Jvm.Cond.code (⟨"com/example/crossbook/crossbook/Account", "holdingToCredit", "(I)Lcom/example/crossbook/crossbook/Holding;"⟩ : MethodName) prog_1_method_4_code 3 (some (.object "com/example/crossbook/crossbook/Holding")) :: ws) ROOM4) (fun a U => a = #[(.ref a0), (.int p1)] ∧ Z.Warmed39 U.vm ∧ U.heap = h0) (fun _ _ _ _ _ => True) (fun _ U o U' => ∃ v L, o = .returned v ∧ Q4 Z a0 p1 b k n sm h0 n0 v U'.heap L ∧ FrameEnd U o U' L ROOM4.cells ROOM4.slots) := by
  refine MetFree.of_bodySF (plainFor_of_name pn_4) hisR ?_
  intro p e s m args below meth c s₁ Bd hml0 hP hK
  obtain ⟨rfl, hZ, hh⟩ := hP
  have hx := Bd.exec
  have hby := Bd.bytes
  have hml : c.maxLocals = 3 := hml0
  have hown : s.vm.findClass "com/example/crossbook/crossbook/Account" = some m.cls := findClass_of_methodNamed Bd.named
  have hnm := (name_of_methodNamed Bd.named Bd.method).1
  have X0 : Stand p l e ROOM4 s m #[(.ref a0), (.int p1)] below meth c s₁ [] 0 0 := Stand.of_body Bd
  have e0 : s₁.heap = h0 := by rw [← hh, Bd.state]; rfl
  have N0 := Fr.nil n0
  refine Ends.via (A := s₁.setTop (mkF m 0 #[.val (.ref a0), .val (.int p1), .unset] [])) (kc := ROOM4.cells) (ks := ROOM4.slots) (Q := (Q4 Z a0 p1 b k n sm h0 n0)) (fun t k => castTop (ef_4 m a0 p1) k) ?_
  show Ends p e below s ROOM4.cells ROOM4.slots (Q4 Z a0 p1 b k n sm h0 n0) (s₁.setTop (mkF m 0 #[.val (.ref a0), .val (.int p1), .unset] []))
  obtain ⟨vs, Va, hlen, hT, hF⟩ := Hb
  obtain ⟨cl, Ar, qk, Sz, Ng, Hs, Gf⟩ := id Va
  refine Ends.via (fun _ k => XS.aloadN X0.here hx rfl (hb hby d4_0) rfl rfl k) ?_
  show Ends p e below s ROOM4.cells ROOM4.slots (Q4 Z a0 p1 b k n sm h0 n0) (s₁.setTop (mkF m 1 #[.val (.ref a0), .val (.int p1), .unset] [(.ref a0)]))
  obtain ⟨T21, X21, e21, st21⟩ := getF X0 hx hZ hown (host := "") (Or.inl (hw _ (List.mem_of_getElem? (i := 11) rfl))) Via.refl e0 F_holdings (g := (mkF m 1 #[.val (.ref a0), .val (.int p1), .unset] [(.ref a0)])) rfl rfl (hb hby d4_1)
  refine Ends.via st21 ?_
  show Ends p e below s ROOM4.cells ROOM4.slots (Q4 Z a0 p1 b k n sm h0 n0) (T21.setTop (mkF m 4 #[.val (.ref a0), .val (.int p1), .unset] [(.ref b)]))
  refine Ends.via (fun _ k => XS.iloadN X21.here hx rfl (hb hby d4_4) rfl k) ?_
  show Ends p e below s ROOM4.cells ROOM4.slots (Q4 Z a0 p1 b k n sm h0 n0) (T21.setTop (mkF m 5 #[.val (.ref a0), .val (.int p1), .unset] [(.int p1), (.ref b)]))
  have hin : ¬ (p1 < 0 ∨ cl.slots.size ≤ p1.toNatClampNeg) := inb_of Sz ⟨hj, hjn⟩
  have hat := Hs.at hin rfl
  rcases own_ref (Gf _ (own_lt hin)) with hv | ⟨y, hv⟩
  · rw [hv] at hat
    refine Ends.via (X21.aaload hx (j := p1) (v := .null) (by rw [e21]; exact Ar.1) (State.isArrayOf_alike hZ.alike Ar.2.1) rfl Ar.2.2 hin hat (g := (mkF m 5 #[.val (.ref a0), .val (.int p1), .unset] [(.int p1), (.ref b)])) rfl rfl (hb hby d4_5)) ?_
    show Ends p e below s ROOM4.cells ROOM4.slots (Q4 Z a0 p1 b k n sm h0 n0) (T21.setTop (mkF m 6 #[.val (.ref a0), .val (.int p1), .unset] [.null]))
    refine Ends.via (fun _ k => XS.astoreN X21.here hx rfl (hb hby d4_6) rfl rfl (l' := #[.val (.ref a0), .val (.int p1), .val .null]) rfl k) ?_
    show Ends p e below s ROOM4.cells ROOM4.slots (Q4 Z a0 p1 b k n sm h0 n0) (T21.setTop (mkF m 7 #[.val (.ref a0), .val (.int p1), .val .null] []))
    refine Ends.via (fun _ k => XS.aloadN X21.here hx rfl (hb hby d4_7) rfl rfl k) ?_
    show Ends p e below s ROOM4.cells ROOM4.slots (Q4 Z a0 p1 b k n sm h0 n0) (T21.setTop (mkF m 8 #[.val (.ref a0), .val (.int p1), .val .null] [.null]))
    refine Ends.via (fun _ k => XS.ifnonnullNo X21.here hx rfl (hb hby d4_8) rfl k) ?_
    show Ends p e below s ROOM4.cells ROOM4.slots (Q4 Z a0 p1 b k n sm h0 n0) (T21.setTop (mkF m 11 #[.val (.ref a0), .val (.int p1), .val .null] []))
    obtain ⟨T22, h22, X22, e22, E22, A22, D22, -, st22⟩ := newO X21 hx hZ hown (hw _ (List.mem_of_getElem? (i := 9) rfl)) (hw _ (List.mem_of_getElem? (i := 24) rfl)) (hw _ (List.mem_of_getElem? (i := 25) rfl)) e21 (g := (mkF m 11 #[.val (.ref a0), .val (.int p1), .val .null] [])) rfl (hb hby d4_11) (by decide) (by decide)
    obtain ⟨b22, g22⟩ : ∃ z, z = h0.size := ⟨_, rfl⟩
    rw [← g22] at A22 D22 st22
    have g_b22 : n0 ≤ b22 := Nat.le_trans Z0 (Nat.le_of_eq g22.symm)
    have sz_b22 : h0.size ≤ b22 := Nat.le_trans ((Keep.refl h0 [b])).1 (Nat.le_of_eq g22.symm)
    have ne_a0_b22 : a0 ≠ b22 := Nat.ne_of_lt (Nat.lt_of_lt_of_le F_holdings.lt (Nat.le_of_eq g22.symm))
    have ne_b_b22 : b ≠ b22 := Nat.ne_of_lt (Nat.lt_of_lt_of_le Va.lt (Nat.le_of_eq g22.symm))
    have f22_0 := F_holdings.ext E22
    have f22_1 := Va.ext E22
    have Z22 : n0 ≤ h22.size := Nat.le_trans Z0 E22.1
    have K22 := Keep.ext (Keep.refl h0 [b]) E22
    refine Ends.via st22 ?_
    show Ends p e below s ROOM4.cells ROOM4.slots (Q4 Z a0 p1 b k n sm h0 n0) (T22.setTop (mkF m 14 #[.val (.ref a0), .val (.int p1), .val .null] [(.ref b22)]))
    refine Ends.via (fun _ k => XS.dup X22.here hx rfl (hb hby d4_14) rfl rfl k) ?_
    show Ends p e below s ROOM4.cells ROOM4.slots (Q4 Z a0 p1 b k n sm h0 n0) (T22.setTop (mkF m 15 #[.val (.ref a0), .val (.int p1), .val .null] [(.ref b22), (.ref b22)]))
    obtain ⟨_, _, ⟨T23, L23, k23, n23⟩, -, X23, ⟨Lc23, hQ23, l23, y23, z23⟩, st23⟩ := X22.specialBack hx (y := (⟨"com/example/crossbook/crossbook/Holding", "<init>", "()V"⟩ : MethodName)) rfl hown (mvT hZ (hw _ (List.mem_of_getElem? (i := 26) rfl))) (mvT hZ (hw _ (List.mem_of_getElem? (i := 27) rfl))) (mvT hZ (hw _ (List.mem_of_getElem? (i := 28) rfl))) (by decide) (backOf (W := 1) (rm5 l Z _ hw [] b22   h22 n0 Z22) hZ (hw _ (List.mem_of_getElem? (i := 28) rfl)) (hw _ (List.mem_of_getElem? (i := 25) rfl)) (by decide) (by decide)) (g := (mkF m 15 #[.val (.ref a0), .val (.int p1), .val .null] [(.ref b22), (.ref b22)])) rfl (by rw [hml]; rfl) (Steps.refl _) (a := b22) (argsL := []) (rest := [(.ref b22)]) (lenOf own_pd2 rfl) rfl (by show 2 * 0 + _ ≤ _; exact Nat.le_of_eq rfl) (hb hby d4_15) (fun _ _ => ⟨rfl, e22, (by decide : 1 + 0 ≤ _), (by decide : 4 + 0 ≤ _)⟩)
    dsimp only [Pt.U, Pt.locs, Pt.cells, Pt.slots] at X23 l23 y23 z23 st23 hQ23
    subst l23 y23 z23
    obtain ⟨rfl, Nq23, e23⟩ := hQ23
    have N23 := Fr.app N0 Nq23
    refine Ends.via (fun _ k => st23.trans k) ?_
    show Ends p e below s ROOM4.cells ROOM4.slots (Q4 Z a0 p1 b k n sm h0 n0) (T23.setTop (mkF m 18 #[.val (.ref a0), .val (.int p1), .val .null] [(.ref b22)]))
    refine Ends.via (fun _ k => XS.astoreN X23.here hx rfl (hb hby d4_18) rfl rfl (l' := #[.val (.ref a0), .val (.int p1), .val (.ref b22)]) rfl k) ?_
    show Ends p e below s ROOM4.cells ROOM4.slots (Q4 Z a0 p1 b k n sm h0 n0) (T23.setTop (mkF m 19 #[.val (.ref a0), .val (.int p1), .val (.ref b22)] []))
    refine Ends.via (fun _ k => XS.aloadN X23.here hx rfl (hb hby d4_19) rfl rfl k) ?_
    show Ends p e below s ROOM4.cells ROOM4.slots (Q4 Z a0 p1 b k n sm h0 n0) (T23.setTop (mkF m 20 #[.val (.ref a0), .val (.int p1), .val (.ref b22)] [(.ref a0)]))
    obtain ⟨T25, X25, e25, st25⟩ := getF X23 hx hZ hown (host := "") (Or.inl (hw _ (List.mem_of_getElem? (i := 11) rfl))) Via.refl e23 f22_0 (g := (mkF m 20 #[.val (.ref a0), .val (.int p1), .val (.ref b22)] [(.ref a0)])) rfl rfl (hb hby d4_20)
    refine Ends.via st25 ?_
    show Ends p e below s ROOM4.cells ROOM4.slots (Q4 Z a0 p1 b k n sm h0 n0) (T25.setTop (mkF m 23 #[.val (.ref a0), .val (.int p1), .val (.ref b22)] [(.ref b)]))
    refine Ends.via (fun _ k => XS.iloadN X25.here hx rfl (hb hby d4_23) rfl k) ?_
    show Ends p e below s ROOM4.cells ROOM4.slots (Q4 Z a0 p1 b k n sm h0 n0) (T25.setTop (mkF m 24 #[.val (.ref a0), .val (.int p1), .val (.ref b22)] [(.int p1), (.ref b)]))
    refine Ends.via (fun _ k => XS.aloadN X25.here hx rfl (hb hby d4_24) rfl rfl k) ?_
    show Ends p e below s ROOM4.cells ROOM4.slots (Q4 Z a0 p1 b k n sm h0 n0) (T25.setTop (mkF m 25 #[.val (.ref a0), .val (.int p1), .val (.ref b22)] [(.ref b22), (.int p1), (.ref b)]))
    obtain ⟨cl26, Ar26, qk26, S26, Ng26, Hs26, Gf26⟩ := id f22_1
    have hin26 : ¬ (p1 < 0 ∨ cl26.slots.size ≤ p1.toNatClampNeg) := inb_of S26 ⟨hj, hjn⟩
    obtain ⟨T26, h26, X26, e26, W26, st26⟩ := stR X25 hx hZ e25 Ar26 (j := p1) hin26 rfl (Sto.ofV Ar26 qk26 O (Ins.self A22)) (g := (mkF m 25 #[.val (.ref a0), .val (.int p1), .val (.ref b22)] [(.ref b22), (.int p1), (.ref b)])) rfl rfl (hb hby d4_25)
    have V26 := Arv.set Ar26 qk26 S26 Ng26 Hs26 Gf26 (v := .ref b22) rfl W26 p1.toNatClampNeg rfl (own_il hlen hj hjn)
    have f26_0 := f22_0.other W26 (Or.inl hne)
    have f26_2 := A22.wr W26
    have Z26 : n0 ≤ h26.size := Nat.le_trans Z22 (Keep.of_wr W26).1
    have K26 := Keep.wr K22 W26 (Or.inl (List.mem_of_getElem? (i := 0) rfl))
    have N26 := Fr.snoc X26 N23 g_b
    refine Ends.via st26 ?_
    show Ends p e below s ROOM4.cells ROOM4.slots (Q4 Z a0 p1 b k n sm h0 n0) (T26.setTop (mkF m 26 #[.val (.ref a0), .val (.int p1), .val (.ref b22)] []))
    refine Ends.via (fun _ k => XS.aloadN X26.here hx rfl (hb hby d4_26) rfl rfl k) ?_
    show Ends p e below s ROOM4.cells ROOM4.slots (Q4 Z a0 p1 b k n sm h0 n0) (T26.setTop (mkF m 27 #[.val (.ref a0), .val (.int p1), .val (.ref b22)] [(.ref b22)]))
    refine Ends.ret X26 (v := some (.ref b22)) (fun h => by rw [Bd.returns] at h; cases h) Bd.notSynchronized (fun fs hr => retOut X26 hx Bd.returns rfl (Or.inr (Or.inr (Or.inr (Or.inr ⟨rfl, rfl, rfl⟩)))) (hb hby d4_27) hr) ?_ (by decide) (by decide)
    rw [e26]
    exact ⟨⟨_, rfl⟩, N26, K26, own_put V26 hlen hj hjn⟩
  · rw [hv] at hat
    refine Ends.via (X21.aaload hx (j := p1) (v := (.ref y)) (by rw [e21]; exact Ar.1) (State.isArrayOf_alike hZ.alike Ar.2.1) rfl Ar.2.2 hin hat (g := (mkF m 5 #[.val (.ref a0), .val (.int p1), .unset] [(.int p1), (.ref b)])) rfl rfl (hb hby d4_5)) ?_
    show Ends p e below s ROOM4.cells ROOM4.slots (Q4 Z a0 p1 b k n sm h0 n0) (T21.setTop (mkF m 6 #[.val (.ref a0), .val (.int p1), .unset] [(.ref y)]))
    refine Ends.via (fun _ k => XS.astoreN X21.here hx rfl (hb hby d4_6) rfl rfl (l' := #[.val (.ref a0), .val (.int p1), .val (.ref y)]) rfl k) ?_
    show Ends p e below s ROOM4.cells ROOM4.slots (Q4 Z a0 p1 b k n sm h0 n0) (T21.setTop (mkF m 7 #[.val (.ref a0), .val (.int p1), .val (.ref y)] []))
    refine Ends.via (fun _ k => XS.aloadN X21.here hx rfl (hb hby d4_7) rfl rfl k) ?_
    show Ends p e below s ROOM4.cells ROOM4.slots (Q4 Z a0 p1 b k n sm h0 n0) (T21.setTop (mkF m 8 #[.val (.ref a0), .val (.int p1), .val (.ref y)] [(.ref y)]))
    refine Ends.via (fun _ k => XS.ifnonnullYes X21.here hx rfl (pc0 := 8) (pc' := 26) rfl (hb hby d4_8) rfl (by decide) (by decide) k) ?_
    show Ends p e below s ROOM4.cells ROOM4.slots (Q4 Z a0 p1 b k n sm h0 n0) (T21.setTop (mkF m 26 #[.val (.ref a0), .val (.int p1), .val (.ref y)] []))
    refine Ends.via (fun _ k => XS.aloadN X21.here hx rfl (hb hby d4_26) rfl rfl k) ?_
    show Ends p e below s ROOM4.cells ROOM4.slots (Q4 Z a0 p1 b k n sm h0 n0) (T21.setTop (mkF m 27 #[.val (.ref a0), .val (.int p1), .val (.ref y)] [(.ref y)]))
    refine Ends.ret X21 (v := some (.ref y)) (fun h => by rw [Bd.returns] at h; cases h) Bd.notSynchronized (fun fs hr => retOut X21 hx Bd.returns rfl (Or.inr (Or.inr (Or.inr (Or.inr ⟨rfl, rfl, rfl⟩)))) (hb hby d4_27) hr) ?_ (by decide) (by decide)
    rw [e21]
    exact ⟨⟨_, rfl⟩, N0, (Keep.refl h0 [b]), own_true Va hlen hj hjn hv⟩
theorem pn_0 : plainName "com/example/crossbook/crossbook/AccountHoldsAnyPinLaw" = true := by first | (simp [plainName, overriddenIn]; done) | decide +kernel
theorem ef_0 (m : MethodId) (p0 : Int32) (p1 : Int32) (p2 : Int32) (p3 : Int32) (p4 : Int32) : entryFrame m #[(.int p0), (.int p1), (.int p2), (.int p3), (.int p4)] maxLocals = mkF m 0 #[.val (.int p0), .val (.int p1), .val (.int p2), .val (.int p3), .val (.int p4), .unset, .unset, .unset, .unset, .unset] [] := by first | (simp [entryFrame, mkF, argsToLocals, Value.category, maxLocals]; done) | rfl
def Q0 (Z : State) (p0 : Int32) (p1 : Int32) (p2 : Int32) (p3 : Int32) (p4 : Int32)  (h0 : Heap) (n0 : Nat) (v : Option Value) (h : Heap) (L : List Loc) : Prop := v = some (.int 1) ∧ Fr n0 L
set_option maxRecDepth 65536 in
set_option maxHeartbeats 40000000 in
theorem rm0 (l : Launch) (Z : State) (a0 : Array Value) (hw : ∀ d ∈ tables_1, d.before a0 Z = true) (ws : List Jvm.Cond) (p0 : Int32) (p1 : Int32) (p2 : Int32) (p3 : Int32) (p4 : Int32)  (h0 : Heap) (n0 : Nat) (Z0 : n0 ≤ h0.size)  :
    MetFree l x (head1 (Jvm.Cond.code x code maxLocals ret :: ws) room_1) (fun a U => a = #[(.int p0), (.int p1), (.int p2), (.int p3), (.int p4)] ∧ Z.Warmed39 U.vm ∧ U.heap = h0) (fun _ _ _ _ _ => True) (fun _ U o U' => ∃ v L, o = .returned v ∧ Q0 Z p0 p1 p2 p3 p4  h0 n0 v U'.heap L ∧ FrameEnd U o U' L 24 128) := by
  refine MetFree.of_bodySF (plainFor_of_name pn_0) hisR ?_
  intro p e s m args below meth c s₁ Bd hml0 hP hK
  obtain ⟨rfl, hZ, hh⟩ := hP
  have hx := Bd.exec
  have hby := Bd.bytes
  have hml : c.maxLocals = 10 := hml0
  have hown : s.vm.findClass "com/example/crossbook/crossbook/AccountHoldsAnyPinLaw" = some m.cls := findClass_of_methodNamed Bd.named
  have hnm := (name_of_methodNamed Bd.named Bd.method).1
  have X0 : Stand p l e room_1 s m #[(.int p0), (.int p1), (.int p2), (.int p3), (.int p4)] below meth c s₁ [] 0 0 := Stand.of_body Bd
  have e0 : s₁.heap = h0 := by rw [← hh, Bd.state]; rfl
  have N0 := Fr.nil n0
  refine Ends.via (A := s₁.setTop (mkF m 0 #[.val (.int p0), .val (.int p1), .val (.int p2), .val (.int p3), .val (.int p4), .unset, .unset, .unset, .unset, .unset] [])) (kc := 24) (ks := 128) (Q := (Q0 Z p0 p1 p2 p3 p4  h0 n0)) (fun t k => castTop (ef_0 m p0 p1 p2 p3 p4) k) ?_
  show Ends p e below s 24 128 (Q0 Z p0 p1 p2 p3 p4  h0 n0) (s₁.setTop (mkF m 0 #[.val (.int p0), .val (.int p1), .val (.int p2), .val (.int p3), .val (.int p4), .unset, .unset, .unset, .unset, .unset] []))
  refine Ends.via (fun _ k => XS.iloadN X0.here hx rfl (hb hby at_0) rfl k) ?_
  show Ends p e below s 24 128 (Q0 Z p0 p1 p2 p3 p4  h0 n0) (s₁.setTop (mkF m 1 #[.val (.int p0), .val (.int p1), .val (.int p2), .val (.int p3), .val (.int p4), .unset, .unset, .unset, .unset, .unset] [(.int p0)]))
  refine Ends.via (fun _ k => XS.bipush X0.here hx rfl (hb hby at_1) k) ?_
  show Ends p e below s 24 128 (Q0 Z p0 p1 p2 p3 p4  h0 n0) (s₁.setTop (mkF m 3 #[.val (.int p0), .val (.int p1), .val (.int p2), .val (.int p3), .val (.int p4), .unset, .unset, .unset, .unset, .unset] [(.int (7 : Int32)), (.int p0)]))
  refine Ends.via (fun _ k => XS.iand X0.here hx rfl (hb hby at_3) rfl k) ?_
  show Ends p e below s 24 128 (Q0 Z p0 p1 p2 p3 p4  h0 n0) (s₁.setTop (mkF m 4 #[.val (.int p0), .val (.int p1), .val (.int p2), .val (.int p3), .val (.int p4), .unset, .unset, .unset, .unset, .unset] [(.int (p0 &&& (7 : Int32)))]))
  refine Ends.via (fun _ k => XS.istore X0.here hx rfl (hb hby at_4) rfl (l' := #[.val (.int p0), .val (.int p1), .val (.int p2), .val (.int p3), .val (.int p4), .val (.int (p0 &&& (7 : Int32))), .unset, .unset, .unset, .unset]) rfl k) ?_
  show Ends p e below s 24 128 (Q0 Z p0 p1 p2 p3 p4  h0 n0) (s₁.setTop (mkF m 6 #[.val (.int p0), .val (.int p1), .val (.int p2), .val (.int p3), .val (.int p4), .val (.int (p0 &&& (7 : Int32))), .unset, .unset, .unset, .unset] []))
  generalize hv1 : (p0 &&& (7 : Int32)) = v1
  obtain ⟨T2, h2, X2, e2, E2, A2, D2, -, st2⟩ := newO X0 hx hZ hown (hw _ (List.mem_of_getElem? (i := 0) rfl)) (hw _ (List.mem_of_getElem? (i := 1) rfl)) (hw _ (List.mem_of_getElem? (i := 2) rfl)) e0 (g := (mkF m 6 #[.val (.int p0), .val (.int p1), .val (.int p2), .val (.int p3), .val (.int p4), .val (.int v1), .unset, .unset, .unset, .unset] [])) rfl (hb hby at_6) (by decide) (by decide)
  obtain ⟨b2, g2⟩ : ∃ z, z = h0.size := ⟨_, rfl⟩
  rw [← g2] at A2 D2 st2
  have g_b2 : n0 ≤ b2 := Nat.le_trans Z0 (Nat.le_of_eq g2.symm)
  have Z2 : n0 ≤ h2.size := Nat.le_trans Z0 E2.1
  have F2_holdings : Fld Z h2 b2 "com/example/crossbook/crossbook/Account" "holdings" "[Lcom/example/crossbook/crossbook/Holding;" .null := D2 (Or.inr (hw _ (List.mem_of_getElem? (i := 12) rfl))) (ty := (.array (.object "com/example/crossbook/crossbook/Holding"))) (by decide)
  refine Ends.via st2 ?_
  show Ends p e below s 24 128 (Q0 Z p0 p1 p2 p3 p4  h0 n0) (T2.setTop (mkF m 9 #[.val (.int p0), .val (.int p1), .val (.int p2), .val (.int p3), .val (.int p4), .val (.int v1), .unset, .unset, .unset, .unset] [(.ref b2)]))
  refine Ends.via (fun _ k => XS.dup X2.here hx rfl (hb hby at_9) rfl rfl k) ?_
  show Ends p e below s 24 128 (Q0 Z p0 p1 p2 p3 p4  h0 n0) (T2.setTop (mkF m 10 #[.val (.int p0), .val (.int p1), .val (.int p2), .val (.int p3), .val (.int p4), .val (.int v1), .unset, .unset, .unset, .unset] [(.ref b2), (.ref b2)]))
  refine Ends.via (fun _ k => XS.iload X2.here hx rfl (hb hby at_10) rfl k) ?_
  show Ends p e below s 24 128 (Q0 Z p0 p1 p2 p3 p4  h0 n0) (T2.setTop (mkF m 12 #[.val (.int p0), .val (.int p1), .val (.int p2), .val (.int p3), .val (.int p4), .val (.int v1), .unset, .unset, .unset, .unset] [(.int v1), (.ref b2), (.ref b2)]))
  obtain ⟨_, _, ⟨T3, L3, k3, n3⟩, -, X3, ⟨Lc3, hQ3, l3, y3, z3⟩, st3⟩ := X2.specialBack hx (y := (⟨"com/example/crossbook/crossbook/Account", "<init>", "(I)V"⟩ : MethodName)) rfl hown (mvT hZ (hw _ (List.mem_of_getElem? (i := 3) rfl))) (mvT hZ (hw _ (List.mem_of_getElem? (i := 4) rfl))) (mvT hZ (hw _ (List.mem_of_getElem? (i := 5) rfl))) (by decide) (backOf (W := 1) (rm1 l Z _ hw [] b2 v1 .null h2 n0 Z2 g_b2 A2 F2_holdings (own_n7 p0 v1 hv1).1 (own_n7 p0 v1 hv1).2) hZ (hw _ (List.mem_of_getElem? (i := 5) rfl)) (hw _ (List.mem_of_getElem? (i := 2) rfl)) (by decide) (by decide)) (g := (mkF m 12 #[.val (.int p0), .val (.int p1), .val (.int p2), .val (.int p3), .val (.int p4), .val (.int v1), .unset, .unset, .unset, .unset] [(.int v1), (.ref b2), (.ref b2)])) rfl (by rw [hml]; rfl) (Steps.refl _) (a := b2) (argsL := [(.int v1)]) (rest := [(.ref b2)]) (lenOf own_pd0 rfl) rfl (by show 2 * 0 + _ ≤ _; exact Nat.le_of_eq rfl) (hb hby at_12) (fun _ _ => ⟨rfl, e2, (by decide : 1 + 1 ≤ _), (by decide : 1 + 7 ≤ _)⟩)
  dsimp only [Pt.U, Pt.locs, Pt.cells, Pt.slots] at X3 l3 y3 z3 st3 hQ3
  subst l3 y3 z3
  obtain ⟨rfl, Nq3, Kq3, Eq3, bq3, kq3, gb3, sz3, Fq3, Hq3, Oq3⟩ := hQ3
  have N3 := Fr.app N0 Nq3
  have neq : b2 ≠ bq3 := Nat.ne_of_lt (Nat.lt_of_lt_of_le A2.lt sz3)
  have Z3 : n0 ≤ T3.heap.size := Nat.le_trans Z2 Kq3.1
  refine Ends.via (fun _ k => st3.trans k) ?_
  show Ends p e below s 24 128 (Q0 Z p0 p1 p2 p3 p4  h0 n0) (T3.setTop (mkF m 15 #[.val (.int p0), .val (.int p1), .val (.int p2), .val (.int p3), .val (.int p4), .val (.int v1), .unset, .unset, .unset, .unset] [(.ref b2)]))
  refine Ends.via (fun _ k => XS.astore X3.here hx rfl (hb hby at_15) rfl rfl (l' := #[.val (.int p0), .val (.int p1), .val (.int p2), .val (.int p3), .val (.int p4), .val (.int v1), .val (.ref b2), .unset, .unset, .unset]) rfl k) ?_
  show Ends p e below s 24 128 (Q0 Z p0 p1 p2 p3 p4  h0 n0) (T3.setTop (mkF m 17 #[.val (.int p0), .val (.int p1), .val (.int p2), .val (.int p3), .val (.int p4), .val (.int v1), .val (.ref b2), .unset, .unset, .unset] []))
  refine Ends.via (fun _ k => XS.aload X3.here hx rfl (hb hby at_17) rfl rfl k) ?_
  show Ends p e below s 24 128 (Q0 Z p0 p1 p2 p3 p4  h0 n0) (T3.setTop (mkF m 19 #[.val (.int p0), .val (.int p1), .val (.int p2), .val (.int p3), .val (.int p4), .val (.int v1), .val (.ref b2), .unset, .unset, .unset] [(.ref b2)]))
  obtain ⟨cq7, kq7, qa7, qb7, qc7⟩ := isOf hZ rfl Eq3
  obtain ⟨_, _, ⟨T7, L7, k7, n7⟩, -, X7, ⟨Lc7, hQ7, l7, y7, z7⟩, st7⟩ := X3.virtualBack hx (y := (⟨"com/example/crossbook/crossbook/Account", "holdsAny", "()Z"⟩ : MethodName)) (z := (⟨"com/example/crossbook/crossbook/Account", "holdsAny", "()Z"⟩ : MethodName)) hown (mvT hZ (hw _ (List.mem_of_getElem? (i := 13) rfl))) (mvT hZ (hw _ (List.mem_of_getElem? (i := 14) rfl))) (notFace_of_selects (args := #[]) (mvT hZ (hw _ (List.mem_of_getElem? (i := 16) rfl)))) (mvT hZ (hw _ (List.mem_of_getElem? (i := 16) rfl))) (mvT hZ (hw _ (List.mem_of_getElem? (i := 15) rfl))) (by decide) (backOf (W := 0) (rm3 l Z _ hw [] b2  bq3 kq3 v1 false T3.heap n0 Z3 Fq3 Hq3) hZ (hw _ (List.mem_of_getElem? (i := 17) rfl)) (hw _ (List.mem_of_getElem? (i := 2) rfl)) (by decide) (by decide)) qa7 qc7 (g := (mkF m 19 #[.val (.int p0), .val (.int p1), .val (.int p2), .val (.int p3), .val (.int p4), .val (.int v1), .val (.ref b2), .unset, .unset, .unset] [(.ref b2)])) rfl (by rw [hml]; rfl) (Steps.refl _) (argsL := []) (rest := []) (lenOf own_pd1 rfl) rfl (by show 2 * 0 + _ ≤ _; exact Nat.le_of_eq rfl) (hb hby at_19) (fun _ _ => ⟨rfl, rfl, (by decide : 2 + 0 ≤ _), (by decide : 8 + 0 ≤ _)⟩)
  dsimp only [Pt.U, Pt.locs, Pt.cells, Pt.slots] at X7 l7 y7 z7 st7 hQ7
  subst l7 y7 z7
  obtain ⟨rfl, Nq7, e7⟩ := hQ7
  have N7 := Fr.app N3 Nq7
  refine Ends.via (fun _ k => st7.trans k) ?_
  show Ends p e below s 24 128 (Q0 Z p0 p1 p2 p3 p4  h0 n0) (T7.setTop (mkF m 22 #[.val (.int p0), .val (.int p1), .val (.int p2), .val (.int p3), .val (.int p4), .val (.int v1), .val (.ref b2), .unset, .unset, .unset] [(.int (0 : Int32))]))
  have hf12 : (0 : Int32) = (0 : Int32) := by decide
  refine Ends.via (fun _ k => XS.ifNo X7.here hx rfl (hb hby at_22) rfl ((if0 _ _).trans (teq hf12).2) k) ?_
  show Ends p e below s 24 128 (Q0 Z p0 p1 p2 p3 p4  h0 n0) (T7.setTop (mkF m 25 #[.val (.int p0), .val (.int p1), .val (.int p2), .val (.int p3), .val (.int p4), .val (.int v1), .val (.ref b2), .unset, .unset, .unset] []))
  refine Ends.via (fun _ k => XS.iconst X7.here hx rfl (hb hby at_25) k) ?_
  show Ends p e below s 24 128 (Q0 Z p0 p1 p2 p3 p4  h0 n0) (T7.setTop (mkF m 26 #[.val (.int p0), .val (.int p1), .val (.int p2), .val (.int p3), .val (.int p4), .val (.int v1), .val (.ref b2), .unset, .unset, .unset] [(.int (1 : Int32))]))
  refine Ends.via (fun _ k => XS.goto X7.here hx rfl (pc0 := 26) (pc' := 30) rfl (hb hby at_26) (by decide) (by decide) k) ?_
  show Ends p e below s 24 128 (Q0 Z p0 p1 p2 p3 p4  h0 n0) (T7.setTop (mkF m 30 #[.val (.int p0), .val (.int p1), .val (.int p2), .val (.int p3), .val (.int p4), .val (.int v1), .val (.ref b2), .unset, .unset, .unset] [(.int (1 : Int32))]))
  refine Ends.via (fun _ k => XS.istore X7.here hx rfl (hb hby at_30) rfl (l' := #[.val (.int p0), .val (.int p1), .val (.int p2), .val (.int p3), .val (.int p4), .val (.int v1), .val (.ref b2), .val (.int (1 : Int32)), .unset, .unset]) rfl k) ?_
  show Ends p e below s 24 128 (Q0 Z p0 p1 p2 p3 p4  h0 n0) (T7.setTop (mkF m 32 #[.val (.int p0), .val (.int p1), .val (.int p2), .val (.int p3), .val (.int p4), .val (.int v1), .val (.ref b2), .val (.int (1 : Int32)), .unset, .unset] []))
  refine Ends.via (fun _ k => XS.iconst X7.here hx rfl (hb hby at_32) k) ?_
  show Ends p e below s 24 128 (Q0 Z p0 p1 p2 p3 p4  h0 n0) (T7.setTop (mkF m 33 #[.val (.int p0), .val (.int p1), .val (.int p2), .val (.int p3), .val (.int p4), .val (.int v1), .val (.ref b2), .val (.int (1 : Int32)), .unset, .unset] [(.int (0 : Int32))]))
  refine Ends.via (fun _ k => XS.istore X7.here hx rfl (hb hby at_33) rfl (l' := #[.val (.int p0), .val (.int p1), .val (.int p2), .val (.int p3), .val (.int p4), .val (.int v1), .val (.ref b2), .val (.int (1 : Int32)), .val (.int (0 : Int32)), .unset]) rfl k) ?_
  show Ends p e below s 24 128 (Q0 Z p0 p1 p2 p3 p4  h0 n0) (T7.setTop (mkF m 35 #[.val (.int p0), .val (.int p1), .val (.int p2), .val (.int p3), .val (.int p4), .val (.int v1), .val (.ref b2), .val (.int (1 : Int32)), .val (.int (0 : Int32)), .unset] []))
  refine Ends.via (fun _ k => XS.iload X7.here hx rfl (hb hby at_35) rfl k) ?_
  show Ends p e below s 24 128 (Q0 Z p0 p1 p2 p3 p4  h0 n0) (T7.setTop (mkF m 37 #[.val (.int p0), .val (.int p1), .val (.int p2), .val (.int p3), .val (.int p4), .val (.int v1), .val (.ref b2), .val (.int (1 : Int32)), .val (.int (0 : Int32)), .unset] [(.int v1)]))
  by_cases hc13 : (0 : Int32) < v1
  · refine Ends.via (fun _ k => XS.ifNo X7.here hx rfl (hb hby at_37) rfl ((if0 _ _).trans (tlt hc13).2.2.2) k) ?_
    show Ends p e below s 24 128 (Q0 Z p0 p1 p2 p3 p4  h0 n0) (T7.setTop (mkF m 40 #[.val (.int p0), .val (.int p1), .val (.int p2), .val (.int p3), .val (.int p4), .val (.int v1), .val (.ref b2), .val (.int (1 : Int32)), .val (.int (0 : Int32)), .unset] []))
    refine Ends.via (fun _ k => XS.iloadN X7.here hx rfl (hb hby at_40) rfl k) ?_
    show Ends p e below s 24 128 (Q0 Z p0 p1 p2 p3 p4  h0 n0) (T7.setTop (mkF m 41 #[.val (.int p0), .val (.int p1), .val (.int p2), .val (.int p3), .val (.int p4), .val (.int v1), .val (.ref b2), .val (.int (1 : Int32)), .val (.int (0 : Int32)), .unset] [(.int p1)]))
    refine Ends.via (fun _ k => XS.iconst X7.here hx rfl (hb hby at_41) k) ?_
    show Ends p e below s 24 128 (Q0 Z p0 p1 p2 p3 p4  h0 n0) (T7.setTop (mkF m 42 #[.val (.int p0), .val (.int p1), .val (.int p2), .val (.int p3), .val (.int p4), .val (.int v1), .val (.ref b2), .val (.int (1 : Int32)), .val (.int (0 : Int32)), .unset] [(.int (1 : Int32)), (.int p1)]))
    refine Ends.via (fun _ k => XS.iand X7.here hx rfl (hb hby at_42) rfl k) ?_
    show Ends p e below s 24 128 (Q0 Z p0 p1 p2 p3 p4  h0 n0) (T7.setTop (mkF m 43 #[.val (.int p0), .val (.int p1), .val (.int p2), .val (.int p3), .val (.int p4), .val (.int v1), .val (.ref b2), .val (.int (1 : Int32)), .val (.int (0 : Int32)), .unset] [(.int (p1 &&& (1 : Int32)))]))
    by_cases hc14 : (p1 &&& (1 : Int32)) = (0 : Int32)
    · refine Ends.via (fun _ k => XS.ifYes X7.here hx rfl (pc0 := 43) (pc' := 62) rfl (hb hby at_43) rfl ((if0 _ _).trans (teq hc14).1) (by decide) (by decide) k) ?_
      show Ends p e below s 24 128 (Q0 Z p0 p1 p2 p3 p4  h0 n0) (T7.setTop (mkF m 62 #[.val (.int p0), .val (.int p1), .val (.int p2), .val (.int p3), .val (.int p4), .val (.int v1), .val (.ref b2), .val (.int (1 : Int32)), .val (.int (0 : Int32)), .unset] []))
      refine Ends.via (fun _ k => XS.iloadN X7.here hx rfl (hb hby at_62) rfl k) ?_
      show Ends p e below s 24 128 (Q0 Z p0 p1 p2 p3 p4  h0 n0) (T7.setTop (mkF m 63 #[.val (.int p0), .val (.int p1), .val (.int p2), .val (.int p3), .val (.int p4), .val (.int v1), .val (.ref b2), .val (.int (1 : Int32)), .val (.int (0 : Int32)), .unset] [(.int p1)]))
      refine Ends.via (fun _ k => XS.iconst X7.here hx rfl (hb hby at_63) k) ?_
      show Ends p e below s 24 128 (Q0 Z p0 p1 p2 p3 p4  h0 n0) (T7.setTop (mkF m 64 #[.val (.int p0), .val (.int p1), .val (.int p2), .val (.int p3), .val (.int p4), .val (.int v1), .val (.ref b2), .val (.int (1 : Int32)), .val (.int (0 : Int32)), .unset] [(.int (2 : Int32)), (.int p1)]))
      refine Ends.via (fun _ k => XS.iand X7.here hx rfl (hb hby at_64) rfl k) ?_
      show Ends p e below s 24 128 (Q0 Z p0 p1 p2 p3 p4  h0 n0) (T7.setTop (mkF m 65 #[.val (.int p0), .val (.int p1), .val (.int p2), .val (.int p3), .val (.int p4), .val (.int v1), .val (.ref b2), .val (.int (1 : Int32)), .val (.int (0 : Int32)), .unset] [(.int (p1 &&& (2 : Int32)))]))
      by_cases hc15 : (p1 &&& (2 : Int32)) = (0 : Int32)
      · refine Ends.via (fun _ k => XS.ifYes X7.here hx rfl (pc0 := 65) (pc' := 84) rfl (hb hby at_65) rfl ((if0 _ _).trans (teq hc15).1) (by decide) (by decide) k) ?_
        show Ends p e below s 24 128 (Q0 Z p0 p1 p2 p3 p4  h0 n0) (T7.setTop (mkF m 84 #[.val (.int p0), .val (.int p1), .val (.int p2), .val (.int p3), .val (.int p4), .val (.int v1), .val (.ref b2), .val (.int (1 : Int32)), .val (.int (0 : Int32)), .unset] []))
        refine Ends.via (fun _ k => XS.iloadN X7.here hx rfl (hb hby at_84) rfl k) ?_
        show Ends p e below s 24 128 (Q0 Z p0 p1 p2 p3 p4  h0 n0) (T7.setTop (mkF m 85 #[.val (.int p0), .val (.int p1), .val (.int p2), .val (.int p3), .val (.int p4), .val (.int v1), .val (.ref b2), .val (.int (1 : Int32)), .val (.int (0 : Int32)), .unset] [(.int p1)]))
        refine Ends.via (fun _ k => XS.iconst X7.here hx rfl (hb hby at_85) k) ?_
        show Ends p e below s 24 128 (Q0 Z p0 p1 p2 p3 p4  h0 n0) (T7.setTop (mkF m 86 #[.val (.int p0), .val (.int p1), .val (.int p2), .val (.int p3), .val (.int p4), .val (.int v1), .val (.ref b2), .val (.int (1 : Int32)), .val (.int (0 : Int32)), .unset] [(.int (4 : Int32)), (.int p1)]))
        refine Ends.via (fun _ k => XS.iand X7.here hx rfl (hb hby at_86) rfl k) ?_
        show Ends p e below s 24 128 (Q0 Z p0 p1 p2 p3 p4  h0 n0) (T7.setTop (mkF m 87 #[.val (.int p0), .val (.int p1), .val (.int p2), .val (.int p3), .val (.int p4), .val (.int v1), .val (.ref b2), .val (.int (1 : Int32)), .val (.int (0 : Int32)), .unset] [(.int (p1 &&& (4 : Int32)))]))
        by_cases hc16 : (p1 &&& (4 : Int32)) = (0 : Int32)
        · refine Ends.via (fun _ k => XS.ifYes X7.here hx rfl (pc0 := 87) (pc' := 107) rfl (hb hby at_87) rfl ((if0 _ _).trans (teq hc16).1) (by decide) (by decide) k) ?_
          show Ends p e below s 24 128 (Q0 Z p0 p1 p2 p3 p4  h0 n0) (T7.setTop (mkF m 107 #[.val (.int p0), .val (.int p1), .val (.int p2), .val (.int p3), .val (.int p4), .val (.int v1), .val (.ref b2), .val (.int (1 : Int32)), .val (.int (0 : Int32)), .unset] []))
          refine Ends.via (fun _ k => XS.aload X7.here hx rfl (hb hby at_107) rfl rfl k) ?_
          show Ends p e below s 24 128 (Q0 Z p0 p1 p2 p3 p4  h0 n0) (T7.setTop (mkF m 109 #[.val (.int p0), .val (.int p1), .val (.int p2), .val (.int p3), .val (.int p4), .val (.int v1), .val (.ref b2), .val (.int (1 : Int32)), .val (.int (0 : Int32)), .unset] [(.ref b2)]))
          obtain ⟨cq17, kq17, qa17, qb17, qc17⟩ := isOf hZ e7 Eq3
          obtain ⟨_, _, ⟨T17, L17, k17, n17⟩, -, X17, ⟨Lc17, hQ17, l17, y17, z17⟩, st17⟩ := X7.virtualBack hx (y := (⟨"com/example/crossbook/crossbook/Account", "holdsAny", "()Z"⟩ : MethodName)) (z := (⟨"com/example/crossbook/crossbook/Account", "holdsAny", "()Z"⟩ : MethodName)) hown (mvT hZ (hw _ (List.mem_of_getElem? (i := 13) rfl))) (mvT hZ (hw _ (List.mem_of_getElem? (i := 14) rfl))) (notFace_of_selects (args := #[]) (mvT hZ (hw _ (List.mem_of_getElem? (i := 16) rfl)))) (mvT hZ (hw _ (List.mem_of_getElem? (i := 16) rfl))) (mvT hZ (hw _ (List.mem_of_getElem? (i := 15) rfl))) (by decide) (backOf (W := 0) (rm3 l Z _ hw [] b2  bq3 kq3 v1 false T3.heap n0 Z3 Fq3 Hq3) hZ (hw _ (List.mem_of_getElem? (i := 17) rfl)) (hw _ (List.mem_of_getElem? (i := 2) rfl)) (by decide) (by decide)) qa17 qc17 (g := (mkF m 109 #[.val (.int p0), .val (.int p1), .val (.int p2), .val (.int p3), .val (.int p4), .val (.int v1), .val (.ref b2), .val (.int (1 : Int32)), .val (.int (0 : Int32)), .unset] [(.ref b2)])) rfl (by rw [hml]; rfl) (Steps.refl _) (argsL := []) (rest := []) (lenOf own_pd1 rfl) rfl (by show 2 * 0 + _ ≤ _; exact Nat.le_of_eq rfl) (hb hby at_109) (fun _ _ => ⟨rfl, e7, (by decide : 2 + 0 ≤ _), (by decide : 8 + 0 ≤ _)⟩)
          dsimp only [Pt.U, Pt.locs, Pt.cells, Pt.slots] at X17 l17 y17 z17 st17 hQ17
          subst l17 y17 z17
          obtain ⟨rfl, Nq17, e17⟩ := hQ17
          have N17 := Fr.app N7 Nq17
          refine Ends.via (fun _ k => st17.trans k) ?_
          show Ends p e below s 24 128 (Q0 Z p0 p1 p2 p3 p4  h0 n0) (T17.setTop (mkF m 112 #[.val (.int p0), .val (.int p1), .val (.int p2), .val (.int p3), .val (.int p4), .val (.int v1), .val (.ref b2), .val (.int (1 : Int32)), .val (.int (0 : Int32)), .unset] [(.int (0 : Int32))]))
          refine Ends.via (fun _ k => XS.istore X17.here hx rfl (hb hby at_112) rfl (l' := #[.val (.int p0), .val (.int p1), .val (.int p2), .val (.int p3), .val (.int p4), .val (.int v1), .val (.ref b2), .val (.int (1 : Int32)), .val (.int (0 : Int32)), .val (.int (0 : Int32))]) rfl k) ?_
          show Ends p e below s 24 128 (Q0 Z p0 p1 p2 p3 p4  h0 n0) (T17.setTop (mkF m 114 #[.val (.int p0), .val (.int p1), .val (.int p2), .val (.int p3), .val (.int p4), .val (.int v1), .val (.ref b2), .val (.int (1 : Int32)), .val (.int (0 : Int32)), .val (.int (0 : Int32))] []))
          refine Ends.via (fun _ k => XS.iload X17.here hx rfl (hb hby at_114) rfl k) ?_
          show Ends p e below s 24 128 (Q0 Z p0 p1 p2 p3 p4  h0 n0) (T17.setTop (mkF m 116 #[.val (.int p0), .val (.int p1), .val (.int p2), .val (.int p3), .val (.int p4), .val (.int v1), .val (.ref b2), .val (.int (1 : Int32)), .val (.int (0 : Int32)), .val (.int (0 : Int32))] [(.int (1 : Int32))]))
          have hf18 : ¬ ((1 : Int32) = (0 : Int32)) := by decide
          refine Ends.via (fun _ k => XS.ifNo X17.here hx rfl (hb hby at_116) rfl ((if0 _ _).trans (feq hf18).1) k) ?_
          show Ends p e below s 24 128 (Q0 Z p0 p1 p2 p3 p4  h0 n0) (T17.setTop (mkF m 119 #[.val (.int p0), .val (.int p1), .val (.int p2), .val (.int p3), .val (.int p4), .val (.int v1), .val (.ref b2), .val (.int (1 : Int32)), .val (.int (0 : Int32)), .val (.int (0 : Int32))] []))
          refine Ends.via (fun _ k => XS.iload X17.here hx rfl (hb hby at_119) rfl k) ?_
          show Ends p e below s 24 128 (Q0 Z p0 p1 p2 p3 p4  h0 n0) (T17.setTop (mkF m 121 #[.val (.int p0), .val (.int p1), .val (.int p2), .val (.int p3), .val (.int p4), .val (.int v1), .val (.ref b2), .val (.int (1 : Int32)), .val (.int (0 : Int32)), .val (.int (0 : Int32))] [(.int (0 : Int32))]))
          refine Ends.via (fun _ k => XS.iload X17.here hx rfl (hb hby at_121) rfl k) ?_
          show Ends p e below s 24 128 (Q0 Z p0 p1 p2 p3 p4  h0 n0) (T17.setTop (mkF m 123 #[.val (.int p0), .val (.int p1), .val (.int p2), .val (.int p3), .val (.int p4), .val (.int v1), .val (.ref b2), .val (.int (1 : Int32)), .val (.int (0 : Int32)), .val (.int (0 : Int32))] [(.int (0 : Int32)), (.int (0 : Int32))]))
          have hf19 : (0 : Int32) = (0 : Int32) := by decide
          refine Ends.via (fun _ k => XS.icmpNo X17.here hx rfl (hb hby at_123) rfl (teq hf19).2 k) ?_
          show Ends p e below s 24 128 (Q0 Z p0 p1 p2 p3 p4  h0 n0) (T17.setTop (mkF m 126 #[.val (.int p0), .val (.int p1), .val (.int p2), .val (.int p3), .val (.int p4), .val (.int v1), .val (.ref b2), .val (.int (1 : Int32)), .val (.int (0 : Int32)), .val (.int (0 : Int32))] []))
          refine Ends.via (fun _ k => XS.iconst X17.here hx rfl (hb hby at_126) k) ?_
          show Ends p e below s 24 128 (Q0 Z p0 p1 p2 p3 p4  h0 n0) (T17.setTop (mkF m 127 #[.val (.int p0), .val (.int p1), .val (.int p2), .val (.int p3), .val (.int p4), .val (.int v1), .val (.ref b2), .val (.int (1 : Int32)), .val (.int (0 : Int32)), .val (.int (0 : Int32))] [(.int (1 : Int32))]))
          refine Ends.via (fun _ k => XS.goto X17.here hx rfl (pc0 := 127) (pc' := 131) rfl (hb hby at_127) (by decide) (by decide) k) ?_
          show Ends p e below s 24 128 (Q0 Z p0 p1 p2 p3 p4  h0 n0) (T17.setTop (mkF m 131 #[.val (.int p0), .val (.int p1), .val (.int p2), .val (.int p3), .val (.int p4), .val (.int v1), .val (.ref b2), .val (.int (1 : Int32)), .val (.int (0 : Int32)), .val (.int (0 : Int32))] [(.int (1 : Int32))]))
          refine Ends.ret X17 (v := some (.int (nar .boolean (1 : Int32)))) (fun h => by rw [Bd.returns] at h; cases h) Bd.notSynchronized (fun fs hr => retN X17 hx (t := .boolean) Bd.returns (by simp) (hb hby at_131) hr) ?_ (by decide) (by decide)
          exact ⟨rfl, N17⟩
        · refine Ends.via (fun _ k => XS.ifNo X7.here hx rfl (hb hby at_87) rfl ((if0 _ _).trans (feq hc16).1) k) ?_
          show Ends p e below s 24 128 (Q0 Z p0 p1 p2 p3 p4  h0 n0) (T7.setTop (mkF m 90 #[.val (.int p0), .val (.int p1), .val (.int p2), .val (.int p3), .val (.int p4), .val (.int v1), .val (.ref b2), .val (.int (1 : Int32)), .val (.int (0 : Int32)), .unset] []))
          refine Ends.via (fun _ k => XS.aload X7.here hx rfl (hb hby at_90) rfl rfl k) ?_
          show Ends p e below s 24 128 (Q0 Z p0 p1 p2 p3 p4  h0 n0) (T7.setTop (mkF m 92 #[.val (.int p0), .val (.int p1), .val (.int p2), .val (.int p3), .val (.int p4), .val (.int v1), .val (.ref b2), .val (.int (1 : Int32)), .val (.int (0 : Int32)), .unset] [(.ref b2)]))
          refine Ends.via (fun _ k => XS.iload X7.here hx rfl (hb hby at_92) rfl k) ?_
          show Ends p e below s 24 128 (Q0 Z p0 p1 p2 p3 p4  h0 n0) (T7.setTop (mkF m 94 #[.val (.int p0), .val (.int p1), .val (.int p2), .val (.int p3), .val (.int p4), .val (.int v1), .val (.ref b2), .val (.int (1 : Int32)), .val (.int (0 : Int32)), .unset] [(.int p4), (.ref b2)]))
          refine Ends.via (X7.ldcInt hx hown (mvT hZ (hw _ (List.mem_of_getElem? (i := 18) rfl))) (g := (mkF m 94 #[.val (.int p0), .val (.int p1), .val (.int p2), .val (.int p3), .val (.int p4), .val (.int v1), .val (.ref b2), .val (.int (1 : Int32)), .val (.int (0 : Int32)), .unset] [(.int p4), (.ref b2)])) rfl (hb hby at_94)) ?_
          show Ends p e below s 24 128 (Q0 Z p0 p1 p2 p3 p4  h0 n0) (T7.setTop (mkF m 96 #[.val (.int p0), .val (.int p1), .val (.int p2), .val (.int p3), .val (.int p4), .val (.int v1), .val (.ref b2), .val (.int (1 : Int32)), .val (.int (0 : Int32)), .unset] [(.int (2147483647 : Int32)), (.int p4), (.ref b2)]))
          refine Ends.via (fun _ k => XS.iand X7.here hx rfl (hb hby at_96) rfl k) ?_
          show Ends p e below s 24 128 (Q0 Z p0 p1 p2 p3 p4  h0 n0) (T7.setTop (mkF m 97 #[.val (.int p0), .val (.int p1), .val (.int p2), .val (.int p3), .val (.int p4), .val (.int v1), .val (.ref b2), .val (.int (1 : Int32)), .val (.int (0 : Int32)), .unset] [(.int (p4 &&& (2147483647 : Int32))), (.ref b2)]))
          refine Ends.via (fun _ k => XS.iload X7.here hx rfl (hb hby at_97) rfl k) ?_
          show Ends p e below s 24 128 (Q0 Z p0 p1 p2 p3 p4  h0 n0) (T7.setTop (mkF m 99 #[.val (.int p0), .val (.int p1), .val (.int p2), .val (.int p3), .val (.int p4), .val (.int v1), .val (.ref b2), .val (.int (1 : Int32)), .val (.int (0 : Int32)), .unset] [(.int v1), (.int (p4 &&& (2147483647 : Int32))), (.ref b2)]))
          refine Ends.via (fun _ k => iremM X7 hx rfl (hb hby at_99) rfl (own_nz hc13) k) ?_
          show Ends p e below s 24 128 (Q0 Z p0 p1 p2 p3 p4  h0 n0) (T7.setTop (mkF m 100 #[.val (.int p0), .val (.int p1), .val (.int p2), .val (.int p3), .val (.int p4), .val (.int v1), .val (.ref b2), .val (.int (1 : Int32)), .val (.int (0 : Int32)), .unset] [(.int ((p4 &&& (2147483647 : Int32)) % v1)), (.ref b2)]))
          obtain ⟨cq20, kq20, qa20, qb20, qc20⟩ := isOf hZ e7 Eq3
          obtain ⟨_, _, ⟨T20, L20, k20, n20⟩, -, X20, ⟨Lc20, hQ20, l20, y20, z20⟩, st20⟩ := X7.virtualBack hx (y := (⟨"com/example/crossbook/crossbook/Account", "holdingToCredit", "(I)Lcom/example/crossbook/crossbook/Holding;"⟩ : MethodName)) (z := (⟨"com/example/crossbook/crossbook/Account", "holdingToCredit", "(I)Lcom/example/crossbook/crossbook/Holding;"⟩ : MethodName)) hown (mvT hZ (hw _ (List.mem_of_getElem? (i := 19) rfl))) (mvT hZ (hw _ (List.mem_of_getElem? (i := 20) rfl))) (notFace_of_selects (args := #[]) (mvT hZ (hw _ (List.mem_of_getElem? (i := 22) rfl)))) (mvT hZ (hw _ (List.mem_of_getElem? (i := 22) rfl))) (mvT hZ (hw _ (List.mem_of_getElem? (i := 21) rfl))) (by decide) (backOf (W := 0) (rm4 l Z _ hw [] b2 ((p4 &&& (2147483647 : Int32)) % v1) bq3 kq3 v1 false T3.heap n0 Z3 Fq3 Hq3 Oq3 gb3 (own_ix p4 hc13).1 (own_ix p4 hc13).2 neq) hZ (hw _ (List.mem_of_getElem? (i := 23) rfl)) (hw _ (List.mem_of_getElem? (i := 2) rfl)) (by decide) (by decide)) qa20 qc20 (g := (mkF m 100 #[.val (.int p0), .val (.int p1), .val (.int p2), .val (.int p3), .val (.int p4), .val (.int v1), .val (.ref b2), .val (.int (1 : Int32)), .val (.int (0 : Int32)), .unset] [(.int ((p4 &&& (2147483647 : Int32)) % v1)), (.ref b2)])) rfl (by rw [hml]; rfl) (Steps.refl _) (argsL := [(.int ((p4 &&& (2147483647 : Int32)) % v1))]) (rest := []) (lenOf own_pd3 rfl) rfl (by show 2 * 0 + _ ≤ _; exact Nat.le_of_eq rfl) (hb hby at_100) (fun _ _ => ⟨rfl, e7, (by decide : 2 + 1 ≤ _), (by decide : 8 + 4 ≤ _)⟩)
          dsimp only [Pt.U, Pt.locs, Pt.cells, Pt.slots] at X20 l20 y20 z20 st20 hQ20
          subst l20 y20 z20
          obtain ⟨⟨y20, rfl⟩, Nq20, Kq20, Hq20⟩ := hQ20
          have N20 := Fr.app N7 Nq20
          have f20_0 := Eq3.keep Kq20
          have f20_1 := Fq3.keep Kq20 (ninS neq nin0)
          have Z20 : n0 ≤ T20.heap.size := Nat.le_trans Z3 Kq20.1
          refine Ends.via (fun _ k => st20.trans k) ?_
          show Ends p e below s 24 128 (Q0 Z p0 p1 p2 p3 p4  h0 n0) (T20.setTop (mkF m 103 #[.val (.int p0), .val (.int p1), .val (.int p2), .val (.int p3), .val (.int p4), .val (.int v1), .val (.ref b2), .val (.int (1 : Int32)), .val (.int (0 : Int32)), .unset] [(.ref y20)]))
          refine Ends.via (fun _ k => XS.pop X20.here hx rfl (hb hby at_103) rfl rfl k) ?_
          show Ends p e below s 24 128 (Q0 Z p0 p1 p2 p3 p4  h0 n0) (T20.setTop (mkF m 104 #[.val (.int p0), .val (.int p1), .val (.int p2), .val (.int p3), .val (.int p4), .val (.int v1), .val (.ref b2), .val (.int (1 : Int32)), .val (.int (0 : Int32)), .unset] []))
          refine Ends.via (fun _ k => XS.iconst X20.here hx rfl (hb hby at_104) k) ?_
          show Ends p e below s 24 128 (Q0 Z p0 p1 p2 p3 p4  h0 n0) (T20.setTop (mkF m 105 #[.val (.int p0), .val (.int p1), .val (.int p2), .val (.int p3), .val (.int p4), .val (.int v1), .val (.ref b2), .val (.int (1 : Int32)), .val (.int (0 : Int32)), .unset] [(.int (1 : Int32))]))
          refine Ends.via (fun _ k => XS.istore X20.here hx rfl (hb hby at_105) rfl (l' := #[.val (.int p0), .val (.int p1), .val (.int p2), .val (.int p3), .val (.int p4), .val (.int v1), .val (.ref b2), .val (.int (1 : Int32)), .val (.int (1 : Int32)), .unset]) rfl k) ?_
          show Ends p e below s 24 128 (Q0 Z p0 p1 p2 p3 p4  h0 n0) (T20.setTop (mkF m 107 #[.val (.int p0), .val (.int p1), .val (.int p2), .val (.int p3), .val (.int p4), .val (.int v1), .val (.ref b2), .val (.int (1 : Int32)), .val (.int (1 : Int32)), .unset] []))
          refine Ends.via (fun _ k => XS.aload X20.here hx rfl (hb hby at_107) rfl rfl k) ?_
          show Ends p e below s 24 128 (Q0 Z p0 p1 p2 p3 p4  h0 n0) (T20.setTop (mkF m 109 #[.val (.int p0), .val (.int p1), .val (.int p2), .val (.int p3), .val (.int p4), .val (.int v1), .val (.ref b2), .val (.int (1 : Int32)), .val (.int (1 : Int32)), .unset] [(.ref b2)]))
          obtain ⟨cq27, kq27, qa27, qb27, qc27⟩ := isOf hZ rfl f20_0
          obtain ⟨_, _, ⟨T27, L27, k27, n27⟩, -, X27, ⟨Lc27, hQ27, l27, y27, z27⟩, st27⟩ := X20.virtualBack hx (y := (⟨"com/example/crossbook/crossbook/Account", "holdsAny", "()Z"⟩ : MethodName)) (z := (⟨"com/example/crossbook/crossbook/Account", "holdsAny", "()Z"⟩ : MethodName)) hown (mvT hZ (hw _ (List.mem_of_getElem? (i := 13) rfl))) (mvT hZ (hw _ (List.mem_of_getElem? (i := 14) rfl))) (notFace_of_selects (args := #[]) (mvT hZ (hw _ (List.mem_of_getElem? (i := 16) rfl)))) (mvT hZ (hw _ (List.mem_of_getElem? (i := 16) rfl))) (mvT hZ (hw _ (List.mem_of_getElem? (i := 15) rfl))) (by decide) (backOf (W := 0) (rm3 l Z _ hw [] b2  bq3 kq3 v1 true T20.heap n0 Z20 f20_1 Hq20) hZ (hw _ (List.mem_of_getElem? (i := 17) rfl)) (hw _ (List.mem_of_getElem? (i := 2) rfl)) (by decide) (by decide)) qa27 qc27 (g := (mkF m 109 #[.val (.int p0), .val (.int p1), .val (.int p2), .val (.int p3), .val (.int p4), .val (.int v1), .val (.ref b2), .val (.int (1 : Int32)), .val (.int (1 : Int32)), .unset] [(.ref b2)])) rfl (by rw [hml]; rfl) (Steps.refl _) (argsL := []) (rest := []) (lenOf own_pd1 rfl) rfl (by show 2 * 0 + _ ≤ _; exact Nat.le_of_eq rfl) (hb hby at_109) (fun _ _ => ⟨rfl, rfl, (by decide : 3 + 0 ≤ _), (by decide : 12 + 0 ≤ _)⟩)
          dsimp only [Pt.U, Pt.locs, Pt.cells, Pt.slots] at X27 l27 y27 z27 st27 hQ27
          subst l27 y27 z27
          obtain ⟨rfl, Nq27, e27⟩ := hQ27
          have N27 := Fr.app N20 Nq27
          refine Ends.via (fun _ k => st27.trans k) ?_
          show Ends p e below s 24 128 (Q0 Z p0 p1 p2 p3 p4  h0 n0) (T27.setTop (mkF m 112 #[.val (.int p0), .val (.int p1), .val (.int p2), .val (.int p3), .val (.int p4), .val (.int v1), .val (.ref b2), .val (.int (1 : Int32)), .val (.int (1 : Int32)), .unset] [(.int (1 : Int32))]))
          refine Ends.via (fun _ k => XS.istore X27.here hx rfl (hb hby at_112) rfl (l' := #[.val (.int p0), .val (.int p1), .val (.int p2), .val (.int p3), .val (.int p4), .val (.int v1), .val (.ref b2), .val (.int (1 : Int32)), .val (.int (1 : Int32)), .val (.int (1 : Int32))]) rfl k) ?_
          show Ends p e below s 24 128 (Q0 Z p0 p1 p2 p3 p4  h0 n0) (T27.setTop (mkF m 114 #[.val (.int p0), .val (.int p1), .val (.int p2), .val (.int p3), .val (.int p4), .val (.int v1), .val (.ref b2), .val (.int (1 : Int32)), .val (.int (1 : Int32)), .val (.int (1 : Int32))] []))
          refine Ends.via (fun _ k => XS.iload X27.here hx rfl (hb hby at_114) rfl k) ?_
          show Ends p e below s 24 128 (Q0 Z p0 p1 p2 p3 p4  h0 n0) (T27.setTop (mkF m 116 #[.val (.int p0), .val (.int p1), .val (.int p2), .val (.int p3), .val (.int p4), .val (.int v1), .val (.ref b2), .val (.int (1 : Int32)), .val (.int (1 : Int32)), .val (.int (1 : Int32))] [(.int (1 : Int32))]))
          have hf28 : ¬ ((1 : Int32) = (0 : Int32)) := by decide
          refine Ends.via (fun _ k => XS.ifNo X27.here hx rfl (hb hby at_116) rfl ((if0 _ _).trans (feq hf28).1) k) ?_
          show Ends p e below s 24 128 (Q0 Z p0 p1 p2 p3 p4  h0 n0) (T27.setTop (mkF m 119 #[.val (.int p0), .val (.int p1), .val (.int p2), .val (.int p3), .val (.int p4), .val (.int v1), .val (.ref b2), .val (.int (1 : Int32)), .val (.int (1 : Int32)), .val (.int (1 : Int32))] []))
          refine Ends.via (fun _ k => XS.iload X27.here hx rfl (hb hby at_119) rfl k) ?_
          show Ends p e below s 24 128 (Q0 Z p0 p1 p2 p3 p4  h0 n0) (T27.setTop (mkF m 121 #[.val (.int p0), .val (.int p1), .val (.int p2), .val (.int p3), .val (.int p4), .val (.int v1), .val (.ref b2), .val (.int (1 : Int32)), .val (.int (1 : Int32)), .val (.int (1 : Int32))] [(.int (1 : Int32))]))
          refine Ends.via (fun _ k => XS.iload X27.here hx rfl (hb hby at_121) rfl k) ?_
          show Ends p e below s 24 128 (Q0 Z p0 p1 p2 p3 p4  h0 n0) (T27.setTop (mkF m 123 #[.val (.int p0), .val (.int p1), .val (.int p2), .val (.int p3), .val (.int p4), .val (.int v1), .val (.ref b2), .val (.int (1 : Int32)), .val (.int (1 : Int32)), .val (.int (1 : Int32))] [(.int (1 : Int32)), (.int (1 : Int32))]))
          have hf29 : (1 : Int32) = (1 : Int32) := by decide
          refine Ends.via (fun _ k => XS.icmpNo X27.here hx rfl (hb hby at_123) rfl (teq hf29).2 k) ?_
          show Ends p e below s 24 128 (Q0 Z p0 p1 p2 p3 p4  h0 n0) (T27.setTop (mkF m 126 #[.val (.int p0), .val (.int p1), .val (.int p2), .val (.int p3), .val (.int p4), .val (.int v1), .val (.ref b2), .val (.int (1 : Int32)), .val (.int (1 : Int32)), .val (.int (1 : Int32))] []))
          refine Ends.via (fun _ k => XS.iconst X27.here hx rfl (hb hby at_126) k) ?_
          show Ends p e below s 24 128 (Q0 Z p0 p1 p2 p3 p4  h0 n0) (T27.setTop (mkF m 127 #[.val (.int p0), .val (.int p1), .val (.int p2), .val (.int p3), .val (.int p4), .val (.int v1), .val (.ref b2), .val (.int (1 : Int32)), .val (.int (1 : Int32)), .val (.int (1 : Int32))] [(.int (1 : Int32))]))
          refine Ends.via (fun _ k => XS.goto X27.here hx rfl (pc0 := 127) (pc' := 131) rfl (hb hby at_127) (by decide) (by decide) k) ?_
          show Ends p e below s 24 128 (Q0 Z p0 p1 p2 p3 p4  h0 n0) (T27.setTop (mkF m 131 #[.val (.int p0), .val (.int p1), .val (.int p2), .val (.int p3), .val (.int p4), .val (.int v1), .val (.ref b2), .val (.int (1 : Int32)), .val (.int (1 : Int32)), .val (.int (1 : Int32))] [(.int (1 : Int32))]))
          refine Ends.ret X27 (v := some (.int (nar .boolean (1 : Int32)))) (fun h => by rw [Bd.returns] at h; cases h) Bd.notSynchronized (fun fs hr => retN X27 hx (t := .boolean) Bd.returns (by simp) (hb hby at_131) hr) ?_ (by decide) (by decide)
          exact ⟨rfl, N27⟩
      · refine Ends.via (fun _ k => XS.ifNo X7.here hx rfl (hb hby at_65) rfl ((if0 _ _).trans (feq hc15).1) k) ?_
        show Ends p e below s 24 128 (Q0 Z p0 p1 p2 p3 p4  h0 n0) (T7.setTop (mkF m 68 #[.val (.int p0), .val (.int p1), .val (.int p2), .val (.int p3), .val (.int p4), .val (.int v1), .val (.ref b2), .val (.int (1 : Int32)), .val (.int (0 : Int32)), .unset] []))
        refine Ends.via (fun _ k => XS.aload X7.here hx rfl (hb hby at_68) rfl rfl k) ?_
        show Ends p e below s 24 128 (Q0 Z p0 p1 p2 p3 p4  h0 n0) (T7.setTop (mkF m 70 #[.val (.int p0), .val (.int p1), .val (.int p2), .val (.int p3), .val (.int p4), .val (.int v1), .val (.ref b2), .val (.int (1 : Int32)), .val (.int (0 : Int32)), .unset] [(.ref b2)]))
        refine Ends.via (fun _ k => XS.iloadN X7.here hx rfl (hb hby at_70) rfl k) ?_
        show Ends p e below s 24 128 (Q0 Z p0 p1 p2 p3 p4  h0 n0) (T7.setTop (mkF m 71 #[.val (.int p0), .val (.int p1), .val (.int p2), .val (.int p3), .val (.int p4), .val (.int v1), .val (.ref b2), .val (.int (1 : Int32)), .val (.int (0 : Int32)), .unset] [(.int p3), (.ref b2)]))
        refine Ends.via (X7.ldcInt hx hown (mvT hZ (hw _ (List.mem_of_getElem? (i := 18) rfl))) (g := (mkF m 71 #[.val (.int p0), .val (.int p1), .val (.int p2), .val (.int p3), .val (.int p4), .val (.int v1), .val (.ref b2), .val (.int (1 : Int32)), .val (.int (0 : Int32)), .unset] [(.int p3), (.ref b2)])) rfl (hb hby at_71)) ?_
        show Ends p e below s 24 128 (Q0 Z p0 p1 p2 p3 p4  h0 n0) (T7.setTop (mkF m 73 #[.val (.int p0), .val (.int p1), .val (.int p2), .val (.int p3), .val (.int p4), .val (.int v1), .val (.ref b2), .val (.int (1 : Int32)), .val (.int (0 : Int32)), .unset] [(.int (2147483647 : Int32)), (.int p3), (.ref b2)]))
        refine Ends.via (fun _ k => XS.iand X7.here hx rfl (hb hby at_73) rfl k) ?_
        show Ends p e below s 24 128 (Q0 Z p0 p1 p2 p3 p4  h0 n0) (T7.setTop (mkF m 74 #[.val (.int p0), .val (.int p1), .val (.int p2), .val (.int p3), .val (.int p4), .val (.int v1), .val (.ref b2), .val (.int (1 : Int32)), .val (.int (0 : Int32)), .unset] [(.int (p3 &&& (2147483647 : Int32))), (.ref b2)]))
        refine Ends.via (fun _ k => XS.iload X7.here hx rfl (hb hby at_74) rfl k) ?_
        show Ends p e below s 24 128 (Q0 Z p0 p1 p2 p3 p4  h0 n0) (T7.setTop (mkF m 76 #[.val (.int p0), .val (.int p1), .val (.int p2), .val (.int p3), .val (.int p4), .val (.int v1), .val (.ref b2), .val (.int (1 : Int32)), .val (.int (0 : Int32)), .unset] [(.int v1), (.int (p3 &&& (2147483647 : Int32))), (.ref b2)]))
        refine Ends.via (fun _ k => iremM X7 hx rfl (hb hby at_76) rfl (own_nz hc13) k) ?_
        show Ends p e below s 24 128 (Q0 Z p0 p1 p2 p3 p4  h0 n0) (T7.setTop (mkF m 77 #[.val (.int p0), .val (.int p1), .val (.int p2), .val (.int p3), .val (.int p4), .val (.int v1), .val (.ref b2), .val (.int (1 : Int32)), .val (.int (0 : Int32)), .unset] [(.int ((p3 &&& (2147483647 : Int32)) % v1)), (.ref b2)]))
        obtain ⟨cq30, kq30, qa30, qb30, qc30⟩ := isOf hZ e7 Eq3
        obtain ⟨_, _, ⟨T30, L30, k30, n30⟩, -, X30, ⟨Lc30, hQ30, l30, y30, z30⟩, st30⟩ := X7.virtualBack hx (y := (⟨"com/example/crossbook/crossbook/Account", "holdingToCredit", "(I)Lcom/example/crossbook/crossbook/Holding;"⟩ : MethodName)) (z := (⟨"com/example/crossbook/crossbook/Account", "holdingToCredit", "(I)Lcom/example/crossbook/crossbook/Holding;"⟩ : MethodName)) hown (mvT hZ (hw _ (List.mem_of_getElem? (i := 19) rfl))) (mvT hZ (hw _ (List.mem_of_getElem? (i := 20) rfl))) (notFace_of_selects (args := #[]) (mvT hZ (hw _ (List.mem_of_getElem? (i := 22) rfl)))) (mvT hZ (hw _ (List.mem_of_getElem? (i := 22) rfl))) (mvT hZ (hw _ (List.mem_of_getElem? (i := 21) rfl))) (by decide) (backOf (W := 0) (rm4 l Z _ hw [] b2 ((p3 &&& (2147483647 : Int32)) % v1) bq3 kq3 v1 false T3.heap n0 Z3 Fq3 Hq3 Oq3 gb3 (own_ix p3 hc13).1 (own_ix p3 hc13).2 neq) hZ (hw _ (List.mem_of_getElem? (i := 23) rfl)) (hw _ (List.mem_of_getElem? (i := 2) rfl)) (by decide) (by decide)) qa30 qc30 (g := (mkF m 77 #[.val (.int p0), .val (.int p1), .val (.int p2), .val (.int p3), .val (.int p4), .val (.int v1), .val (.ref b2), .val (.int (1 : Int32)), .val (.int (0 : Int32)), .unset] [(.int ((p3 &&& (2147483647 : Int32)) % v1)), (.ref b2)])) rfl (by rw [hml]; rfl) (Steps.refl _) (argsL := [(.int ((p3 &&& (2147483647 : Int32)) % v1))]) (rest := []) (lenOf own_pd3 rfl) rfl (by show 2 * 0 + _ ≤ _; exact Nat.le_of_eq rfl) (hb hby at_77) (fun _ _ => ⟨rfl, e7, (by decide : 2 + 1 ≤ _), (by decide : 8 + 4 ≤ _)⟩)
        dsimp only [Pt.U, Pt.locs, Pt.cells, Pt.slots] at X30 l30 y30 z30 st30 hQ30
        subst l30 y30 z30
        obtain ⟨⟨y30, rfl⟩, Nq30, Kq30, Hq30⟩ := hQ30
        have N30 := Fr.app N7 Nq30
        have f30_0 := Eq3.keep Kq30
        have f30_1 := Fq3.keep Kq30 (ninS neq nin0)
        have Z30 : n0 ≤ T30.heap.size := Nat.le_trans Z3 Kq30.1
        refine Ends.via (fun _ k => st30.trans k) ?_
        show Ends p e below s 24 128 (Q0 Z p0 p1 p2 p3 p4  h0 n0) (T30.setTop (mkF m 80 #[.val (.int p0), .val (.int p1), .val (.int p2), .val (.int p3), .val (.int p4), .val (.int v1), .val (.ref b2), .val (.int (1 : Int32)), .val (.int (0 : Int32)), .unset] [(.ref y30)]))
        refine Ends.via (fun _ k => XS.pop X30.here hx rfl (hb hby at_80) rfl rfl k) ?_
        show Ends p e below s 24 128 (Q0 Z p0 p1 p2 p3 p4  h0 n0) (T30.setTop (mkF m 81 #[.val (.int p0), .val (.int p1), .val (.int p2), .val (.int p3), .val (.int p4), .val (.int v1), .val (.ref b2), .val (.int (1 : Int32)), .val (.int (0 : Int32)), .unset] []))
        refine Ends.via (fun _ k => XS.iconst X30.here hx rfl (hb hby at_81) k) ?_
        show Ends p e below s 24 128 (Q0 Z p0 p1 p2 p3 p4  h0 n0) (T30.setTop (mkF m 82 #[.val (.int p0), .val (.int p1), .val (.int p2), .val (.int p3), .val (.int p4), .val (.int v1), .val (.ref b2), .val (.int (1 : Int32)), .val (.int (0 : Int32)), .unset] [(.int (1 : Int32))]))
        refine Ends.via (fun _ k => XS.istore X30.here hx rfl (hb hby at_82) rfl (l' := #[.val (.int p0), .val (.int p1), .val (.int p2), .val (.int p3), .val (.int p4), .val (.int v1), .val (.ref b2), .val (.int (1 : Int32)), .val (.int (1 : Int32)), .unset]) rfl k) ?_
        show Ends p e below s 24 128 (Q0 Z p0 p1 p2 p3 p4  h0 n0) (T30.setTop (mkF m 84 #[.val (.int p0), .val (.int p1), .val (.int p2), .val (.int p3), .val (.int p4), .val (.int v1), .val (.ref b2), .val (.int (1 : Int32)), .val (.int (1 : Int32)), .unset] []))
        refine Ends.via (fun _ k => XS.iloadN X30.here hx rfl (hb hby at_84) rfl k) ?_
        show Ends p e below s 24 128 (Q0 Z p0 p1 p2 p3 p4  h0 n0) (T30.setTop (mkF m 85 #[.val (.int p0), .val (.int p1), .val (.int p2), .val (.int p3), .val (.int p4), .val (.int v1), .val (.ref b2), .val (.int (1 : Int32)), .val (.int (1 : Int32)), .unset] [(.int p1)]))
        refine Ends.via (fun _ k => XS.iconst X30.here hx rfl (hb hby at_85) k) ?_
        show Ends p e below s 24 128 (Q0 Z p0 p1 p2 p3 p4  h0 n0) (T30.setTop (mkF m 86 #[.val (.int p0), .val (.int p1), .val (.int p2), .val (.int p3), .val (.int p4), .val (.int v1), .val (.ref b2), .val (.int (1 : Int32)), .val (.int (1 : Int32)), .unset] [(.int (4 : Int32)), (.int p1)]))
        refine Ends.via (fun _ k => XS.iand X30.here hx rfl (hb hby at_86) rfl k) ?_
        show Ends p e below s 24 128 (Q0 Z p0 p1 p2 p3 p4  h0 n0) (T30.setTop (mkF m 87 #[.val (.int p0), .val (.int p1), .val (.int p2), .val (.int p3), .val (.int p4), .val (.int v1), .val (.ref b2), .val (.int (1 : Int32)), .val (.int (1 : Int32)), .unset] [(.int (p1 &&& (4 : Int32)))]))
        by_cases hc31 : (p1 &&& (4 : Int32)) = (0 : Int32)
        · refine Ends.via (fun _ k => XS.ifYes X30.here hx rfl (pc0 := 87) (pc' := 107) rfl (hb hby at_87) rfl ((if0 _ _).trans (teq hc31).1) (by decide) (by decide) k) ?_
          show Ends p e below s 24 128 (Q0 Z p0 p1 p2 p3 p4  h0 n0) (T30.setTop (mkF m 107 #[.val (.int p0), .val (.int p1), .val (.int p2), .val (.int p3), .val (.int p4), .val (.int v1), .val (.ref b2), .val (.int (1 : Int32)), .val (.int (1 : Int32)), .unset] []))
          refine Ends.via (fun _ k => XS.aload X30.here hx rfl (hb hby at_107) rfl rfl k) ?_
          show Ends p e below s 24 128 (Q0 Z p0 p1 p2 p3 p4  h0 n0) (T30.setTop (mkF m 109 #[.val (.int p0), .val (.int p1), .val (.int p2), .val (.int p3), .val (.int p4), .val (.int v1), .val (.ref b2), .val (.int (1 : Int32)), .val (.int (1 : Int32)), .unset] [(.ref b2)]))
          obtain ⟨cq32, kq32, qa32, qb32, qc32⟩ := isOf hZ rfl f30_0
          obtain ⟨_, _, ⟨T32, L32, k32, n32⟩, -, X32, ⟨Lc32, hQ32, l32, y32, z32⟩, st32⟩ := X30.virtualBack hx (y := (⟨"com/example/crossbook/crossbook/Account", "holdsAny", "()Z"⟩ : MethodName)) (z := (⟨"com/example/crossbook/crossbook/Account", "holdsAny", "()Z"⟩ : MethodName)) hown (mvT hZ (hw _ (List.mem_of_getElem? (i := 13) rfl))) (mvT hZ (hw _ (List.mem_of_getElem? (i := 14) rfl))) (notFace_of_selects (args := #[]) (mvT hZ (hw _ (List.mem_of_getElem? (i := 16) rfl)))) (mvT hZ (hw _ (List.mem_of_getElem? (i := 16) rfl))) (mvT hZ (hw _ (List.mem_of_getElem? (i := 15) rfl))) (by decide) (backOf (W := 0) (rm3 l Z _ hw [] b2  bq3 kq3 v1 true T30.heap n0 Z30 f30_1 Hq30) hZ (hw _ (List.mem_of_getElem? (i := 17) rfl)) (hw _ (List.mem_of_getElem? (i := 2) rfl)) (by decide) (by decide)) qa32 qc32 (g := (mkF m 109 #[.val (.int p0), .val (.int p1), .val (.int p2), .val (.int p3), .val (.int p4), .val (.int v1), .val (.ref b2), .val (.int (1 : Int32)), .val (.int (1 : Int32)), .unset] [(.ref b2)])) rfl (by rw [hml]; rfl) (Steps.refl _) (argsL := []) (rest := []) (lenOf own_pd1 rfl) rfl (by show 2 * 0 + _ ≤ _; exact Nat.le_of_eq rfl) (hb hby at_109) (fun _ _ => ⟨rfl, rfl, (by decide : 3 + 0 ≤ _), (by decide : 12 + 0 ≤ _)⟩)
          dsimp only [Pt.U, Pt.locs, Pt.cells, Pt.slots] at X32 l32 y32 z32 st32 hQ32
          subst l32 y32 z32
          obtain ⟨rfl, Nq32, e32⟩ := hQ32
          have N32 := Fr.app N30 Nq32
          refine Ends.via (fun _ k => st32.trans k) ?_
          show Ends p e below s 24 128 (Q0 Z p0 p1 p2 p3 p4  h0 n0) (T32.setTop (mkF m 112 #[.val (.int p0), .val (.int p1), .val (.int p2), .val (.int p3), .val (.int p4), .val (.int v1), .val (.ref b2), .val (.int (1 : Int32)), .val (.int (1 : Int32)), .unset] [(.int (1 : Int32))]))
          refine Ends.via (fun _ k => XS.istore X32.here hx rfl (hb hby at_112) rfl (l' := #[.val (.int p0), .val (.int p1), .val (.int p2), .val (.int p3), .val (.int p4), .val (.int v1), .val (.ref b2), .val (.int (1 : Int32)), .val (.int (1 : Int32)), .val (.int (1 : Int32))]) rfl k) ?_
          show Ends p e below s 24 128 (Q0 Z p0 p1 p2 p3 p4  h0 n0) (T32.setTop (mkF m 114 #[.val (.int p0), .val (.int p1), .val (.int p2), .val (.int p3), .val (.int p4), .val (.int v1), .val (.ref b2), .val (.int (1 : Int32)), .val (.int (1 : Int32)), .val (.int (1 : Int32))] []))
          refine Ends.via (fun _ k => XS.iload X32.here hx rfl (hb hby at_114) rfl k) ?_
          show Ends p e below s 24 128 (Q0 Z p0 p1 p2 p3 p4  h0 n0) (T32.setTop (mkF m 116 #[.val (.int p0), .val (.int p1), .val (.int p2), .val (.int p3), .val (.int p4), .val (.int v1), .val (.ref b2), .val (.int (1 : Int32)), .val (.int (1 : Int32)), .val (.int (1 : Int32))] [(.int (1 : Int32))]))
          have hf33 : ¬ ((1 : Int32) = (0 : Int32)) := by decide
          refine Ends.via (fun _ k => XS.ifNo X32.here hx rfl (hb hby at_116) rfl ((if0 _ _).trans (feq hf33).1) k) ?_
          show Ends p e below s 24 128 (Q0 Z p0 p1 p2 p3 p4  h0 n0) (T32.setTop (mkF m 119 #[.val (.int p0), .val (.int p1), .val (.int p2), .val (.int p3), .val (.int p4), .val (.int v1), .val (.ref b2), .val (.int (1 : Int32)), .val (.int (1 : Int32)), .val (.int (1 : Int32))] []))
          refine Ends.via (fun _ k => XS.iload X32.here hx rfl (hb hby at_119) rfl k) ?_
          show Ends p e below s 24 128 (Q0 Z p0 p1 p2 p3 p4  h0 n0) (T32.setTop (mkF m 121 #[.val (.int p0), .val (.int p1), .val (.int p2), .val (.int p3), .val (.int p4), .val (.int v1), .val (.ref b2), .val (.int (1 : Int32)), .val (.int (1 : Int32)), .val (.int (1 : Int32))] [(.int (1 : Int32))]))
          refine Ends.via (fun _ k => XS.iload X32.here hx rfl (hb hby at_121) rfl k) ?_
          show Ends p e below s 24 128 (Q0 Z p0 p1 p2 p3 p4  h0 n0) (T32.setTop (mkF m 123 #[.val (.int p0), .val (.int p1), .val (.int p2), .val (.int p3), .val (.int p4), .val (.int v1), .val (.ref b2), .val (.int (1 : Int32)), .val (.int (1 : Int32)), .val (.int (1 : Int32))] [(.int (1 : Int32)), (.int (1 : Int32))]))
          have hf34 : (1 : Int32) = (1 : Int32) := by decide
          refine Ends.via (fun _ k => XS.icmpNo X32.here hx rfl (hb hby at_123) rfl (teq hf34).2 k) ?_
          show Ends p e below s 24 128 (Q0 Z p0 p1 p2 p3 p4  h0 n0) (T32.setTop (mkF m 126 #[.val (.int p0), .val (.int p1), .val (.int p2), .val (.int p3), .val (.int p4), .val (.int v1), .val (.ref b2), .val (.int (1 : Int32)), .val (.int (1 : Int32)), .val (.int (1 : Int32))] []))
          refine Ends.via (fun _ k => XS.iconst X32.here hx rfl (hb hby at_126) k) ?_
          show Ends p e below s 24 128 (Q0 Z p0 p1 p2 p3 p4  h0 n0) (T32.setTop (mkF m 127 #[.val (.int p0), .val (.int p1), .val (.int p2), .val (.int p3), .val (.int p4), .val (.int v1), .val (.ref b2), .val (.int (1 : Int32)), .val (.int (1 : Int32)), .val (.int (1 : Int32))] [(.int (1 : Int32))]))
          refine Ends.via (fun _ k => XS.goto X32.here hx rfl (pc0 := 127) (pc' := 131) rfl (hb hby at_127) (by decide) (by decide) k) ?_
          show Ends p e below s 24 128 (Q0 Z p0 p1 p2 p3 p4  h0 n0) (T32.setTop (mkF m 131 #[.val (.int p0), .val (.int p1), .val (.int p2), .val (.int p3), .val (.int p4), .val (.int v1), .val (.ref b2), .val (.int (1 : Int32)), .val (.int (1 : Int32)), .val (.int (1 : Int32))] [(.int (1 : Int32))]))
          refine Ends.ret X32 (v := some (.int (nar .boolean (1 : Int32)))) (fun h => by rw [Bd.returns] at h; cases h) Bd.notSynchronized (fun fs hr => retN X32 hx (t := .boolean) Bd.returns (by simp) (hb hby at_131) hr) ?_ (by decide) (by decide)
          exact ⟨rfl, N32⟩
        · refine Ends.via (fun _ k => XS.ifNo X30.here hx rfl (hb hby at_87) rfl ((if0 _ _).trans (feq hc31).1) k) ?_
          show Ends p e below s 24 128 (Q0 Z p0 p1 p2 p3 p4  h0 n0) (T30.setTop (mkF m 90 #[.val (.int p0), .val (.int p1), .val (.int p2), .val (.int p3), .val (.int p4), .val (.int v1), .val (.ref b2), .val (.int (1 : Int32)), .val (.int (1 : Int32)), .unset] []))
          refine Ends.via (fun _ k => XS.aload X30.here hx rfl (hb hby at_90) rfl rfl k) ?_
          show Ends p e below s 24 128 (Q0 Z p0 p1 p2 p3 p4  h0 n0) (T30.setTop (mkF m 92 #[.val (.int p0), .val (.int p1), .val (.int p2), .val (.int p3), .val (.int p4), .val (.int v1), .val (.ref b2), .val (.int (1 : Int32)), .val (.int (1 : Int32)), .unset] [(.ref b2)]))
          refine Ends.via (fun _ k => XS.iload X30.here hx rfl (hb hby at_92) rfl k) ?_
          show Ends p e below s 24 128 (Q0 Z p0 p1 p2 p3 p4  h0 n0) (T30.setTop (mkF m 94 #[.val (.int p0), .val (.int p1), .val (.int p2), .val (.int p3), .val (.int p4), .val (.int v1), .val (.ref b2), .val (.int (1 : Int32)), .val (.int (1 : Int32)), .unset] [(.int p4), (.ref b2)]))
          refine Ends.via (X30.ldcInt hx hown (mvT hZ (hw _ (List.mem_of_getElem? (i := 18) rfl))) (g := (mkF m 94 #[.val (.int p0), .val (.int p1), .val (.int p2), .val (.int p3), .val (.int p4), .val (.int v1), .val (.ref b2), .val (.int (1 : Int32)), .val (.int (1 : Int32)), .unset] [(.int p4), (.ref b2)])) rfl (hb hby at_94)) ?_
          show Ends p e below s 24 128 (Q0 Z p0 p1 p2 p3 p4  h0 n0) (T30.setTop (mkF m 96 #[.val (.int p0), .val (.int p1), .val (.int p2), .val (.int p3), .val (.int p4), .val (.int v1), .val (.ref b2), .val (.int (1 : Int32)), .val (.int (1 : Int32)), .unset] [(.int (2147483647 : Int32)), (.int p4), (.ref b2)]))
          refine Ends.via (fun _ k => XS.iand X30.here hx rfl (hb hby at_96) rfl k) ?_
          show Ends p e below s 24 128 (Q0 Z p0 p1 p2 p3 p4  h0 n0) (T30.setTop (mkF m 97 #[.val (.int p0), .val (.int p1), .val (.int p2), .val (.int p3), .val (.int p4), .val (.int v1), .val (.ref b2), .val (.int (1 : Int32)), .val (.int (1 : Int32)), .unset] [(.int (p4 &&& (2147483647 : Int32))), (.ref b2)]))
          refine Ends.via (fun _ k => XS.iload X30.here hx rfl (hb hby at_97) rfl k) ?_
          show Ends p e below s 24 128 (Q0 Z p0 p1 p2 p3 p4  h0 n0) (T30.setTop (mkF m 99 #[.val (.int p0), .val (.int p1), .val (.int p2), .val (.int p3), .val (.int p4), .val (.int v1), .val (.ref b2), .val (.int (1 : Int32)), .val (.int (1 : Int32)), .unset] [(.int v1), (.int (p4 &&& (2147483647 : Int32))), (.ref b2)]))
          refine Ends.via (fun _ k => iremM X30 hx rfl (hb hby at_99) rfl (own_nz hc13) k) ?_
          show Ends p e below s 24 128 (Q0 Z p0 p1 p2 p3 p4  h0 n0) (T30.setTop (mkF m 100 #[.val (.int p0), .val (.int p1), .val (.int p2), .val (.int p3), .val (.int p4), .val (.int v1), .val (.ref b2), .val (.int (1 : Int32)), .val (.int (1 : Int32)), .unset] [(.int ((p4 &&& (2147483647 : Int32)) % v1)), (.ref b2)]))
          obtain ⟨cq35, kq35, qa35, qb35, qc35⟩ := isOf hZ rfl f30_0
          obtain ⟨_, _, ⟨T35, L35, k35, n35⟩, -, X35, ⟨Lc35, hQ35, l35, y35, z35⟩, st35⟩ := X30.virtualBack hx (y := (⟨"com/example/crossbook/crossbook/Account", "holdingToCredit", "(I)Lcom/example/crossbook/crossbook/Holding;"⟩ : MethodName)) (z := (⟨"com/example/crossbook/crossbook/Account", "holdingToCredit", "(I)Lcom/example/crossbook/crossbook/Holding;"⟩ : MethodName)) hown (mvT hZ (hw _ (List.mem_of_getElem? (i := 19) rfl))) (mvT hZ (hw _ (List.mem_of_getElem? (i := 20) rfl))) (notFace_of_selects (args := #[]) (mvT hZ (hw _ (List.mem_of_getElem? (i := 22) rfl)))) (mvT hZ (hw _ (List.mem_of_getElem? (i := 22) rfl))) (mvT hZ (hw _ (List.mem_of_getElem? (i := 21) rfl))) (by decide) (backOf (W := 0) (rm4 l Z _ hw [] b2 ((p4 &&& (2147483647 : Int32)) % v1) bq3 kq3 v1 true T30.heap n0 Z30 f30_1 Hq30 Oq3 gb3 (own_ix p4 hc13).1 (own_ix p4 hc13).2 neq) hZ (hw _ (List.mem_of_getElem? (i := 23) rfl)) (hw _ (List.mem_of_getElem? (i := 2) rfl)) (by decide) (by decide)) qa35 qc35 (g := (mkF m 100 #[.val (.int p0), .val (.int p1), .val (.int p2), .val (.int p3), .val (.int p4), .val (.int v1), .val (.ref b2), .val (.int (1 : Int32)), .val (.int (1 : Int32)), .unset] [(.int ((p4 &&& (2147483647 : Int32)) % v1)), (.ref b2)])) rfl (by rw [hml]; rfl) (Steps.refl _) (argsL := [(.int ((p4 &&& (2147483647 : Int32)) % v1))]) (rest := []) (lenOf own_pd3 rfl) rfl (by show 2 * 0 + _ ≤ _; exact Nat.le_of_eq rfl) (hb hby at_100) (fun _ _ => ⟨rfl, rfl, (by decide : 3 + 1 ≤ _), (by decide : 12 + 4 ≤ _)⟩)
          dsimp only [Pt.U, Pt.locs, Pt.cells, Pt.slots] at X35 l35 y35 z35 st35 hQ35
          subst l35 y35 z35
          obtain ⟨⟨y35, rfl⟩, Nq35, Kq35, Hq35⟩ := hQ35
          have N35 := Fr.app N30 Nq35
          have f35_0 := f30_0.keep Kq35
          have f35_1 := f30_1.keep Kq35 (ninS neq nin0)
          have Z35 : n0 ≤ T35.heap.size := Nat.le_trans Z30 Kq35.1
          refine Ends.via (fun _ k => st35.trans k) ?_
          show Ends p e below s 24 128 (Q0 Z p0 p1 p2 p3 p4  h0 n0) (T35.setTop (mkF m 103 #[.val (.int p0), .val (.int p1), .val (.int p2), .val (.int p3), .val (.int p4), .val (.int v1), .val (.ref b2), .val (.int (1 : Int32)), .val (.int (1 : Int32)), .unset] [(.ref y35)]))
          refine Ends.via (fun _ k => XS.pop X35.here hx rfl (hb hby at_103) rfl rfl k) ?_
          show Ends p e below s 24 128 (Q0 Z p0 p1 p2 p3 p4  h0 n0) (T35.setTop (mkF m 104 #[.val (.int p0), .val (.int p1), .val (.int p2), .val (.int p3), .val (.int p4), .val (.int v1), .val (.ref b2), .val (.int (1 : Int32)), .val (.int (1 : Int32)), .unset] []))
          refine Ends.via (fun _ k => XS.iconst X35.here hx rfl (hb hby at_104) k) ?_
          show Ends p e below s 24 128 (Q0 Z p0 p1 p2 p3 p4  h0 n0) (T35.setTop (mkF m 105 #[.val (.int p0), .val (.int p1), .val (.int p2), .val (.int p3), .val (.int p4), .val (.int v1), .val (.ref b2), .val (.int (1 : Int32)), .val (.int (1 : Int32)), .unset] [(.int (1 : Int32))]))
          refine Ends.via (fun _ k => XS.istore X35.here hx rfl (hb hby at_105) rfl (l' := #[.val (.int p0), .val (.int p1), .val (.int p2), .val (.int p3), .val (.int p4), .val (.int v1), .val (.ref b2), .val (.int (1 : Int32)), .val (.int (1 : Int32)), .unset]) rfl k) ?_
          show Ends p e below s 24 128 (Q0 Z p0 p1 p2 p3 p4  h0 n0) (T35.setTop (mkF m 107 #[.val (.int p0), .val (.int p1), .val (.int p2), .val (.int p3), .val (.int p4), .val (.int v1), .val (.ref b2), .val (.int (1 : Int32)), .val (.int (1 : Int32)), .unset] []))
          refine Ends.via (fun _ k => XS.aload X35.here hx rfl (hb hby at_107) rfl rfl k) ?_
          show Ends p e below s 24 128 (Q0 Z p0 p1 p2 p3 p4  h0 n0) (T35.setTop (mkF m 109 #[.val (.int p0), .val (.int p1), .val (.int p2), .val (.int p3), .val (.int p4), .val (.int v1), .val (.ref b2), .val (.int (1 : Int32)), .val (.int (1 : Int32)), .unset] [(.ref b2)]))
          obtain ⟨cq36, kq36, qa36, qb36, qc36⟩ := isOf hZ rfl f35_0
          obtain ⟨_, _, ⟨T36, L36, k36, n36⟩, -, X36, ⟨Lc36, hQ36, l36, y36, z36⟩, st36⟩ := X35.virtualBack hx (y := (⟨"com/example/crossbook/crossbook/Account", "holdsAny", "()Z"⟩ : MethodName)) (z := (⟨"com/example/crossbook/crossbook/Account", "holdsAny", "()Z"⟩ : MethodName)) hown (mvT hZ (hw _ (List.mem_of_getElem? (i := 13) rfl))) (mvT hZ (hw _ (List.mem_of_getElem? (i := 14) rfl))) (notFace_of_selects (args := #[]) (mvT hZ (hw _ (List.mem_of_getElem? (i := 16) rfl)))) (mvT hZ (hw _ (List.mem_of_getElem? (i := 16) rfl))) (mvT hZ (hw _ (List.mem_of_getElem? (i := 15) rfl))) (by decide) (backOf (W := 0) (rm3 l Z _ hw [] b2  bq3 kq3 v1 true T35.heap n0 Z35 f35_1 Hq35) hZ (hw _ (List.mem_of_getElem? (i := 17) rfl)) (hw _ (List.mem_of_getElem? (i := 2) rfl)) (by decide) (by decide)) qa36 qc36 (g := (mkF m 109 #[.val (.int p0), .val (.int p1), .val (.int p2), .val (.int p3), .val (.int p4), .val (.int v1), .val (.ref b2), .val (.int (1 : Int32)), .val (.int (1 : Int32)), .unset] [(.ref b2)])) rfl (by rw [hml]; rfl) (Steps.refl _) (argsL := []) (rest := []) (lenOf own_pd1 rfl) rfl (by show 2 * 0 + _ ≤ _; exact Nat.le_of_eq rfl) (hb hby at_109) (fun _ _ => ⟨rfl, rfl, (by decide : 4 + 0 ≤ _), (by decide : 16 + 0 ≤ _)⟩)
          dsimp only [Pt.U, Pt.locs, Pt.cells, Pt.slots] at X36 l36 y36 z36 st36 hQ36
          subst l36 y36 z36
          obtain ⟨rfl, Nq36, e36⟩ := hQ36
          have N36 := Fr.app N35 Nq36
          refine Ends.via (fun _ k => st36.trans k) ?_
          show Ends p e below s 24 128 (Q0 Z p0 p1 p2 p3 p4  h0 n0) (T36.setTop (mkF m 112 #[.val (.int p0), .val (.int p1), .val (.int p2), .val (.int p3), .val (.int p4), .val (.int v1), .val (.ref b2), .val (.int (1 : Int32)), .val (.int (1 : Int32)), .unset] [(.int (1 : Int32))]))
          refine Ends.via (fun _ k => XS.istore X36.here hx rfl (hb hby at_112) rfl (l' := #[.val (.int p0), .val (.int p1), .val (.int p2), .val (.int p3), .val (.int p4), .val (.int v1), .val (.ref b2), .val (.int (1 : Int32)), .val (.int (1 : Int32)), .val (.int (1 : Int32))]) rfl k) ?_
          show Ends p e below s 24 128 (Q0 Z p0 p1 p2 p3 p4  h0 n0) (T36.setTop (mkF m 114 #[.val (.int p0), .val (.int p1), .val (.int p2), .val (.int p3), .val (.int p4), .val (.int v1), .val (.ref b2), .val (.int (1 : Int32)), .val (.int (1 : Int32)), .val (.int (1 : Int32))] []))
          refine Ends.via (fun _ k => XS.iload X36.here hx rfl (hb hby at_114) rfl k) ?_
          show Ends p e below s 24 128 (Q0 Z p0 p1 p2 p3 p4  h0 n0) (T36.setTop (mkF m 116 #[.val (.int p0), .val (.int p1), .val (.int p2), .val (.int p3), .val (.int p4), .val (.int v1), .val (.ref b2), .val (.int (1 : Int32)), .val (.int (1 : Int32)), .val (.int (1 : Int32))] [(.int (1 : Int32))]))
          have hf37 : ¬ ((1 : Int32) = (0 : Int32)) := by decide
          refine Ends.via (fun _ k => XS.ifNo X36.here hx rfl (hb hby at_116) rfl ((if0 _ _).trans (feq hf37).1) k) ?_
          show Ends p e below s 24 128 (Q0 Z p0 p1 p2 p3 p4  h0 n0) (T36.setTop (mkF m 119 #[.val (.int p0), .val (.int p1), .val (.int p2), .val (.int p3), .val (.int p4), .val (.int v1), .val (.ref b2), .val (.int (1 : Int32)), .val (.int (1 : Int32)), .val (.int (1 : Int32))] []))
          refine Ends.via (fun _ k => XS.iload X36.here hx rfl (hb hby at_119) rfl k) ?_
          show Ends p e below s 24 128 (Q0 Z p0 p1 p2 p3 p4  h0 n0) (T36.setTop (mkF m 121 #[.val (.int p0), .val (.int p1), .val (.int p2), .val (.int p3), .val (.int p4), .val (.int v1), .val (.ref b2), .val (.int (1 : Int32)), .val (.int (1 : Int32)), .val (.int (1 : Int32))] [(.int (1 : Int32))]))
          refine Ends.via (fun _ k => XS.iload X36.here hx rfl (hb hby at_121) rfl k) ?_
          show Ends p e below s 24 128 (Q0 Z p0 p1 p2 p3 p4  h0 n0) (T36.setTop (mkF m 123 #[.val (.int p0), .val (.int p1), .val (.int p2), .val (.int p3), .val (.int p4), .val (.int v1), .val (.ref b2), .val (.int (1 : Int32)), .val (.int (1 : Int32)), .val (.int (1 : Int32))] [(.int (1 : Int32)), (.int (1 : Int32))]))
          have hf38 : (1 : Int32) = (1 : Int32) := by decide
          refine Ends.via (fun _ k => XS.icmpNo X36.here hx rfl (hb hby at_123) rfl (teq hf38).2 k) ?_
          show Ends p e below s 24 128 (Q0 Z p0 p1 p2 p3 p4  h0 n0) (T36.setTop (mkF m 126 #[.val (.int p0), .val (.int p1), .val (.int p2), .val (.int p3), .val (.int p4), .val (.int v1), .val (.ref b2), .val (.int (1 : Int32)), .val (.int (1 : Int32)), .val (.int (1 : Int32))] []))
          refine Ends.via (fun _ k => XS.iconst X36.here hx rfl (hb hby at_126) k) ?_
          show Ends p e below s 24 128 (Q0 Z p0 p1 p2 p3 p4  h0 n0) (T36.setTop (mkF m 127 #[.val (.int p0), .val (.int p1), .val (.int p2), .val (.int p3), .val (.int p4), .val (.int v1), .val (.ref b2), .val (.int (1 : Int32)), .val (.int (1 : Int32)), .val (.int (1 : Int32))] [(.int (1 : Int32))]))
          refine Ends.via (fun _ k => XS.goto X36.here hx rfl (pc0 := 127) (pc' := 131) rfl (hb hby at_127) (by decide) (by decide) k) ?_
          show Ends p e below s 24 128 (Q0 Z p0 p1 p2 p3 p4  h0 n0) (T36.setTop (mkF m 131 #[.val (.int p0), .val (.int p1), .val (.int p2), .val (.int p3), .val (.int p4), .val (.int v1), .val (.ref b2), .val (.int (1 : Int32)), .val (.int (1 : Int32)), .val (.int (1 : Int32))] [(.int (1 : Int32))]))
          refine Ends.ret X36 (v := some (.int (nar .boolean (1 : Int32)))) (fun h => by rw [Bd.returns] at h; cases h) Bd.notSynchronized (fun fs hr => retN X36 hx (t := .boolean) Bd.returns (by simp) (hb hby at_131) hr) ?_ (by decide) (by decide)
          exact ⟨rfl, N36⟩
    · refine Ends.via (fun _ k => XS.ifNo X7.here hx rfl (hb hby at_43) rfl ((if0 _ _).trans (feq hc14).1) k) ?_
      show Ends p e below s 24 128 (Q0 Z p0 p1 p2 p3 p4  h0 n0) (T7.setTop (mkF m 46 #[.val (.int p0), .val (.int p1), .val (.int p2), .val (.int p3), .val (.int p4), .val (.int v1), .val (.ref b2), .val (.int (1 : Int32)), .val (.int (0 : Int32)), .unset] []))
      refine Ends.via (fun _ k => XS.aload X7.here hx rfl (hb hby at_46) rfl rfl k) ?_
      show Ends p e below s 24 128 (Q0 Z p0 p1 p2 p3 p4  h0 n0) (T7.setTop (mkF m 48 #[.val (.int p0), .val (.int p1), .val (.int p2), .val (.int p3), .val (.int p4), .val (.int v1), .val (.ref b2), .val (.int (1 : Int32)), .val (.int (0 : Int32)), .unset] [(.ref b2)]))
      refine Ends.via (fun _ k => XS.iloadN X7.here hx rfl (hb hby at_48) rfl k) ?_
      show Ends p e below s 24 128 (Q0 Z p0 p1 p2 p3 p4  h0 n0) (T7.setTop (mkF m 49 #[.val (.int p0), .val (.int p1), .val (.int p2), .val (.int p3), .val (.int p4), .val (.int v1), .val (.ref b2), .val (.int (1 : Int32)), .val (.int (0 : Int32)), .unset] [(.int p2), (.ref b2)]))
      refine Ends.via (X7.ldcInt hx hown (mvT hZ (hw _ (List.mem_of_getElem? (i := 18) rfl))) (g := (mkF m 49 #[.val (.int p0), .val (.int p1), .val (.int p2), .val (.int p3), .val (.int p4), .val (.int v1), .val (.ref b2), .val (.int (1 : Int32)), .val (.int (0 : Int32)), .unset] [(.int p2), (.ref b2)])) rfl (hb hby at_49)) ?_
      show Ends p e below s 24 128 (Q0 Z p0 p1 p2 p3 p4  h0 n0) (T7.setTop (mkF m 51 #[.val (.int p0), .val (.int p1), .val (.int p2), .val (.int p3), .val (.int p4), .val (.int v1), .val (.ref b2), .val (.int (1 : Int32)), .val (.int (0 : Int32)), .unset] [(.int (2147483647 : Int32)), (.int p2), (.ref b2)]))
      refine Ends.via (fun _ k => XS.iand X7.here hx rfl (hb hby at_51) rfl k) ?_
      show Ends p e below s 24 128 (Q0 Z p0 p1 p2 p3 p4  h0 n0) (T7.setTop (mkF m 52 #[.val (.int p0), .val (.int p1), .val (.int p2), .val (.int p3), .val (.int p4), .val (.int v1), .val (.ref b2), .val (.int (1 : Int32)), .val (.int (0 : Int32)), .unset] [(.int (p2 &&& (2147483647 : Int32))), (.ref b2)]))
      refine Ends.via (fun _ k => XS.iload X7.here hx rfl (hb hby at_52) rfl k) ?_
      show Ends p e below s 24 128 (Q0 Z p0 p1 p2 p3 p4  h0 n0) (T7.setTop (mkF m 54 #[.val (.int p0), .val (.int p1), .val (.int p2), .val (.int p3), .val (.int p4), .val (.int v1), .val (.ref b2), .val (.int (1 : Int32)), .val (.int (0 : Int32)), .unset] [(.int v1), (.int (p2 &&& (2147483647 : Int32))), (.ref b2)]))
      refine Ends.via (fun _ k => iremM X7 hx rfl (hb hby at_54) rfl (own_nz hc13) k) ?_
      show Ends p e below s 24 128 (Q0 Z p0 p1 p2 p3 p4  h0 n0) (T7.setTop (mkF m 55 #[.val (.int p0), .val (.int p1), .val (.int p2), .val (.int p3), .val (.int p4), .val (.int v1), .val (.ref b2), .val (.int (1 : Int32)), .val (.int (0 : Int32)), .unset] [(.int ((p2 &&& (2147483647 : Int32)) % v1)), (.ref b2)]))
      obtain ⟨cq39, kq39, qa39, qb39, qc39⟩ := isOf hZ e7 Eq3
      obtain ⟨_, _, ⟨T39, L39, k39, n39⟩, -, X39, ⟨Lc39, hQ39, l39, y39, z39⟩, st39⟩ := X7.virtualBack hx (y := (⟨"com/example/crossbook/crossbook/Account", "holdingToCredit", "(I)Lcom/example/crossbook/crossbook/Holding;"⟩ : MethodName)) (z := (⟨"com/example/crossbook/crossbook/Account", "holdingToCredit", "(I)Lcom/example/crossbook/crossbook/Holding;"⟩ : MethodName)) hown (mvT hZ (hw _ (List.mem_of_getElem? (i := 19) rfl))) (mvT hZ (hw _ (List.mem_of_getElem? (i := 20) rfl))) (notFace_of_selects (args := #[]) (mvT hZ (hw _ (List.mem_of_getElem? (i := 22) rfl)))) (mvT hZ (hw _ (List.mem_of_getElem? (i := 22) rfl))) (mvT hZ (hw _ (List.mem_of_getElem? (i := 21) rfl))) (by decide) (backOf (W := 0) (rm4 l Z _ hw [] b2 ((p2 &&& (2147483647 : Int32)) % v1) bq3 kq3 v1 false T3.heap n0 Z3 Fq3 Hq3 Oq3 gb3 (own_ix p2 hc13).1 (own_ix p2 hc13).2 neq) hZ (hw _ (List.mem_of_getElem? (i := 23) rfl)) (hw _ (List.mem_of_getElem? (i := 2) rfl)) (by decide) (by decide)) qa39 qc39 (g := (mkF m 55 #[.val (.int p0), .val (.int p1), .val (.int p2), .val (.int p3), .val (.int p4), .val (.int v1), .val (.ref b2), .val (.int (1 : Int32)), .val (.int (0 : Int32)), .unset] [(.int ((p2 &&& (2147483647 : Int32)) % v1)), (.ref b2)])) rfl (by rw [hml]; rfl) (Steps.refl _) (argsL := [(.int ((p2 &&& (2147483647 : Int32)) % v1))]) (rest := []) (lenOf own_pd3 rfl) rfl (by show 2 * 0 + _ ≤ _; exact Nat.le_of_eq rfl) (hb hby at_55) (fun _ _ => ⟨rfl, e7, (by decide : 2 + 1 ≤ _), (by decide : 8 + 4 ≤ _)⟩)
      dsimp only [Pt.U, Pt.locs, Pt.cells, Pt.slots] at X39 l39 y39 z39 st39 hQ39
      subst l39 y39 z39
      obtain ⟨⟨y39, rfl⟩, Nq39, Kq39, Hq39⟩ := hQ39
      have N39 := Fr.app N7 Nq39
      have f39_0 := Eq3.keep Kq39
      have f39_1 := Fq3.keep Kq39 (ninS neq nin0)
      have Z39 : n0 ≤ T39.heap.size := Nat.le_trans Z3 Kq39.1
      refine Ends.via (fun _ k => st39.trans k) ?_
      show Ends p e below s 24 128 (Q0 Z p0 p1 p2 p3 p4  h0 n0) (T39.setTop (mkF m 58 #[.val (.int p0), .val (.int p1), .val (.int p2), .val (.int p3), .val (.int p4), .val (.int v1), .val (.ref b2), .val (.int (1 : Int32)), .val (.int (0 : Int32)), .unset] [(.ref y39)]))
      refine Ends.via (fun _ k => XS.pop X39.here hx rfl (hb hby at_58) rfl rfl k) ?_
      show Ends p e below s 24 128 (Q0 Z p0 p1 p2 p3 p4  h0 n0) (T39.setTop (mkF m 59 #[.val (.int p0), .val (.int p1), .val (.int p2), .val (.int p3), .val (.int p4), .val (.int v1), .val (.ref b2), .val (.int (1 : Int32)), .val (.int (0 : Int32)), .unset] []))
      refine Ends.via (fun _ k => XS.iconst X39.here hx rfl (hb hby at_59) k) ?_
      show Ends p e below s 24 128 (Q0 Z p0 p1 p2 p3 p4  h0 n0) (T39.setTop (mkF m 60 #[.val (.int p0), .val (.int p1), .val (.int p2), .val (.int p3), .val (.int p4), .val (.int v1), .val (.ref b2), .val (.int (1 : Int32)), .val (.int (0 : Int32)), .unset] [(.int (1 : Int32))]))
      refine Ends.via (fun _ k => XS.istore X39.here hx rfl (hb hby at_60) rfl (l' := #[.val (.int p0), .val (.int p1), .val (.int p2), .val (.int p3), .val (.int p4), .val (.int v1), .val (.ref b2), .val (.int (1 : Int32)), .val (.int (1 : Int32)), .unset]) rfl k) ?_
      show Ends p e below s 24 128 (Q0 Z p0 p1 p2 p3 p4  h0 n0) (T39.setTop (mkF m 62 #[.val (.int p0), .val (.int p1), .val (.int p2), .val (.int p3), .val (.int p4), .val (.int v1), .val (.ref b2), .val (.int (1 : Int32)), .val (.int (1 : Int32)), .unset] []))
      refine Ends.via (fun _ k => XS.iloadN X39.here hx rfl (hb hby at_62) rfl k) ?_
      show Ends p e below s 24 128 (Q0 Z p0 p1 p2 p3 p4  h0 n0) (T39.setTop (mkF m 63 #[.val (.int p0), .val (.int p1), .val (.int p2), .val (.int p3), .val (.int p4), .val (.int v1), .val (.ref b2), .val (.int (1 : Int32)), .val (.int (1 : Int32)), .unset] [(.int p1)]))
      refine Ends.via (fun _ k => XS.iconst X39.here hx rfl (hb hby at_63) k) ?_
      show Ends p e below s 24 128 (Q0 Z p0 p1 p2 p3 p4  h0 n0) (T39.setTop (mkF m 64 #[.val (.int p0), .val (.int p1), .val (.int p2), .val (.int p3), .val (.int p4), .val (.int v1), .val (.ref b2), .val (.int (1 : Int32)), .val (.int (1 : Int32)), .unset] [(.int (2 : Int32)), (.int p1)]))
      refine Ends.via (fun _ k => XS.iand X39.here hx rfl (hb hby at_64) rfl k) ?_
      show Ends p e below s 24 128 (Q0 Z p0 p1 p2 p3 p4  h0 n0) (T39.setTop (mkF m 65 #[.val (.int p0), .val (.int p1), .val (.int p2), .val (.int p3), .val (.int p4), .val (.int v1), .val (.ref b2), .val (.int (1 : Int32)), .val (.int (1 : Int32)), .unset] [(.int (p1 &&& (2 : Int32)))]))
      by_cases hc40 : (p1 &&& (2 : Int32)) = (0 : Int32)
      · refine Ends.via (fun _ k => XS.ifYes X39.here hx rfl (pc0 := 65) (pc' := 84) rfl (hb hby at_65) rfl ((if0 _ _).trans (teq hc40).1) (by decide) (by decide) k) ?_
        show Ends p e below s 24 128 (Q0 Z p0 p1 p2 p3 p4  h0 n0) (T39.setTop (mkF m 84 #[.val (.int p0), .val (.int p1), .val (.int p2), .val (.int p3), .val (.int p4), .val (.int v1), .val (.ref b2), .val (.int (1 : Int32)), .val (.int (1 : Int32)), .unset] []))
        refine Ends.via (fun _ k => XS.iloadN X39.here hx rfl (hb hby at_84) rfl k) ?_
        show Ends p e below s 24 128 (Q0 Z p0 p1 p2 p3 p4  h0 n0) (T39.setTop (mkF m 85 #[.val (.int p0), .val (.int p1), .val (.int p2), .val (.int p3), .val (.int p4), .val (.int v1), .val (.ref b2), .val (.int (1 : Int32)), .val (.int (1 : Int32)), .unset] [(.int p1)]))
        refine Ends.via (fun _ k => XS.iconst X39.here hx rfl (hb hby at_85) k) ?_
        show Ends p e below s 24 128 (Q0 Z p0 p1 p2 p3 p4  h0 n0) (T39.setTop (mkF m 86 #[.val (.int p0), .val (.int p1), .val (.int p2), .val (.int p3), .val (.int p4), .val (.int v1), .val (.ref b2), .val (.int (1 : Int32)), .val (.int (1 : Int32)), .unset] [(.int (4 : Int32)), (.int p1)]))
        refine Ends.via (fun _ k => XS.iand X39.here hx rfl (hb hby at_86) rfl k) ?_
        show Ends p e below s 24 128 (Q0 Z p0 p1 p2 p3 p4  h0 n0) (T39.setTop (mkF m 87 #[.val (.int p0), .val (.int p1), .val (.int p2), .val (.int p3), .val (.int p4), .val (.int v1), .val (.ref b2), .val (.int (1 : Int32)), .val (.int (1 : Int32)), .unset] [(.int (p1 &&& (4 : Int32)))]))
        by_cases hc41 : (p1 &&& (4 : Int32)) = (0 : Int32)
        · refine Ends.via (fun _ k => XS.ifYes X39.here hx rfl (pc0 := 87) (pc' := 107) rfl (hb hby at_87) rfl ((if0 _ _).trans (teq hc41).1) (by decide) (by decide) k) ?_
          show Ends p e below s 24 128 (Q0 Z p0 p1 p2 p3 p4  h0 n0) (T39.setTop (mkF m 107 #[.val (.int p0), .val (.int p1), .val (.int p2), .val (.int p3), .val (.int p4), .val (.int v1), .val (.ref b2), .val (.int (1 : Int32)), .val (.int (1 : Int32)), .unset] []))
          refine Ends.via (fun _ k => XS.aload X39.here hx rfl (hb hby at_107) rfl rfl k) ?_
          show Ends p e below s 24 128 (Q0 Z p0 p1 p2 p3 p4  h0 n0) (T39.setTop (mkF m 109 #[.val (.int p0), .val (.int p1), .val (.int p2), .val (.int p3), .val (.int p4), .val (.int v1), .val (.ref b2), .val (.int (1 : Int32)), .val (.int (1 : Int32)), .unset] [(.ref b2)]))
          obtain ⟨cq42, kq42, qa42, qb42, qc42⟩ := isOf hZ rfl f39_0
          obtain ⟨_, _, ⟨T42, L42, k42, n42⟩, -, X42, ⟨Lc42, hQ42, l42, y42, z42⟩, st42⟩ := X39.virtualBack hx (y := (⟨"com/example/crossbook/crossbook/Account", "holdsAny", "()Z"⟩ : MethodName)) (z := (⟨"com/example/crossbook/crossbook/Account", "holdsAny", "()Z"⟩ : MethodName)) hown (mvT hZ (hw _ (List.mem_of_getElem? (i := 13) rfl))) (mvT hZ (hw _ (List.mem_of_getElem? (i := 14) rfl))) (notFace_of_selects (args := #[]) (mvT hZ (hw _ (List.mem_of_getElem? (i := 16) rfl)))) (mvT hZ (hw _ (List.mem_of_getElem? (i := 16) rfl))) (mvT hZ (hw _ (List.mem_of_getElem? (i := 15) rfl))) (by decide) (backOf (W := 0) (rm3 l Z _ hw [] b2  bq3 kq3 v1 true T39.heap n0 Z39 f39_1 Hq39) hZ (hw _ (List.mem_of_getElem? (i := 17) rfl)) (hw _ (List.mem_of_getElem? (i := 2) rfl)) (by decide) (by decide)) qa42 qc42 (g := (mkF m 109 #[.val (.int p0), .val (.int p1), .val (.int p2), .val (.int p3), .val (.int p4), .val (.int v1), .val (.ref b2), .val (.int (1 : Int32)), .val (.int (1 : Int32)), .unset] [(.ref b2)])) rfl (by rw [hml]; rfl) (Steps.refl _) (argsL := []) (rest := []) (lenOf own_pd1 rfl) rfl (by show 2 * 0 + _ ≤ _; exact Nat.le_of_eq rfl) (hb hby at_109) (fun _ _ => ⟨rfl, rfl, (by decide : 3 + 0 ≤ _), (by decide : 12 + 0 ≤ _)⟩)
          dsimp only [Pt.U, Pt.locs, Pt.cells, Pt.slots] at X42 l42 y42 z42 st42 hQ42
          subst l42 y42 z42
          obtain ⟨rfl, Nq42, e42⟩ := hQ42
          have N42 := Fr.app N39 Nq42
          refine Ends.via (fun _ k => st42.trans k) ?_
          show Ends p e below s 24 128 (Q0 Z p0 p1 p2 p3 p4  h0 n0) (T42.setTop (mkF m 112 #[.val (.int p0), .val (.int p1), .val (.int p2), .val (.int p3), .val (.int p4), .val (.int v1), .val (.ref b2), .val (.int (1 : Int32)), .val (.int (1 : Int32)), .unset] [(.int (1 : Int32))]))
          refine Ends.via (fun _ k => XS.istore X42.here hx rfl (hb hby at_112) rfl (l' := #[.val (.int p0), .val (.int p1), .val (.int p2), .val (.int p3), .val (.int p4), .val (.int v1), .val (.ref b2), .val (.int (1 : Int32)), .val (.int (1 : Int32)), .val (.int (1 : Int32))]) rfl k) ?_
          show Ends p e below s 24 128 (Q0 Z p0 p1 p2 p3 p4  h0 n0) (T42.setTop (mkF m 114 #[.val (.int p0), .val (.int p1), .val (.int p2), .val (.int p3), .val (.int p4), .val (.int v1), .val (.ref b2), .val (.int (1 : Int32)), .val (.int (1 : Int32)), .val (.int (1 : Int32))] []))
          refine Ends.via (fun _ k => XS.iload X42.here hx rfl (hb hby at_114) rfl k) ?_
          show Ends p e below s 24 128 (Q0 Z p0 p1 p2 p3 p4  h0 n0) (T42.setTop (mkF m 116 #[.val (.int p0), .val (.int p1), .val (.int p2), .val (.int p3), .val (.int p4), .val (.int v1), .val (.ref b2), .val (.int (1 : Int32)), .val (.int (1 : Int32)), .val (.int (1 : Int32))] [(.int (1 : Int32))]))
          have hf43 : ¬ ((1 : Int32) = (0 : Int32)) := by decide
          refine Ends.via (fun _ k => XS.ifNo X42.here hx rfl (hb hby at_116) rfl ((if0 _ _).trans (feq hf43).1) k) ?_
          show Ends p e below s 24 128 (Q0 Z p0 p1 p2 p3 p4  h0 n0) (T42.setTop (mkF m 119 #[.val (.int p0), .val (.int p1), .val (.int p2), .val (.int p3), .val (.int p4), .val (.int v1), .val (.ref b2), .val (.int (1 : Int32)), .val (.int (1 : Int32)), .val (.int (1 : Int32))] []))
          refine Ends.via (fun _ k => XS.iload X42.here hx rfl (hb hby at_119) rfl k) ?_
          show Ends p e below s 24 128 (Q0 Z p0 p1 p2 p3 p4  h0 n0) (T42.setTop (mkF m 121 #[.val (.int p0), .val (.int p1), .val (.int p2), .val (.int p3), .val (.int p4), .val (.int v1), .val (.ref b2), .val (.int (1 : Int32)), .val (.int (1 : Int32)), .val (.int (1 : Int32))] [(.int (1 : Int32))]))
          refine Ends.via (fun _ k => XS.iload X42.here hx rfl (hb hby at_121) rfl k) ?_
          show Ends p e below s 24 128 (Q0 Z p0 p1 p2 p3 p4  h0 n0) (T42.setTop (mkF m 123 #[.val (.int p0), .val (.int p1), .val (.int p2), .val (.int p3), .val (.int p4), .val (.int v1), .val (.ref b2), .val (.int (1 : Int32)), .val (.int (1 : Int32)), .val (.int (1 : Int32))] [(.int (1 : Int32)), (.int (1 : Int32))]))
          have hf44 : (1 : Int32) = (1 : Int32) := by decide
          refine Ends.via (fun _ k => XS.icmpNo X42.here hx rfl (hb hby at_123) rfl (teq hf44).2 k) ?_
          show Ends p e below s 24 128 (Q0 Z p0 p1 p2 p3 p4  h0 n0) (T42.setTop (mkF m 126 #[.val (.int p0), .val (.int p1), .val (.int p2), .val (.int p3), .val (.int p4), .val (.int v1), .val (.ref b2), .val (.int (1 : Int32)), .val (.int (1 : Int32)), .val (.int (1 : Int32))] []))
          refine Ends.via (fun _ k => XS.iconst X42.here hx rfl (hb hby at_126) k) ?_
          show Ends p e below s 24 128 (Q0 Z p0 p1 p2 p3 p4  h0 n0) (T42.setTop (mkF m 127 #[.val (.int p0), .val (.int p1), .val (.int p2), .val (.int p3), .val (.int p4), .val (.int v1), .val (.ref b2), .val (.int (1 : Int32)), .val (.int (1 : Int32)), .val (.int (1 : Int32))] [(.int (1 : Int32))]))
          refine Ends.via (fun _ k => XS.goto X42.here hx rfl (pc0 := 127) (pc' := 131) rfl (hb hby at_127) (by decide) (by decide) k) ?_
          show Ends p e below s 24 128 (Q0 Z p0 p1 p2 p3 p4  h0 n0) (T42.setTop (mkF m 131 #[.val (.int p0), .val (.int p1), .val (.int p2), .val (.int p3), .val (.int p4), .val (.int v1), .val (.ref b2), .val (.int (1 : Int32)), .val (.int (1 : Int32)), .val (.int (1 : Int32))] [(.int (1 : Int32))]))
          refine Ends.ret X42 (v := some (.int (nar .boolean (1 : Int32)))) (fun h => by rw [Bd.returns] at h; cases h) Bd.notSynchronized (fun fs hr => retN X42 hx (t := .boolean) Bd.returns (by simp) (hb hby at_131) hr) ?_ (by decide) (by decide)
          exact ⟨rfl, N42⟩
        · refine Ends.via (fun _ k => XS.ifNo X39.here hx rfl (hb hby at_87) rfl ((if0 _ _).trans (feq hc41).1) k) ?_
          show Ends p e below s 24 128 (Q0 Z p0 p1 p2 p3 p4  h0 n0) (T39.setTop (mkF m 90 #[.val (.int p0), .val (.int p1), .val (.int p2), .val (.int p3), .val (.int p4), .val (.int v1), .val (.ref b2), .val (.int (1 : Int32)), .val (.int (1 : Int32)), .unset] []))
          refine Ends.via (fun _ k => XS.aload X39.here hx rfl (hb hby at_90) rfl rfl k) ?_
          show Ends p e below s 24 128 (Q0 Z p0 p1 p2 p3 p4  h0 n0) (T39.setTop (mkF m 92 #[.val (.int p0), .val (.int p1), .val (.int p2), .val (.int p3), .val (.int p4), .val (.int v1), .val (.ref b2), .val (.int (1 : Int32)), .val (.int (1 : Int32)), .unset] [(.ref b2)]))
          refine Ends.via (fun _ k => XS.iload X39.here hx rfl (hb hby at_92) rfl k) ?_
          show Ends p e below s 24 128 (Q0 Z p0 p1 p2 p3 p4  h0 n0) (T39.setTop (mkF m 94 #[.val (.int p0), .val (.int p1), .val (.int p2), .val (.int p3), .val (.int p4), .val (.int v1), .val (.ref b2), .val (.int (1 : Int32)), .val (.int (1 : Int32)), .unset] [(.int p4), (.ref b2)]))
          refine Ends.via (X39.ldcInt hx hown (mvT hZ (hw _ (List.mem_of_getElem? (i := 18) rfl))) (g := (mkF m 94 #[.val (.int p0), .val (.int p1), .val (.int p2), .val (.int p3), .val (.int p4), .val (.int v1), .val (.ref b2), .val (.int (1 : Int32)), .val (.int (1 : Int32)), .unset] [(.int p4), (.ref b2)])) rfl (hb hby at_94)) ?_
          show Ends p e below s 24 128 (Q0 Z p0 p1 p2 p3 p4  h0 n0) (T39.setTop (mkF m 96 #[.val (.int p0), .val (.int p1), .val (.int p2), .val (.int p3), .val (.int p4), .val (.int v1), .val (.ref b2), .val (.int (1 : Int32)), .val (.int (1 : Int32)), .unset] [(.int (2147483647 : Int32)), (.int p4), (.ref b2)]))
          refine Ends.via (fun _ k => XS.iand X39.here hx rfl (hb hby at_96) rfl k) ?_
          show Ends p e below s 24 128 (Q0 Z p0 p1 p2 p3 p4  h0 n0) (T39.setTop (mkF m 97 #[.val (.int p0), .val (.int p1), .val (.int p2), .val (.int p3), .val (.int p4), .val (.int v1), .val (.ref b2), .val (.int (1 : Int32)), .val (.int (1 : Int32)), .unset] [(.int (p4 &&& (2147483647 : Int32))), (.ref b2)]))
          refine Ends.via (fun _ k => XS.iload X39.here hx rfl (hb hby at_97) rfl k) ?_
          show Ends p e below s 24 128 (Q0 Z p0 p1 p2 p3 p4  h0 n0) (T39.setTop (mkF m 99 #[.val (.int p0), .val (.int p1), .val (.int p2), .val (.int p3), .val (.int p4), .val (.int v1), .val (.ref b2), .val (.int (1 : Int32)), .val (.int (1 : Int32)), .unset] [(.int v1), (.int (p4 &&& (2147483647 : Int32))), (.ref b2)]))
          refine Ends.via (fun _ k => iremM X39 hx rfl (hb hby at_99) rfl (own_nz hc13) k) ?_
          show Ends p e below s 24 128 (Q0 Z p0 p1 p2 p3 p4  h0 n0) (T39.setTop (mkF m 100 #[.val (.int p0), .val (.int p1), .val (.int p2), .val (.int p3), .val (.int p4), .val (.int v1), .val (.ref b2), .val (.int (1 : Int32)), .val (.int (1 : Int32)), .unset] [(.int ((p4 &&& (2147483647 : Int32)) % v1)), (.ref b2)]))
          obtain ⟨cq45, kq45, qa45, qb45, qc45⟩ := isOf hZ rfl f39_0
          obtain ⟨_, _, ⟨T45, L45, k45, n45⟩, -, X45, ⟨Lc45, hQ45, l45, y45, z45⟩, st45⟩ := X39.virtualBack hx (y := (⟨"com/example/crossbook/crossbook/Account", "holdingToCredit", "(I)Lcom/example/crossbook/crossbook/Holding;"⟩ : MethodName)) (z := (⟨"com/example/crossbook/crossbook/Account", "holdingToCredit", "(I)Lcom/example/crossbook/crossbook/Holding;"⟩ : MethodName)) hown (mvT hZ (hw _ (List.mem_of_getElem? (i := 19) rfl))) (mvT hZ (hw _ (List.mem_of_getElem? (i := 20) rfl))) (notFace_of_selects (args := #[]) (mvT hZ (hw _ (List.mem_of_getElem? (i := 22) rfl)))) (mvT hZ (hw _ (List.mem_of_getElem? (i := 22) rfl))) (mvT hZ (hw _ (List.mem_of_getElem? (i := 21) rfl))) (by decide) (backOf (W := 0) (rm4 l Z _ hw [] b2 ((p4 &&& (2147483647 : Int32)) % v1) bq3 kq3 v1 true T39.heap n0 Z39 f39_1 Hq39 Oq3 gb3 (own_ix p4 hc13).1 (own_ix p4 hc13).2 neq) hZ (hw _ (List.mem_of_getElem? (i := 23) rfl)) (hw _ (List.mem_of_getElem? (i := 2) rfl)) (by decide) (by decide)) qa45 qc45 (g := (mkF m 100 #[.val (.int p0), .val (.int p1), .val (.int p2), .val (.int p3), .val (.int p4), .val (.int v1), .val (.ref b2), .val (.int (1 : Int32)), .val (.int (1 : Int32)), .unset] [(.int ((p4 &&& (2147483647 : Int32)) % v1)), (.ref b2)])) rfl (by rw [hml]; rfl) (Steps.refl _) (argsL := [(.int ((p4 &&& (2147483647 : Int32)) % v1))]) (rest := []) (lenOf own_pd3 rfl) rfl (by show 2 * 0 + _ ≤ _; exact Nat.le_of_eq rfl) (hb hby at_100) (fun _ _ => ⟨rfl, rfl, (by decide : 3 + 1 ≤ _), (by decide : 12 + 4 ≤ _)⟩)
          dsimp only [Pt.U, Pt.locs, Pt.cells, Pt.slots] at X45 l45 y45 z45 st45 hQ45
          subst l45 y45 z45
          obtain ⟨⟨y45, rfl⟩, Nq45, Kq45, Hq45⟩ := hQ45
          have N45 := Fr.app N39 Nq45
          have f45_0 := f39_0.keep Kq45
          have f45_1 := f39_1.keep Kq45 (ninS neq nin0)
          have Z45 : n0 ≤ T45.heap.size := Nat.le_trans Z39 Kq45.1
          refine Ends.via (fun _ k => st45.trans k) ?_
          show Ends p e below s 24 128 (Q0 Z p0 p1 p2 p3 p4  h0 n0) (T45.setTop (mkF m 103 #[.val (.int p0), .val (.int p1), .val (.int p2), .val (.int p3), .val (.int p4), .val (.int v1), .val (.ref b2), .val (.int (1 : Int32)), .val (.int (1 : Int32)), .unset] [(.ref y45)]))
          refine Ends.via (fun _ k => XS.pop X45.here hx rfl (hb hby at_103) rfl rfl k) ?_
          show Ends p e below s 24 128 (Q0 Z p0 p1 p2 p3 p4  h0 n0) (T45.setTop (mkF m 104 #[.val (.int p0), .val (.int p1), .val (.int p2), .val (.int p3), .val (.int p4), .val (.int v1), .val (.ref b2), .val (.int (1 : Int32)), .val (.int (1 : Int32)), .unset] []))
          refine Ends.via (fun _ k => XS.iconst X45.here hx rfl (hb hby at_104) k) ?_
          show Ends p e below s 24 128 (Q0 Z p0 p1 p2 p3 p4  h0 n0) (T45.setTop (mkF m 105 #[.val (.int p0), .val (.int p1), .val (.int p2), .val (.int p3), .val (.int p4), .val (.int v1), .val (.ref b2), .val (.int (1 : Int32)), .val (.int (1 : Int32)), .unset] [(.int (1 : Int32))]))
          refine Ends.via (fun _ k => XS.istore X45.here hx rfl (hb hby at_105) rfl (l' := #[.val (.int p0), .val (.int p1), .val (.int p2), .val (.int p3), .val (.int p4), .val (.int v1), .val (.ref b2), .val (.int (1 : Int32)), .val (.int (1 : Int32)), .unset]) rfl k) ?_
          show Ends p e below s 24 128 (Q0 Z p0 p1 p2 p3 p4  h0 n0) (T45.setTop (mkF m 107 #[.val (.int p0), .val (.int p1), .val (.int p2), .val (.int p3), .val (.int p4), .val (.int v1), .val (.ref b2), .val (.int (1 : Int32)), .val (.int (1 : Int32)), .unset] []))
          refine Ends.via (fun _ k => XS.aload X45.here hx rfl (hb hby at_107) rfl rfl k) ?_
          show Ends p e below s 24 128 (Q0 Z p0 p1 p2 p3 p4  h0 n0) (T45.setTop (mkF m 109 #[.val (.int p0), .val (.int p1), .val (.int p2), .val (.int p3), .val (.int p4), .val (.int v1), .val (.ref b2), .val (.int (1 : Int32)), .val (.int (1 : Int32)), .unset] [(.ref b2)]))
          obtain ⟨cq46, kq46, qa46, qb46, qc46⟩ := isOf hZ rfl f45_0
          obtain ⟨_, _, ⟨T46, L46, k46, n46⟩, -, X46, ⟨Lc46, hQ46, l46, y46, z46⟩, st46⟩ := X45.virtualBack hx (y := (⟨"com/example/crossbook/crossbook/Account", "holdsAny", "()Z"⟩ : MethodName)) (z := (⟨"com/example/crossbook/crossbook/Account", "holdsAny", "()Z"⟩ : MethodName)) hown (mvT hZ (hw _ (List.mem_of_getElem? (i := 13) rfl))) (mvT hZ (hw _ (List.mem_of_getElem? (i := 14) rfl))) (notFace_of_selects (args := #[]) (mvT hZ (hw _ (List.mem_of_getElem? (i := 16) rfl)))) (mvT hZ (hw _ (List.mem_of_getElem? (i := 16) rfl))) (mvT hZ (hw _ (List.mem_of_getElem? (i := 15) rfl))) (by decide) (backOf (W := 0) (rm3 l Z _ hw [] b2  bq3 kq3 v1 true T45.heap n0 Z45 f45_1 Hq45) hZ (hw _ (List.mem_of_getElem? (i := 17) rfl)) (hw _ (List.mem_of_getElem? (i := 2) rfl)) (by decide) (by decide)) qa46 qc46 (g := (mkF m 109 #[.val (.int p0), .val (.int p1), .val (.int p2), .val (.int p3), .val (.int p4), .val (.int v1), .val (.ref b2), .val (.int (1 : Int32)), .val (.int (1 : Int32)), .unset] [(.ref b2)])) rfl (by rw [hml]; rfl) (Steps.refl _) (argsL := []) (rest := []) (lenOf own_pd1 rfl) rfl (by show 2 * 0 + _ ≤ _; exact Nat.le_of_eq rfl) (hb hby at_109) (fun _ _ => ⟨rfl, rfl, (by decide : 4 + 0 ≤ _), (by decide : 16 + 0 ≤ _)⟩)
          dsimp only [Pt.U, Pt.locs, Pt.cells, Pt.slots] at X46 l46 y46 z46 st46 hQ46
          subst l46 y46 z46
          obtain ⟨rfl, Nq46, e46⟩ := hQ46
          have N46 := Fr.app N45 Nq46
          refine Ends.via (fun _ k => st46.trans k) ?_
          show Ends p e below s 24 128 (Q0 Z p0 p1 p2 p3 p4  h0 n0) (T46.setTop (mkF m 112 #[.val (.int p0), .val (.int p1), .val (.int p2), .val (.int p3), .val (.int p4), .val (.int v1), .val (.ref b2), .val (.int (1 : Int32)), .val (.int (1 : Int32)), .unset] [(.int (1 : Int32))]))
          refine Ends.via (fun _ k => XS.istore X46.here hx rfl (hb hby at_112) rfl (l' := #[.val (.int p0), .val (.int p1), .val (.int p2), .val (.int p3), .val (.int p4), .val (.int v1), .val (.ref b2), .val (.int (1 : Int32)), .val (.int (1 : Int32)), .val (.int (1 : Int32))]) rfl k) ?_
          show Ends p e below s 24 128 (Q0 Z p0 p1 p2 p3 p4  h0 n0) (T46.setTop (mkF m 114 #[.val (.int p0), .val (.int p1), .val (.int p2), .val (.int p3), .val (.int p4), .val (.int v1), .val (.ref b2), .val (.int (1 : Int32)), .val (.int (1 : Int32)), .val (.int (1 : Int32))] []))
          refine Ends.via (fun _ k => XS.iload X46.here hx rfl (hb hby at_114) rfl k) ?_
          show Ends p e below s 24 128 (Q0 Z p0 p1 p2 p3 p4  h0 n0) (T46.setTop (mkF m 116 #[.val (.int p0), .val (.int p1), .val (.int p2), .val (.int p3), .val (.int p4), .val (.int v1), .val (.ref b2), .val (.int (1 : Int32)), .val (.int (1 : Int32)), .val (.int (1 : Int32))] [(.int (1 : Int32))]))
          have hf47 : ¬ ((1 : Int32) = (0 : Int32)) := by decide
          refine Ends.via (fun _ k => XS.ifNo X46.here hx rfl (hb hby at_116) rfl ((if0 _ _).trans (feq hf47).1) k) ?_
          show Ends p e below s 24 128 (Q0 Z p0 p1 p2 p3 p4  h0 n0) (T46.setTop (mkF m 119 #[.val (.int p0), .val (.int p1), .val (.int p2), .val (.int p3), .val (.int p4), .val (.int v1), .val (.ref b2), .val (.int (1 : Int32)), .val (.int (1 : Int32)), .val (.int (1 : Int32))] []))
          refine Ends.via (fun _ k => XS.iload X46.here hx rfl (hb hby at_119) rfl k) ?_
          show Ends p e below s 24 128 (Q0 Z p0 p1 p2 p3 p4  h0 n0) (T46.setTop (mkF m 121 #[.val (.int p0), .val (.int p1), .val (.int p2), .val (.int p3), .val (.int p4), .val (.int v1), .val (.ref b2), .val (.int (1 : Int32)), .val (.int (1 : Int32)), .val (.int (1 : Int32))] [(.int (1 : Int32))]))
          refine Ends.via (fun _ k => XS.iload X46.here hx rfl (hb hby at_121) rfl k) ?_
          show Ends p e below s 24 128 (Q0 Z p0 p1 p2 p3 p4  h0 n0) (T46.setTop (mkF m 123 #[.val (.int p0), .val (.int p1), .val (.int p2), .val (.int p3), .val (.int p4), .val (.int v1), .val (.ref b2), .val (.int (1 : Int32)), .val (.int (1 : Int32)), .val (.int (1 : Int32))] [(.int (1 : Int32)), (.int (1 : Int32))]))
          have hf48 : (1 : Int32) = (1 : Int32) := by decide
          refine Ends.via (fun _ k => XS.icmpNo X46.here hx rfl (hb hby at_123) rfl (teq hf48).2 k) ?_
          show Ends p e below s 24 128 (Q0 Z p0 p1 p2 p3 p4  h0 n0) (T46.setTop (mkF m 126 #[.val (.int p0), .val (.int p1), .val (.int p2), .val (.int p3), .val (.int p4), .val (.int v1), .val (.ref b2), .val (.int (1 : Int32)), .val (.int (1 : Int32)), .val (.int (1 : Int32))] []))
          refine Ends.via (fun _ k => XS.iconst X46.here hx rfl (hb hby at_126) k) ?_
          show Ends p e below s 24 128 (Q0 Z p0 p1 p2 p3 p4  h0 n0) (T46.setTop (mkF m 127 #[.val (.int p0), .val (.int p1), .val (.int p2), .val (.int p3), .val (.int p4), .val (.int v1), .val (.ref b2), .val (.int (1 : Int32)), .val (.int (1 : Int32)), .val (.int (1 : Int32))] [(.int (1 : Int32))]))
          refine Ends.via (fun _ k => XS.goto X46.here hx rfl (pc0 := 127) (pc' := 131) rfl (hb hby at_127) (by decide) (by decide) k) ?_
          show Ends p e below s 24 128 (Q0 Z p0 p1 p2 p3 p4  h0 n0) (T46.setTop (mkF m 131 #[.val (.int p0), .val (.int p1), .val (.int p2), .val (.int p3), .val (.int p4), .val (.int v1), .val (.ref b2), .val (.int (1 : Int32)), .val (.int (1 : Int32)), .val (.int (1 : Int32))] [(.int (1 : Int32))]))
          refine Ends.ret X46 (v := some (.int (nar .boolean (1 : Int32)))) (fun h => by rw [Bd.returns] at h; cases h) Bd.notSynchronized (fun fs hr => retN X46 hx (t := .boolean) Bd.returns (by simp) (hb hby at_131) hr) ?_ (by decide) (by decide)
          exact ⟨rfl, N46⟩
      · refine Ends.via (fun _ k => XS.ifNo X39.here hx rfl (hb hby at_65) rfl ((if0 _ _).trans (feq hc40).1) k) ?_
        show Ends p e below s 24 128 (Q0 Z p0 p1 p2 p3 p4  h0 n0) (T39.setTop (mkF m 68 #[.val (.int p0), .val (.int p1), .val (.int p2), .val (.int p3), .val (.int p4), .val (.int v1), .val (.ref b2), .val (.int (1 : Int32)), .val (.int (1 : Int32)), .unset] []))
        refine Ends.via (fun _ k => XS.aload X39.here hx rfl (hb hby at_68) rfl rfl k) ?_
        show Ends p e below s 24 128 (Q0 Z p0 p1 p2 p3 p4  h0 n0) (T39.setTop (mkF m 70 #[.val (.int p0), .val (.int p1), .val (.int p2), .val (.int p3), .val (.int p4), .val (.int v1), .val (.ref b2), .val (.int (1 : Int32)), .val (.int (1 : Int32)), .unset] [(.ref b2)]))
        refine Ends.via (fun _ k => XS.iloadN X39.here hx rfl (hb hby at_70) rfl k) ?_
        show Ends p e below s 24 128 (Q0 Z p0 p1 p2 p3 p4  h0 n0) (T39.setTop (mkF m 71 #[.val (.int p0), .val (.int p1), .val (.int p2), .val (.int p3), .val (.int p4), .val (.int v1), .val (.ref b2), .val (.int (1 : Int32)), .val (.int (1 : Int32)), .unset] [(.int p3), (.ref b2)]))
        refine Ends.via (X39.ldcInt hx hown (mvT hZ (hw _ (List.mem_of_getElem? (i := 18) rfl))) (g := (mkF m 71 #[.val (.int p0), .val (.int p1), .val (.int p2), .val (.int p3), .val (.int p4), .val (.int v1), .val (.ref b2), .val (.int (1 : Int32)), .val (.int (1 : Int32)), .unset] [(.int p3), (.ref b2)])) rfl (hb hby at_71)) ?_
        show Ends p e below s 24 128 (Q0 Z p0 p1 p2 p3 p4  h0 n0) (T39.setTop (mkF m 73 #[.val (.int p0), .val (.int p1), .val (.int p2), .val (.int p3), .val (.int p4), .val (.int v1), .val (.ref b2), .val (.int (1 : Int32)), .val (.int (1 : Int32)), .unset] [(.int (2147483647 : Int32)), (.int p3), (.ref b2)]))
        refine Ends.via (fun _ k => XS.iand X39.here hx rfl (hb hby at_73) rfl k) ?_
        show Ends p e below s 24 128 (Q0 Z p0 p1 p2 p3 p4  h0 n0) (T39.setTop (mkF m 74 #[.val (.int p0), .val (.int p1), .val (.int p2), .val (.int p3), .val (.int p4), .val (.int v1), .val (.ref b2), .val (.int (1 : Int32)), .val (.int (1 : Int32)), .unset] [(.int (p3 &&& (2147483647 : Int32))), (.ref b2)]))
        refine Ends.via (fun _ k => XS.iload X39.here hx rfl (hb hby at_74) rfl k) ?_
        show Ends p e below s 24 128 (Q0 Z p0 p1 p2 p3 p4  h0 n0) (T39.setTop (mkF m 76 #[.val (.int p0), .val (.int p1), .val (.int p2), .val (.int p3), .val (.int p4), .val (.int v1), .val (.ref b2), .val (.int (1 : Int32)), .val (.int (1 : Int32)), .unset] [(.int v1), (.int (p3 &&& (2147483647 : Int32))), (.ref b2)]))
        refine Ends.via (fun _ k => iremM X39 hx rfl (hb hby at_76) rfl (own_nz hc13) k) ?_
        show Ends p e below s 24 128 (Q0 Z p0 p1 p2 p3 p4  h0 n0) (T39.setTop (mkF m 77 #[.val (.int p0), .val (.int p1), .val (.int p2), .val (.int p3), .val (.int p4), .val (.int v1), .val (.ref b2), .val (.int (1 : Int32)), .val (.int (1 : Int32)), .unset] [(.int ((p3 &&& (2147483647 : Int32)) % v1)), (.ref b2)]))
        obtain ⟨cq49, kq49, qa49, qb49, qc49⟩ := isOf hZ rfl f39_0
        obtain ⟨_, _, ⟨T49, L49, k49, n49⟩, -, X49, ⟨Lc49, hQ49, l49, y49, z49⟩, st49⟩ := X39.virtualBack hx (y := (⟨"com/example/crossbook/crossbook/Account", "holdingToCredit", "(I)Lcom/example/crossbook/crossbook/Holding;"⟩ : MethodName)) (z := (⟨"com/example/crossbook/crossbook/Account", "holdingToCredit", "(I)Lcom/example/crossbook/crossbook/Holding;"⟩ : MethodName)) hown (mvT hZ (hw _ (List.mem_of_getElem? (i := 19) rfl))) (mvT hZ (hw _ (List.mem_of_getElem? (i := 20) rfl))) (notFace_of_selects (args := #[]) (mvT hZ (hw _ (List.mem_of_getElem? (i := 22) rfl)))) (mvT hZ (hw _ (List.mem_of_getElem? (i := 22) rfl))) (mvT hZ (hw _ (List.mem_of_getElem? (i := 21) rfl))) (by decide) (backOf (W := 0) (rm4 l Z _ hw [] b2 ((p3 &&& (2147483647 : Int32)) % v1) bq3 kq3 v1 true T39.heap n0 Z39 f39_1 Hq39 Oq3 gb3 (own_ix p3 hc13).1 (own_ix p3 hc13).2 neq) hZ (hw _ (List.mem_of_getElem? (i := 23) rfl)) (hw _ (List.mem_of_getElem? (i := 2) rfl)) (by decide) (by decide)) qa49 qc49 (g := (mkF m 77 #[.val (.int p0), .val (.int p1), .val (.int p2), .val (.int p3), .val (.int p4), .val (.int v1), .val (.ref b2), .val (.int (1 : Int32)), .val (.int (1 : Int32)), .unset] [(.int ((p3 &&& (2147483647 : Int32)) % v1)), (.ref b2)])) rfl (by rw [hml]; rfl) (Steps.refl _) (argsL := [(.int ((p3 &&& (2147483647 : Int32)) % v1))]) (rest := []) (lenOf own_pd3 rfl) rfl (by show 2 * 0 + _ ≤ _; exact Nat.le_of_eq rfl) (hb hby at_77) (fun _ _ => ⟨rfl, rfl, (by decide : 3 + 1 ≤ _), (by decide : 12 + 4 ≤ _)⟩)
        dsimp only [Pt.U, Pt.locs, Pt.cells, Pt.slots] at X49 l49 y49 z49 st49 hQ49
        subst l49 y49 z49
        obtain ⟨⟨y49, rfl⟩, Nq49, Kq49, Hq49⟩ := hQ49
        have N49 := Fr.app N39 Nq49
        have f49_0 := f39_0.keep Kq49
        have f49_1 := f39_1.keep Kq49 (ninS neq nin0)
        have Z49 : n0 ≤ T49.heap.size := Nat.le_trans Z39 Kq49.1
        refine Ends.via (fun _ k => st49.trans k) ?_
        show Ends p e below s 24 128 (Q0 Z p0 p1 p2 p3 p4  h0 n0) (T49.setTop (mkF m 80 #[.val (.int p0), .val (.int p1), .val (.int p2), .val (.int p3), .val (.int p4), .val (.int v1), .val (.ref b2), .val (.int (1 : Int32)), .val (.int (1 : Int32)), .unset] [(.ref y49)]))
        refine Ends.via (fun _ k => XS.pop X49.here hx rfl (hb hby at_80) rfl rfl k) ?_
        show Ends p e below s 24 128 (Q0 Z p0 p1 p2 p3 p4  h0 n0) (T49.setTop (mkF m 81 #[.val (.int p0), .val (.int p1), .val (.int p2), .val (.int p3), .val (.int p4), .val (.int v1), .val (.ref b2), .val (.int (1 : Int32)), .val (.int (1 : Int32)), .unset] []))
        refine Ends.via (fun _ k => XS.iconst X49.here hx rfl (hb hby at_81) k) ?_
        show Ends p e below s 24 128 (Q0 Z p0 p1 p2 p3 p4  h0 n0) (T49.setTop (mkF m 82 #[.val (.int p0), .val (.int p1), .val (.int p2), .val (.int p3), .val (.int p4), .val (.int v1), .val (.ref b2), .val (.int (1 : Int32)), .val (.int (1 : Int32)), .unset] [(.int (1 : Int32))]))
        refine Ends.via (fun _ k => XS.istore X49.here hx rfl (hb hby at_82) rfl (l' := #[.val (.int p0), .val (.int p1), .val (.int p2), .val (.int p3), .val (.int p4), .val (.int v1), .val (.ref b2), .val (.int (1 : Int32)), .val (.int (1 : Int32)), .unset]) rfl k) ?_
        show Ends p e below s 24 128 (Q0 Z p0 p1 p2 p3 p4  h0 n0) (T49.setTop (mkF m 84 #[.val (.int p0), .val (.int p1), .val (.int p2), .val (.int p3), .val (.int p4), .val (.int v1), .val (.ref b2), .val (.int (1 : Int32)), .val (.int (1 : Int32)), .unset] []))
        refine Ends.via (fun _ k => XS.iloadN X49.here hx rfl (hb hby at_84) rfl k) ?_
        show Ends p e below s 24 128 (Q0 Z p0 p1 p2 p3 p4  h0 n0) (T49.setTop (mkF m 85 #[.val (.int p0), .val (.int p1), .val (.int p2), .val (.int p3), .val (.int p4), .val (.int v1), .val (.ref b2), .val (.int (1 : Int32)), .val (.int (1 : Int32)), .unset] [(.int p1)]))
        refine Ends.via (fun _ k => XS.iconst X49.here hx rfl (hb hby at_85) k) ?_
        show Ends p e below s 24 128 (Q0 Z p0 p1 p2 p3 p4  h0 n0) (T49.setTop (mkF m 86 #[.val (.int p0), .val (.int p1), .val (.int p2), .val (.int p3), .val (.int p4), .val (.int v1), .val (.ref b2), .val (.int (1 : Int32)), .val (.int (1 : Int32)), .unset] [(.int (4 : Int32)), (.int p1)]))
        refine Ends.via (fun _ k => XS.iand X49.here hx rfl (hb hby at_86) rfl k) ?_
        show Ends p e below s 24 128 (Q0 Z p0 p1 p2 p3 p4  h0 n0) (T49.setTop (mkF m 87 #[.val (.int p0), .val (.int p1), .val (.int p2), .val (.int p3), .val (.int p4), .val (.int v1), .val (.ref b2), .val (.int (1 : Int32)), .val (.int (1 : Int32)), .unset] [(.int (p1 &&& (4 : Int32)))]))
        by_cases hc50 : (p1 &&& (4 : Int32)) = (0 : Int32)
        · refine Ends.via (fun _ k => XS.ifYes X49.here hx rfl (pc0 := 87) (pc' := 107) rfl (hb hby at_87) rfl ((if0 _ _).trans (teq hc50).1) (by decide) (by decide) k) ?_
          show Ends p e below s 24 128 (Q0 Z p0 p1 p2 p3 p4  h0 n0) (T49.setTop (mkF m 107 #[.val (.int p0), .val (.int p1), .val (.int p2), .val (.int p3), .val (.int p4), .val (.int v1), .val (.ref b2), .val (.int (1 : Int32)), .val (.int (1 : Int32)), .unset] []))
          refine Ends.via (fun _ k => XS.aload X49.here hx rfl (hb hby at_107) rfl rfl k) ?_
          show Ends p e below s 24 128 (Q0 Z p0 p1 p2 p3 p4  h0 n0) (T49.setTop (mkF m 109 #[.val (.int p0), .val (.int p1), .val (.int p2), .val (.int p3), .val (.int p4), .val (.int v1), .val (.ref b2), .val (.int (1 : Int32)), .val (.int (1 : Int32)), .unset] [(.ref b2)]))
          obtain ⟨cq51, kq51, qa51, qb51, qc51⟩ := isOf hZ rfl f49_0
          obtain ⟨_, _, ⟨T51, L51, k51, n51⟩, -, X51, ⟨Lc51, hQ51, l51, y51, z51⟩, st51⟩ := X49.virtualBack hx (y := (⟨"com/example/crossbook/crossbook/Account", "holdsAny", "()Z"⟩ : MethodName)) (z := (⟨"com/example/crossbook/crossbook/Account", "holdsAny", "()Z"⟩ : MethodName)) hown (mvT hZ (hw _ (List.mem_of_getElem? (i := 13) rfl))) (mvT hZ (hw _ (List.mem_of_getElem? (i := 14) rfl))) (notFace_of_selects (args := #[]) (mvT hZ (hw _ (List.mem_of_getElem? (i := 16) rfl)))) (mvT hZ (hw _ (List.mem_of_getElem? (i := 16) rfl))) (mvT hZ (hw _ (List.mem_of_getElem? (i := 15) rfl))) (by decide) (backOf (W := 0) (rm3 l Z _ hw [] b2  bq3 kq3 v1 true T49.heap n0 Z49 f49_1 Hq49) hZ (hw _ (List.mem_of_getElem? (i := 17) rfl)) (hw _ (List.mem_of_getElem? (i := 2) rfl)) (by decide) (by decide)) qa51 qc51 (g := (mkF m 109 #[.val (.int p0), .val (.int p1), .val (.int p2), .val (.int p3), .val (.int p4), .val (.int v1), .val (.ref b2), .val (.int (1 : Int32)), .val (.int (1 : Int32)), .unset] [(.ref b2)])) rfl (by rw [hml]; rfl) (Steps.refl _) (argsL := []) (rest := []) (lenOf own_pd1 rfl) rfl (by show 2 * 0 + _ ≤ _; exact Nat.le_of_eq rfl) (hb hby at_109) (fun _ _ => ⟨rfl, rfl, (by decide : 4 + 0 ≤ _), (by decide : 16 + 0 ≤ _)⟩)
          dsimp only [Pt.U, Pt.locs, Pt.cells, Pt.slots] at X51 l51 y51 z51 st51 hQ51
          subst l51 y51 z51
          obtain ⟨rfl, Nq51, e51⟩ := hQ51
          have N51 := Fr.app N49 Nq51
          refine Ends.via (fun _ k => st51.trans k) ?_
          show Ends p e below s 24 128 (Q0 Z p0 p1 p2 p3 p4  h0 n0) (T51.setTop (mkF m 112 #[.val (.int p0), .val (.int p1), .val (.int p2), .val (.int p3), .val (.int p4), .val (.int v1), .val (.ref b2), .val (.int (1 : Int32)), .val (.int (1 : Int32)), .unset] [(.int (1 : Int32))]))
          refine Ends.via (fun _ k => XS.istore X51.here hx rfl (hb hby at_112) rfl (l' := #[.val (.int p0), .val (.int p1), .val (.int p2), .val (.int p3), .val (.int p4), .val (.int v1), .val (.ref b2), .val (.int (1 : Int32)), .val (.int (1 : Int32)), .val (.int (1 : Int32))]) rfl k) ?_
          show Ends p e below s 24 128 (Q0 Z p0 p1 p2 p3 p4  h0 n0) (T51.setTop (mkF m 114 #[.val (.int p0), .val (.int p1), .val (.int p2), .val (.int p3), .val (.int p4), .val (.int v1), .val (.ref b2), .val (.int (1 : Int32)), .val (.int (1 : Int32)), .val (.int (1 : Int32))] []))
          refine Ends.via (fun _ k => XS.iload X51.here hx rfl (hb hby at_114) rfl k) ?_
          show Ends p e below s 24 128 (Q0 Z p0 p1 p2 p3 p4  h0 n0) (T51.setTop (mkF m 116 #[.val (.int p0), .val (.int p1), .val (.int p2), .val (.int p3), .val (.int p4), .val (.int v1), .val (.ref b2), .val (.int (1 : Int32)), .val (.int (1 : Int32)), .val (.int (1 : Int32))] [(.int (1 : Int32))]))
          have hf52 : ¬ ((1 : Int32) = (0 : Int32)) := by decide
          refine Ends.via (fun _ k => XS.ifNo X51.here hx rfl (hb hby at_116) rfl ((if0 _ _).trans (feq hf52).1) k) ?_
          show Ends p e below s 24 128 (Q0 Z p0 p1 p2 p3 p4  h0 n0) (T51.setTop (mkF m 119 #[.val (.int p0), .val (.int p1), .val (.int p2), .val (.int p3), .val (.int p4), .val (.int v1), .val (.ref b2), .val (.int (1 : Int32)), .val (.int (1 : Int32)), .val (.int (1 : Int32))] []))
          refine Ends.via (fun _ k => XS.iload X51.here hx rfl (hb hby at_119) rfl k) ?_
          show Ends p e below s 24 128 (Q0 Z p0 p1 p2 p3 p4  h0 n0) (T51.setTop (mkF m 121 #[.val (.int p0), .val (.int p1), .val (.int p2), .val (.int p3), .val (.int p4), .val (.int v1), .val (.ref b2), .val (.int (1 : Int32)), .val (.int (1 : Int32)), .val (.int (1 : Int32))] [(.int (1 : Int32))]))
          refine Ends.via (fun _ k => XS.iload X51.here hx rfl (hb hby at_121) rfl k) ?_
          show Ends p e below s 24 128 (Q0 Z p0 p1 p2 p3 p4  h0 n0) (T51.setTop (mkF m 123 #[.val (.int p0), .val (.int p1), .val (.int p2), .val (.int p3), .val (.int p4), .val (.int v1), .val (.ref b2), .val (.int (1 : Int32)), .val (.int (1 : Int32)), .val (.int (1 : Int32))] [(.int (1 : Int32)), (.int (1 : Int32))]))
          have hf53 : (1 : Int32) = (1 : Int32) := by decide
          refine Ends.via (fun _ k => XS.icmpNo X51.here hx rfl (hb hby at_123) rfl (teq hf53).2 k) ?_
          show Ends p e below s 24 128 (Q0 Z p0 p1 p2 p3 p4  h0 n0) (T51.setTop (mkF m 126 #[.val (.int p0), .val (.int p1), .val (.int p2), .val (.int p3), .val (.int p4), .val (.int v1), .val (.ref b2), .val (.int (1 : Int32)), .val (.int (1 : Int32)), .val (.int (1 : Int32))] []))
          refine Ends.via (fun _ k => XS.iconst X51.here hx rfl (hb hby at_126) k) ?_
          show Ends p e below s 24 128 (Q0 Z p0 p1 p2 p3 p4  h0 n0) (T51.setTop (mkF m 127 #[.val (.int p0), .val (.int p1), .val (.int p2), .val (.int p3), .val (.int p4), .val (.int v1), .val (.ref b2), .val (.int (1 : Int32)), .val (.int (1 : Int32)), .val (.int (1 : Int32))] [(.int (1 : Int32))]))
          refine Ends.via (fun _ k => XS.goto X51.here hx rfl (pc0 := 127) (pc' := 131) rfl (hb hby at_127) (by decide) (by decide) k) ?_
          show Ends p e below s 24 128 (Q0 Z p0 p1 p2 p3 p4  h0 n0) (T51.setTop (mkF m 131 #[.val (.int p0), .val (.int p1), .val (.int p2), .val (.int p3), .val (.int p4), .val (.int v1), .val (.ref b2), .val (.int (1 : Int32)), .val (.int (1 : Int32)), .val (.int (1 : Int32))] [(.int (1 : Int32))]))
          refine Ends.ret X51 (v := some (.int (nar .boolean (1 : Int32)))) (fun h => by rw [Bd.returns] at h; cases h) Bd.notSynchronized (fun fs hr => retN X51 hx (t := .boolean) Bd.returns (by simp) (hb hby at_131) hr) ?_ (by decide) (by decide)
          exact ⟨rfl, N51⟩
        · refine Ends.via (fun _ k => XS.ifNo X49.here hx rfl (hb hby at_87) rfl ((if0 _ _).trans (feq hc50).1) k) ?_
          show Ends p e below s 24 128 (Q0 Z p0 p1 p2 p3 p4  h0 n0) (T49.setTop (mkF m 90 #[.val (.int p0), .val (.int p1), .val (.int p2), .val (.int p3), .val (.int p4), .val (.int v1), .val (.ref b2), .val (.int (1 : Int32)), .val (.int (1 : Int32)), .unset] []))
          refine Ends.via (fun _ k => XS.aload X49.here hx rfl (hb hby at_90) rfl rfl k) ?_
          show Ends p e below s 24 128 (Q0 Z p0 p1 p2 p3 p4  h0 n0) (T49.setTop (mkF m 92 #[.val (.int p0), .val (.int p1), .val (.int p2), .val (.int p3), .val (.int p4), .val (.int v1), .val (.ref b2), .val (.int (1 : Int32)), .val (.int (1 : Int32)), .unset] [(.ref b2)]))
          refine Ends.via (fun _ k => XS.iload X49.here hx rfl (hb hby at_92) rfl k) ?_
          show Ends p e below s 24 128 (Q0 Z p0 p1 p2 p3 p4  h0 n0) (T49.setTop (mkF m 94 #[.val (.int p0), .val (.int p1), .val (.int p2), .val (.int p3), .val (.int p4), .val (.int v1), .val (.ref b2), .val (.int (1 : Int32)), .val (.int (1 : Int32)), .unset] [(.int p4), (.ref b2)]))
          refine Ends.via (X49.ldcInt hx hown (mvT hZ (hw _ (List.mem_of_getElem? (i := 18) rfl))) (g := (mkF m 94 #[.val (.int p0), .val (.int p1), .val (.int p2), .val (.int p3), .val (.int p4), .val (.int v1), .val (.ref b2), .val (.int (1 : Int32)), .val (.int (1 : Int32)), .unset] [(.int p4), (.ref b2)])) rfl (hb hby at_94)) ?_
          show Ends p e below s 24 128 (Q0 Z p0 p1 p2 p3 p4  h0 n0) (T49.setTop (mkF m 96 #[.val (.int p0), .val (.int p1), .val (.int p2), .val (.int p3), .val (.int p4), .val (.int v1), .val (.ref b2), .val (.int (1 : Int32)), .val (.int (1 : Int32)), .unset] [(.int (2147483647 : Int32)), (.int p4), (.ref b2)]))
          refine Ends.via (fun _ k => XS.iand X49.here hx rfl (hb hby at_96) rfl k) ?_
          show Ends p e below s 24 128 (Q0 Z p0 p1 p2 p3 p4  h0 n0) (T49.setTop (mkF m 97 #[.val (.int p0), .val (.int p1), .val (.int p2), .val (.int p3), .val (.int p4), .val (.int v1), .val (.ref b2), .val (.int (1 : Int32)), .val (.int (1 : Int32)), .unset] [(.int (p4 &&& (2147483647 : Int32))), (.ref b2)]))
          refine Ends.via (fun _ k => XS.iload X49.here hx rfl (hb hby at_97) rfl k) ?_
          show Ends p e below s 24 128 (Q0 Z p0 p1 p2 p3 p4  h0 n0) (T49.setTop (mkF m 99 #[.val (.int p0), .val (.int p1), .val (.int p2), .val (.int p3), .val (.int p4), .val (.int v1), .val (.ref b2), .val (.int (1 : Int32)), .val (.int (1 : Int32)), .unset] [(.int v1), (.int (p4 &&& (2147483647 : Int32))), (.ref b2)]))
          refine Ends.via (fun _ k => iremM X49 hx rfl (hb hby at_99) rfl (own_nz hc13) k) ?_
          show Ends p e below s 24 128 (Q0 Z p0 p1 p2 p3 p4  h0 n0) (T49.setTop (mkF m 100 #[.val (.int p0), .val (.int p1), .val (.int p2), .val (.int p3), .val (.int p4), .val (.int v1), .val (.ref b2), .val (.int (1 : Int32)), .val (.int (1 : Int32)), .unset] [(.int ((p4 &&& (2147483647 : Int32)) % v1)), (.ref b2)]))
          obtain ⟨cq54, kq54, qa54, qb54, qc54⟩ := isOf hZ rfl f49_0
          obtain ⟨_, _, ⟨T54, L54, k54, n54⟩, -, X54, ⟨Lc54, hQ54, l54, y54, z54⟩, st54⟩ := X49.virtualBack hx (y := (⟨"com/example/crossbook/crossbook/Account", "holdingToCredit", "(I)Lcom/example/crossbook/crossbook/Holding;"⟩ : MethodName)) (z := (⟨"com/example/crossbook/crossbook/Account", "holdingToCredit", "(I)Lcom/example/crossbook/crossbook/Holding;"⟩ : MethodName)) hown (mvT hZ (hw _ (List.mem_of_getElem? (i := 19) rfl))) (mvT hZ (hw _ (List.mem_of_getElem? (i := 20) rfl))) (notFace_of_selects (args := #[]) (mvT hZ (hw _ (List.mem_of_getElem? (i := 22) rfl)))) (mvT hZ (hw _ (List.mem_of_getElem? (i := 22) rfl))) (mvT hZ (hw _ (List.mem_of_getElem? (i := 21) rfl))) (by decide) (backOf (W := 0) (rm4 l Z _ hw [] b2 ((p4 &&& (2147483647 : Int32)) % v1) bq3 kq3 v1 true T49.heap n0 Z49 f49_1 Hq49 Oq3 gb3 (own_ix p4 hc13).1 (own_ix p4 hc13).2 neq) hZ (hw _ (List.mem_of_getElem? (i := 23) rfl)) (hw _ (List.mem_of_getElem? (i := 2) rfl)) (by decide) (by decide)) qa54 qc54 (g := (mkF m 100 #[.val (.int p0), .val (.int p1), .val (.int p2), .val (.int p3), .val (.int p4), .val (.int v1), .val (.ref b2), .val (.int (1 : Int32)), .val (.int (1 : Int32)), .unset] [(.int ((p4 &&& (2147483647 : Int32)) % v1)), (.ref b2)])) rfl (by rw [hml]; rfl) (Steps.refl _) (argsL := [(.int ((p4 &&& (2147483647 : Int32)) % v1))]) (rest := []) (lenOf own_pd3 rfl) rfl (by show 2 * 0 + _ ≤ _; exact Nat.le_of_eq rfl) (hb hby at_100) (fun _ _ => ⟨rfl, rfl, (by decide : 4 + 1 ≤ _), (by decide : 16 + 4 ≤ _)⟩)
          dsimp only [Pt.U, Pt.locs, Pt.cells, Pt.slots] at X54 l54 y54 z54 st54 hQ54
          subst l54 y54 z54
          obtain ⟨⟨y54, rfl⟩, Nq54, Kq54, Hq54⟩ := hQ54
          have N54 := Fr.app N49 Nq54
          have f54_0 := f49_0.keep Kq54
          have f54_1 := f49_1.keep Kq54 (ninS neq nin0)
          have Z54 : n0 ≤ T54.heap.size := Nat.le_trans Z49 Kq54.1
          refine Ends.via (fun _ k => st54.trans k) ?_
          show Ends p e below s 24 128 (Q0 Z p0 p1 p2 p3 p4  h0 n0) (T54.setTop (mkF m 103 #[.val (.int p0), .val (.int p1), .val (.int p2), .val (.int p3), .val (.int p4), .val (.int v1), .val (.ref b2), .val (.int (1 : Int32)), .val (.int (1 : Int32)), .unset] [(.ref y54)]))
          refine Ends.via (fun _ k => XS.pop X54.here hx rfl (hb hby at_103) rfl rfl k) ?_
          show Ends p e below s 24 128 (Q0 Z p0 p1 p2 p3 p4  h0 n0) (T54.setTop (mkF m 104 #[.val (.int p0), .val (.int p1), .val (.int p2), .val (.int p3), .val (.int p4), .val (.int v1), .val (.ref b2), .val (.int (1 : Int32)), .val (.int (1 : Int32)), .unset] []))
          refine Ends.via (fun _ k => XS.iconst X54.here hx rfl (hb hby at_104) k) ?_
          show Ends p e below s 24 128 (Q0 Z p0 p1 p2 p3 p4  h0 n0) (T54.setTop (mkF m 105 #[.val (.int p0), .val (.int p1), .val (.int p2), .val (.int p3), .val (.int p4), .val (.int v1), .val (.ref b2), .val (.int (1 : Int32)), .val (.int (1 : Int32)), .unset] [(.int (1 : Int32))]))
          refine Ends.via (fun _ k => XS.istore X54.here hx rfl (hb hby at_105) rfl (l' := #[.val (.int p0), .val (.int p1), .val (.int p2), .val (.int p3), .val (.int p4), .val (.int v1), .val (.ref b2), .val (.int (1 : Int32)), .val (.int (1 : Int32)), .unset]) rfl k) ?_
          show Ends p e below s 24 128 (Q0 Z p0 p1 p2 p3 p4  h0 n0) (T54.setTop (mkF m 107 #[.val (.int p0), .val (.int p1), .val (.int p2), .val (.int p3), .val (.int p4), .val (.int v1), .val (.ref b2), .val (.int (1 : Int32)), .val (.int (1 : Int32)), .unset] []))
          refine Ends.via (fun _ k => XS.aload X54.here hx rfl (hb hby at_107) rfl rfl k) ?_
          show Ends p e below s 24 128 (Q0 Z p0 p1 p2 p3 p4  h0 n0) (T54.setTop (mkF m 109 #[.val (.int p0), .val (.int p1), .val (.int p2), .val (.int p3), .val (.int p4), .val (.int v1), .val (.ref b2), .val (.int (1 : Int32)), .val (.int (1 : Int32)), .unset] [(.ref b2)]))
          obtain ⟨cq55, kq55, qa55, qb55, qc55⟩ := isOf hZ rfl f54_0
          obtain ⟨_, _, ⟨T55, L55, k55, n55⟩, -, X55, ⟨Lc55, hQ55, l55, y55, z55⟩, st55⟩ := X54.virtualBack hx (y := (⟨"com/example/crossbook/crossbook/Account", "holdsAny", "()Z"⟩ : MethodName)) (z := (⟨"com/example/crossbook/crossbook/Account", "holdsAny", "()Z"⟩ : MethodName)) hown (mvT hZ (hw _ (List.mem_of_getElem? (i := 13) rfl))) (mvT hZ (hw _ (List.mem_of_getElem? (i := 14) rfl))) (notFace_of_selects (args := #[]) (mvT hZ (hw _ (List.mem_of_getElem? (i := 16) rfl)))) (mvT hZ (hw _ (List.mem_of_getElem? (i := 16) rfl))) (mvT hZ (hw _ (List.mem_of_getElem? (i := 15) rfl))) (by decide) (backOf (W := 0) (rm3 l Z _ hw [] b2  bq3 kq3 v1 true T54.heap n0 Z54 f54_1 Hq54) hZ (hw _ (List.mem_of_getElem? (i := 17) rfl)) (hw _ (List.mem_of_getElem? (i := 2) rfl)) (by decide) (by decide)) qa55 qc55 (g := (mkF m 109 #[.val (.int p0), .val (.int p1), .val (.int p2), .val (.int p3), .val (.int p4), .val (.int v1), .val (.ref b2), .val (.int (1 : Int32)), .val (.int (1 : Int32)), .unset] [(.ref b2)])) rfl (by rw [hml]; rfl) (Steps.refl _) (argsL := []) (rest := []) (lenOf own_pd1 rfl) rfl (by show 2 * 0 + _ ≤ _; exact Nat.le_of_eq rfl) (hb hby at_109) (fun _ _ => ⟨rfl, rfl, (by decide : 5 + 0 ≤ _), (by decide : 20 + 0 ≤ _)⟩)
          dsimp only [Pt.U, Pt.locs, Pt.cells, Pt.slots] at X55 l55 y55 z55 st55 hQ55
          subst l55 y55 z55
          obtain ⟨rfl, Nq55, e55⟩ := hQ55
          have N55 := Fr.app N54 Nq55
          refine Ends.via (fun _ k => st55.trans k) ?_
          show Ends p e below s 24 128 (Q0 Z p0 p1 p2 p3 p4  h0 n0) (T55.setTop (mkF m 112 #[.val (.int p0), .val (.int p1), .val (.int p2), .val (.int p3), .val (.int p4), .val (.int v1), .val (.ref b2), .val (.int (1 : Int32)), .val (.int (1 : Int32)), .unset] [(.int (1 : Int32))]))
          refine Ends.via (fun _ k => XS.istore X55.here hx rfl (hb hby at_112) rfl (l' := #[.val (.int p0), .val (.int p1), .val (.int p2), .val (.int p3), .val (.int p4), .val (.int v1), .val (.ref b2), .val (.int (1 : Int32)), .val (.int (1 : Int32)), .val (.int (1 : Int32))]) rfl k) ?_
          show Ends p e below s 24 128 (Q0 Z p0 p1 p2 p3 p4  h0 n0) (T55.setTop (mkF m 114 #[.val (.int p0), .val (.int p1), .val (.int p2), .val (.int p3), .val (.int p4), .val (.int v1), .val (.ref b2), .val (.int (1 : Int32)), .val (.int (1 : Int32)), .val (.int (1 : Int32))] []))
          refine Ends.via (fun _ k => XS.iload X55.here hx rfl (hb hby at_114) rfl k) ?_
          show Ends p e below s 24 128 (Q0 Z p0 p1 p2 p3 p4  h0 n0) (T55.setTop (mkF m 116 #[.val (.int p0), .val (.int p1), .val (.int p2), .val (.int p3), .val (.int p4), .val (.int v1), .val (.ref b2), .val (.int (1 : Int32)), .val (.int (1 : Int32)), .val (.int (1 : Int32))] [(.int (1 : Int32))]))
          have hf56 : ¬ ((1 : Int32) = (0 : Int32)) := by decide
          refine Ends.via (fun _ k => XS.ifNo X55.here hx rfl (hb hby at_116) rfl ((if0 _ _).trans (feq hf56).1) k) ?_
          show Ends p e below s 24 128 (Q0 Z p0 p1 p2 p3 p4  h0 n0) (T55.setTop (mkF m 119 #[.val (.int p0), .val (.int p1), .val (.int p2), .val (.int p3), .val (.int p4), .val (.int v1), .val (.ref b2), .val (.int (1 : Int32)), .val (.int (1 : Int32)), .val (.int (1 : Int32))] []))
          refine Ends.via (fun _ k => XS.iload X55.here hx rfl (hb hby at_119) rfl k) ?_
          show Ends p e below s 24 128 (Q0 Z p0 p1 p2 p3 p4  h0 n0) (T55.setTop (mkF m 121 #[.val (.int p0), .val (.int p1), .val (.int p2), .val (.int p3), .val (.int p4), .val (.int v1), .val (.ref b2), .val (.int (1 : Int32)), .val (.int (1 : Int32)), .val (.int (1 : Int32))] [(.int (1 : Int32))]))
          refine Ends.via (fun _ k => XS.iload X55.here hx rfl (hb hby at_121) rfl k) ?_
          show Ends p e below s 24 128 (Q0 Z p0 p1 p2 p3 p4  h0 n0) (T55.setTop (mkF m 123 #[.val (.int p0), .val (.int p1), .val (.int p2), .val (.int p3), .val (.int p4), .val (.int v1), .val (.ref b2), .val (.int (1 : Int32)), .val (.int (1 : Int32)), .val (.int (1 : Int32))] [(.int (1 : Int32)), (.int (1 : Int32))]))
          have hf57 : (1 : Int32) = (1 : Int32) := by decide
          refine Ends.via (fun _ k => XS.icmpNo X55.here hx rfl (hb hby at_123) rfl (teq hf57).2 k) ?_
          show Ends p e below s 24 128 (Q0 Z p0 p1 p2 p3 p4  h0 n0) (T55.setTop (mkF m 126 #[.val (.int p0), .val (.int p1), .val (.int p2), .val (.int p3), .val (.int p4), .val (.int v1), .val (.ref b2), .val (.int (1 : Int32)), .val (.int (1 : Int32)), .val (.int (1 : Int32))] []))
          refine Ends.via (fun _ k => XS.iconst X55.here hx rfl (hb hby at_126) k) ?_
          show Ends p e below s 24 128 (Q0 Z p0 p1 p2 p3 p4  h0 n0) (T55.setTop (mkF m 127 #[.val (.int p0), .val (.int p1), .val (.int p2), .val (.int p3), .val (.int p4), .val (.int v1), .val (.ref b2), .val (.int (1 : Int32)), .val (.int (1 : Int32)), .val (.int (1 : Int32))] [(.int (1 : Int32))]))
          refine Ends.via (fun _ k => XS.goto X55.here hx rfl (pc0 := 127) (pc' := 131) rfl (hb hby at_127) (by decide) (by decide) k) ?_
          show Ends p e below s 24 128 (Q0 Z p0 p1 p2 p3 p4  h0 n0) (T55.setTop (mkF m 131 #[.val (.int p0), .val (.int p1), .val (.int p2), .val (.int p3), .val (.int p4), .val (.int v1), .val (.ref b2), .val (.int (1 : Int32)), .val (.int (1 : Int32)), .val (.int (1 : Int32))] [(.int (1 : Int32))]))
          refine Ends.ret X55 (v := some (.int (nar .boolean (1 : Int32)))) (fun h => by rw [Bd.returns] at h; cases h) Bd.notSynchronized (fun fs hr => retN X55 hx (t := .boolean) Bd.returns (by simp) (hb hby at_131) hr) ?_ (by decide) (by decide)
          exact ⟨rfl, N55⟩
  · refine Ends.via (fun _ k => XS.ifYes X7.here hx rfl (pc0 := 37) (pc' := 107) rfl (hb hby at_37) rfl ((if0 _ _).trans (flt hc13).2.2.2) (by decide) (by decide) k) ?_
    show Ends p e below s 24 128 (Q0 Z p0 p1 p2 p3 p4  h0 n0) (T7.setTop (mkF m 107 #[.val (.int p0), .val (.int p1), .val (.int p2), .val (.int p3), .val (.int p4), .val (.int v1), .val (.ref b2), .val (.int (1 : Int32)), .val (.int (0 : Int32)), .unset] []))
    refine Ends.via (fun _ k => XS.aload X7.here hx rfl (hb hby at_107) rfl rfl k) ?_
    show Ends p e below s 24 128 (Q0 Z p0 p1 p2 p3 p4  h0 n0) (T7.setTop (mkF m 109 #[.val (.int p0), .val (.int p1), .val (.int p2), .val (.int p3), .val (.int p4), .val (.int v1), .val (.ref b2), .val (.int (1 : Int32)), .val (.int (0 : Int32)), .unset] [(.ref b2)]))
    obtain ⟨cq58, kq58, qa58, qb58, qc58⟩ := isOf hZ e7 Eq3
    obtain ⟨_, _, ⟨T58, L58, k58, n58⟩, -, X58, ⟨Lc58, hQ58, l58, y58, z58⟩, st58⟩ := X7.virtualBack hx (y := (⟨"com/example/crossbook/crossbook/Account", "holdsAny", "()Z"⟩ : MethodName)) (z := (⟨"com/example/crossbook/crossbook/Account", "holdsAny", "()Z"⟩ : MethodName)) hown (mvT hZ (hw _ (List.mem_of_getElem? (i := 13) rfl))) (mvT hZ (hw _ (List.mem_of_getElem? (i := 14) rfl))) (notFace_of_selects (args := #[]) (mvT hZ (hw _ (List.mem_of_getElem? (i := 16) rfl)))) (mvT hZ (hw _ (List.mem_of_getElem? (i := 16) rfl))) (mvT hZ (hw _ (List.mem_of_getElem? (i := 15) rfl))) (by decide) (backOf (W := 0) (rm3 l Z _ hw [] b2  bq3 kq3 v1 false T3.heap n0 Z3 Fq3 Hq3) hZ (hw _ (List.mem_of_getElem? (i := 17) rfl)) (hw _ (List.mem_of_getElem? (i := 2) rfl)) (by decide) (by decide)) qa58 qc58 (g := (mkF m 109 #[.val (.int p0), .val (.int p1), .val (.int p2), .val (.int p3), .val (.int p4), .val (.int v1), .val (.ref b2), .val (.int (1 : Int32)), .val (.int (0 : Int32)), .unset] [(.ref b2)])) rfl (by rw [hml]; rfl) (Steps.refl _) (argsL := []) (rest := []) (lenOf own_pd1 rfl) rfl (by show 2 * 0 + _ ≤ _; exact Nat.le_of_eq rfl) (hb hby at_109) (fun _ _ => ⟨rfl, e7, (by decide : 2 + 0 ≤ _), (by decide : 8 + 0 ≤ _)⟩)
    dsimp only [Pt.U, Pt.locs, Pt.cells, Pt.slots] at X58 l58 y58 z58 st58 hQ58
    subst l58 y58 z58
    obtain ⟨rfl, Nq58, e58⟩ := hQ58
    have N58 := Fr.app N7 Nq58
    refine Ends.via (fun _ k => st58.trans k) ?_
    show Ends p e below s 24 128 (Q0 Z p0 p1 p2 p3 p4  h0 n0) (T58.setTop (mkF m 112 #[.val (.int p0), .val (.int p1), .val (.int p2), .val (.int p3), .val (.int p4), .val (.int v1), .val (.ref b2), .val (.int (1 : Int32)), .val (.int (0 : Int32)), .unset] [(.int (0 : Int32))]))
    refine Ends.via (fun _ k => XS.istore X58.here hx rfl (hb hby at_112) rfl (l' := #[.val (.int p0), .val (.int p1), .val (.int p2), .val (.int p3), .val (.int p4), .val (.int v1), .val (.ref b2), .val (.int (1 : Int32)), .val (.int (0 : Int32)), .val (.int (0 : Int32))]) rfl k) ?_
    show Ends p e below s 24 128 (Q0 Z p0 p1 p2 p3 p4  h0 n0) (T58.setTop (mkF m 114 #[.val (.int p0), .val (.int p1), .val (.int p2), .val (.int p3), .val (.int p4), .val (.int v1), .val (.ref b2), .val (.int (1 : Int32)), .val (.int (0 : Int32)), .val (.int (0 : Int32))] []))
    refine Ends.via (fun _ k => XS.iload X58.here hx rfl (hb hby at_114) rfl k) ?_
    show Ends p e below s 24 128 (Q0 Z p0 p1 p2 p3 p4  h0 n0) (T58.setTop (mkF m 116 #[.val (.int p0), .val (.int p1), .val (.int p2), .val (.int p3), .val (.int p4), .val (.int v1), .val (.ref b2), .val (.int (1 : Int32)), .val (.int (0 : Int32)), .val (.int (0 : Int32))] [(.int (1 : Int32))]))
    have hf59 : ¬ ((1 : Int32) = (0 : Int32)) := by decide
    refine Ends.via (fun _ k => XS.ifNo X58.here hx rfl (hb hby at_116) rfl ((if0 _ _).trans (feq hf59).1) k) ?_
    show Ends p e below s 24 128 (Q0 Z p0 p1 p2 p3 p4  h0 n0) (T58.setTop (mkF m 119 #[.val (.int p0), .val (.int p1), .val (.int p2), .val (.int p3), .val (.int p4), .val (.int v1), .val (.ref b2), .val (.int (1 : Int32)), .val (.int (0 : Int32)), .val (.int (0 : Int32))] []))
    refine Ends.via (fun _ k => XS.iload X58.here hx rfl (hb hby at_119) rfl k) ?_
    show Ends p e below s 24 128 (Q0 Z p0 p1 p2 p3 p4  h0 n0) (T58.setTop (mkF m 121 #[.val (.int p0), .val (.int p1), .val (.int p2), .val (.int p3), .val (.int p4), .val (.int v1), .val (.ref b2), .val (.int (1 : Int32)), .val (.int (0 : Int32)), .val (.int (0 : Int32))] [(.int (0 : Int32))]))
    refine Ends.via (fun _ k => XS.iload X58.here hx rfl (hb hby at_121) rfl k) ?_
    show Ends p e below s 24 128 (Q0 Z p0 p1 p2 p3 p4  h0 n0) (T58.setTop (mkF m 123 #[.val (.int p0), .val (.int p1), .val (.int p2), .val (.int p3), .val (.int p4), .val (.int v1), .val (.ref b2), .val (.int (1 : Int32)), .val (.int (0 : Int32)), .val (.int (0 : Int32))] [(.int (0 : Int32)), (.int (0 : Int32))]))
    have hf60 : (0 : Int32) = (0 : Int32) := by decide
    refine Ends.via (fun _ k => XS.icmpNo X58.here hx rfl (hb hby at_123) rfl (teq hf60).2 k) ?_
    show Ends p e below s 24 128 (Q0 Z p0 p1 p2 p3 p4  h0 n0) (T58.setTop (mkF m 126 #[.val (.int p0), .val (.int p1), .val (.int p2), .val (.int p3), .val (.int p4), .val (.int v1), .val (.ref b2), .val (.int (1 : Int32)), .val (.int (0 : Int32)), .val (.int (0 : Int32))] []))
    refine Ends.via (fun _ k => XS.iconst X58.here hx rfl (hb hby at_126) k) ?_
    show Ends p e below s 24 128 (Q0 Z p0 p1 p2 p3 p4  h0 n0) (T58.setTop (mkF m 127 #[.val (.int p0), .val (.int p1), .val (.int p2), .val (.int p3), .val (.int p4), .val (.int v1), .val (.ref b2), .val (.int (1 : Int32)), .val (.int (0 : Int32)), .val (.int (0 : Int32))] [(.int (1 : Int32))]))
    refine Ends.via (fun _ k => XS.goto X58.here hx rfl (pc0 := 127) (pc' := 131) rfl (hb hby at_127) (by decide) (by decide) k) ?_
    show Ends p e below s 24 128 (Q0 Z p0 p1 p2 p3 p4  h0 n0) (T58.setTop (mkF m 131 #[.val (.int p0), .val (.int p1), .val (.int p2), .val (.int p3), .val (.int p4), .val (.int v1), .val (.ref b2), .val (.int (1 : Int32)), .val (.int (0 : Int32)), .val (.int (0 : Int32))] [(.int (1 : Int32))]))
    refine Ends.ret X58 (v := some (.int (nar .boolean (1 : Int32)))) (fun h => by rw [Bd.returns] at h; cases h) Bd.notSynchronized (fun fs hr => retN X58 hx (t := .boolean) Bd.returns (by simp) (hb hby at_131) hr) ?_ (by decide) (by decide)
    exact ⟨rfl, N58⟩
set_option maxRecDepth 65536 in
set_option maxHeartbeats 40000000 in
theorem comes_1 {Post : Tables → Env → Array Value → State → Outcome → State → Prop} (hpost : ∀ tb e args s v u, (limb_1_1.after args s (.returned v) u = true ∧ limb_1_2.after args s (.returned v) u = true ∧ True) → FrameEnd s (.returned v) u (Jvm.fieldLocs frame_1_writes args s ++ Jvm.arrayLocs frame_1_arrays args s ++ Jvm.staticLocs frame_1_statics s) 24 128 → Post tb e args s (.returned v) u) :
    ArmFor flags0 classFile x code maxLocals ret World_1 tables_1 room_1 Calls_1 rest_1 Pre_1 Post := by
  intro l hfl _ _ p e ha hc hk s m args below hf hA hF happ hP
  obtain ⟨hcalls, hrest, hpre⟩ := hP
  obtain ⟨-, -, -, hnamed, -, -, -, hat⟩ := (Spec.applies_iff hf).mp happ
  obtain ⟨hg, hn⟩ := and_e (Cond.before_iff.mp (show (Jvm.Cond.and given_1 narrow_1).before args s = true from hpre))
  obtain ⟨hcnt, g0⟩ := and_e hg
  obtain ⟨t0, g1⟩ := and_e g0
  obtain ⟨t1, g2⟩ := and_e g1
  obtain ⟨t2, g3⟩ := and_e g2
  obtain ⟨t3, g4⟩ := and_e g3
  obtain ⟨w0, w1, w2, w3, w4, rfl⟩ : ∃ w0 w1 w2 w3 w4 : Value, args = #[w0, w1, w2, w3, w4] := by
    have hs : args.size = 5 := by simpa [Cond.value, given_1] using hcnt
    obtain ⟨L⟩ := args
    match L, hs with
    | [w0, w1, w2, w3, w4], _ => exact ⟨w0, w1, w2, w3, w4, rfl⟩
  have hw := fun d (hd : d ∈ tables_1) => atoms_spec (ws := Jvm.Cond.code x code maxLocals ret :: tables_1) hat d (List.mem_cons_of_mem _ hd)
  obtain ⟨i0, ei0⟩ := is_v t0
  obtain rfl : w0 = (.int i0) := Option.some.inj ei0
  obtain ⟨i1, ei1⟩ := is_v t1
  obtain rfl : w1 = (.int i1) := Option.some.inj ei1
  obtain ⟨i2, ei2⟩ := is_v t2
  obtain rfl : w2 = (.int i2) := Option.some.inj ei2
  obtain ⟨i3, ei3⟩ := is_v t3
  obtain rfl : w3 = (.int i3) := Option.some.inj ei3
  obtain ⟨i4, ei4⟩ := is_v g4
  obtain rfl : w4 = (.int i4) := Option.some.inj ei4
  obtain ⟨n, o, h1, h2, h3, _, L, rfl, ⟨rfl, N⟩, hq⟩ := rm0 l s _ hw tables_1 i0 i1 i2 i3 i4 s.heap s.heap.size (Nat.le_refl _) p e ha hc hk s m _ below hf ((Spec.applies_iff_loose hf).mp happ).1 ⟨rfl, State.Warmed39.refl s, rfl⟩ trivial
  refine ⟨n, _, h1, h2, h3, hpost _ _ _ _ _ _ ⟨Cond.after_iff.mpr rfl, Cond.after_iff.mpr (eq_i res_at (Term.int_eval (1)) rfl), trivial⟩ ⟨hq.1, hq.2.1, (hq.2.2.sift fun y hy => Or.inr (N y hy)).mono (by decide) (by decide)⟩⟩
theorem main_1_1 : Claimed_1_1 := comes_1 fun _ _ _ _ _ _ h hF => ⟨h.1, hF⟩
theorem main_1_2 : Claimed_1_2 := comes_1 fun _ _ _ _ _ _ h hF => ⟨h.2.1, hF⟩
end Jvm.Pilot.@@N@@
namespace Jvm.Pilot.@@N@@
open Jvm Jvm.ClassFile Sem Op Lib Jvm.Free Jvm.Stand Jvm.Pilot.@@N@@.Jvm.D
/-! MADE BY PROGRAM (witnessworld.py) out of the Statement's table words and the real class files: 11 classes; the members and pool entries that the words name. The judged class is class 1, her method 1. -/
namespace start1
open Jvm.ClassFile
def u (s : String) : CpInfo := .utf8 (stringToUtf16 s)
/-- a pool by its gaps: so many unusable entries, then the entry; so many at the end -/
def gap : Nat → List CpInfo → List CpInfo
  | 0, r => r
  | n + 1, r => .unusable :: gap n r
def poolList (es : List (Nat × CpInfo)) (last : Nat) : List CpInfo := es.foldr (fun e r => gap e.1 (e.2 :: r)) (gap last [])
def pool (es : List (Nat × CpInfo)) (last : Nat) : Array CpInfo := ⟨poolList es last⟩
def fileOf (pool : Array CpInfo) (this : Nat) (attrs : Array Attribute := #[]) (ms : Array MethodInfo := #[]) (fl : Nat := 33) (sup : Nat := 0) (ifs : Array Nat := #[]) (fds : Array FieldInfo := #[]) : ClassFile where
  minorVersion := 0
  majorVersion := 65
  constantPool := pool
  accessFlags := fl
  thisClass := this
  superClass := sup
  interfaces := ifs
  fields := fds
  methods := ms
  attributes := attrs
def plain (name : String) (sup : Option ClassId) : Class where
  name := name
  kind := .ordinary
  loader := none
  accessFlags := 33
  super := sup
  interfaces := #[]
  cf := none
  fields := #[]
  methods := #[]
  instanceTypes := #[]
  staticTypes := #[]
  resolved := #[]
  callSites := []
  init := .initialized
  statics := none
  mirror := none

def pool0 : Array CpInfo := pool [(5, u "<init>"), (0, u "()V"), (1, .class_ 10), (1, u "java/lang/Object")] 113

def k0c0 : Code := { maxStack := 0, maxLocals := 1, code := object_method_1_code, exceptionTable := #[], attributes := #[] }
def k0m0 : Method := { name := "<init>", desc := "()V", sig := { parameters := [], returnType := none }, accessFlags := 1, code := some k0c0 }
/-- java/lang/Object -/
def k0 : Class := { plain "java/lang/Object" none with
  accessFlags := 33
  interfaces := #[]
  cf := some (fileOf pool0 8 #[] #[{ accessFlags := 1, nameIndex := 5, descriptorIndex := 6, attributes := #[] }] 33 0 #[] #[])
  fields := #[]
  methods := #[k0m0]
  instanceTypes := #[]
  staticTypes := #[]
  resolved := Array.replicate 124 none
  statics := none }

def pool1 : Array CpInfo := pool [(2, .class_ 4), (1, u "java/lang/Object"), (0, u "<init>"), (0, u "()V"), (0, .class_ 8), (0, u "com/example/crossbook/crossbook/Account"), (0, .methodref 7 10), (0, .nameAndType 5 11), (0, u "(I)V"), (0, .methodref 7 13), (0, .nameAndType 14 15), (0, u "holdsAny"), (0, u "()Z"), (0, .integer 2147483647), (0, .methodref 7 18), (0, .nameAndType 19 20), (0, u "holdingToCredit"), (0, u "(I)Lcom/example/crossbook/crossbook/Holding;"), (0, .class_ 22), (0, u "com/example/crossbook/crossbook/AccountHoldsAnyPinLaw"), (2, u "law"), (0, u "(IIIII)Z")] 3

def k1m0 : Method := { name := "<init>", desc := "()V", sig := { parameters := [], returnType := none }, accessFlags := 1, code := none }
def k1c1 : Code := { maxStack := 3, maxLocals := 10, code := code, exceptionTable := #[], attributes := #[] }
def k1m1 : Method := { name := "law", desc := "(IIIII)Z", sig := { parameters := [.int, .int, .int, .int, .int], returnType := some .boolean }, accessFlags := 9, code := some k1c1 }
/-- com/example/crossbook/crossbook/AccountHoldsAnyPinLaw -/
def k1 : Class := { plain "com/example/crossbook/crossbook/AccountHoldsAnyPinLaw" (some 0) with
  accessFlags := 49
  interfaces := #[]
  cf := some (fileOf pool1 21 #[] #[{ accessFlags := 1, nameIndex := 5, descriptorIndex := 6, attributes := #[] }, { accessFlags := 9, nameIndex := 25, descriptorIndex := 26, attributes := #[] }] 49 2 #[] #[])
  fields := #[]
  methods := #[k1m0, k1m1]
  instanceTypes := #[]
  staticTypes := #[]
  resolved := Array.replicate 30 none
  statics := none }

def pool2 : Array CpInfo := pool [(1, .methodref 2 3), (0, .class_ 4), (0, .nameAndType 5 6), (0, u "java/lang/Object"), (0, u "<init>"), (0, u "()V"), (0, .class_ 8), (0, u "com/example/crossbook/crossbook/Holding"), (0, .fieldref 10 11), (0, .class_ 12), (0, .nameAndType 13 14), (0, u "com/example/crossbook/crossbook/Account"), (0, u "holdings"), (0, u "[Lcom/example/crossbook/crossbook/Holding;"), (0, .methodref 7 3), (0, u "(I)V"), (3, u "(I)Lcom/example/crossbook/crossbook/Holding;"), (0, u "holdsAny"), (0, u "()Z"), (2, u "holdingToCredit")] 2

def k2c0 : Code := { maxStack := 2, maxLocals := 2, code := prog_1_method_1_code, exceptionTable := #[], attributes := #[] }
def k2m0 : Method := { name := "<init>", desc := "(I)V", sig := { parameters := [.int], returnType := none }, accessFlags := 0, code := some k2c0 }
def k2c1 : Code := { maxStack := 2, maxLocals := 5, code := prog_1_method_3_code, exceptionTable := #[], attributes := #[] }
def k2m1 : Method := { name := "holdsAny", desc := "()Z", sig := { parameters := [], returnType := some .boolean }, accessFlags := 0, code := some k2c1 }
def k2c2 : Code := { maxStack := 3, maxLocals := 3, code := prog_1_method_4_code, exceptionTable := #[], attributes := #[] }
def k2m2 : Method := { name := "holdingToCredit", desc := "(I)Lcom/example/crossbook/crossbook/Holding;", sig := { parameters := [.int], returnType := some (.object "com/example/crossbook/crossbook/Holding") }, accessFlags := 0, code := some k2c2 }
/-- com/example/crossbook/crossbook/Account -/
def k2 : Class := { plain "com/example/crossbook/crossbook/Account" (some 0) with
  accessFlags := 48
  interfaces := #[]
  cf := some (fileOf pool2 10 #[] #[{ accessFlags := 0, nameIndex := 5, descriptorIndex := 16, attributes := #[] }, { accessFlags := 0, nameIndex := 21, descriptorIndex := 22, attributes := #[] }, { accessFlags := 0, nameIndex := 25, descriptorIndex := 20, attributes := #[] }] 48 2 #[] #[{ accessFlags := 18, nameIndex := 13, descriptorIndex := 14, attributes := #[] }])
  fields := #[{ name := "holdings", type := (.array (.object "com/example/crossbook/crossbook/Holding")), accessFlags := 18, slot := 0, constantValue := 0 }]
  methods := #[k2m0, k2m1, k2m2]
  instanceTypes := #[(.array (.object "com/example/crossbook/crossbook/Holding"))]
  staticTypes := #[]
  resolved := Array.replicate 28 none
  statics := none }

def pool3 : Array CpInfo := pool [(1, .methodref 2 3), (0, .class_ 4), (0, .nameAndType 5 6), (0, u "java/lang/Object"), (0, u "<init>"), (0, u "()V"), (1, .class_ 10), (1, u "com/example/crossbook/crossbook/Holding"), (0, u "largeBalance"), (0, u "Ljava/math/BigInteger;"), (2, u "balance"), (0, u "J"), (8, u "reserved"), (2, u "largeReserved")] 96

def k3c0 : Code := { maxStack := 1, maxLocals := 1, code := prog_15_method_1_code, exceptionTable := #[], attributes := #[] }
def k3m0 : Method := { name := "<init>", desc := "()V", sig := { parameters := [], returnType := none }, accessFlags := 0, code := some k3c0 }
/-- com/example/crossbook/crossbook/Holding -/
def k3 : Class := { plain "com/example/crossbook/crossbook/Holding" (some 0) with
  accessFlags := 48
  interfaces := #[]
  cf := some (fileOf pool3 8 #[] #[{ accessFlags := 0, nameIndex := 5, descriptorIndex := 6, attributes := #[] }] 48 2 #[] #[{ accessFlags := 2, nameIndex := 15, descriptorIndex := 16, attributes := #[] }, { accessFlags := 2, nameIndex := 25, descriptorIndex := 16, attributes := #[] }, { accessFlags := 2, nameIndex := 11, descriptorIndex := 12, attributes := #[] }, { accessFlags := 2, nameIndex := 28, descriptorIndex := 12, attributes := #[] }])
  fields := #[{ name := "balance", type := .long, accessFlags := 2, slot := 0, constantValue := 0 }, { name := "reserved", type := .long, accessFlags := 2, slot := 1, constantValue := 0 }, { name := "largeBalance", type := (.object "java/math/BigInteger"), accessFlags := 2, slot := 2, constantValue := 0 }, { name := "largeReserved", type := (.object "java/math/BigInteger"), accessFlags := 2, slot := 3, constantValue := 0 }]
  methods := #[k3m0]
  instanceTypes := #[.long, .long, (.object "java/math/BigInteger"), (.object "java/math/BigInteger")]
  staticTypes := #[]
  resolved := Array.replicate 125 none
  statics := none }

def pool4 : Array CpInfo := pool [(1, u "java/lang/Cloneable"), (0, .class_ 1), (0, u "java/lang/Object"), (0, .class_ 3)] 3

/-- java/lang/Cloneable -/
def k4 : Class := { plain "java/lang/Cloneable" (some 0) with
  accessFlags := 1537
  interfaces := #[]
  cf := some (fileOf pool4 2 #[] #[] 1537 4 #[] #[])
  fields := #[]
  methods := #[]
  instanceTypes := #[]
  staticTypes := #[]
  resolved := Array.replicate 8 none
  statics := none }

def pool5 : Array CpInfo := pool [(1, u "java/io/Serializable"), (0, .class_ 1), (0, u "java/lang/Object"), (0, .class_ 3)] 3

/-- java/io/Serializable -/
def k5 : Class := { plain "java/io/Serializable" (some 0) with
  accessFlags := 1537
  interfaces := #[]
  cf := some (fileOf pool5 2 #[] #[] 1537 4 #[] #[])
  fields := #[]
  methods := #[]
  instanceTypes := #[]
  staticTypes := #[]
  resolved := Array.replicate 8 none
  statics := none }

/-- the primitive byte -/
def k6 : Class := { plain "byte" none with kind := .primitive 'B', accessFlags := 0x411 }
/-- [B -/
def k7 : Class := { plain "[B" (some 0) with kind := .array 6 .byte, interfaces := #[4, 5], accessFlags := 1041 }

/-- the primitive int -/
def k8 : Class := { plain "int" none with kind := .primitive 'I', accessFlags := 0x411 }
/-- [I -/
def k9 : Class := { plain "[I" (some 0) with kind := .array 8 .int, interfaces := #[4, 5], accessFlags := 1041 }

/-- [Lcom/example/crossbook/crossbook/Holding; -/
def k10 : Class := { plain "[Lcom/example/crossbook/crossbook/Holding;" (some 0) with kind := .array 3 (.object "com/example/crossbook/crossbook/Holding"), interfaces := #[4, 5], accessFlags := 1041 }

def heap : Heap := #[]
def classes : Array Class := #[k0, k1, k2, k3, k4, k5, k6, k7, k8, k9, k10]
def interned : List (Array UInt16 × Addr) := []
def slotsUsed : Nat := 0
def theMethod : MethodId := ⟨1, 1⟩
def args0 : Array Value := #[.int 5, .int 5, .int 5, .int 5, .int 5]
def aboutOver (below : List Frame) : State where
  vm := { classes := classes, interned := interned.toArray }
  heap := heap
  slotsUsed := slotsUsed
  threads := #[{ frames := .invoking theMethod args0 :: below }]
def below0 : List Frame := [.native { method := ⟨0, 0⟩, args := #[] }]
def about1 : State := aboutOver below0
def p0 : Program := .bare "" "" ""
def e0 : Env := launch0.env 0 0 0
theorem w_frames : about1.frames = Frame.invoking theMethod args0 :: below0 := rfl
set_option maxRecDepth 65536 in
theorem w_args : argsFit about1.vm theMethod args0 = true := by decide +kernel
set_option maxRecDepth 65536 in
theorem w_heap : heapFits about1 = true := by decide +kernel
set_option maxRecDepth 65536 in
theorem w_runnable : about1.curStatus? = some .runnable := by decide +kernel
set_option maxRecDepth 65536 in
theorem w_alone : about1.alone = true := by decide +kernel
set_option maxRecDepth 65536 in
theorem w_named : about1.methodNamed? x = some theMethod := by decide +kernel
set_option maxRecDepth 65536 in
theorem w_hears : about1.hears theMethod below0 = true := by decide +kernel
set_option maxRecDepth 65536 in
theorem w_ripe : about1.ripe theMethod args0 below0 = true := by decide +kernel
theorem w_running : about1.status = .running := rfl
set_option maxRecDepth 65536 in
theorem w_room : about1.hasRoom e0.platform room_1 = true :=
  launch0.hasRoom_least _ room_1 (by decide +kernel) (by decide +kernel) (by decide +kernel) (by decide +kernel) (by decide +kernel) (by decide +kernel)
theorem allAtoms_all (ts : List Jvm.Cond) (a : Array Jvm.Value) (st : Jvm.State) : (allAtoms ts).before a st = ts.all (fun c => c.before a st) := by
  induction ts with
  | nil => rfl
  | cons c t ih =>
    show (Jvm.Cond.and c (allAtoms t)).before a st = _
    rw [Jvm.Cond.before_and, ih, List.all_cons]
def words1 : List Jvm.Cond := Jvm.Cond.code x code maxLocals ret :: tables_1
/-- a 'code' word, met by the world's own term for the bytes: nothing is compared byte by byte -/
theorem code_word {y : MethodName} {bytes : ByteArray} {mx : Nat} {rt : Option FieldType} {a : Array Value} {s : State} {m : MethodId} {meth : Method} {c : Code} (h1 : s.methodNamed? y = some m) (h2 : s.vm.method? m = some meth) (h3 : meth.code = some c) (h4 : c.code = bytes)
    (h5 : (c.maxLocals == mx && c.exceptionTable.isEmpty && decide (c.maxStack ≤ mostOperands) && decide (meth.sig.returnType = rt) && !meth.locks && decide (parseMethodDescriptor y.desc = some meth.sig)) = true) : (Jvm.Cond.code y bytes mx rt).before a s = true := by
  simp only [Bool.and_eq_true, beq_iff_eq, Bool.not_eq_true', decide_eq_true_eq] at h5
  obtain ⟨⟨⟨⟨⟨g1, g2⟩, g3⟩, g4⟩, g5⟩, g6⟩ := h5
  simp [Cond.before, Cond.holds, Cond.value, h1, h2, h3, h4, g1, g2, g3, g4, g5, g6]
def isCode : Jvm.Cond → Bool
  | .code _ _ _ _ => true
  | _ => false
theorem all_split {L : List Jvm.Cond} {P : Jvm.Cond → Bool} (h1 : L.all (fun c => isCode c || P c) = true) (h2 : ∀ c ∈ L.filter isCode, P c = true) : L.all P = true := by
  refine List.all_eq_true.mpr fun c hc => ?_
  have h := List.all_eq_true.mp h1 c hc
  rcases Bool.eq_false_or_eq_true (isCode c) with hi | hi
  · exact h2 c (List.mem_filter.mpr ⟨hc, hi⟩)
  · simpa [hi] using h
set_option maxRecDepth 65536 in
theorem w_c0 : (Jvm.Cond.code x code maxLocals ret).before args0 about1 = true := code_word (m := ⟨1, 1⟩) (meth := k1m1) (c := k1c1) (by decide +kernel) rfl rfl rfl (by decide +kernel)
set_option maxRecDepth 65536 in
theorem w_c1 : (Jvm.Cond.code ({ cls := "com/example/crossbook/crossbook/Account", name := "<init>", desc := "(I)V" } : Jvm.MethodName) prog_1_method_1_code (2 : Nat) (Option.none : Option Jvm.ClassFile.FieldType)).before args0 about1 = true := code_word (m := ⟨2, 0⟩) (meth := k2m0) (c := k2c0) (by decide +kernel) rfl rfl rfl (by decide +kernel)
set_option maxRecDepth 65536 in
theorem w_c2 : (Jvm.Cond.code ({ cls := "java/lang/Object", name := "<init>", desc := "()V" } : Jvm.MethodName) object_method_1_code (1 : Nat) (Option.none : Option Jvm.ClassFile.FieldType)).before args0 about1 = true := code_word (m := ⟨0, 0⟩) (meth := k0m0) (c := k0c0) (by decide +kernel) rfl rfl rfl (by decide +kernel)
set_option maxRecDepth 65536 in
theorem w_c3 : (Jvm.Cond.code ({ cls := "com/example/crossbook/crossbook/Account", name := "holdsAny", desc := "()Z" } : Jvm.MethodName) prog_1_method_3_code (5 : Nat) (Option.some Jvm.ClassFile.FieldType.boolean)).before args0 about1 = true := code_word (m := ⟨2, 1⟩) (meth := k2m1) (c := k2c1) (by decide +kernel) rfl rfl rfl (by decide +kernel)
set_option maxRecDepth 65536 in
theorem w_c4 : (Jvm.Cond.code ({ cls := "com/example/crossbook/crossbook/Account", name := "holdingToCredit", desc := "(I)Lcom/example/crossbook/crossbook/Holding;" } : Jvm.MethodName) prog_1_method_4_code (3 : Nat) (Option.some (Jvm.ClassFile.FieldType.object "com/example/crossbook/crossbook/Holding"))).before args0 about1 = true := code_word (m := ⟨2, 2⟩) (meth := k2m2) (c := k2c2) (by decide +kernel) rfl rfl rfl (by decide +kernel)
set_option maxRecDepth 65536 in
theorem w_c5 : (Jvm.Cond.code ({ cls := "com/example/crossbook/crossbook/Holding", name := "<init>", desc := "()V" } : Jvm.MethodName) prog_15_method_1_code (1 : Nat) (Option.none : Option Jvm.ClassFile.FieldType)).before args0 about1 = true := code_word (m := ⟨3, 0⟩) (meth := k3m0) (c := k3c0) (by decide +kernel) rfl rfl rfl (by decide +kernel)
def codes1 : List Jvm.Cond := [Jvm.Cond.code x code maxLocals ret, Jvm.Cond.code ({ cls := "com/example/crossbook/crossbook/Account", name := "<init>", desc := "(I)V" } : Jvm.MethodName) prog_1_method_1_code (2 : Nat) (Option.none : Option Jvm.ClassFile.FieldType), Jvm.Cond.code ({ cls := "java/lang/Object", name := "<init>", desc := "()V" } : Jvm.MethodName) object_method_1_code (1 : Nat) (Option.none : Option Jvm.ClassFile.FieldType), Jvm.Cond.code ({ cls := "com/example/crossbook/crossbook/Account", name := "holdsAny", desc := "()Z" } : Jvm.MethodName) prog_1_method_3_code (5 : Nat) (Option.some Jvm.ClassFile.FieldType.boolean), Jvm.Cond.code ({ cls := "com/example/crossbook/crossbook/Account", name := "holdingToCredit", desc := "(I)Lcom/example/crossbook/crossbook/Holding;" } : Jvm.MethodName) prog_1_method_4_code (3 : Nat) (Option.some (Jvm.ClassFile.FieldType.object "com/example/crossbook/crossbook/Holding")), Jvm.Cond.code ({ cls := "com/example/crossbook/crossbook/Holding", name := "<init>", desc := "()V" } : Jvm.MethodName) prog_15_method_1_code (1 : Nat) (Option.none : Option Jvm.ClassFile.FieldType)]
set_option maxRecDepth 65536 in
theorem codes_eq : words1.filter isCode = codes1 := rfl
theorem w_codes : ∀ c ∈ words1.filter isCode, c.before args0 about1 = true := by
  rw [codes_eq]
  intro c hc
  simp only [codes1, List.mem_cons, List.not_mem_nil, or_false] at hc
  rcases hc with rfl | rfl | rfl | rfl | rfl | rfl
  · exact w_c0
  · exact w_c1
  · exact w_c2
  · exact w_c3
  · exact w_c4
  · exact w_c5
set_option maxRecDepth 65536 in
theorem w_t1 : (words1.take 24).all (fun c => isCode c || c.before args0 about1) = true := by decide +kernel
set_option maxRecDepth 65536 in
theorem w_t2 : (words1.drop 24).all (fun c => isCode c || c.before args0 about1) = true := by decide +kernel
theorem w_tables : (allAtoms (Jvm.Cond.code x code maxLocals ret :: tables_1)).before args0 about1 = true := by
  rw [allAtoms_all]
  show words1.all (fun c => c.before args0 about1) = true
  refine all_split ?_ w_codes
  rw [← List.take_append_drop 24 words1, List.all_append, w_t1, w_t2]
  rfl
set_option maxRecDepth 65536 in
theorem w_case : (Jvm.Cond.and given_1 narrow_1).before args0 about1 = true := by decide +kernel
theorem w_applies : (headSpec (Jvm.Cond.code x code maxLocals ret :: tables_1) room_1).applies x e0.platform about1 = true :=
  (Spec.applies_iff w_frames).mpr ⟨w_running, w_runnable, w_alone, w_named, w_hears, w_ripe, w_room, w_tables⟩
theorem atStart : AtStart classFile x code maxLocals ret World_1 tables_1 room_1 Calls_1 rest_1 Pre_1 launch0 p0 e0 about1 theMethod args0 below0 :=
  ⟨lists_1, trivial, launch0.admits_env _ _ _, launch0.least_env, fairChoices_fair.cas, fairChoices_fair.clock, w_frames, w_args, w_heap, w_applies, trivial, trivial, w_case⟩
end start1
theorem witness_1 : WitnessClaimed_1 := ⟨start1.p0, start1.e0, start1.about1, start1.theMethod, start1.args0, start1.below0, start1.atStart⟩
end Jvm.Pilot.@@N@@
