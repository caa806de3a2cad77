import JvmDerived
import JvmDerived.Pilot.@@N@@Statement
import JvmDerived.Pilot.@@N@@Code
set_option linter.unusedVariables false
set_option linter.unusedSimpArgs false
namespace Jvm.RoadKit
open Sem ClassFile Op Lib Jvm.Stand Jvm.Free Jvm.LawKit
section New
variable {p : Program} {l : Launch} {e : Env} {R : Room} {s : State} {m : MethodId} {args : Array Value} {below : List Frame} {meth : Method} {c : Code} {T : State} {locs : List Loc} {cells slots k n : Nat} {Q : Option Value → Heap → List Loc → Prop}
theorem retI (X : Stand p l e R s m args below meth c T locs cells slots) (hx : p.tables.exec = Jvm.exec) {pc : Nat} {Ls : Array Slot} {z : Int32} {rest : List Value} (hret : meth.sig.returnType = some .int) (hd : decode c.code pc = .ok (.ireturn, 1)) {fs : List Frame}
    (hl : ∀ (f : JFrame) (acts : List Action), f.method = m → f.locked = none → f.entered = [] → (doReturn e (T.setTop f) acts (some (.int z))).1 = T.setFrames fs) : Steps p.tables e below (T.setTop (mkF m pc Ls (.int z :: rest))) (T.setFrames fs) := by
  have hm' : T.vm.method? m = some meth := X.method'
  have hn : narrow .int (.int z) = .int z := rfl
  show Steps p.tables e below (T.setTop { method := m, pc := pc, locals := Ls, stack := _ :: rest, locked := none }) _
  jvm_step X.here [X.here.top, hx, hd, hm', hret, hn]
  first | (intro acts; rw [hl _ acts rfl rfl rfl]) | rw [hl _ _ rfl rfl rfl]
  exact Steps.refl _
/-- from S0 the run comes to a return that leaves what Q says -/
def own_Fin (p : Program) (e : Env) (below : List Frame) (s : State) (Q : Option Value → Heap → List Loc → Prop) (k n : Nat) (S0 : State) : Prop :=
  ∃ s₂ o, Steps p.tables e below S0 s₂ ∧ s₂.status = .running ∧ Ended s₂ below o ∧ ∃ v L, o = .returned v ∧ Q v s₂.heap L ∧ FrameEnd s o s₂ L k n
theorem own_go {S0 : State} (S1 : State) (h : ∀ t, Steps p.tables e below S1 t → Steps p.tables e below S0 t) (q : own_Fin p e below s Q k n S1) : own_Fin p e below s Q k n S0 := by
  obtain ⟨s₂, o, h1, h2⟩ := q
  exact ⟨s₂, o, h _ h1, h2⟩
theorem own_ret (X : Stand p l e R s m args below meth c T locs cells slots) (hlocks : meth.locks = false) (v : Option Value) (hv : meth.sig.returnType = none → v = none) {g : JFrame}
    (hs : ∀ fs, (∀ (f : JFrame) (acts : List Action), f.method = m → f.locked = none → f.entered = [] → (doReturn e (T.setTop f) acts v).1 = T.setFrames fs) → Steps p.tables e below (T.setTop g) (T.setFrames fs))
    (hk : cells ≤ k) (hn : slots ≤ n) (hQ : Q v T.heap locs) : own_Fin p e below s Q k n (T.setTop g) := by
  obtain ⟨fs, hr, hrun, hended, hW, hsame⟩ := X.leave (v := v) hv hlocks
  exact ⟨_, _, hs fs hr, hrun, hended, _, _, rfl, hQ, ⟨_, rfl⟩, hW, hsame.mono hk hn⟩
theorem own_zlt {x y : Int32} {a b : Int} (h : x < y) (hx : x.toInt = a) (hy : y.toInt = b) : a < b := by rw [← hx, ← hy]; exact Int32.lt_iff_toInt_lt.mp h
theorem own_znlt {x y : Int32} {a b : Int} (h : ¬ x < y) (hx : x.toInt = a) (hy : y.toInt = b) : ¬ a < b := by rw [← hx, ← hy]; exact fun q => h (Int32.lt_iff_toInt_lt.mpr q)
theorem own_zeq {x y : Int32} {a b : Int} (h : x = y) (hx : x.toInt = a) (hy : y.toInt = b) : a = b := by rw [← hx, ← hy, h]
theorem own_zneq {x y : Int32} {a b : Int} (h : ¬ x = y) (hx : x.toInt = a) (hy : y.toInt = b) : ¬ a = b := by rw [← hx, ← hy]; exact fun q => h (Int32.toInt_inj.mp q)
theorem own_zLlt {x y : Int64} {a b : Int} (h : x < y) (hx : x.toInt = a) (hy : y.toInt = b) : a < b := by rw [← hx, ← hy]; exact Int64.lt_iff_toInt_lt.mp h
theorem own_zLnlt {x y : Int64} {a b : Int} (h : ¬ x < y) (hx : x.toInt = a) (hy : y.toInt = b) : ¬ a < b := by rw [← hx, ← hy]; exact fun q => h (Int64.lt_iff_toInt_lt.mpr q)
theorem own_zLeq {x y : Int64} {a b : Int} (h : x = y) (hx : x.toInt = a) (hy : y.toInt = b) : a = b := by rw [← hx, ← hy, h]
theorem own_zLneq {x y : Int64} {a b : Int} (h : ¬ x = y) (hx : x.toInt = a) (hy : y.toInt = b) : ¬ a = b := by rw [← hx, ← hy]; exact fun q => h (Int64.toInt_inj.mp q)
end New
end Jvm.RoadKit
namespace Jvm.Pilot.@@N@@
open Jvm Jvm.ClassFile Sem Op Lib Jvm.Free Jvm.Stand Jvm.LawKit Jvm.RoadKit Bundle Jvm.Pilot.@@N@@.Jvm.D
theorem own_pd0 : parseMethodDescriptor "(J)V" = some ⟨[.long], none⟩ := by decide +kernel
theorem own_pd1 : parseMethodDescriptor "()J" = some ⟨[], some .long⟩ := by decide +kernel
theorem own_pd2 : parseMethodDescriptor "(J)J" = some ⟨[.long], some .long⟩ := by decide +kernel

def own_sh (z : Int64) (k : Int32) : Int64 := (z.toUInt64 >>> (k &&& 0x3f).toInt64.toUInt64).toInt64
def own_m1 (z : Int64) : Int64 := (z ^^^ own_sh z 30) * (-4658895280553007687 : Int64)
def own_m2 (z : Int64) : Int64 := (z ^^^ own_sh z 27) * (-7723592293110705685 : Int64)
def own_mix (z : Int64) : Int64 := own_m2 (own_m1 z) ^^^ own_sh (own_m2 (own_m1 z)) 31
def own_u1 (z : Int64) : Int64 := ((z ^^^ own_sh z 31) ^^^ own_sh z 62) * (3573116690164977347 : Int64)
def own_u2 (z : Int64) : Int64 := ((z ^^^ own_sh z 27) ^^^ own_sh z 54) * (-7575587736534282103 : Int64)
def own_unmix (z : Int64) : Int64 := (own_u2 (own_u1 z) ^^^ own_sh (own_u2 (own_u1 z)) 30) ^^^ own_sh (own_u2 (own_u1 z)) 60
theorem own_shb (z : Int64) (k : Int32) (n : Nat) (hn : n < 64) (hk : ((k &&& 0x3f).toInt64.toBitVec % 64) = BitVec.ofNat 64 n) : (own_sh z k).toBitVec = z.toBitVec >>> n := by
  show z.toBitVec >>> ((k &&& 0x3f).toInt64.toBitVec % 64) = z.toBitVec >>> n
  rw [hk, BitVec.ushiftRight_eq', BitVec.toNat_ofNat, Nat.mod_eq_of_lt (by omega)]
theorem own_inv (x : BitVec 64) (k : Nat) (hk : 64 ≤ k + k + k) : ((x ^^^ x >>> k) ^^^ (x ^^^ x >>> k) >>> k) ^^^ (x ^^^ x >>> k) >>> (k + k) = x := by
  apply BitVec.eq_of_getLsbD_eq
  intro i hi
  simp only [BitVec.getLsbD_xor, BitVec.getLsbD_ushiftRight]
  have h3 : x.getLsbD (k + (k + k + i)) = false := BitVec.getLsbD_of_ge _ _ (by omega)
  have e1 : k + (k + i) = k + k + i := by omega
  rw [h3, e1]
  cases x.getLsbD i <;> cases x.getLsbD (k + i) <;> cases x.getLsbD (k + k + i) <;> rfl
theorem own_back (y : Int64) (k k2 : Int32) (n : Nat) (hn : n + n < 64) (h64 : 64 ≤ n + n + n) (hk : ((k &&& 0x3f).toInt64.toBitVec % 64) = BitVec.ofNat 64 n) (hk2 : ((k2 &&& 0x3f).toInt64.toBitVec % 64) = BitVec.ofNat 64 (n + n)) :
    ((y ^^^ own_sh y k) ^^^ own_sh (y ^^^ own_sh y k) k) ^^^ own_sh (y ^^^ own_sh y k) k2 = y := by
  apply Int64.toBitVec_inj.mp
  show (((y.toBitVec ^^^ (own_sh y k).toBitVec) ^^^ (own_sh (y ^^^ own_sh y k) k).toBitVec) ^^^ (own_sh (y ^^^ own_sh y k) k2).toBitVec) = y.toBitVec
  rw [own_shb _ k n (by omega) hk, own_shb _ k n (by omega) hk, own_shb _ k2 (n + n) hn hk2]
  show (((y.toBitVec ^^^ y.toBitVec >>> n) ^^^ (y.toBitVec ^^^ (own_sh y k).toBitVec) >>> n) ^^^ (y.toBitVec ^^^ (own_sh y k).toBitVec) >>> (n + n)) = y.toBitVec
  rw [own_shb _ k n (by omega) hk]
  exact own_inv y.toBitVec n h64
theorem own_law (z : Int64) : own_unmix (own_mix z) = z := by
  have a1 : own_u1 (own_mix z) = own_m1 z ^^^ own_sh (own_m1 z) 27 := by
    unfold own_u1 own_mix
    rw [own_back (own_m2 (own_m1 z)) 31 62 31 (by decide) (by decide) (by decide) (by decide)]
    unfold own_m2
    rw [Int64.mul_assoc, show (-7723592293110705685 : Int64) * (3573116690164977347 : Int64) = 1 from by decide, Int64.mul_one]
  have a2 : own_u2 (own_m1 z ^^^ own_sh (own_m1 z) 27) = z ^^^ own_sh z 30 := by
    unfold own_u2
    rw [own_back (own_m1 z) 27 54 27 (by decide) (by decide) (by decide) (by decide)]
    unfold own_m1
    rw [Int64.mul_assoc, show (-4658895280553007687 : Int64) * (-7575587736534282103 : Int64) = 1 from by decide, Int64.mul_one]
  unfold own_unmix
  rw [a1, a2]
  exact own_back z 30 60 30 (by decide) (by decide) (by decide) (by decide)

theorem d1_0 : decode prog_7_method_1_code 0 = .ok (.aload_n 0, 1) := by decide +kernel
theorem d1_1 : decode prog_7_method_1_code 1 = .ok (.invokespecial 1, 3) := by decide +kernel
theorem d1_4 : decode prog_7_method_1_code 4 = .ok (.aload_n 0, 1) := by decide +kernel
theorem d1_5 : decode prog_7_method_1_code 5 = .ok (.lload_n 1, 1) := by decide +kernel
theorem d1_6 : decode prog_7_method_1_code 6 = .ok (.putfield 7, 3) := by decide +kernel
theorem d1_9 : decode prog_7_method_1_code 9 = .ok (.return_, 1) := by decide +kernel
theorem own_pn1 : plainName "com/example/oxbow/oxbow/engine/SeededRandom" = true := by first | (simp [plainName, overriddenIn]; done) | decide +kernel
theorem own_ef1 (m : MethodId) (a1 : Addr) (q1 : Int64) : entryFrame m #[(.ref a1), (.long q1)] 3 = (mkF m 0 #[.val (.ref a1), .val (.long q1), .second] []) := by first | (simp [entryFrame, mkF, argsToLocals, Value.category]; done) | rfl
def own_Q1 (Z : State) (a1 : Addr) (q1 : Int64) (u_state : Value) (h0 : Heap) (n0 : Nat) (v : Option Value) (h : Heap) (L : List Loc) : Prop := v = none ∧ Fr n0 L ∧ Keep h0 h [a1] ∧ Exa Z h a1 "com/example/oxbow/oxbow/engine/SeededRandom" ∧ Fld Z h a1 "com/example/oxbow/oxbow/engine/SeededRandom" "state" "J" (.long q1)
set_option maxRecDepth 65536 in
set_option maxHeartbeats 40000000 in
theorem own_rm1 (l : Launch) (Z : State) (a0 : Array Value) (hw : ∀ d ∈ tables_1, d.before a0 Z = true) (ws : List Jvm.Cond) (a1 : Addr) (q1 : Int64) (u_state : Value) (h0 : Heap) (n0 : Nat) (Z0 : n0 ≤ h0.size) (E_a1 : Exa Z h0 a1 "com/example/oxbow/oxbow/engine/SeededRandom") (g_a1 : n0 ≤ a1) (F_state : Fld Z h0 a1 "com/example/oxbow/oxbow/engine/SeededRandom" "state" "J" u_state) :
    MetFree l (⟨"com/example/oxbow/oxbow/engine/SeededRandom", "<init>", "(J)V"⟩ : MethodName) (head1 (Jvm.Cond.code (⟨"com/example/oxbow/oxbow/engine/SeededRandom", "<init>", "(J)V"⟩ : MethodName) prog_7_method_1_code 3 none :: ws) ({ frames := 1, cells := 0, slots := 0, locals := 12 } : Room)) (fun a U => a = #[(.ref a1), (.long q1)] ∧ Z.Warmed39 U.vm ∧ U.heap = h0) (fun _ _ _ _ _ => True) (fun _ U o U' => ∃ v L, o = .returned v ∧ own_Q1 Z a1 q1 u_state h0 n0 v U'.heap L ∧ FrameEnd U o U' L ({ frames := 1, cells := 0, slots := 0, locals := 12 } : Room).cells ({ frames := 1, cells := 0, slots := 0, locals := 12 } : Room).slots) := by
  refine MetFree.of_bodySF (plainFor_of_name own_pn1) hisR ?_
  intro p e s m args below meth c s₁ Bd hml0 hP hK
  obtain ⟨rfl, hZ, hh⟩ := hP
  have hx := Bd.exec
  have hby := Bd.bytes
  have hml : c.maxLocals = 3 := hml0
  have hown : s.vm.findClass "com/example/oxbow/oxbow/engine/SeededRandom" = some m.cls := findClass_of_methodNamed Bd.named
  have hnm := (name_of_methodNamed Bd.named Bd.method).1
  have X0 : Stand p l e ({ frames := 1, cells := 0, slots := 0, locals := 12 } : Room) s m #[(.ref a1), (.long q1)] below meth c s₁ [] 0 0 := Stand.of_body Bd
  have e0 : s₁.heap = h0 := by rw [← hh, Bd.state]; rfl
  have N0 := Fr.nil n0
  show own_Fin p e below s (own_Q1 Z a1 q1 u_state h0 n0) ({ frames := 1, cells := 0, slots := 0, locals := 12 } : Room).cells ({ frames := 1, cells := 0, slots := 0, locals := 12 } : Room).slots (s₁.setTop (entryFrame m #[(.ref a1), (.long q1)] 3))
  refine own_go (s₁.setTop (mkF m 0 #[.val (.ref a1), .val (.long q1), .second] [])) (fun t k => castTop (own_ef1 m a1 q1) k) ?_
  refine own_go (s₁.setTop (mkF m 1 #[.val (.ref a1), .val (.long q1), .second] [(.ref a1)])) (fun _ k => XS.aloadN X0.here hx rfl (hb hby d1_0) rfl rfl k) ?_
  obtain ⟨T1, X1, e1, st1⟩ := initO X0 hx hZ hown (hw _ (List.mem_of_getElem? (i := 6) rfl)) (hw _ (List.mem_of_getElem? (i := 7) rfl)) (hw _ (List.mem_of_getElem? (i := 8) rfl)) e0 (g := (mkF m 1 #[.val (.ref a1), .val (.long q1), .second] [(.ref a1)])) rfl (by rw [hml]; rfl) rfl (hb hby d1_1) (by decide) (W := 0) (by show 2 * 0 + _ ≤ _; exact Nat.le_of_eq rfl) (by decide)
  refine own_go (T1.setTop (mkF m 4 #[.val (.ref a1), .val (.long q1), .second] [])) (fun _ k => st1 _ k) ?_
  refine own_go (T1.setTop (mkF m 5 #[.val (.ref a1), .val (.long q1), .second] [(.ref a1)])) (fun _ k => XS.aloadN X1.here hx rfl (hb hby d1_4) rfl rfl k) ?_
  refine own_go (T1.setTop (mkF m 6 #[.val (.ref a1), .val (.long q1), .second] [(.long q1), (.ref a1)])) (fun _ k => XS.lloadN X1.here hx rfl (hb hby d1_5) rfl k) ?_
  obtain ⟨T2, h2, X2, e2, W2, st2⟩ := putF X1 hx hZ hown (host := "") (Or.inl (hw _ (List.mem_of_getElem? (i := 9) rfl))) Via.refl e1 F_state E_a1 (Or.inl (hw _ (List.mem_of_getElem? (i := 10) rfl))) (hw _ (List.mem_of_getElem? (i := 1) rfl)) (ty := .long) (by decide) rfl rfl (g := (mkF m 6 #[.val (.ref a1), .val (.long q1), .second] [(.long q1), (.ref a1)])) rfl rfl (hb hby d1_6)
  have F_state_a1_2 := F_state.same W2
  have Ex2 := E_a1.wr W2
  have K2 := (Keep.refl h0 [a1]).wr W2 (Or.inl (List.mem_of_getElem? (i := 0) rfl))
  have N2 := Fr.snoc X2 N0 g_a1
  refine own_go (T2.setTop (mkF m 9 #[.val (.ref a1), .val (.long q1), .second] [])) (fun _ k => st2 _ k) ?_
  refine own_ret X2 (BodyLoose.notSynchronized Bd) none (fun _ => rfl) (fun fs hr => X2.returnOut hx Bd.returns (hb hby d1_9) hr) (by decide) (by decide) ?_
  rw [e2]
  exact ⟨rfl, N2, K2, Ex2, F_state_a1_2⟩
theorem d3_0 : decode prog_7_method_2_code 0 = .ok (.aload_n 0, 1) := by decide +kernel
theorem d3_1 : decode prog_7_method_2_code 1 = .ok (.dup, 1) := by decide +kernel
theorem d3_2 : decode prog_7_method_2_code 2 = .ok (.getfield 7, 3) := by decide +kernel
theorem d3_5 : decode prog_7_method_2_code 5 = .ok (.ldc2_w 13, 3) := by decide +kernel
theorem d3_8 : decode prog_7_method_2_code 8 = .ok (.ladd, 1) := by decide +kernel
theorem d3_9 : decode prog_7_method_2_code 9 = .ok (.putfield 7, 3) := by decide +kernel
theorem d3_12 : decode prog_7_method_2_code 12 = .ok (.aload_n 0, 1) := by decide +kernel
theorem d3_13 : decode prog_7_method_2_code 13 = .ok (.getfield 7, 3) := by decide +kernel
theorem d3_16 : decode prog_7_method_2_code 16 = .ok (.lstore_n 1, 1) := by decide +kernel
theorem d3_17 : decode prog_7_method_2_code 17 = .ok (.lload_n 1, 1) := by decide +kernel
theorem d3_18 : decode prog_7_method_2_code 18 = .ok (.lload_n 1, 1) := by decide +kernel
theorem d3_19 : decode prog_7_method_2_code 19 = .ok (.bipush 30, 2) := by decide +kernel
theorem d3_21 : decode prog_7_method_2_code 21 = .ok (.lushr, 1) := by decide +kernel
theorem d3_22 : decode prog_7_method_2_code 22 = .ok (.lxor, 1) := by decide +kernel
theorem d3_23 : decode prog_7_method_2_code 23 = .ok (.ldc2_w 15, 3) := by decide +kernel
theorem d3_26 : decode prog_7_method_2_code 26 = .ok (.lmul, 1) := by decide +kernel
theorem d3_27 : decode prog_7_method_2_code 27 = .ok (.lstore_n 1, 1) := by decide +kernel
theorem d3_28 : decode prog_7_method_2_code 28 = .ok (.lload_n 1, 1) := by decide +kernel
theorem d3_29 : decode prog_7_method_2_code 29 = .ok (.lload_n 1, 1) := by decide +kernel
theorem d3_30 : decode prog_7_method_2_code 30 = .ok (.bipush 27, 2) := by decide +kernel
theorem d3_32 : decode prog_7_method_2_code 32 = .ok (.lushr, 1) := by decide +kernel
theorem d3_33 : decode prog_7_method_2_code 33 = .ok (.lxor, 1) := by decide +kernel
theorem d3_34 : decode prog_7_method_2_code 34 = .ok (.ldc2_w 17, 3) := by decide +kernel
theorem d3_37 : decode prog_7_method_2_code 37 = .ok (.lmul, 1) := by decide +kernel
theorem d3_38 : decode prog_7_method_2_code 38 = .ok (.lstore_n 1, 1) := by decide +kernel
theorem d3_39 : decode prog_7_method_2_code 39 = .ok (.lload_n 1, 1) := by decide +kernel
theorem d3_40 : decode prog_7_method_2_code 40 = .ok (.lload_n 1, 1) := by decide +kernel
theorem d3_41 : decode prog_7_method_2_code 41 = .ok (.bipush 31, 2) := by decide +kernel
theorem d3_43 : decode prog_7_method_2_code 43 = .ok (.lushr, 1) := by decide +kernel
theorem d3_44 : decode prog_7_method_2_code 44 = .ok (.lxor, 1) := by decide +kernel
theorem d3_45 : decode prog_7_method_2_code 45 = .ok (.lreturn, 1) := by decide +kernel
theorem own_pn3 : plainName "com/example/oxbow/oxbow/engine/SeededRandom" = true := by first | (simp [plainName, overriddenIn]; done) | decide +kernel
theorem own_ef3 (m : MethodId) (a1 : Addr) : entryFrame m #[(.ref a1)] 3 = (mkF m 0 #[.val (.ref a1), .unset, .unset] []) := by first | (simp [entryFrame, mkF, argsToLocals, Value.category]; done) | rfl
def own_Q3 (Z : State) (a1 : Addr) (w : Int64) (h0 : Heap) (n0 : Nat) (v : Option Value) (h : Heap) (L : List Loc) : Prop := v = some (.long (own_mix (w + (-7046029254386353131 : Int64)))) ∧ Fr n0 L ∧ Keep h0 h [a1] ∧ Exa Z h a1 "com/example/oxbow/oxbow/engine/SeededRandom" ∧ Fld Z h a1 "com/example/oxbow/oxbow/engine/SeededRandom" "state" "J" (.long (w + (-7046029254386353131 : Int64)))
set_option maxRecDepth 65536 in
set_option maxHeartbeats 40000000 in
theorem own_rm3 (l : Launch) (Z : State) (a0 : Array Value) (hw : ∀ d ∈ tables_1, d.before a0 Z = true) (ws : List Jvm.Cond) (a1 : Addr) (w : Int64) (h0 : Heap) (n0 : Nat) (Z0 : n0 ≤ h0.size) (E_a1 : Exa Z h0 a1 "com/example/oxbow/oxbow/engine/SeededRandom") (g_a1 : n0 ≤ a1) (F_state : Fld Z h0 a1 "com/example/oxbow/oxbow/engine/SeededRandom" "state" "J" (.long w)) :
    MetFree l (⟨"com/example/oxbow/oxbow/engine/SeededRandom", "nextLong", "()J"⟩ : MethodName) (head1 (Jvm.Cond.code (⟨"com/example/oxbow/oxbow/engine/SeededRandom", "nextLong", "()J"⟩ : MethodName) prog_7_method_2_code 3 (some .long) :: ws) ({ frames := 0, cells := 0, slots := 0, locals := 0 } : Room)) (fun a U => a = #[(.ref a1)] ∧ Z.Warmed39 U.vm ∧ U.heap = h0) (fun _ _ _ _ _ => True) (fun _ U o U' => ∃ v L, o = .returned v ∧ own_Q3 Z a1 w h0 n0 v U'.heap L ∧ FrameEnd U o U' L ({ frames := 0, cells := 0, slots := 0, locals := 0 } : Room).cells ({ frames := 0, cells := 0, slots := 0, locals := 0 } : Room).slots) := by
  refine MetFree.of_bodySF (plainFor_of_name own_pn3) hisR ?_
  intro p e s m args below meth c s₁ Bd hml0 hP hK
  obtain ⟨rfl, hZ, hh⟩ := hP
  have hx := Bd.exec
  have hby := Bd.bytes
  have hml : c.maxLocals = 3 := hml0
  have hown : s.vm.findClass "com/example/oxbow/oxbow/engine/SeededRandom" = some m.cls := findClass_of_methodNamed Bd.named
  have hnm := (name_of_methodNamed Bd.named Bd.method).1
  have X0 : Stand p l e ({ frames := 0, cells := 0, slots := 0, locals := 0 } : Room) s m #[(.ref a1)] below meth c s₁ [] 0 0 := Stand.of_body Bd
  have e0 : s₁.heap = h0 := by rw [← hh, Bd.state]; rfl
  have N0 := Fr.nil n0
  show own_Fin p e below s (own_Q3 Z a1 w h0 n0) ({ frames := 0, cells := 0, slots := 0, locals := 0 } : Room).cells ({ frames := 0, cells := 0, slots := 0, locals := 0 } : Room).slots (s₁.setTop (entryFrame m #[(.ref a1)] 3))
  refine own_go (s₁.setTop (mkF m 0 #[.val (.ref a1), .unset, .unset] [])) (fun t k => castTop (own_ef3 m a1) k) ?_
  refine own_go (s₁.setTop (mkF m 1 #[.val (.ref a1), .unset, .unset] [(.ref a1)])) (fun _ k => XS.aloadN X0.here hx rfl (hb hby d3_0) rfl rfl k) ?_
  refine own_go (s₁.setTop (mkF m 2 #[.val (.ref a1), .unset, .unset] [(.ref a1), (.ref a1)])) (fun _ k => XS.dup X0.here hx rfl (hb hby d3_1) rfl rfl k) ?_
  obtain ⟨T1, X1, e1, st1⟩ := getF X0 hx hZ hown (host := "") (Or.inl (hw _ (List.mem_of_getElem? (i := 9) rfl))) Via.refl e0 F_state (g := (mkF m 2 #[.val (.ref a1), .unset, .unset] [(.ref a1), (.ref a1)])) rfl rfl (hb hby d3_2)
  refine own_go (T1.setTop (mkF m 5 #[.val (.ref a1), .unset, .unset] [(.long w), (.ref a1)])) (fun _ k => st1 _ k) ?_
  refine own_go (T1.setTop (mkF m 8 #[.val (.ref a1), .unset, .unset] [(.long (-7046029254386353131 : Int64)), (.long w), (.ref a1)])) (fun _ k => X1.ldc2Long hx hown (mvT hZ (hw _ (List.mem_of_getElem? (i := 16) rfl))) (g := (mkF m 5 #[.val (.ref a1), .unset, .unset] [(.long w), (.ref a1)])) rfl (hb hby d3_5) _ k) ?_
  refine own_go (T1.setTop (mkF m 9 #[.val (.ref a1), .unset, .unset] [(.long (w + (-7046029254386353131 : Int64))), (.ref a1)])) (fun _ k => XS.ladd X1.here hx rfl (hb hby d3_8) rfl k) ?_
  obtain ⟨T2, h2, X2, e2, W2, st2⟩ := putF X1 hx hZ hown (host := "") (Or.inl (hw _ (List.mem_of_getElem? (i := 9) rfl))) Via.refl e1 F_state E_a1 (Or.inl (hw _ (List.mem_of_getElem? (i := 10) rfl))) (hw _ (List.mem_of_getElem? (i := 1) rfl)) (ty := .long) (by decide) rfl rfl (g := (mkF m 9 #[.val (.ref a1), .unset, .unset] [(.long (w + (-7046029254386353131 : Int64))), (.ref a1)])) rfl rfl (hb hby d3_9)
  have F_state_a1_2 := F_state.same W2
  have Ex2 := E_a1.wr W2
  have K2 := (Keep.refl h0 [a1]).wr W2 (Or.inl (List.mem_of_getElem? (i := 0) rfl))
  have N2 := Fr.snoc X2 N0 g_a1
  refine own_go (T2.setTop (mkF m 12 #[.val (.ref a1), .unset, .unset] [])) (fun _ k => st2 _ k) ?_
  refine own_go (T2.setTop (mkF m 13 #[.val (.ref a1), .unset, .unset] [(.ref a1)])) (fun _ k => XS.aloadN X2.here hx rfl (hb hby d3_12) rfl rfl k) ?_
  obtain ⟨T3, X3, e3, st3⟩ := getF X2 hx hZ hown (host := "") (Or.inl (hw _ (List.mem_of_getElem? (i := 9) rfl))) Via.refl e2 F_state_a1_2 (g := (mkF m 13 #[.val (.ref a1), .unset, .unset] [(.ref a1)])) rfl rfl (hb hby d3_13)
  refine own_go (T3.setTop (mkF m 16 #[.val (.ref a1), .unset, .unset] [(.long (w + (-7046029254386353131 : Int64)))])) (fun _ k => st3 _ k) ?_
  refine own_go (T3.setTop (mkF m 17 #[.val (.ref a1), .val (.long (w + (-7046029254386353131 : Int64))), .second] [])) (fun _ k => XS.lstoreN X3.here hx rfl (hb hby d3_16) rfl (l' := #[.val (.ref a1), .val (.long (w + (-7046029254386353131 : Int64))), .second]) rfl k) ?_
  refine own_go (T3.setTop (mkF m 18 #[.val (.ref a1), .val (.long (w + (-7046029254386353131 : Int64))), .second] [(.long (w + (-7046029254386353131 : Int64)))])) (fun _ k => XS.lloadN X3.here hx rfl (hb hby d3_17) rfl k) ?_
  refine own_go (T3.setTop (mkF m 19 #[.val (.ref a1), .val (.long (w + (-7046029254386353131 : Int64))), .second] [(.long (w + (-7046029254386353131 : Int64))), (.long (w + (-7046029254386353131 : Int64)))])) (fun _ k => XS.lloadN X3.here hx rfl (hb hby d3_18) rfl k) ?_
  refine own_go (T3.setTop (mkF m 21 #[.val (.ref a1), .val (.long (w + (-7046029254386353131 : Int64))), .second] [(.int (30 : Int32)), (.long (w + (-7046029254386353131 : Int64))), (.long (w + (-7046029254386353131 : Int64)))])) (fun _ k => XS.bipush X3.here hx rfl (hb hby d3_19) k) ?_
  refine own_go (T3.setTop (mkF m 22 #[.val (.ref a1), .val (.long (w + (-7046029254386353131 : Int64))), .second] [(.long (((w + (-7046029254386353131 : Int64)).toUInt64 >>> ((30 : Int32) &&& 0x3f).toInt64.toUInt64).toInt64)), (.long (w + (-7046029254386353131 : Int64)))])) (fun _ k => XS.lushr X3.here hx rfl (hb hby d3_21) rfl k) ?_
  refine own_go (T3.setTop (mkF m 23 #[.val (.ref a1), .val (.long (w + (-7046029254386353131 : Int64))), .second] [(.long ((w + (-7046029254386353131 : Int64)) ^^^ (((w + (-7046029254386353131 : Int64)).toUInt64 >>> ((30 : Int32) &&& 0x3f).toInt64.toUInt64).toInt64)))])) (fun _ k => XS.lxor X3.here hx rfl (hb hby d3_22) rfl k) ?_
  refine own_go (T3.setTop (mkF m 26 #[.val (.ref a1), .val (.long (w + (-7046029254386353131 : Int64))), .second] [(.long (-4658895280553007687 : Int64)), (.long ((w + (-7046029254386353131 : Int64)) ^^^ (((w + (-7046029254386353131 : Int64)).toUInt64 >>> ((30 : Int32) &&& 0x3f).toInt64.toUInt64).toInt64)))])) (fun _ k => X3.ldc2Long hx hown (mvT hZ (hw _ (List.mem_of_getElem? (i := 17) rfl))) (g := (mkF m 23 #[.val (.ref a1), .val (.long (w + (-7046029254386353131 : Int64))), .second] [(.long ((w + (-7046029254386353131 : Int64)) ^^^ (((w + (-7046029254386353131 : Int64)).toUInt64 >>> ((30 : Int32) &&& 0x3f).toInt64.toUInt64).toInt64)))])) rfl (hb hby d3_23) _ k) ?_
  refine own_go (T3.setTop (mkF m 27 #[.val (.ref a1), .val (.long (w + (-7046029254386353131 : Int64))), .second] [(.long (((w + (-7046029254386353131 : Int64)) ^^^ (((w + (-7046029254386353131 : Int64)).toUInt64 >>> ((30 : Int32) &&& 0x3f).toInt64.toUInt64).toInt64)) * (-4658895280553007687 : Int64)))])) (fun _ k => XS.lmul X3.here hx rfl (hb hby d3_26) rfl k) ?_
  refine own_go (T3.setTop (mkF m 28 #[.val (.ref a1), .val (.long (((w + (-7046029254386353131 : Int64)) ^^^ (((w + (-7046029254386353131 : Int64)).toUInt64 >>> ((30 : Int32) &&& 0x3f).toInt64.toUInt64).toInt64)) * (-4658895280553007687 : Int64))), .second] [])) (fun _ k => XS.lstoreN X3.here hx rfl (hb hby d3_27) rfl (l' := #[.val (.ref a1), .val (.long (((w + (-7046029254386353131 : Int64)) ^^^ (((w + (-7046029254386353131 : Int64)).toUInt64 >>> ((30 : Int32) &&& 0x3f).toInt64.toUInt64).toInt64)) * (-4658895280553007687 : Int64))), .second]) rfl k) ?_
  refine own_go (T3.setTop (mkF m 29 #[.val (.ref a1), .val (.long (((w + (-7046029254386353131 : Int64)) ^^^ (((w + (-7046029254386353131 : Int64)).toUInt64 >>> ((30 : Int32) &&& 0x3f).toInt64.toUInt64).toInt64)) * (-4658895280553007687 : Int64))), .second] [(.long (((w + (-7046029254386353131 : Int64)) ^^^ (((w + (-7046029254386353131 : Int64)).toUInt64 >>> ((30 : Int32) &&& 0x3f).toInt64.toUInt64).toInt64)) * (-4658895280553007687 : Int64)))])) (fun _ k => XS.lloadN X3.here hx rfl (hb hby d3_28) rfl k) ?_
  refine own_go (T3.setTop (mkF m 30 #[.val (.ref a1), .val (.long (((w + (-7046029254386353131 : Int64)) ^^^ (((w + (-7046029254386353131 : Int64)).toUInt64 >>> ((30 : Int32) &&& 0x3f).toInt64.toUInt64).toInt64)) * (-4658895280553007687 : Int64))), .second] [(.long (((w + (-7046029254386353131 : Int64)) ^^^ (((w + (-7046029254386353131 : Int64)).toUInt64 >>> ((30 : Int32) &&& 0x3f).toInt64.toUInt64).toInt64)) * (-4658895280553007687 : Int64))), (.long (((w + (-7046029254386353131 : Int64)) ^^^ (((w + (-7046029254386353131 : Int64)).toUInt64 >>> ((30 : Int32) &&& 0x3f).toInt64.toUInt64).toInt64)) * (-4658895280553007687 : Int64)))])) (fun _ k => XS.lloadN X3.here hx rfl (hb hby d3_29) rfl k) ?_
  refine own_go (T3.setTop (mkF m 32 #[.val (.ref a1), .val (.long (((w + (-7046029254386353131 : Int64)) ^^^ (((w + (-7046029254386353131 : Int64)).toUInt64 >>> ((30 : Int32) &&& 0x3f).toInt64.toUInt64).toInt64)) * (-4658895280553007687 : Int64))), .second] [(.int (27 : Int32)), (.long (((w + (-7046029254386353131 : Int64)) ^^^ (((w + (-7046029254386353131 : Int64)).toUInt64 >>> ((30 : Int32) &&& 0x3f).toInt64.toUInt64).toInt64)) * (-4658895280553007687 : Int64))), (.long (((w + (-7046029254386353131 : Int64)) ^^^ (((w + (-7046029254386353131 : Int64)).toUInt64 >>> ((30 : Int32) &&& 0x3f).toInt64.toUInt64).toInt64)) * (-4658895280553007687 : Int64)))])) (fun _ k => XS.bipush X3.here hx rfl (hb hby d3_30) k) ?_
  refine own_go (T3.setTop (mkF m 33 #[.val (.ref a1), .val (.long (((w + (-7046029254386353131 : Int64)) ^^^ (((w + (-7046029254386353131 : Int64)).toUInt64 >>> ((30 : Int32) &&& 0x3f).toInt64.toUInt64).toInt64)) * (-4658895280553007687 : Int64))), .second] [(.long (((((w + (-7046029254386353131 : Int64)) ^^^ (((w + (-7046029254386353131 : Int64)).toUInt64 >>> ((30 : Int32) &&& 0x3f).toInt64.toUInt64).toInt64)) * (-4658895280553007687 : Int64)).toUInt64 >>> ((27 : Int32) &&& 0x3f).toInt64.toUInt64).toInt64)), (.long (((w + (-7046029254386353131 : Int64)) ^^^ (((w + (-7046029254386353131 : Int64)).toUInt64 >>> ((30 : Int32) &&& 0x3f).toInt64.toUInt64).toInt64)) * (-4658895280553007687 : Int64)))])) (fun _ k => XS.lushr X3.here hx rfl (hb hby d3_32) rfl k) ?_
  refine own_go (T3.setTop (mkF m 34 #[.val (.ref a1), .val (.long (((w + (-7046029254386353131 : Int64)) ^^^ (((w + (-7046029254386353131 : Int64)).toUInt64 >>> ((30 : Int32) &&& 0x3f).toInt64.toUInt64).toInt64)) * (-4658895280553007687 : Int64))), .second] [(.long ((((w + (-7046029254386353131 : Int64)) ^^^ (((w + (-7046029254386353131 : Int64)).toUInt64 >>> ((30 : Int32) &&& 0x3f).toInt64.toUInt64).toInt64)) * (-4658895280553007687 : Int64)) ^^^ (((((w + (-7046029254386353131 : Int64)) ^^^ (((w + (-7046029254386353131 : Int64)).toUInt64 >>> ((30 : Int32) &&& 0x3f).toInt64.toUInt64).toInt64)) * (-4658895280553007687 : Int64)).toUInt64 >>> ((27 : Int32) &&& 0x3f).toInt64.toUInt64).toInt64)))])) (fun _ k => XS.lxor X3.here hx rfl (hb hby d3_33) rfl k) ?_
  refine own_go (T3.setTop (mkF m 37 #[.val (.ref a1), .val (.long (((w + (-7046029254386353131 : Int64)) ^^^ (((w + (-7046029254386353131 : Int64)).toUInt64 >>> ((30 : Int32) &&& 0x3f).toInt64.toUInt64).toInt64)) * (-4658895280553007687 : Int64))), .second] [(.long (-7723592293110705685 : Int64)), (.long ((((w + (-7046029254386353131 : Int64)) ^^^ (((w + (-7046029254386353131 : Int64)).toUInt64 >>> ((30 : Int32) &&& 0x3f).toInt64.toUInt64).toInt64)) * (-4658895280553007687 : Int64)) ^^^ (((((w + (-7046029254386353131 : Int64)) ^^^ (((w + (-7046029254386353131 : Int64)).toUInt64 >>> ((30 : Int32) &&& 0x3f).toInt64.toUInt64).toInt64)) * (-4658895280553007687 : Int64)).toUInt64 >>> ((27 : Int32) &&& 0x3f).toInt64.toUInt64).toInt64)))])) (fun _ k => X3.ldc2Long hx hown (mvT hZ (hw _ (List.mem_of_getElem? (i := 18) rfl))) (g := (mkF m 34 #[.val (.ref a1), .val (.long (((w + (-7046029254386353131 : Int64)) ^^^ (((w + (-7046029254386353131 : Int64)).toUInt64 >>> ((30 : Int32) &&& 0x3f).toInt64.toUInt64).toInt64)) * (-4658895280553007687 : Int64))), .second] [(.long ((((w + (-7046029254386353131 : Int64)) ^^^ (((w + (-7046029254386353131 : Int64)).toUInt64 >>> ((30 : Int32) &&& 0x3f).toInt64.toUInt64).toInt64)) * (-4658895280553007687 : Int64)) ^^^ (((((w + (-7046029254386353131 : Int64)) ^^^ (((w + (-7046029254386353131 : Int64)).toUInt64 >>> ((30 : Int32) &&& 0x3f).toInt64.toUInt64).toInt64)) * (-4658895280553007687 : Int64)).toUInt64 >>> ((27 : Int32) &&& 0x3f).toInt64.toUInt64).toInt64)))])) rfl (hb hby d3_34) _ k) ?_
  refine own_go (T3.setTop (mkF m 38 #[.val (.ref a1), .val (.long (((w + (-7046029254386353131 : Int64)) ^^^ (((w + (-7046029254386353131 : Int64)).toUInt64 >>> ((30 : Int32) &&& 0x3f).toInt64.toUInt64).toInt64)) * (-4658895280553007687 : Int64))), .second] [(.long (((((w + (-7046029254386353131 : Int64)) ^^^ (((w + (-7046029254386353131 : Int64)).toUInt64 >>> ((30 : Int32) &&& 0x3f).toInt64.toUInt64).toInt64)) * (-4658895280553007687 : Int64)) ^^^ (((((w + (-7046029254386353131 : Int64)) ^^^ (((w + (-7046029254386353131 : Int64)).toUInt64 >>> ((30 : Int32) &&& 0x3f).toInt64.toUInt64).toInt64)) * (-4658895280553007687 : Int64)).toUInt64 >>> ((27 : Int32) &&& 0x3f).toInt64.toUInt64).toInt64)) * (-7723592293110705685 : Int64)))])) (fun _ k => XS.lmul X3.here hx rfl (hb hby d3_37) rfl k) ?_
  refine own_go (T3.setTop (mkF m 39 #[.val (.ref a1), .val (.long (((((w + (-7046029254386353131 : Int64)) ^^^ (((w + (-7046029254386353131 : Int64)).toUInt64 >>> ((30 : Int32) &&& 0x3f).toInt64.toUInt64).toInt64)) * (-4658895280553007687 : Int64)) ^^^ (((((w + (-7046029254386353131 : Int64)) ^^^ (((w + (-7046029254386353131 : Int64)).toUInt64 >>> ((30 : Int32) &&& 0x3f).toInt64.toUInt64).toInt64)) * (-4658895280553007687 : Int64)).toUInt64 >>> ((27 : Int32) &&& 0x3f).toInt64.toUInt64).toInt64)) * (-7723592293110705685 : Int64))), .second] [])) (fun _ k => XS.lstoreN X3.here hx rfl (hb hby d3_38) rfl (l' := #[.val (.ref a1), .val (.long (((((w + (-7046029254386353131 : Int64)) ^^^ (((w + (-7046029254386353131 : Int64)).toUInt64 >>> ((30 : Int32) &&& 0x3f).toInt64.toUInt64).toInt64)) * (-4658895280553007687 : Int64)) ^^^ (((((w + (-7046029254386353131 : Int64)) ^^^ (((w + (-7046029254386353131 : Int64)).toUInt64 >>> ((30 : Int32) &&& 0x3f).toInt64.toUInt64).toInt64)) * (-4658895280553007687 : Int64)).toUInt64 >>> ((27 : Int32) &&& 0x3f).toInt64.toUInt64).toInt64)) * (-7723592293110705685 : Int64))), .second]) rfl k) ?_
  refine own_go (T3.setTop (mkF m 40 #[.val (.ref a1), .val (.long (((((w + (-7046029254386353131 : Int64)) ^^^ (((w + (-7046029254386353131 : Int64)).toUInt64 >>> ((30 : Int32) &&& 0x3f).toInt64.toUInt64).toInt64)) * (-4658895280553007687 : Int64)) ^^^ (((((w + (-7046029254386353131 : Int64)) ^^^ (((w + (-7046029254386353131 : Int64)).toUInt64 >>> ((30 : Int32) &&& 0x3f).toInt64.toUInt64).toInt64)) * (-4658895280553007687 : Int64)).toUInt64 >>> ((27 : Int32) &&& 0x3f).toInt64.toUInt64).toInt64)) * (-7723592293110705685 : Int64))), .second] [(.long (((((w + (-7046029254386353131 : Int64)) ^^^ (((w + (-7046029254386353131 : Int64)).toUInt64 >>> ((30 : Int32) &&& 0x3f).toInt64.toUInt64).toInt64)) * (-4658895280553007687 : Int64)) ^^^ (((((w + (-7046029254386353131 : Int64)) ^^^ (((w + (-7046029254386353131 : Int64)).toUInt64 >>> ((30 : Int32) &&& 0x3f).toInt64.toUInt64).toInt64)) * (-4658895280553007687 : Int64)).toUInt64 >>> ((27 : Int32) &&& 0x3f).toInt64.toUInt64).toInt64)) * (-7723592293110705685 : Int64)))])) (fun _ k => XS.lloadN X3.here hx rfl (hb hby d3_39) rfl k) ?_
  refine own_go (T3.setTop (mkF m 41 #[.val (.ref a1), .val (.long (((((w + (-7046029254386353131 : Int64)) ^^^ (((w + (-7046029254386353131 : Int64)).toUInt64 >>> ((30 : Int32) &&& 0x3f).toInt64.toUInt64).toInt64)) * (-4658895280553007687 : Int64)) ^^^ (((((w + (-7046029254386353131 : Int64)) ^^^ (((w + (-7046029254386353131 : Int64)).toUInt64 >>> ((30 : Int32) &&& 0x3f).toInt64.toUInt64).toInt64)) * (-4658895280553007687 : Int64)).toUInt64 >>> ((27 : Int32) &&& 0x3f).toInt64.toUInt64).toInt64)) * (-7723592293110705685 : Int64))), .second] [(.long (((((w + (-7046029254386353131 : Int64)) ^^^ (((w + (-7046029254386353131 : Int64)).toUInt64 >>> ((30 : Int32) &&& 0x3f).toInt64.toUInt64).toInt64)) * (-4658895280553007687 : Int64)) ^^^ (((((w + (-7046029254386353131 : Int64)) ^^^ (((w + (-7046029254386353131 : Int64)).toUInt64 >>> ((30 : Int32) &&& 0x3f).toInt64.toUInt64).toInt64)) * (-4658895280553007687 : Int64)).toUInt64 >>> ((27 : Int32) &&& 0x3f).toInt64.toUInt64).toInt64)) * (-7723592293110705685 : Int64))), (.long (((((w + (-7046029254386353131 : Int64)) ^^^ (((w + (-7046029254386353131 : Int64)).toUInt64 >>> ((30 : Int32) &&& 0x3f).toInt64.toUInt64).toInt64)) * (-4658895280553007687 : Int64)) ^^^ (((((w + (-7046029254386353131 : Int64)) ^^^ (((w + (-7046029254386353131 : Int64)).toUInt64 >>> ((30 : Int32) &&& 0x3f).toInt64.toUInt64).toInt64)) * (-4658895280553007687 : Int64)).toUInt64 >>> ((27 : Int32) &&& 0x3f).toInt64.toUInt64).toInt64)) * (-7723592293110705685 : Int64)))])) (fun _ k => XS.lloadN X3.here hx rfl (hb hby d3_40) rfl k) ?_
  refine own_go (T3.setTop (mkF m 43 #[.val (.ref a1), .val (.long (((((w + (-7046029254386353131 : Int64)) ^^^ (((w + (-7046029254386353131 : Int64)).toUInt64 >>> ((30 : Int32) &&& 0x3f).toInt64.toUInt64).toInt64)) * (-4658895280553007687 : Int64)) ^^^ (((((w + (-7046029254386353131 : Int64)) ^^^ (((w + (-7046029254386353131 : Int64)).toUInt64 >>> ((30 : Int32) &&& 0x3f).toInt64.toUInt64).toInt64)) * (-4658895280553007687 : Int64)).toUInt64 >>> ((27 : Int32) &&& 0x3f).toInt64.toUInt64).toInt64)) * (-7723592293110705685 : Int64))), .second] [(.int (31 : Int32)), (.long (((((w + (-7046029254386353131 : Int64)) ^^^ (((w + (-7046029254386353131 : Int64)).toUInt64 >>> ((30 : Int32) &&& 0x3f).toInt64.toUInt64).toInt64)) * (-4658895280553007687 : Int64)) ^^^ (((((w + (-7046029254386353131 : Int64)) ^^^ (((w + (-7046029254386353131 : Int64)).toUInt64 >>> ((30 : Int32) &&& 0x3f).toInt64.toUInt64).toInt64)) * (-4658895280553007687 : Int64)).toUInt64 >>> ((27 : Int32) &&& 0x3f).toInt64.toUInt64).toInt64)) * (-7723592293110705685 : Int64))), (.long (((((w + (-7046029254386353131 : Int64)) ^^^ (((w + (-7046029254386353131 : Int64)).toUInt64 >>> ((30 : Int32) &&& 0x3f).toInt64.toUInt64).toInt64)) * (-4658895280553007687 : Int64)) ^^^ (((((w + (-7046029254386353131 : Int64)) ^^^ (((w + (-7046029254386353131 : Int64)).toUInt64 >>> ((30 : Int32) &&& 0x3f).toInt64.toUInt64).toInt64)) * (-4658895280553007687 : Int64)).toUInt64 >>> ((27 : Int32) &&& 0x3f).toInt64.toUInt64).toInt64)) * (-7723592293110705685 : Int64)))])) (fun _ k => XS.bipush X3.here hx rfl (hb hby d3_41) k) ?_
  refine own_go (T3.setTop (mkF m 44 #[.val (.ref a1), .val (.long (((((w + (-7046029254386353131 : Int64)) ^^^ (((w + (-7046029254386353131 : Int64)).toUInt64 >>> ((30 : Int32) &&& 0x3f).toInt64.toUInt64).toInt64)) * (-4658895280553007687 : Int64)) ^^^ (((((w + (-7046029254386353131 : Int64)) ^^^ (((w + (-7046029254386353131 : Int64)).toUInt64 >>> ((30 : Int32) &&& 0x3f).toInt64.toUInt64).toInt64)) * (-4658895280553007687 : Int64)).toUInt64 >>> ((27 : Int32) &&& 0x3f).toInt64.toUInt64).toInt64)) * (-7723592293110705685 : Int64))), .second] [(.long (((((((w + (-7046029254386353131 : Int64)) ^^^ (((w + (-7046029254386353131 : Int64)).toUInt64 >>> ((30 : Int32) &&& 0x3f).toInt64.toUInt64).toInt64)) * (-4658895280553007687 : Int64)) ^^^ (((((w + (-7046029254386353131 : Int64)) ^^^ (((w + (-7046029254386353131 : Int64)).toUInt64 >>> ((30 : Int32) &&& 0x3f).toInt64.toUInt64).toInt64)) * (-4658895280553007687 : Int64)).toUInt64 >>> ((27 : Int32) &&& 0x3f).toInt64.toUInt64).toInt64)) * (-7723592293110705685 : Int64)).toUInt64 >>> ((31 : Int32) &&& 0x3f).toInt64.toUInt64).toInt64)), (.long (((((w + (-7046029254386353131 : Int64)) ^^^ (((w + (-7046029254386353131 : Int64)).toUInt64 >>> ((30 : Int32) &&& 0x3f).toInt64.toUInt64).toInt64)) * (-4658895280553007687 : Int64)) ^^^ (((((w + (-7046029254386353131 : Int64)) ^^^ (((w + (-7046029254386353131 : Int64)).toUInt64 >>> ((30 : Int32) &&& 0x3f).toInt64.toUInt64).toInt64)) * (-4658895280553007687 : Int64)).toUInt64 >>> ((27 : Int32) &&& 0x3f).toInt64.toUInt64).toInt64)) * (-7723592293110705685 : Int64)))])) (fun _ k => XS.lushr X3.here hx rfl (hb hby d3_43) rfl k) ?_
  refine own_go (T3.setTop (mkF m 45 #[.val (.ref a1), .val (.long (((((w + (-7046029254386353131 : Int64)) ^^^ (((w + (-7046029254386353131 : Int64)).toUInt64 >>> ((30 : Int32) &&& 0x3f).toInt64.toUInt64).toInt64)) * (-4658895280553007687 : Int64)) ^^^ (((((w + (-7046029254386353131 : Int64)) ^^^ (((w + (-7046029254386353131 : Int64)).toUInt64 >>> ((30 : Int32) &&& 0x3f).toInt64.toUInt64).toInt64)) * (-4658895280553007687 : Int64)).toUInt64 >>> ((27 : Int32) &&& 0x3f).toInt64.toUInt64).toInt64)) * (-7723592293110705685 : Int64))), .second] [(.long ((((((w + (-7046029254386353131 : Int64)) ^^^ (((w + (-7046029254386353131 : Int64)).toUInt64 >>> ((30 : Int32) &&& 0x3f).toInt64.toUInt64).toInt64)) * (-4658895280553007687 : Int64)) ^^^ (((((w + (-7046029254386353131 : Int64)) ^^^ (((w + (-7046029254386353131 : Int64)).toUInt64 >>> ((30 : Int32) &&& 0x3f).toInt64.toUInt64).toInt64)) * (-4658895280553007687 : Int64)).toUInt64 >>> ((27 : Int32) &&& 0x3f).toInt64.toUInt64).toInt64)) * (-7723592293110705685 : Int64)) ^^^ (((((((w + (-7046029254386353131 : Int64)) ^^^ (((w + (-7046029254386353131 : Int64)).toUInt64 >>> ((30 : Int32) &&& 0x3f).toInt64.toUInt64).toInt64)) * (-4658895280553007687 : Int64)) ^^^ (((((w + (-7046029254386353131 : Int64)) ^^^ (((w + (-7046029254386353131 : Int64)).toUInt64 >>> ((30 : Int32) &&& 0x3f).toInt64.toUInt64).toInt64)) * (-4658895280553007687 : Int64)).toUInt64 >>> ((27 : Int32) &&& 0x3f).toInt64.toUInt64).toInt64)) * (-7723592293110705685 : Int64)).toUInt64 >>> ((31 : Int32) &&& 0x3f).toInt64.toUInt64).toInt64)))])) (fun _ k => XS.lxor X3.here hx rfl (hb hby d3_44) rfl k) ?_
  refine own_ret X3 (BodyLoose.notSynchronized Bd) (some (.long ((((((w + (-7046029254386353131 : Int64)) ^^^ (((w + (-7046029254386353131 : Int64)).toUInt64 >>> ((30 : Int32) &&& 0x3f).toInt64.toUInt64).toInt64)) * (-4658895280553007687 : Int64)) ^^^ (((((w + (-7046029254386353131 : Int64)) ^^^ (((w + (-7046029254386353131 : Int64)).toUInt64 >>> ((30 : Int32) &&& 0x3f).toInt64.toUInt64).toInt64)) * (-4658895280553007687 : Int64)).toUInt64 >>> ((27 : Int32) &&& 0x3f).toInt64.toUInt64).toInt64)) * (-7723592293110705685 : Int64)) ^^^ (((((((w + (-7046029254386353131 : Int64)) ^^^ (((w + (-7046029254386353131 : Int64)).toUInt64 >>> ((30 : Int32) &&& 0x3f).toInt64.toUInt64).toInt64)) * (-4658895280553007687 : Int64)) ^^^ (((((w + (-7046029254386353131 : Int64)) ^^^ (((w + (-7046029254386353131 : Int64)).toUInt64 >>> ((30 : Int32) &&& 0x3f).toInt64.toUInt64).toInt64)) * (-4658895280553007687 : Int64)).toUInt64 >>> ((27 : Int32) &&& 0x3f).toInt64.toUInt64).toInt64)) * (-7723592293110705685 : Int64)).toUInt64 >>> ((31 : Int32) &&& 0x3f).toInt64.toUInt64).toInt64)))) (fun h => by rw [Bd.returns] at h; cases h) (fun fs hr => retOut X3 hx Bd.returns rfl (Or.inr (Or.inl ⟨rfl, rfl, _, rfl⟩)) (hb hby d3_45) hr) (by decide) (by decide) ?_
  rw [e3]
  exact ⟨rfl, N2, K2, Ex2, F_state_a1_2⟩
theorem d4_0 : decode method_2_code 0 = .ok (.lload_n 0, 1) := by decide +kernel
theorem d4_1 : decode method_2_code 1 = .ok (.lload_n 0, 1) := by decide +kernel
theorem d4_2 : decode method_2_code 2 = .ok (.bipush 31, 2) := by decide +kernel
theorem d4_4 : decode method_2_code 4 = .ok (.lushr, 1) := by decide +kernel
theorem d4_5 : decode method_2_code 5 = .ok (.lxor, 1) := by decide +kernel
theorem d4_6 : decode method_2_code 6 = .ok (.lload_n 0, 1) := by decide +kernel
theorem d4_7 : decode method_2_code 7 = .ok (.bipush 62, 2) := by decide +kernel
theorem d4_9 : decode method_2_code 9 = .ok (.lushr, 1) := by decide +kernel
theorem d4_10 : decode method_2_code 10 = .ok (.lxor, 1) := by decide +kernel
theorem d4_11 : decode method_2_code 11 = .ok (.ldc2_w 7, 3) := by decide +kernel
theorem d4_14 : decode method_2_code 14 = .ok (.lmul, 1) := by decide +kernel
theorem d4_15 : decode method_2_code 15 = .ok (.lstore_n 0, 1) := by decide +kernel
theorem d4_16 : decode method_2_code 16 = .ok (.lload_n 0, 1) := by decide +kernel
theorem d4_17 : decode method_2_code 17 = .ok (.lload_n 0, 1) := by decide +kernel
theorem d4_18 : decode method_2_code 18 = .ok (.bipush 27, 2) := by decide +kernel
theorem d4_20 : decode method_2_code 20 = .ok (.lushr, 1) := by decide +kernel
theorem d4_21 : decode method_2_code 21 = .ok (.lxor, 1) := by decide +kernel
theorem d4_22 : decode method_2_code 22 = .ok (.lload_n 0, 1) := by decide +kernel
theorem d4_23 : decode method_2_code 23 = .ok (.bipush 54, 2) := by decide +kernel
theorem d4_25 : decode method_2_code 25 = .ok (.lushr, 1) := by decide +kernel
theorem d4_26 : decode method_2_code 26 = .ok (.lxor, 1) := by decide +kernel
theorem d4_27 : decode method_2_code 27 = .ok (.ldc2_w 9, 3) := by decide +kernel
theorem d4_30 : decode method_2_code 30 = .ok (.lmul, 1) := by decide +kernel
theorem d4_31 : decode method_2_code 31 = .ok (.lstore_n 0, 1) := by decide +kernel
theorem d4_32 : decode method_2_code 32 = .ok (.lload_n 0, 1) := by decide +kernel
theorem d4_33 : decode method_2_code 33 = .ok (.lload_n 0, 1) := by decide +kernel
theorem d4_34 : decode method_2_code 34 = .ok (.bipush 30, 2) := by decide +kernel
theorem d4_36 : decode method_2_code 36 = .ok (.lushr, 1) := by decide +kernel
theorem d4_37 : decode method_2_code 37 = .ok (.lxor, 1) := by decide +kernel
theorem d4_38 : decode method_2_code 38 = .ok (.lload_n 0, 1) := by decide +kernel
theorem d4_39 : decode method_2_code 39 = .ok (.bipush 60, 2) := by decide +kernel
theorem d4_41 : decode method_2_code 41 = .ok (.lushr, 1) := by decide +kernel
theorem d4_42 : decode method_2_code 42 = .ok (.lxor, 1) := by decide +kernel
theorem d4_43 : decode method_2_code 43 = .ok (.lreturn, 1) := by decide +kernel
theorem own_pn4 : plainName "com/example/oxbow/oxbow/engine/SeededRandomNextLongPinLaw" = true := by first | (simp [plainName, overriddenIn]; done) | decide +kernel
theorem own_ef4 (m : MethodId) (q1 : Int64) : entryFrame m #[(.long q1)] 2 = (mkF m 0 #[.val (.long q1), .second] []) := by first | (simp [entryFrame, mkF, argsToLocals, Value.category]; done) | rfl
def own_Q4 (Z : State) (q1 : Int64)  (h0 : Heap) (n0 : Nat) (v : Option Value) (h : Heap) (L : List Loc) : Prop := v = some (.long (own_unmix q1)) ∧ Fr n0 L ∧ h = h0
set_option maxRecDepth 65536 in
set_option maxHeartbeats 40000000 in
theorem own_rm4 (l : Launch) (Z : State) (a0 : Array Value) (hw : ∀ d ∈ tables_1, d.before a0 Z = true) (ws : List Jvm.Cond) (q1 : Int64)  (h0 : Heap) (n0 : Nat) (Z0 : n0 ≤ h0.size) :
    MetFree l (⟨"com/example/oxbow/oxbow/engine/SeededRandomNextLongPinLaw", "unmix", "(J)J"⟩ : MethodName) (head1 (Jvm.Cond.code (⟨"com/example/oxbow/oxbow/engine/SeededRandomNextLongPinLaw", "unmix", "(J)J"⟩ : MethodName) method_2_code 2 (some .long) :: ws) ({ frames := 0, cells := 0, slots := 0, locals := 0 } : Room)) (fun a U => a = #[(.long q1)] ∧ Z.Warmed39 U.vm ∧ U.heap = h0) (fun _ _ _ _ _ => True) (fun _ U o U' => ∃ v L, o = .returned v ∧ own_Q4 Z q1 h0 n0 v U'.heap L ∧ FrameEnd U o U' L ({ frames := 0, cells := 0, slots := 0, locals := 0 } : Room).cells ({ frames := 0, cells := 0, slots := 0, locals := 0 } : Room).slots) := by
  refine MetFree.of_bodySF (plainFor_of_name own_pn4) hisR ?_
  intro p e s m args below meth c s₁ Bd hml0 hP hK
  obtain ⟨rfl, hZ, hh⟩ := hP
  have hx := Bd.exec
  have hby := Bd.bytes
  have hml : c.maxLocals = 2 := hml0
  have hown : s.vm.findClass "com/example/oxbow/oxbow/engine/SeededRandomNextLongPinLaw" = some m.cls := findClass_of_methodNamed Bd.named
  have hnm := (name_of_methodNamed Bd.named Bd.method).1
  have X0 : Stand p l e ({ frames := 0, cells := 0, slots := 0, locals := 0 } : Room) s m #[(.long q1)] below meth c s₁ [] 0 0 := Stand.of_body Bd
  have e0 : s₁.heap = h0 := by rw [← hh, Bd.state]; rfl
  have N0 := Fr.nil n0
  show own_Fin p e below s (own_Q4 Z q1 h0 n0) ({ frames := 0, cells := 0, slots := 0, locals := 0 } : Room).cells ({ frames := 0, cells := 0, slots := 0, locals := 0 } : Room).slots (s₁.setTop (entryFrame m #[(.long q1)] 2))
  refine own_go (s₁.setTop (mkF m 0 #[.val (.long q1), .second] [])) (fun t k => castTop (own_ef4 m q1) k) ?_
  refine own_go (s₁.setTop (mkF m 1 #[.val (.long q1), .second] [(.long q1)])) (fun _ k => XS.lloadN X0.here hx rfl (hb hby d4_0) rfl k) ?_
  refine own_go (s₁.setTop (mkF m 2 #[.val (.long q1), .second] [(.long q1), (.long q1)])) (fun _ k => XS.lloadN X0.here hx rfl (hb hby d4_1) rfl k) ?_
  refine own_go (s₁.setTop (mkF m 4 #[.val (.long q1), .second] [(.int (31 : Int32)), (.long q1), (.long q1)])) (fun _ k => XS.bipush X0.here hx rfl (hb hby d4_2) k) ?_
  refine own_go (s₁.setTop (mkF m 5 #[.val (.long q1), .second] [(.long ((q1.toUInt64 >>> ((31 : Int32) &&& 0x3f).toInt64.toUInt64).toInt64)), (.long q1)])) (fun _ k => XS.lushr X0.here hx rfl (hb hby d4_4) rfl k) ?_
  refine own_go (s₁.setTop (mkF m 6 #[.val (.long q1), .second] [(.long (q1 ^^^ ((q1.toUInt64 >>> ((31 : Int32) &&& 0x3f).toInt64.toUInt64).toInt64)))])) (fun _ k => XS.lxor X0.here hx rfl (hb hby d4_5) rfl k) ?_
  refine own_go (s₁.setTop (mkF m 7 #[.val (.long q1), .second] [(.long q1), (.long (q1 ^^^ ((q1.toUInt64 >>> ((31 : Int32) &&& 0x3f).toInt64.toUInt64).toInt64)))])) (fun _ k => XS.lloadN X0.here hx rfl (hb hby d4_6) rfl k) ?_
  refine own_go (s₁.setTop (mkF m 9 #[.val (.long q1), .second] [(.int (62 : Int32)), (.long q1), (.long (q1 ^^^ ((q1.toUInt64 >>> ((31 : Int32) &&& 0x3f).toInt64.toUInt64).toInt64)))])) (fun _ k => XS.bipush X0.here hx rfl (hb hby d4_7) k) ?_
  refine own_go (s₁.setTop (mkF m 10 #[.val (.long q1), .second] [(.long ((q1.toUInt64 >>> ((62 : Int32) &&& 0x3f).toInt64.toUInt64).toInt64)), (.long (q1 ^^^ ((q1.toUInt64 >>> ((31 : Int32) &&& 0x3f).toInt64.toUInt64).toInt64)))])) (fun _ k => XS.lushr X0.here hx rfl (hb hby d4_9) rfl k) ?_
  refine own_go (s₁.setTop (mkF m 11 #[.val (.long q1), .second] [(.long ((q1 ^^^ ((q1.toUInt64 >>> ((31 : Int32) &&& 0x3f).toInt64.toUInt64).toInt64)) ^^^ ((q1.toUInt64 >>> ((62 : Int32) &&& 0x3f).toInt64.toUInt64).toInt64)))])) (fun _ k => XS.lxor X0.here hx rfl (hb hby d4_10) rfl k) ?_
  refine own_go (s₁.setTop (mkF m 14 #[.val (.long q1), .second] [(.long (3573116690164977347 : Int64)), (.long ((q1 ^^^ ((q1.toUInt64 >>> ((31 : Int32) &&& 0x3f).toInt64.toUInt64).toInt64)) ^^^ ((q1.toUInt64 >>> ((62 : Int32) &&& 0x3f).toInt64.toUInt64).toInt64)))])) (fun _ k => X0.ldc2Long hx hown (mvT hZ (hw _ (List.mem_of_getElem? (i := 23) rfl))) (g := (mkF m 11 #[.val (.long q1), .second] [(.long ((q1 ^^^ ((q1.toUInt64 >>> ((31 : Int32) &&& 0x3f).toInt64.toUInt64).toInt64)) ^^^ ((q1.toUInt64 >>> ((62 : Int32) &&& 0x3f).toInt64.toUInt64).toInt64)))])) rfl (hb hby d4_11) _ k) ?_
  refine own_go (s₁.setTop (mkF m 15 #[.val (.long q1), .second] [(.long (((q1 ^^^ ((q1.toUInt64 >>> ((31 : Int32) &&& 0x3f).toInt64.toUInt64).toInt64)) ^^^ ((q1.toUInt64 >>> ((62 : Int32) &&& 0x3f).toInt64.toUInt64).toInt64)) * (3573116690164977347 : Int64)))])) (fun _ k => XS.lmul X0.here hx rfl (hb hby d4_14) rfl k) ?_
  refine own_go (s₁.setTop (mkF m 16 #[.val (.long (((q1 ^^^ ((q1.toUInt64 >>> ((31 : Int32) &&& 0x3f).toInt64.toUInt64).toInt64)) ^^^ ((q1.toUInt64 >>> ((62 : Int32) &&& 0x3f).toInt64.toUInt64).toInt64)) * (3573116690164977347 : Int64))), .second] [])) (fun _ k => XS.lstoreN X0.here hx rfl (hb hby d4_15) rfl (l' := #[.val (.long (((q1 ^^^ ((q1.toUInt64 >>> ((31 : Int32) &&& 0x3f).toInt64.toUInt64).toInt64)) ^^^ ((q1.toUInt64 >>> ((62 : Int32) &&& 0x3f).toInt64.toUInt64).toInt64)) * (3573116690164977347 : Int64))), .second]) rfl k) ?_
  refine own_go (s₁.setTop (mkF m 17 #[.val (.long (((q1 ^^^ ((q1.toUInt64 >>> ((31 : Int32) &&& 0x3f).toInt64.toUInt64).toInt64)) ^^^ ((q1.toUInt64 >>> ((62 : Int32) &&& 0x3f).toInt64.toUInt64).toInt64)) * (3573116690164977347 : Int64))), .second] [(.long (((q1 ^^^ ((q1.toUInt64 >>> ((31 : Int32) &&& 0x3f).toInt64.toUInt64).toInt64)) ^^^ ((q1.toUInt64 >>> ((62 : Int32) &&& 0x3f).toInt64.toUInt64).toInt64)) * (3573116690164977347 : Int64)))])) (fun _ k => XS.lloadN X0.here hx rfl (hb hby d4_16) rfl k) ?_
  refine own_go (s₁.setTop (mkF m 18 #[.val (.long (((q1 ^^^ ((q1.toUInt64 >>> ((31 : Int32) &&& 0x3f).toInt64.toUInt64).toInt64)) ^^^ ((q1.toUInt64 >>> ((62 : Int32) &&& 0x3f).toInt64.toUInt64).toInt64)) * (3573116690164977347 : Int64))), .second] [(.long (((q1 ^^^ ((q1.toUInt64 >>> ((31 : Int32) &&& 0x3f).toInt64.toUInt64).toInt64)) ^^^ ((q1.toUInt64 >>> ((62 : Int32) &&& 0x3f).toInt64.toUInt64).toInt64)) * (3573116690164977347 : Int64))), (.long (((q1 ^^^ ((q1.toUInt64 >>> ((31 : Int32) &&& 0x3f).toInt64.toUInt64).toInt64)) ^^^ ((q1.toUInt64 >>> ((62 : Int32) &&& 0x3f).toInt64.toUInt64).toInt64)) * (3573116690164977347 : Int64)))])) (fun _ k => XS.lloadN X0.here hx rfl (hb hby d4_17) rfl k) ?_
  refine own_go (s₁.setTop (mkF m 20 #[.val (.long (((q1 ^^^ ((q1.toUInt64 >>> ((31 : Int32) &&& 0x3f).toInt64.toUInt64).toInt64)) ^^^ ((q1.toUInt64 >>> ((62 : Int32) &&& 0x3f).toInt64.toUInt64).toInt64)) * (3573116690164977347 : Int64))), .second] [(.int (27 : Int32)), (.long (((q1 ^^^ ((q1.toUInt64 >>> ((31 : Int32) &&& 0x3f).toInt64.toUInt64).toInt64)) ^^^ ((q1.toUInt64 >>> ((62 : Int32) &&& 0x3f).toInt64.toUInt64).toInt64)) * (3573116690164977347 : Int64))), (.long (((q1 ^^^ ((q1.toUInt64 >>> ((31 : Int32) &&& 0x3f).toInt64.toUInt64).toInt64)) ^^^ ((q1.toUInt64 >>> ((62 : Int32) &&& 0x3f).toInt64.toUInt64).toInt64)) * (3573116690164977347 : Int64)))])) (fun _ k => XS.bipush X0.here hx rfl (hb hby d4_18) k) ?_
  refine own_go (s₁.setTop (mkF m 21 #[.val (.long (((q1 ^^^ ((q1.toUInt64 >>> ((31 : Int32) &&& 0x3f).toInt64.toUInt64).toInt64)) ^^^ ((q1.toUInt64 >>> ((62 : Int32) &&& 0x3f).toInt64.toUInt64).toInt64)) * (3573116690164977347 : Int64))), .second] [(.long (((((q1 ^^^ ((q1.toUInt64 >>> ((31 : Int32) &&& 0x3f).toInt64.toUInt64).toInt64)) ^^^ ((q1.toUInt64 >>> ((62 : Int32) &&& 0x3f).toInt64.toUInt64).toInt64)) * (3573116690164977347 : Int64)).toUInt64 >>> ((27 : Int32) &&& 0x3f).toInt64.toUInt64).toInt64)), (.long (((q1 ^^^ ((q1.toUInt64 >>> ((31 : Int32) &&& 0x3f).toInt64.toUInt64).toInt64)) ^^^ ((q1.toUInt64 >>> ((62 : Int32) &&& 0x3f).toInt64.toUInt64).toInt64)) * (3573116690164977347 : Int64)))])) (fun _ k => XS.lushr X0.here hx rfl (hb hby d4_20) rfl k) ?_
  refine own_go (s₁.setTop (mkF m 22 #[.val (.long (((q1 ^^^ ((q1.toUInt64 >>> ((31 : Int32) &&& 0x3f).toInt64.toUInt64).toInt64)) ^^^ ((q1.toUInt64 >>> ((62 : Int32) &&& 0x3f).toInt64.toUInt64).toInt64)) * (3573116690164977347 : Int64))), .second] [(.long ((((q1 ^^^ ((q1.toUInt64 >>> ((31 : Int32) &&& 0x3f).toInt64.toUInt64).toInt64)) ^^^ ((q1.toUInt64 >>> ((62 : Int32) &&& 0x3f).toInt64.toUInt64).toInt64)) * (3573116690164977347 : Int64)) ^^^ (((((q1 ^^^ ((q1.toUInt64 >>> ((31 : Int32) &&& 0x3f).toInt64.toUInt64).toInt64)) ^^^ ((q1.toUInt64 >>> ((62 : Int32) &&& 0x3f).toInt64.toUInt64).toInt64)) * (3573116690164977347 : Int64)).toUInt64 >>> ((27 : Int32) &&& 0x3f).toInt64.toUInt64).toInt64)))])) (fun _ k => XS.lxor X0.here hx rfl (hb hby d4_21) rfl k) ?_
  refine own_go (s₁.setTop (mkF m 23 #[.val (.long (((q1 ^^^ ((q1.toUInt64 >>> ((31 : Int32) &&& 0x3f).toInt64.toUInt64).toInt64)) ^^^ ((q1.toUInt64 >>> ((62 : Int32) &&& 0x3f).toInt64.toUInt64).toInt64)) * (3573116690164977347 : Int64))), .second] [(.long (((q1 ^^^ ((q1.toUInt64 >>> ((31 : Int32) &&& 0x3f).toInt64.toUInt64).toInt64)) ^^^ ((q1.toUInt64 >>> ((62 : Int32) &&& 0x3f).toInt64.toUInt64).toInt64)) * (3573116690164977347 : Int64))), (.long ((((q1 ^^^ ((q1.toUInt64 >>> ((31 : Int32) &&& 0x3f).toInt64.toUInt64).toInt64)) ^^^ ((q1.toUInt64 >>> ((62 : Int32) &&& 0x3f).toInt64.toUInt64).toInt64)) * (3573116690164977347 : Int64)) ^^^ (((((q1 ^^^ ((q1.toUInt64 >>> ((31 : Int32) &&& 0x3f).toInt64.toUInt64).toInt64)) ^^^ ((q1.toUInt64 >>> ((62 : Int32) &&& 0x3f).toInt64.toUInt64).toInt64)) * (3573116690164977347 : Int64)).toUInt64 >>> ((27 : Int32) &&& 0x3f).toInt64.toUInt64).toInt64)))])) (fun _ k => XS.lloadN X0.here hx rfl (hb hby d4_22) rfl k) ?_
  refine own_go (s₁.setTop (mkF m 25 #[.val (.long (((q1 ^^^ ((q1.toUInt64 >>> ((31 : Int32) &&& 0x3f).toInt64.toUInt64).toInt64)) ^^^ ((q1.toUInt64 >>> ((62 : Int32) &&& 0x3f).toInt64.toUInt64).toInt64)) * (3573116690164977347 : Int64))), .second] [(.int (54 : Int32)), (.long (((q1 ^^^ ((q1.toUInt64 >>> ((31 : Int32) &&& 0x3f).toInt64.toUInt64).toInt64)) ^^^ ((q1.toUInt64 >>> ((62 : Int32) &&& 0x3f).toInt64.toUInt64).toInt64)) * (3573116690164977347 : Int64))), (.long ((((q1 ^^^ ((q1.toUInt64 >>> ((31 : Int32) &&& 0x3f).toInt64.toUInt64).toInt64)) ^^^ ((q1.toUInt64 >>> ((62 : Int32) &&& 0x3f).toInt64.toUInt64).toInt64)) * (3573116690164977347 : Int64)) ^^^ (((((q1 ^^^ ((q1.toUInt64 >>> ((31 : Int32) &&& 0x3f).toInt64.toUInt64).toInt64)) ^^^ ((q1.toUInt64 >>> ((62 : Int32) &&& 0x3f).toInt64.toUInt64).toInt64)) * (3573116690164977347 : Int64)).toUInt64 >>> ((27 : Int32) &&& 0x3f).toInt64.toUInt64).toInt64)))])) (fun _ k => XS.bipush X0.here hx rfl (hb hby d4_23) k) ?_
  refine own_go (s₁.setTop (mkF m 26 #[.val (.long (((q1 ^^^ ((q1.toUInt64 >>> ((31 : Int32) &&& 0x3f).toInt64.toUInt64).toInt64)) ^^^ ((q1.toUInt64 >>> ((62 : Int32) &&& 0x3f).toInt64.toUInt64).toInt64)) * (3573116690164977347 : Int64))), .second] [(.long (((((q1 ^^^ ((q1.toUInt64 >>> ((31 : Int32) &&& 0x3f).toInt64.toUInt64).toInt64)) ^^^ ((q1.toUInt64 >>> ((62 : Int32) &&& 0x3f).toInt64.toUInt64).toInt64)) * (3573116690164977347 : Int64)).toUInt64 >>> ((54 : Int32) &&& 0x3f).toInt64.toUInt64).toInt64)), (.long ((((q1 ^^^ ((q1.toUInt64 >>> ((31 : Int32) &&& 0x3f).toInt64.toUInt64).toInt64)) ^^^ ((q1.toUInt64 >>> ((62 : Int32) &&& 0x3f).toInt64.toUInt64).toInt64)) * (3573116690164977347 : Int64)) ^^^ (((((q1 ^^^ ((q1.toUInt64 >>> ((31 : Int32) &&& 0x3f).toInt64.toUInt64).toInt64)) ^^^ ((q1.toUInt64 >>> ((62 : Int32) &&& 0x3f).toInt64.toUInt64).toInt64)) * (3573116690164977347 : Int64)).toUInt64 >>> ((27 : Int32) &&& 0x3f).toInt64.toUInt64).toInt64)))])) (fun _ k => XS.lushr X0.here hx rfl (hb hby d4_25) rfl k) ?_
  refine own_go (s₁.setTop (mkF m 27 #[.val (.long (((q1 ^^^ ((q1.toUInt64 >>> ((31 : Int32) &&& 0x3f).toInt64.toUInt64).toInt64)) ^^^ ((q1.toUInt64 >>> ((62 : Int32) &&& 0x3f).toInt64.toUInt64).toInt64)) * (3573116690164977347 : Int64))), .second] [(.long (((((q1 ^^^ ((q1.toUInt64 >>> ((31 : Int32) &&& 0x3f).toInt64.toUInt64).toInt64)) ^^^ ((q1.toUInt64 >>> ((62 : Int32) &&& 0x3f).toInt64.toUInt64).toInt64)) * (3573116690164977347 : Int64)) ^^^ (((((q1 ^^^ ((q1.toUInt64 >>> ((31 : Int32) &&& 0x3f).toInt64.toUInt64).toInt64)) ^^^ ((q1.toUInt64 >>> ((62 : Int32) &&& 0x3f).toInt64.toUInt64).toInt64)) * (3573116690164977347 : Int64)).toUInt64 >>> ((27 : Int32) &&& 0x3f).toInt64.toUInt64).toInt64)) ^^^ (((((q1 ^^^ ((q1.toUInt64 >>> ((31 : Int32) &&& 0x3f).toInt64.toUInt64).toInt64)) ^^^ ((q1.toUInt64 >>> ((62 : Int32) &&& 0x3f).toInt64.toUInt64).toInt64)) * (3573116690164977347 : Int64)).toUInt64 >>> ((54 : Int32) &&& 0x3f).toInt64.toUInt64).toInt64)))])) (fun _ k => XS.lxor X0.here hx rfl (hb hby d4_26) rfl k) ?_
  refine own_go (s₁.setTop (mkF m 30 #[.val (.long (((q1 ^^^ ((q1.toUInt64 >>> ((31 : Int32) &&& 0x3f).toInt64.toUInt64).toInt64)) ^^^ ((q1.toUInt64 >>> ((62 : Int32) &&& 0x3f).toInt64.toUInt64).toInt64)) * (3573116690164977347 : Int64))), .second] [(.long (-7575587736534282103 : Int64)), (.long (((((q1 ^^^ ((q1.toUInt64 >>> ((31 : Int32) &&& 0x3f).toInt64.toUInt64).toInt64)) ^^^ ((q1.toUInt64 >>> ((62 : Int32) &&& 0x3f).toInt64.toUInt64).toInt64)) * (3573116690164977347 : Int64)) ^^^ (((((q1 ^^^ ((q1.toUInt64 >>> ((31 : Int32) &&& 0x3f).toInt64.toUInt64).toInt64)) ^^^ ((q1.toUInt64 >>> ((62 : Int32) &&& 0x3f).toInt64.toUInt64).toInt64)) * (3573116690164977347 : Int64)).toUInt64 >>> ((27 : Int32) &&& 0x3f).toInt64.toUInt64).toInt64)) ^^^ (((((q1 ^^^ ((q1.toUInt64 >>> ((31 : Int32) &&& 0x3f).toInt64.toUInt64).toInt64)) ^^^ ((q1.toUInt64 >>> ((62 : Int32) &&& 0x3f).toInt64.toUInt64).toInt64)) * (3573116690164977347 : Int64)).toUInt64 >>> ((54 : Int32) &&& 0x3f).toInt64.toUInt64).toInt64)))])) (fun _ k => X0.ldc2Long hx hown (mvT hZ (hw _ (List.mem_of_getElem? (i := 24) rfl))) (g := (mkF m 27 #[.val (.long (((q1 ^^^ ((q1.toUInt64 >>> ((31 : Int32) &&& 0x3f).toInt64.toUInt64).toInt64)) ^^^ ((q1.toUInt64 >>> ((62 : Int32) &&& 0x3f).toInt64.toUInt64).toInt64)) * (3573116690164977347 : Int64))), .second] [(.long (((((q1 ^^^ ((q1.toUInt64 >>> ((31 : Int32) &&& 0x3f).toInt64.toUInt64).toInt64)) ^^^ ((q1.toUInt64 >>> ((62 : Int32) &&& 0x3f).toInt64.toUInt64).toInt64)) * (3573116690164977347 : Int64)) ^^^ (((((q1 ^^^ ((q1.toUInt64 >>> ((31 : Int32) &&& 0x3f).toInt64.toUInt64).toInt64)) ^^^ ((q1.toUInt64 >>> ((62 : Int32) &&& 0x3f).toInt64.toUInt64).toInt64)) * (3573116690164977347 : Int64)).toUInt64 >>> ((27 : Int32) &&& 0x3f).toInt64.toUInt64).toInt64)) ^^^ (((((q1 ^^^ ((q1.toUInt64 >>> ((31 : Int32) &&& 0x3f).toInt64.toUInt64).toInt64)) ^^^ ((q1.toUInt64 >>> ((62 : Int32) &&& 0x3f).toInt64.toUInt64).toInt64)) * (3573116690164977347 : Int64)).toUInt64 >>> ((54 : Int32) &&& 0x3f).toInt64.toUInt64).toInt64)))])) rfl (hb hby d4_27) _ k) ?_
  refine own_go (s₁.setTop (mkF m 31 #[.val (.long (((q1 ^^^ ((q1.toUInt64 >>> ((31 : Int32) &&& 0x3f).toInt64.toUInt64).toInt64)) ^^^ ((q1.toUInt64 >>> ((62 : Int32) &&& 0x3f).toInt64.toUInt64).toInt64)) * (3573116690164977347 : Int64))), .second] [(.long ((((((q1 ^^^ ((q1.toUInt64 >>> ((31 : Int32) &&& 0x3f).toInt64.toUInt64).toInt64)) ^^^ ((q1.toUInt64 >>> ((62 : Int32) &&& 0x3f).toInt64.toUInt64).toInt64)) * (3573116690164977347 : Int64)) ^^^ (((((q1 ^^^ ((q1.toUInt64 >>> ((31 : Int32) &&& 0x3f).toInt64.toUInt64).toInt64)) ^^^ ((q1.toUInt64 >>> ((62 : Int32) &&& 0x3f).toInt64.toUInt64).toInt64)) * (3573116690164977347 : Int64)).toUInt64 >>> ((27 : Int32) &&& 0x3f).toInt64.toUInt64).toInt64)) ^^^ (((((q1 ^^^ ((q1.toUInt64 >>> ((31 : Int32) &&& 0x3f).toInt64.toUInt64).toInt64)) ^^^ ((q1.toUInt64 >>> ((62 : Int32) &&& 0x3f).toInt64.toUInt64).toInt64)) * (3573116690164977347 : Int64)).toUInt64 >>> ((54 : Int32) &&& 0x3f).toInt64.toUInt64).toInt64)) * (-7575587736534282103 : Int64)))])) (fun _ k => XS.lmul X0.here hx rfl (hb hby d4_30) rfl k) ?_
  refine own_go (s₁.setTop (mkF m 32 #[.val (.long ((((((q1 ^^^ ((q1.toUInt64 >>> ((31 : Int32) &&& 0x3f).toInt64.toUInt64).toInt64)) ^^^ ((q1.toUInt64 >>> ((62 : Int32) &&& 0x3f).toInt64.toUInt64).toInt64)) * (3573116690164977347 : Int64)) ^^^ (((((q1 ^^^ ((q1.toUInt64 >>> ((31 : Int32) &&& 0x3f).toInt64.toUInt64).toInt64)) ^^^ ((q1.toUInt64 >>> ((62 : Int32) &&& 0x3f).toInt64.toUInt64).toInt64)) * (3573116690164977347 : Int64)).toUInt64 >>> ((27 : Int32) &&& 0x3f).toInt64.toUInt64).toInt64)) ^^^ (((((q1 ^^^ ((q1.toUInt64 >>> ((31 : Int32) &&& 0x3f).toInt64.toUInt64).toInt64)) ^^^ ((q1.toUInt64 >>> ((62 : Int32) &&& 0x3f).toInt64.toUInt64).toInt64)) * (3573116690164977347 : Int64)).toUInt64 >>> ((54 : Int32) &&& 0x3f).toInt64.toUInt64).toInt64)) * (-7575587736534282103 : Int64))), .second] [])) (fun _ k => XS.lstoreN X0.here hx rfl (hb hby d4_31) rfl (l' := #[.val (.long ((((((q1 ^^^ ((q1.toUInt64 >>> ((31 : Int32) &&& 0x3f).toInt64.toUInt64).toInt64)) ^^^ ((q1.toUInt64 >>> ((62 : Int32) &&& 0x3f).toInt64.toUInt64).toInt64)) * (3573116690164977347 : Int64)) ^^^ (((((q1 ^^^ ((q1.toUInt64 >>> ((31 : Int32) &&& 0x3f).toInt64.toUInt64).toInt64)) ^^^ ((q1.toUInt64 >>> ((62 : Int32) &&& 0x3f).toInt64.toUInt64).toInt64)) * (3573116690164977347 : Int64)).toUInt64 >>> ((27 : Int32) &&& 0x3f).toInt64.toUInt64).toInt64)) ^^^ (((((q1 ^^^ ((q1.toUInt64 >>> ((31 : Int32) &&& 0x3f).toInt64.toUInt64).toInt64)) ^^^ ((q1.toUInt64 >>> ((62 : Int32) &&& 0x3f).toInt64.toUInt64).toInt64)) * (3573116690164977347 : Int64)).toUInt64 >>> ((54 : Int32) &&& 0x3f).toInt64.toUInt64).toInt64)) * (-7575587736534282103 : Int64))), .second]) rfl k) ?_
  refine own_go (s₁.setTop (mkF m 33 #[.val (.long ((((((q1 ^^^ ((q1.toUInt64 >>> ((31 : Int32) &&& 0x3f).toInt64.toUInt64).toInt64)) ^^^ ((q1.toUInt64 >>> ((62 : Int32) &&& 0x3f).toInt64.toUInt64).toInt64)) * (3573116690164977347 : Int64)) ^^^ (((((q1 ^^^ ((q1.toUInt64 >>> ((31 : Int32) &&& 0x3f).toInt64.toUInt64).toInt64)) ^^^ ((q1.toUInt64 >>> ((62 : Int32) &&& 0x3f).toInt64.toUInt64).toInt64)) * (3573116690164977347 : Int64)).toUInt64 >>> ((27 : Int32) &&& 0x3f).toInt64.toUInt64).toInt64)) ^^^ (((((q1 ^^^ ((q1.toUInt64 >>> ((31 : Int32) &&& 0x3f).toInt64.toUInt64).toInt64)) ^^^ ((q1.toUInt64 >>> ((62 : Int32) &&& 0x3f).toInt64.toUInt64).toInt64)) * (3573116690164977347 : Int64)).toUInt64 >>> ((54 : Int32) &&& 0x3f).toInt64.toUInt64).toInt64)) * (-7575587736534282103 : Int64))), .second] [(.long ((((((q1 ^^^ ((q1.toUInt64 >>> ((31 : Int32) &&& 0x3f).toInt64.toUInt64).toInt64)) ^^^ ((q1.toUInt64 >>> ((62 : Int32) &&& 0x3f).toInt64.toUInt64).toInt64)) * (3573116690164977347 : Int64)) ^^^ (((((q1 ^^^ ((q1.toUInt64 >>> ((31 : Int32) &&& 0x3f).toInt64.toUInt64).toInt64)) ^^^ ((q1.toUInt64 >>> ((62 : Int32) &&& 0x3f).toInt64.toUInt64).toInt64)) * (3573116690164977347 : Int64)).toUInt64 >>> ((27 : Int32) &&& 0x3f).toInt64.toUInt64).toInt64)) ^^^ (((((q1 ^^^ ((q1.toUInt64 >>> ((31 : Int32) &&& 0x3f).toInt64.toUInt64).toInt64)) ^^^ ((q1.toUInt64 >>> ((62 : Int32) &&& 0x3f).toInt64.toUInt64).toInt64)) * (3573116690164977347 : Int64)).toUInt64 >>> ((54 : Int32) &&& 0x3f).toInt64.toUInt64).toInt64)) * (-7575587736534282103 : Int64)))])) (fun _ k => XS.lloadN X0.here hx rfl (hb hby d4_32) rfl k) ?_
  refine own_go (s₁.setTop (mkF m 34 #[.val (.long ((((((q1 ^^^ ((q1.toUInt64 >>> ((31 : Int32) &&& 0x3f).toInt64.toUInt64).toInt64)) ^^^ ((q1.toUInt64 >>> ((62 : Int32) &&& 0x3f).toInt64.toUInt64).toInt64)) * (3573116690164977347 : Int64)) ^^^ (((((q1 ^^^ ((q1.toUInt64 >>> ((31 : Int32) &&& 0x3f).toInt64.toUInt64).toInt64)) ^^^ ((q1.toUInt64 >>> ((62 : Int32) &&& 0x3f).toInt64.toUInt64).toInt64)) * (3573116690164977347 : Int64)).toUInt64 >>> ((27 : Int32) &&& 0x3f).toInt64.toUInt64).toInt64)) ^^^ (((((q1 ^^^ ((q1.toUInt64 >>> ((31 : Int32) &&& 0x3f).toInt64.toUInt64).toInt64)) ^^^ ((q1.toUInt64 >>> ((62 : Int32) &&& 0x3f).toInt64.toUInt64).toInt64)) * (3573116690164977347 : Int64)).toUInt64 >>> ((54 : Int32) &&& 0x3f).toInt64.toUInt64).toInt64)) * (-7575587736534282103 : Int64))), .second] [(.long ((((((q1 ^^^ ((q1.toUInt64 >>> ((31 : Int32) &&& 0x3f).toInt64.toUInt64).toInt64)) ^^^ ((q1.toUInt64 >>> ((62 : Int32) &&& 0x3f).toInt64.toUInt64).toInt64)) * (3573116690164977347 : Int64)) ^^^ (((((q1 ^^^ ((q1.toUInt64 >>> ((31 : Int32) &&& 0x3f).toInt64.toUInt64).toInt64)) ^^^ ((q1.toUInt64 >>> ((62 : Int32) &&& 0x3f).toInt64.toUInt64).toInt64)) * (3573116690164977347 : Int64)).toUInt64 >>> ((27 : Int32) &&& 0x3f).toInt64.toUInt64).toInt64)) ^^^ (((((q1 ^^^ ((q1.toUInt64 >>> ((31 : Int32) &&& 0x3f).toInt64.toUInt64).toInt64)) ^^^ ((q1.toUInt64 >>> ((62 : Int32) &&& 0x3f).toInt64.toUInt64).toInt64)) * (3573116690164977347 : Int64)).toUInt64 >>> ((54 : Int32) &&& 0x3f).toInt64.toUInt64).toInt64)) * (-7575587736534282103 : Int64))), (.long ((((((q1 ^^^ ((q1.toUInt64 >>> ((31 : Int32) &&& 0x3f).toInt64.toUInt64).toInt64)) ^^^ ((q1.toUInt64 >>> ((62 : Int32) &&& 0x3f).toInt64.toUInt64).toInt64)) * (3573116690164977347 : Int64)) ^^^ (((((q1 ^^^ ((q1.toUInt64 >>> ((31 : Int32) &&& 0x3f).toInt64.toUInt64).toInt64)) ^^^ ((q1.toUInt64 >>> ((62 : Int32) &&& 0x3f).toInt64.toUInt64).toInt64)) * (3573116690164977347 : Int64)).toUInt64 >>> ((27 : Int32) &&& 0x3f).toInt64.toUInt64).toInt64)) ^^^ (((((q1 ^^^ ((q1.toUInt64 >>> ((31 : Int32) &&& 0x3f).toInt64.toUInt64).toInt64)) ^^^ ((q1.toUInt64 >>> ((62 : Int32) &&& 0x3f).toInt64.toUInt64).toInt64)) * (3573116690164977347 : Int64)).toUInt64 >>> ((54 : Int32) &&& 0x3f).toInt64.toUInt64).toInt64)) * (-7575587736534282103 : Int64)))])) (fun _ k => XS.lloadN X0.here hx rfl (hb hby d4_33) rfl k) ?_
  refine own_go (s₁.setTop (mkF m 36 #[.val (.long ((((((q1 ^^^ ((q1.toUInt64 >>> ((31 : Int32) &&& 0x3f).toInt64.toUInt64).toInt64)) ^^^ ((q1.toUInt64 >>> ((62 : Int32) &&& 0x3f).toInt64.toUInt64).toInt64)) * (3573116690164977347 : Int64)) ^^^ (((((q1 ^^^ ((q1.toUInt64 >>> ((31 : Int32) &&& 0x3f).toInt64.toUInt64).toInt64)) ^^^ ((q1.toUInt64 >>> ((62 : Int32) &&& 0x3f).toInt64.toUInt64).toInt64)) * (3573116690164977347 : Int64)).toUInt64 >>> ((27 : Int32) &&& 0x3f).toInt64.toUInt64).toInt64)) ^^^ (((((q1 ^^^ ((q1.toUInt64 >>> ((31 : Int32) &&& 0x3f).toInt64.toUInt64).toInt64)) ^^^ ((q1.toUInt64 >>> ((62 : Int32) &&& 0x3f).toInt64.toUInt64).toInt64)) * (3573116690164977347 : Int64)).toUInt64 >>> ((54 : Int32) &&& 0x3f).toInt64.toUInt64).toInt64)) * (-7575587736534282103 : Int64))), .second] [(.int (30 : Int32)), (.long ((((((q1 ^^^ ((q1.toUInt64 >>> ((31 : Int32) &&& 0x3f).toInt64.toUInt64).toInt64)) ^^^ ((q1.toUInt64 >>> ((62 : Int32) &&& 0x3f).toInt64.toUInt64).toInt64)) * (3573116690164977347 : Int64)) ^^^ (((((q1 ^^^ ((q1.toUInt64 >>> ((31 : Int32) &&& 0x3f).toInt64.toUInt64).toInt64)) ^^^ ((q1.toUInt64 >>> ((62 : Int32) &&& 0x3f).toInt64.toUInt64).toInt64)) * (3573116690164977347 : Int64)).toUInt64 >>> ((27 : Int32) &&& 0x3f).toInt64.toUInt64).toInt64)) ^^^ (((((q1 ^^^ ((q1.toUInt64 >>> ((31 : Int32) &&& 0x3f).toInt64.toUInt64).toInt64)) ^^^ ((q1.toUInt64 >>> ((62 : Int32) &&& 0x3f).toInt64.toUInt64).toInt64)) * (3573116690164977347 : Int64)).toUInt64 >>> ((54 : Int32) &&& 0x3f).toInt64.toUInt64).toInt64)) * (-7575587736534282103 : Int64))), (.long ((((((q1 ^^^ ((q1.toUInt64 >>> ((31 : Int32) &&& 0x3f).toInt64.toUInt64).toInt64)) ^^^ ((q1.toUInt64 >>> ((62 : Int32) &&& 0x3f).toInt64.toUInt64).toInt64)) * (3573116690164977347 : Int64)) ^^^ (((((q1 ^^^ ((q1.toUInt64 >>> ((31 : Int32) &&& 0x3f).toInt64.toUInt64).toInt64)) ^^^ ((q1.toUInt64 >>> ((62 : Int32) &&& 0x3f).toInt64.toUInt64).toInt64)) * (3573116690164977347 : Int64)).toUInt64 >>> ((27 : Int32) &&& 0x3f).toInt64.toUInt64).toInt64)) ^^^ (((((q1 ^^^ ((q1.toUInt64 >>> ((31 : Int32) &&& 0x3f).toInt64.toUInt64).toInt64)) ^^^ ((q1.toUInt64 >>> ((62 : Int32) &&& 0x3f).toInt64.toUInt64).toInt64)) * (3573116690164977347 : Int64)).toUInt64 >>> ((54 : Int32) &&& 0x3f).toInt64.toUInt64).toInt64)) * (-7575587736534282103 : Int64)))])) (fun _ k => XS.bipush X0.here hx rfl (hb hby d4_34) k) ?_
  refine own_go (s₁.setTop (mkF m 37 #[.val (.long ((((((q1 ^^^ ((q1.toUInt64 >>> ((31 : Int32) &&& 0x3f).toInt64.toUInt64).toInt64)) ^^^ ((q1.toUInt64 >>> ((62 : Int32) &&& 0x3f).toInt64.toUInt64).toInt64)) * (3573116690164977347 : Int64)) ^^^ (((((q1 ^^^ ((q1.toUInt64 >>> ((31 : Int32) &&& 0x3f).toInt64.toUInt64).toInt64)) ^^^ ((q1.toUInt64 >>> ((62 : Int32) &&& 0x3f).toInt64.toUInt64).toInt64)) * (3573116690164977347 : Int64)).toUInt64 >>> ((27 : Int32) &&& 0x3f).toInt64.toUInt64).toInt64)) ^^^ (((((q1 ^^^ ((q1.toUInt64 >>> ((31 : Int32) &&& 0x3f).toInt64.toUInt64).toInt64)) ^^^ ((q1.toUInt64 >>> ((62 : Int32) &&& 0x3f).toInt64.toUInt64).toInt64)) * (3573116690164977347 : Int64)).toUInt64 >>> ((54 : Int32) &&& 0x3f).toInt64.toUInt64).toInt64)) * (-7575587736534282103 : Int64))), .second] [(.long ((((((((q1 ^^^ ((q1.toUInt64 >>> ((31 : Int32) &&& 0x3f).toInt64.toUInt64).toInt64)) ^^^ ((q1.toUInt64 >>> ((62 : Int32) &&& 0x3f).toInt64.toUInt64).toInt64)) * (3573116690164977347 : Int64)) ^^^ (((((q1 ^^^ ((q1.toUInt64 >>> ((31 : Int32) &&& 0x3f).toInt64.toUInt64).toInt64)) ^^^ ((q1.toUInt64 >>> ((62 : Int32) &&& 0x3f).toInt64.toUInt64).toInt64)) * (3573116690164977347 : Int64)).toUInt64 >>> ((27 : Int32) &&& 0x3f).toInt64.toUInt64).toInt64)) ^^^ (((((q1 ^^^ ((q1.toUInt64 >>> ((31 : Int32) &&& 0x3f).toInt64.toUInt64).toInt64)) ^^^ ((q1.toUInt64 >>> ((62 : Int32) &&& 0x3f).toInt64.toUInt64).toInt64)) * (3573116690164977347 : Int64)).toUInt64 >>> ((54 : Int32) &&& 0x3f).toInt64.toUInt64).toInt64)) * (-7575587736534282103 : Int64)).toUInt64 >>> ((30 : Int32) &&& 0x3f).toInt64.toUInt64).toInt64)), (.long ((((((q1 ^^^ ((q1.toUInt64 >>> ((31 : Int32) &&& 0x3f).toInt64.toUInt64).toInt64)) ^^^ ((q1.toUInt64 >>> ((62 : Int32) &&& 0x3f).toInt64.toUInt64).toInt64)) * (3573116690164977347 : Int64)) ^^^ (((((q1 ^^^ ((q1.toUInt64 >>> ((31 : Int32) &&& 0x3f).toInt64.toUInt64).toInt64)) ^^^ ((q1.toUInt64 >>> ((62 : Int32) &&& 0x3f).toInt64.toUInt64).toInt64)) * (3573116690164977347 : Int64)).toUInt64 >>> ((27 : Int32) &&& 0x3f).toInt64.toUInt64).toInt64)) ^^^ (((((q1 ^^^ ((q1.toUInt64 >>> ((31 : Int32) &&& 0x3f).toInt64.toUInt64).toInt64)) ^^^ ((q1.toUInt64 >>> ((62 : Int32) &&& 0x3f).toInt64.toUInt64).toInt64)) * (3573116690164977347 : Int64)).toUInt64 >>> ((54 : Int32) &&& 0x3f).toInt64.toUInt64).toInt64)) * (-7575587736534282103 : Int64)))])) (fun _ k => XS.lushr X0.here hx rfl (hb hby d4_36) rfl k) ?_
  refine own_go (s₁.setTop (mkF m 38 #[.val (.long ((((((q1 ^^^ ((q1.toUInt64 >>> ((31 : Int32) &&& 0x3f).toInt64.toUInt64).toInt64)) ^^^ ((q1.toUInt64 >>> ((62 : Int32) &&& 0x3f).toInt64.toUInt64).toInt64)) * (3573116690164977347 : Int64)) ^^^ (((((q1 ^^^ ((q1.toUInt64 >>> ((31 : Int32) &&& 0x3f).toInt64.toUInt64).toInt64)) ^^^ ((q1.toUInt64 >>> ((62 : Int32) &&& 0x3f).toInt64.toUInt64).toInt64)) * (3573116690164977347 : Int64)).toUInt64 >>> ((27 : Int32) &&& 0x3f).toInt64.toUInt64).toInt64)) ^^^ (((((q1 ^^^ ((q1.toUInt64 >>> ((31 : Int32) &&& 0x3f).toInt64.toUInt64).toInt64)) ^^^ ((q1.toUInt64 >>> ((62 : Int32) &&& 0x3f).toInt64.toUInt64).toInt64)) * (3573116690164977347 : Int64)).toUInt64 >>> ((54 : Int32) &&& 0x3f).toInt64.toUInt64).toInt64)) * (-7575587736534282103 : Int64))), .second] [(.long (((((((q1 ^^^ ((q1.toUInt64 >>> ((31 : Int32) &&& 0x3f).toInt64.toUInt64).toInt64)) ^^^ ((q1.toUInt64 >>> ((62 : Int32) &&& 0x3f).toInt64.toUInt64).toInt64)) * (3573116690164977347 : Int64)) ^^^ (((((q1 ^^^ ((q1.toUInt64 >>> ((31 : Int32) &&& 0x3f).toInt64.toUInt64).toInt64)) ^^^ ((q1.toUInt64 >>> ((62 : Int32) &&& 0x3f).toInt64.toUInt64).toInt64)) * (3573116690164977347 : Int64)).toUInt64 >>> ((27 : Int32) &&& 0x3f).toInt64.toUInt64).toInt64)) ^^^ (((((q1 ^^^ ((q1.toUInt64 >>> ((31 : Int32) &&& 0x3f).toInt64.toUInt64).toInt64)) ^^^ ((q1.toUInt64 >>> ((62 : Int32) &&& 0x3f).toInt64.toUInt64).toInt64)) * (3573116690164977347 : Int64)).toUInt64 >>> ((54 : Int32) &&& 0x3f).toInt64.toUInt64).toInt64)) * (-7575587736534282103 : Int64)) ^^^ ((((((((q1 ^^^ ((q1.toUInt64 >>> ((31 : Int32) &&& 0x3f).toInt64.toUInt64).toInt64)) ^^^ ((q1.toUInt64 >>> ((62 : Int32) &&& 0x3f).toInt64.toUInt64).toInt64)) * (3573116690164977347 : Int64)) ^^^ (((((q1 ^^^ ((q1.toUInt64 >>> ((31 : Int32) &&& 0x3f).toInt64.toUInt64).toInt64)) ^^^ ((q1.toUInt64 >>> ((62 : Int32) &&& 0x3f).toInt64.toUInt64).toInt64)) * (3573116690164977347 : Int64)).toUInt64 >>> ((27 : Int32) &&& 0x3f).toInt64.toUInt64).toInt64)) ^^^ (((((q1 ^^^ ((q1.toUInt64 >>> ((31 : Int32) &&& 0x3f).toInt64.toUInt64).toInt64)) ^^^ ((q1.toUInt64 >>> ((62 : Int32) &&& 0x3f).toInt64.toUInt64).toInt64)) * (3573116690164977347 : Int64)).toUInt64 >>> ((54 : Int32) &&& 0x3f).toInt64.toUInt64).toInt64)) * (-7575587736534282103 : Int64)).toUInt64 >>> ((30 : Int32) &&& 0x3f).toInt64.toUInt64).toInt64)))])) (fun _ k => XS.lxor X0.here hx rfl (hb hby d4_37) rfl k) ?_
  refine own_go (s₁.setTop (mkF m 39 #[.val (.long ((((((q1 ^^^ ((q1.toUInt64 >>> ((31 : Int32) &&& 0x3f).toInt64.toUInt64).toInt64)) ^^^ ((q1.toUInt64 >>> ((62 : Int32) &&& 0x3f).toInt64.toUInt64).toInt64)) * (3573116690164977347 : Int64)) ^^^ (((((q1 ^^^ ((q1.toUInt64 >>> ((31 : Int32) &&& 0x3f).toInt64.toUInt64).toInt64)) ^^^ ((q1.toUInt64 >>> ((62 : Int32) &&& 0x3f).toInt64.toUInt64).toInt64)) * (3573116690164977347 : Int64)).toUInt64 >>> ((27 : Int32) &&& 0x3f).toInt64.toUInt64).toInt64)) ^^^ (((((q1 ^^^ ((q1.toUInt64 >>> ((31 : Int32) &&& 0x3f).toInt64.toUInt64).toInt64)) ^^^ ((q1.toUInt64 >>> ((62 : Int32) &&& 0x3f).toInt64.toUInt64).toInt64)) * (3573116690164977347 : Int64)).toUInt64 >>> ((54 : Int32) &&& 0x3f).toInt64.toUInt64).toInt64)) * (-7575587736534282103 : Int64))), .second] [(.long ((((((q1 ^^^ ((q1.toUInt64 >>> ((31 : Int32) &&& 0x3f).toInt64.toUInt64).toInt64)) ^^^ ((q1.toUInt64 >>> ((62 : Int32) &&& 0x3f).toInt64.toUInt64).toInt64)) * (3573116690164977347 : Int64)) ^^^ (((((q1 ^^^ ((q1.toUInt64 >>> ((31 : Int32) &&& 0x3f).toInt64.toUInt64).toInt64)) ^^^ ((q1.toUInt64 >>> ((62 : Int32) &&& 0x3f).toInt64.toUInt64).toInt64)) * (3573116690164977347 : Int64)).toUInt64 >>> ((27 : Int32) &&& 0x3f).toInt64.toUInt64).toInt64)) ^^^ (((((q1 ^^^ ((q1.toUInt64 >>> ((31 : Int32) &&& 0x3f).toInt64.toUInt64).toInt64)) ^^^ ((q1.toUInt64 >>> ((62 : Int32) &&& 0x3f).toInt64.toUInt64).toInt64)) * (3573116690164977347 : Int64)).toUInt64 >>> ((54 : Int32) &&& 0x3f).toInt64.toUInt64).toInt64)) * (-7575587736534282103 : Int64))), (.long (((((((q1 ^^^ ((q1.toUInt64 >>> ((31 : Int32) &&& 0x3f).toInt64.toUInt64).toInt64)) ^^^ ((q1.toUInt64 >>> ((62 : Int32) &&& 0x3f).toInt64.toUInt64).toInt64)) * (3573116690164977347 : Int64)) ^^^ (((((q1 ^^^ ((q1.toUInt64 >>> ((31 : Int32) &&& 0x3f).toInt64.toUInt64).toInt64)) ^^^ ((q1.toUInt64 >>> ((62 : Int32) &&& 0x3f).toInt64.toUInt64).toInt64)) * (3573116690164977347 : Int64)).toUInt64 >>> ((27 : Int32) &&& 0x3f).toInt64.toUInt64).toInt64)) ^^^ (((((q1 ^^^ ((q1.toUInt64 >>> ((31 : Int32) &&& 0x3f).toInt64.toUInt64).toInt64)) ^^^ ((q1.toUInt64 >>> ((62 : Int32) &&& 0x3f).toInt64.toUInt64).toInt64)) * (3573116690164977347 : Int64)).toUInt64 >>> ((54 : Int32) &&& 0x3f).toInt64.toUInt64).toInt64)) * (-7575587736534282103 : Int64)) ^^^ ((((((((q1 ^^^ ((q1.toUInt64 >>> ((31 : Int32) &&& 0x3f).toInt64.toUInt64).toInt64)) ^^^ ((q1.toUInt64 >>> ((62 : Int32) &&& 0x3f).toInt64.toUInt64).toInt64)) * (3573116690164977347 : Int64)) ^^^ (((((q1 ^^^ ((q1.toUInt64 >>> ((31 : Int32) &&& 0x3f).toInt64.toUInt64).toInt64)) ^^^ ((q1.toUInt64 >>> ((62 : Int32) &&& 0x3f).toInt64.toUInt64).toInt64)) * (3573116690164977347 : Int64)).toUInt64 >>> ((27 : Int32) &&& 0x3f).toInt64.toUInt64).toInt64)) ^^^ (((((q1 ^^^ ((q1.toUInt64 >>> ((31 : Int32) &&& 0x3f).toInt64.toUInt64).toInt64)) ^^^ ((q1.toUInt64 >>> ((62 : Int32) &&& 0x3f).toInt64.toUInt64).toInt64)) * (3573116690164977347 : Int64)).toUInt64 >>> ((54 : Int32) &&& 0x3f).toInt64.toUInt64).toInt64)) * (-7575587736534282103 : Int64)).toUInt64 >>> ((30 : Int32) &&& 0x3f).toInt64.toUInt64).toInt64)))])) (fun _ k => XS.lloadN X0.here hx rfl (hb hby d4_38) rfl k) ?_
  refine own_go (s₁.setTop (mkF m 41 #[.val (.long ((((((q1 ^^^ ((q1.toUInt64 >>> ((31 : Int32) &&& 0x3f).toInt64.toUInt64).toInt64)) ^^^ ((q1.toUInt64 >>> ((62 : Int32) &&& 0x3f).toInt64.toUInt64).toInt64)) * (3573116690164977347 : Int64)) ^^^ (((((q1 ^^^ ((q1.toUInt64 >>> ((31 : Int32) &&& 0x3f).toInt64.toUInt64).toInt64)) ^^^ ((q1.toUInt64 >>> ((62 : Int32) &&& 0x3f).toInt64.toUInt64).toInt64)) * (3573116690164977347 : Int64)).toUInt64 >>> ((27 : Int32) &&& 0x3f).toInt64.toUInt64).toInt64)) ^^^ (((((q1 ^^^ ((q1.toUInt64 >>> ((31 : Int32) &&& 0x3f).toInt64.toUInt64).toInt64)) ^^^ ((q1.toUInt64 >>> ((62 : Int32) &&& 0x3f).toInt64.toUInt64).toInt64)) * (3573116690164977347 : Int64)).toUInt64 >>> ((54 : Int32) &&& 0x3f).toInt64.toUInt64).toInt64)) * (-7575587736534282103 : Int64))), .second] [(.int (60 : Int32)), (.long ((((((q1 ^^^ ((q1.toUInt64 >>> ((31 : Int32) &&& 0x3f).toInt64.toUInt64).toInt64)) ^^^ ((q1.toUInt64 >>> ((62 : Int32) &&& 0x3f).toInt64.toUInt64).toInt64)) * (3573116690164977347 : Int64)) ^^^ (((((q1 ^^^ ((q1.toUInt64 >>> ((31 : Int32) &&& 0x3f).toInt64.toUInt64).toInt64)) ^^^ ((q1.toUInt64 >>> ((62 : Int32) &&& 0x3f).toInt64.toUInt64).toInt64)) * (3573116690164977347 : Int64)).toUInt64 >>> ((27 : Int32) &&& 0x3f).toInt64.toUInt64).toInt64)) ^^^ (((((q1 ^^^ ((q1.toUInt64 >>> ((31 : Int32) &&& 0x3f).toInt64.toUInt64).toInt64)) ^^^ ((q1.toUInt64 >>> ((62 : Int32) &&& 0x3f).toInt64.toUInt64).toInt64)) * (3573116690164977347 : Int64)).toUInt64 >>> ((54 : Int32) &&& 0x3f).toInt64.toUInt64).toInt64)) * (-7575587736534282103 : Int64))), (.long (((((((q1 ^^^ ((q1.toUInt64 >>> ((31 : Int32) &&& 0x3f).toInt64.toUInt64).toInt64)) ^^^ ((q1.toUInt64 >>> ((62 : Int32) &&& 0x3f).toInt64.toUInt64).toInt64)) * (3573116690164977347 : Int64)) ^^^ (((((q1 ^^^ ((q1.toUInt64 >>> ((31 : Int32) &&& 0x3f).toInt64.toUInt64).toInt64)) ^^^ ((q1.toUInt64 >>> ((62 : Int32) &&& 0x3f).toInt64.toUInt64).toInt64)) * (3573116690164977347 : Int64)).toUInt64 >>> ((27 : Int32) &&& 0x3f).toInt64.toUInt64).toInt64)) ^^^ (((((q1 ^^^ ((q1.toUInt64 >>> ((31 : Int32) &&& 0x3f).toInt64.toUInt64).toInt64)) ^^^ ((q1.toUInt64 >>> ((62 : Int32) &&& 0x3f).toInt64.toUInt64).toInt64)) * (3573116690164977347 : Int64)).toUInt64 >>> ((54 : Int32) &&& 0x3f).toInt64.toUInt64).toInt64)) * (-7575587736534282103 : Int64)) ^^^ ((((((((q1 ^^^ ((q1.toUInt64 >>> ((31 : Int32) &&& 0x3f).toInt64.toUInt64).toInt64)) ^^^ ((q1.toUInt64 >>> ((62 : Int32) &&& 0x3f).toInt64.toUInt64).toInt64)) * (3573116690164977347 : Int64)) ^^^ (((((q1 ^^^ ((q1.toUInt64 >>> ((31 : Int32) &&& 0x3f).toInt64.toUInt64).toInt64)) ^^^ ((q1.toUInt64 >>> ((62 : Int32) &&& 0x3f).toInt64.toUInt64).toInt64)) * (3573116690164977347 : Int64)).toUInt64 >>> ((27 : Int32) &&& 0x3f).toInt64.toUInt64).toInt64)) ^^^ (((((q1 ^^^ ((q1.toUInt64 >>> ((31 : Int32) &&& 0x3f).toInt64.toUInt64).toInt64)) ^^^ ((q1.toUInt64 >>> ((62 : Int32) &&& 0x3f).toInt64.toUInt64).toInt64)) * (3573116690164977347 : Int64)).toUInt64 >>> ((54 : Int32) &&& 0x3f).toInt64.toUInt64).toInt64)) * (-7575587736534282103 : Int64)).toUInt64 >>> ((30 : Int32) &&& 0x3f).toInt64.toUInt64).toInt64)))])) (fun _ k => XS.bipush X0.here hx rfl (hb hby d4_39) k) ?_
  refine own_go (s₁.setTop (mkF m 42 #[.val (.long ((((((q1 ^^^ ((q1.toUInt64 >>> ((31 : Int32) &&& 0x3f).toInt64.toUInt64).toInt64)) ^^^ ((q1.toUInt64 >>> ((62 : Int32) &&& 0x3f).toInt64.toUInt64).toInt64)) * (3573116690164977347 : Int64)) ^^^ (((((q1 ^^^ ((q1.toUInt64 >>> ((31 : Int32) &&& 0x3f).toInt64.toUInt64).toInt64)) ^^^ ((q1.toUInt64 >>> ((62 : Int32) &&& 0x3f).toInt64.toUInt64).toInt64)) * (3573116690164977347 : Int64)).toUInt64 >>> ((27 : Int32) &&& 0x3f).toInt64.toUInt64).toInt64)) ^^^ (((((q1 ^^^ ((q1.toUInt64 >>> ((31 : Int32) &&& 0x3f).toInt64.toUInt64).toInt64)) ^^^ ((q1.toUInt64 >>> ((62 : Int32) &&& 0x3f).toInt64.toUInt64).toInt64)) * (3573116690164977347 : Int64)).toUInt64 >>> ((54 : Int32) &&& 0x3f).toInt64.toUInt64).toInt64)) * (-7575587736534282103 : Int64))), .second] [(.long ((((((((q1 ^^^ ((q1.toUInt64 >>> ((31 : Int32) &&& 0x3f).toInt64.toUInt64).toInt64)) ^^^ ((q1.toUInt64 >>> ((62 : Int32) &&& 0x3f).toInt64.toUInt64).toInt64)) * (3573116690164977347 : Int64)) ^^^ (((((q1 ^^^ ((q1.toUInt64 >>> ((31 : Int32) &&& 0x3f).toInt64.toUInt64).toInt64)) ^^^ ((q1.toUInt64 >>> ((62 : Int32) &&& 0x3f).toInt64.toUInt64).toInt64)) * (3573116690164977347 : Int64)).toUInt64 >>> ((27 : Int32) &&& 0x3f).toInt64.toUInt64).toInt64)) ^^^ (((((q1 ^^^ ((q1.toUInt64 >>> ((31 : Int32) &&& 0x3f).toInt64.toUInt64).toInt64)) ^^^ ((q1.toUInt64 >>> ((62 : Int32) &&& 0x3f).toInt64.toUInt64).toInt64)) * (3573116690164977347 : Int64)).toUInt64 >>> ((54 : Int32) &&& 0x3f).toInt64.toUInt64).toInt64)) * (-7575587736534282103 : Int64)).toUInt64 >>> ((60 : Int32) &&& 0x3f).toInt64.toUInt64).toInt64)), (.long (((((((q1 ^^^ ((q1.toUInt64 >>> ((31 : Int32) &&& 0x3f).toInt64.toUInt64).toInt64)) ^^^ ((q1.toUInt64 >>> ((62 : Int32) &&& 0x3f).toInt64.toUInt64).toInt64)) * (3573116690164977347 : Int64)) ^^^ (((((q1 ^^^ ((q1.toUInt64 >>> ((31 : Int32) &&& 0x3f).toInt64.toUInt64).toInt64)) ^^^ ((q1.toUInt64 >>> ((62 : Int32) &&& 0x3f).toInt64.toUInt64).toInt64)) * (3573116690164977347 : Int64)).toUInt64 >>> ((27 : Int32) &&& 0x3f).toInt64.toUInt64).toInt64)) ^^^ (((((q1 ^^^ ((q1.toUInt64 >>> ((31 : Int32) &&& 0x3f).toInt64.toUInt64).toInt64)) ^^^ ((q1.toUInt64 >>> ((62 : Int32) &&& 0x3f).toInt64.toUInt64).toInt64)) * (3573116690164977347 : Int64)).toUInt64 >>> ((54 : Int32) &&& 0x3f).toInt64.toUInt64).toInt64)) * (-7575587736534282103 : Int64)) ^^^ ((((((((q1 ^^^ ((q1.toUInt64 >>> ((31 : Int32) &&& 0x3f).toInt64.toUInt64).toInt64)) ^^^ ((q1.toUInt64 >>> ((62 : Int32) &&& 0x3f).toInt64.toUInt64).toInt64)) * (3573116690164977347 : Int64)) ^^^ (((((q1 ^^^ ((q1.toUInt64 >>> ((31 : Int32) &&& 0x3f).toInt64.toUInt64).toInt64)) ^^^ ((q1.toUInt64 >>> ((62 : Int32) &&& 0x3f).toInt64.toUInt64).toInt64)) * (3573116690164977347 : Int64)).toUInt64 >>> ((27 : Int32) &&& 0x3f).toInt64.toUInt64).toInt64)) ^^^ (((((q1 ^^^ ((q1.toUInt64 >>> ((31 : Int32) &&& 0x3f).toInt64.toUInt64).toInt64)) ^^^ ((q1.toUInt64 >>> ((62 : Int32) &&& 0x3f).toInt64.toUInt64).toInt64)) * (3573116690164977347 : Int64)).toUInt64 >>> ((54 : Int32) &&& 0x3f).toInt64.toUInt64).toInt64)) * (-7575587736534282103 : Int64)).toUInt64 >>> ((30 : Int32) &&& 0x3f).toInt64.toUInt64).toInt64)))])) (fun _ k => XS.lushr X0.here hx rfl (hb hby d4_41) rfl k) ?_
  refine own_go (s₁.setTop (mkF m 43 #[.val (.long ((((((q1 ^^^ ((q1.toUInt64 >>> ((31 : Int32) &&& 0x3f).toInt64.toUInt64).toInt64)) ^^^ ((q1.toUInt64 >>> ((62 : Int32) &&& 0x3f).toInt64.toUInt64).toInt64)) * (3573116690164977347 : Int64)) ^^^ (((((q1 ^^^ ((q1.toUInt64 >>> ((31 : Int32) &&& 0x3f).toInt64.toUInt64).toInt64)) ^^^ ((q1.toUInt64 >>> ((62 : Int32) &&& 0x3f).toInt64.toUInt64).toInt64)) * (3573116690164977347 : Int64)).toUInt64 >>> ((27 : Int32) &&& 0x3f).toInt64.toUInt64).toInt64)) ^^^ (((((q1 ^^^ ((q1.toUInt64 >>> ((31 : Int32) &&& 0x3f).toInt64.toUInt64).toInt64)) ^^^ ((q1.toUInt64 >>> ((62 : Int32) &&& 0x3f).toInt64.toUInt64).toInt64)) * (3573116690164977347 : Int64)).toUInt64 >>> ((54 : Int32) &&& 0x3f).toInt64.toUInt64).toInt64)) * (-7575587736534282103 : Int64))), .second] [(.long ((((((((q1 ^^^ ((q1.toUInt64 >>> ((31 : Int32) &&& 0x3f).toInt64.toUInt64).toInt64)) ^^^ ((q1.toUInt64 >>> ((62 : Int32) &&& 0x3f).toInt64.toUInt64).toInt64)) * (3573116690164977347 : Int64)) ^^^ (((((q1 ^^^ ((q1.toUInt64 >>> ((31 : Int32) &&& 0x3f).toInt64.toUInt64).toInt64)) ^^^ ((q1.toUInt64 >>> ((62 : Int32) &&& 0x3f).toInt64.toUInt64).toInt64)) * (3573116690164977347 : Int64)).toUInt64 >>> ((27 : Int32) &&& 0x3f).toInt64.toUInt64).toInt64)) ^^^ (((((q1 ^^^ ((q1.toUInt64 >>> ((31 : Int32) &&& 0x3f).toInt64.toUInt64).toInt64)) ^^^ ((q1.toUInt64 >>> ((62 : Int32) &&& 0x3f).toInt64.toUInt64).toInt64)) * (3573116690164977347 : Int64)).toUInt64 >>> ((54 : Int32) &&& 0x3f).toInt64.toUInt64).toInt64)) * (-7575587736534282103 : Int64)) ^^^ ((((((((q1 ^^^ ((q1.toUInt64 >>> ((31 : Int32) &&& 0x3f).toInt64.toUInt64).toInt64)) ^^^ ((q1.toUInt64 >>> ((62 : Int32) &&& 0x3f).toInt64.toUInt64).toInt64)) * (3573116690164977347 : Int64)) ^^^ (((((q1 ^^^ ((q1.toUInt64 >>> ((31 : Int32) &&& 0x3f).toInt64.toUInt64).toInt64)) ^^^ ((q1.toUInt64 >>> ((62 : Int32) &&& 0x3f).toInt64.toUInt64).toInt64)) * (3573116690164977347 : Int64)).toUInt64 >>> ((27 : Int32) &&& 0x3f).toInt64.toUInt64).toInt64)) ^^^ (((((q1 ^^^ ((q1.toUInt64 >>> ((31 : Int32) &&& 0x3f).toInt64.toUInt64).toInt64)) ^^^ ((q1.toUInt64 >>> ((62 : Int32) &&& 0x3f).toInt64.toUInt64).toInt64)) * (3573116690164977347 : Int64)).toUInt64 >>> ((54 : Int32) &&& 0x3f).toInt64.toUInt64).toInt64)) * (-7575587736534282103 : Int64)).toUInt64 >>> ((30 : Int32) &&& 0x3f).toInt64.toUInt64).toInt64)) ^^^ ((((((((q1 ^^^ ((q1.toUInt64 >>> ((31 : Int32) &&& 0x3f).toInt64.toUInt64).toInt64)) ^^^ ((q1.toUInt64 >>> ((62 : Int32) &&& 0x3f).toInt64.toUInt64).toInt64)) * (3573116690164977347 : Int64)) ^^^ (((((q1 ^^^ ((q1.toUInt64 >>> ((31 : Int32) &&& 0x3f).toInt64.toUInt64).toInt64)) ^^^ ((q1.toUInt64 >>> ((62 : Int32) &&& 0x3f).toInt64.toUInt64).toInt64)) * (3573116690164977347 : Int64)).toUInt64 >>> ((27 : Int32) &&& 0x3f).toInt64.toUInt64).toInt64)) ^^^ (((((q1 ^^^ ((q1.toUInt64 >>> ((31 : Int32) &&& 0x3f).toInt64.toUInt64).toInt64)) ^^^ ((q1.toUInt64 >>> ((62 : Int32) &&& 0x3f).toInt64.toUInt64).toInt64)) * (3573116690164977347 : Int64)).toUInt64 >>> ((54 : Int32) &&& 0x3f).toInt64.toUInt64).toInt64)) * (-7575587736534282103 : Int64)).toUInt64 >>> ((60 : Int32) &&& 0x3f).toInt64.toUInt64).toInt64)))])) (fun _ k => XS.lxor X0.here hx rfl (hb hby d4_42) rfl k) ?_
  refine own_ret X0 (BodyLoose.notSynchronized Bd) (some (.long ((((((((q1 ^^^ ((q1.toUInt64 >>> ((31 : Int32) &&& 0x3f).toInt64.toUInt64).toInt64)) ^^^ ((q1.toUInt64 >>> ((62 : Int32) &&& 0x3f).toInt64.toUInt64).toInt64)) * (3573116690164977347 : Int64)) ^^^ (((((q1 ^^^ ((q1.toUInt64 >>> ((31 : Int32) &&& 0x3f).toInt64.toUInt64).toInt64)) ^^^ ((q1.toUInt64 >>> ((62 : Int32) &&& 0x3f).toInt64.toUInt64).toInt64)) * (3573116690164977347 : Int64)).toUInt64 >>> ((27 : Int32) &&& 0x3f).toInt64.toUInt64).toInt64)) ^^^ (((((q1 ^^^ ((q1.toUInt64 >>> ((31 : Int32) &&& 0x3f).toInt64.toUInt64).toInt64)) ^^^ ((q1.toUInt64 >>> ((62 : Int32) &&& 0x3f).toInt64.toUInt64).toInt64)) * (3573116690164977347 : Int64)).toUInt64 >>> ((54 : Int32) &&& 0x3f).toInt64.toUInt64).toInt64)) * (-7575587736534282103 : Int64)) ^^^ ((((((((q1 ^^^ ((q1.toUInt64 >>> ((31 : Int32) &&& 0x3f).toInt64.toUInt64).toInt64)) ^^^ ((q1.toUInt64 >>> ((62 : Int32) &&& 0x3f).toInt64.toUInt64).toInt64)) * (3573116690164977347 : Int64)) ^^^ (((((q1 ^^^ ((q1.toUInt64 >>> ((31 : Int32) &&& 0x3f).toInt64.toUInt64).toInt64)) ^^^ ((q1.toUInt64 >>> ((62 : Int32) &&& 0x3f).toInt64.toUInt64).toInt64)) * (3573116690164977347 : Int64)).toUInt64 >>> ((27 : Int32) &&& 0x3f).toInt64.toUInt64).toInt64)) ^^^ (((((q1 ^^^ ((q1.toUInt64 >>> ((31 : Int32) &&& 0x3f).toInt64.toUInt64).toInt64)) ^^^ ((q1.toUInt64 >>> ((62 : Int32) &&& 0x3f).toInt64.toUInt64).toInt64)) * (3573116690164977347 : Int64)).toUInt64 >>> ((54 : Int32) &&& 0x3f).toInt64.toUInt64).toInt64)) * (-7575587736534282103 : Int64)).toUInt64 >>> ((30 : Int32) &&& 0x3f).toInt64.toUInt64).toInt64)) ^^^ ((((((((q1 ^^^ ((q1.toUInt64 >>> ((31 : Int32) &&& 0x3f).toInt64.toUInt64).toInt64)) ^^^ ((q1.toUInt64 >>> ((62 : Int32) &&& 0x3f).toInt64.toUInt64).toInt64)) * (3573116690164977347 : Int64)) ^^^ (((((q1 ^^^ ((q1.toUInt64 >>> ((31 : Int32) &&& 0x3f).toInt64.toUInt64).toInt64)) ^^^ ((q1.toUInt64 >>> ((62 : Int32) &&& 0x3f).toInt64.toUInt64).toInt64)) * (3573116690164977347 : Int64)).toUInt64 >>> ((27 : Int32) &&& 0x3f).toInt64.toUInt64).toInt64)) ^^^ (((((q1 ^^^ ((q1.toUInt64 >>> ((31 : Int32) &&& 0x3f).toInt64.toUInt64).toInt64)) ^^^ ((q1.toUInt64 >>> ((62 : Int32) &&& 0x3f).toInt64.toUInt64).toInt64)) * (3573116690164977347 : Int64)).toUInt64 >>> ((54 : Int32) &&& 0x3f).toInt64.toUInt64).toInt64)) * (-7575587736534282103 : Int64)).toUInt64 >>> ((60 : Int32) &&& 0x3f).toInt64.toUInt64).toInt64)))) (fun h => by rw [Bd.returns] at h; cases h) (fun fs hr => retOut X0 hx Bd.returns rfl (Or.inr (Or.inl ⟨rfl, rfl, _, rfl⟩)) (hb hby d4_43) hr) (by decide) (by decide) ?_
  exact ⟨rfl, N0, e0⟩
theorem own_pn0 : plainName "com/example/oxbow/oxbow/engine/SeededRandomNextLongPinLaw" = true := by first | (simp [plainName, overriddenIn]; done) | decide +kernel
theorem own_ef0 (m : MethodId) (q1 : Int64) : entryFrame m #[(.long q1)] maxLocals = (mkF m 0 #[.val (.long q1), .second, .unset, .unset, .unset, .unset, .unset] []) := by first | (simp [entryFrame, mkF, argsToLocals, Value.category, maxLocals]; done) | rfl
def own_Q0 (Z : State) (q1 : Int64)  (h0 : Heap) (n0 : Nat) (v : Option Value) (h : Heap) (L : List Loc) : Prop := v = some (.int (1 : Int32)) ∧ Fr n0 L
set_option maxRecDepth 65536 in
set_option maxHeartbeats 40000000 in
theorem own_rm0 (l : Launch) (Z : State) (a0 : Array Value) (hw : ∀ d ∈ tables_1, d.before a0 Z = true) (ws : List Jvm.Cond) (q1 : Int64)  (h0 : Heap) (n0 : Nat) (Z0 : n0 ≤ h0.size) :
    MetFree l x (head1 (Jvm.Cond.code x code maxLocals ret :: ws) room_1) (fun a U => a = #[(.long q1)] ∧ Z.Warmed39 U.vm ∧ U.heap = h0) (fun _ _ _ _ _ => True) (fun _ U o U' => ∃ v L, o = .returned v ∧ own_Q0 Z q1 h0 n0 v U'.heap L ∧ FrameEnd U o U' L room_1.cells room_1.slots) := by
  refine MetFree.of_bodySF (plainFor_of_name own_pn0) hisR ?_
  intro p e s m args below meth c s₁ Bd hml0 hP hK
  obtain ⟨rfl, hZ, hh⟩ := hP
  have hx := Bd.exec
  have hby := Bd.bytes
  have hml : c.maxLocals = 7 := hml0
  have hown : s.vm.findClass "com/example/oxbow/oxbow/engine/SeededRandomNextLongPinLaw" = some m.cls := findClass_of_methodNamed Bd.named
  have hnm := (name_of_methodNamed Bd.named Bd.method).1
  have X0 : Stand p l e room_1 s m #[(.long q1)] below meth c s₁ [] 0 0 := Stand.of_body Bd
  have e0 : s₁.heap = h0 := by rw [← hh, Bd.state]; rfl
  have N0 := Fr.nil n0
  show own_Fin p e below s (own_Q0 Z q1 h0 n0) room_1.cells room_1.slots (s₁.setTop (entryFrame m #[(.long q1)] maxLocals))
  refine own_go (s₁.setTop (mkF m 0 #[.val (.long q1), .second, .unset, .unset, .unset, .unset, .unset] [])) (fun t k => castTop (own_ef0 m q1) k) ?_
  obtain ⟨T1, h1, X1, e1, E1, A1, D1, -, st1⟩ := newO X0 hx hZ hown (hw _ (List.mem_of_getElem? (i := 0) rfl)) (hw _ (List.mem_of_getElem? (i := 1) rfl)) (hw _ (List.mem_of_getElem? (i := 2) rfl)) e0 (g := (mkF m 0 #[.val (.long q1), .second, .unset, .unset, .unset, .unset, .unset] [])) rfl (hb hby at_0) (by decide) (by decide)
  obtain ⟨b1, g1⟩ : ∃ z, z = h0.size := ⟨_, rfl⟩
  rw [← g1] at A1 D1 st1
  have F_state_b1 : Fld Z h1 b1 "com/example/oxbow/oxbow/engine/SeededRandom" "state" "J" (.long (0 : Int64)) := D1 (Or.inl (hw _ (List.mem_of_getElem? (i := 10) rfl))) (ty := .long) (by decide)
  have g_b1 : n0 ≤ b1 := Nat.le_trans Z0 (Nat.le_of_eq g1.symm)
  have Z1 : n0 ≤ h1.size := Nat.le_trans Z0 E1.1
  refine own_go (T1.setTop (mkF m 3 #[.val (.long q1), .second, .unset, .unset, .unset, .unset, .unset] [(.ref b1)])) (fun _ k => st1 _ k) ?_
  refine own_go (T1.setTop (mkF m 4 #[.val (.long q1), .second, .unset, .unset, .unset, .unset, .unset] [(.ref b1), (.ref b1)])) (fun _ k => XS.dup X1.here hx rfl (hb hby at_3) rfl rfl k) ?_
  refine own_go (T1.setTop (mkF m 5 #[.val (.long q1), .second, .unset, .unset, .unset, .unset, .unset] [(.long q1), (.ref b1), (.ref b1)])) (fun _ k => XS.lloadN X1.here hx rfl (hb hby at_4) rfl k) ?_
  obtain ⟨_, _, ⟨T2, L2, k2, n2⟩, -, X2, ⟨Lc2, hQ2, l2, y2, z2⟩, st2⟩ := X1.specialBack hx (y := (⟨"com/example/oxbow/oxbow/engine/SeededRandom", "<init>", "(J)V"⟩ : MethodName)) rfl hown (mvT hZ (hw _ (List.mem_of_getElem? (i := 3) rfl))) (mvT hZ (hw _ (List.mem_of_getElem? (i := 4) rfl))) (mvT hZ (hw _ (List.mem_of_getElem? (i := 5) rfl))) (by decide) (backOf (W := 1) (own_rm1 l Z a0 hw [] b1 q1 (.long (0 : Int64)) h1 n0 Z1 A1 g_b1 F_state_b1) hZ (hw _ (List.mem_of_getElem? (i := 5) rfl)) (hw _ (List.mem_of_getElem? (i := 2) rfl)) (by decide) (by decide)) (g := (mkF m 5 #[.val (.long q1), .second, .unset, .unset, .unset, .unset, .unset] [(.long q1), (.ref b1), (.ref b1)])) rfl (by rw [hml]; rfl) (Steps.refl _) (a := b1) (argsL := [(.long q1)]) (rest := [(.ref b1)]) (lenOf own_pd0 rfl) rfl (by show 2 * 0 + _ ≤ _; exact Nat.le_of_eq rfl) (hb hby at_5) (fun _ _ => ⟨rfl, e1, (by decide : 1 + 0 ≤ _), (by decide : 1 + 0 ≤ _)⟩)
  dsimp only [Pt.U, Pt.locs, Pt.cells, Pt.slots] at X2 l2 y2 z2 st2 hQ2
  subst l2 y2 z2
  obtain ⟨rfl, N2q, Ky2, Ey2, Fy_state_2⟩ := hQ2
  have N2 := Fr.app N0 N2q
  have Z2 : n0 ≤ T2.heap.size := Nat.le_trans Z1 Ky2.1
  refine own_go (T2.setTop (mkF m 8 #[.val (.long q1), .second, .unset, .unset, .unset, .unset, .unset] [(.ref b1)])) (fun _ k => st2.trans k) ?_
  refine own_go (T2.setTop (mkF m 9 #[.val (.long q1), .second, .val (.ref b1), .unset, .unset, .unset, .unset] [])) (fun _ k => XS.astoreN X2.here hx rfl (hb hby at_8) rfl rfl (l' := #[.val (.long q1), .second, .val (.ref b1), .unset, .unset, .unset, .unset]) rfl k) ?_
  refine own_go (T2.setTop (mkF m 10 #[.val (.long q1), .second, .val (.ref b1), .unset, .unset, .unset, .unset] [(.ref b1)])) (fun _ k => XS.aloadN X2.here hx rfl (hb hby at_9) rfl rfl k) ?_
  obtain ⟨cq3, kq3, q3a, q3b, q3c⟩ := isOf hZ rfl Ey2
  obtain ⟨_, _, ⟨T3, L3, k3, n3⟩, -, X3, ⟨Lc3, hQ3, l3, y3, z3⟩, st3⟩ := X2.virtualBack hx (y := (⟨"com/example/oxbow/oxbow/engine/SeededRandom", "nextLong", "()J"⟩ : MethodName)) (z := (⟨"com/example/oxbow/oxbow/engine/SeededRandom", "nextLong", "()J"⟩ : MethodName)) hown (mvT hZ (hw _ (List.mem_of_getElem? (i := 11) rfl))) (mvT hZ (hw _ (List.mem_of_getElem? (i := 12) rfl))) (notFace_of_selects (args := #[]) (mvT hZ (hw _ (List.mem_of_getElem? (i := 14) rfl)))) (mvT hZ (hw _ (List.mem_of_getElem? (i := 14) rfl))) (mvT hZ (hw _ (List.mem_of_getElem? (i := 13) rfl))) (by decide) (backOf (W := 0) (own_rm3 l Z a0 hw [] b1 q1 T2.heap n0 Z2 Ey2 g_b1 Fy_state_2) hZ (hw _ (List.mem_of_getElem? (i := 15) rfl)) (hw _ (List.mem_of_getElem? (i := 2) rfl)) (by decide) (by decide)) q3a q3c (g := (mkF m 10 #[.val (.long q1), .second, .val (.ref b1), .unset, .unset, .unset, .unset] [(.ref b1)])) rfl (by rw [hml]; rfl) (Steps.refl _) (argsL := []) (rest := []) (lenOf own_pd1 rfl) rfl (by show 2 * 0 + _ ≤ _; exact Nat.le_of_eq rfl) (hb hby at_10) (fun _ _ => ⟨rfl, rfl, (by decide : 1 + 0 ≤ _), (by decide : 1 + 0 ≤ _)⟩)
  dsimp only [Pt.U, Pt.locs, Pt.cells, Pt.slots] at X3 l3 y3 z3 st3 hQ3
  subst l3 y3 z3
  obtain ⟨rfl, N3q, Ky3, Ey3, Fy_state_3⟩ := hQ3
  have N3 := Fr.app N2 N3q
  have Z3 : n0 ≤ T3.heap.size := Nat.le_trans Z2 Ky3.1
  refine own_go (T3.setTop (mkF m 13 #[.val (.long q1), .second, .val (.ref b1), .unset, .unset, .unset, .unset] [(.long (own_mix (q1 + (-7046029254386353131 : Int64))))])) (fun _ k => st3.trans k) ?_
  refine own_go (T3.setTop (mkF m 14 #[.val (.long q1), .second, .val (.ref b1), .val (.long (own_mix (q1 + (-7046029254386353131 : Int64)))), .second, .unset, .unset] [])) (fun _ k => XS.lstoreN X3.here hx rfl (hb hby at_13) rfl (l' := #[.val (.long q1), .second, .val (.ref b1), .val (.long (own_mix (q1 + (-7046029254386353131 : Int64)))), .second, .unset, .unset]) rfl k) ?_
  refine own_go (T3.setTop (mkF m 15 #[.val (.long q1), .second, .val (.ref b1), .val (.long (own_mix (q1 + (-7046029254386353131 : Int64)))), .second, .unset, .unset] [(.ref b1)])) (fun _ k => XS.aloadN X3.here hx rfl (hb hby at_14) rfl rfl k) ?_
  obtain ⟨cq4, kq4, q4a, q4b, q4c⟩ := isOf hZ rfl Ey3
  obtain ⟨_, _, ⟨T4, L4, k4, n4⟩, -, X4, ⟨Lc4, hQ4, l4, y4, z4⟩, st4⟩ := X3.virtualBack hx (y := (⟨"com/example/oxbow/oxbow/engine/SeededRandom", "nextLong", "()J"⟩ : MethodName)) (z := (⟨"com/example/oxbow/oxbow/engine/SeededRandom", "nextLong", "()J"⟩ : MethodName)) hown (mvT hZ (hw _ (List.mem_of_getElem? (i := 11) rfl))) (mvT hZ (hw _ (List.mem_of_getElem? (i := 12) rfl))) (notFace_of_selects (args := #[]) (mvT hZ (hw _ (List.mem_of_getElem? (i := 14) rfl)))) (mvT hZ (hw _ (List.mem_of_getElem? (i := 14) rfl))) (mvT hZ (hw _ (List.mem_of_getElem? (i := 13) rfl))) (by decide) (backOf (W := 0) (own_rm3 l Z a0 hw [] b1 (q1 + (-7046029254386353131 : Int64)) T3.heap n0 Z3 Ey3 g_b1 Fy_state_3) hZ (hw _ (List.mem_of_getElem? (i := 15) rfl)) (hw _ (List.mem_of_getElem? (i := 2) rfl)) (by decide) (by decide)) q4a q4c (g := (mkF m 15 #[.val (.long q1), .second, .val (.ref b1), .val (.long (own_mix (q1 + (-7046029254386353131 : Int64)))), .second, .unset, .unset] [(.ref b1)])) rfl (by rw [hml]; rfl) (Steps.refl _) (argsL := []) (rest := []) (lenOf own_pd1 rfl) rfl (by show 2 * 0 + _ ≤ _; exact Nat.le_of_eq rfl) (hb hby at_15) (fun _ _ => ⟨rfl, rfl, (by decide : 1 + 0 ≤ _), (by decide : 1 + 0 ≤ _)⟩)
  dsimp only [Pt.U, Pt.locs, Pt.cells, Pt.slots] at X4 l4 y4 z4 st4 hQ4
  subst l4 y4 z4
  obtain ⟨rfl, N4q, Ky4, Ey4, Fy_state_4⟩ := hQ4
  have N4 := Fr.app N3 N4q
  have Z4 : n0 ≤ T4.heap.size := Nat.le_trans Z3 Ky4.1
  refine own_go (T4.setTop (mkF m 18 #[.val (.long q1), .second, .val (.ref b1), .val (.long (own_mix (q1 + (-7046029254386353131 : Int64)))), .second, .unset, .unset] [(.long (own_mix ((q1 + (-7046029254386353131 : Int64)) + (-7046029254386353131 : Int64))))])) (fun _ k => st4.trans k) ?_
  refine own_go (T4.setTop (mkF m 20 #[.val (.long q1), .second, .val (.ref b1), .val (.long (own_mix (q1 + (-7046029254386353131 : Int64)))), .second, .val (.long (own_mix ((q1 + (-7046029254386353131 : Int64)) + (-7046029254386353131 : Int64)))), .second] [])) (fun _ k => XS.lstore X4.here hx rfl (hb hby at_18) rfl (l' := #[.val (.long q1), .second, .val (.ref b1), .val (.long (own_mix (q1 + (-7046029254386353131 : Int64)))), .second, .val (.long (own_mix ((q1 + (-7046029254386353131 : Int64)) + (-7046029254386353131 : Int64)))), .second]) rfl k) ?_
  refine own_go (T4.setTop (mkF m 21 #[.val (.long q1), .second, .val (.ref b1), .val (.long (own_mix (q1 + (-7046029254386353131 : Int64)))), .second, .val (.long (own_mix ((q1 + (-7046029254386353131 : Int64)) + (-7046029254386353131 : Int64)))), .second] [(.long (own_mix (q1 + (-7046029254386353131 : Int64))))])) (fun _ k => XS.lloadN X4.here hx rfl (hb hby at_20) rfl k) ?_
  obtain ⟨_, _, ⟨T5, L5, k5, n5⟩, -, X5, ⟨Lc5, hQ5, l5, y5, z5⟩, st5⟩ := Jvm.LawKit.callS X4 hx (y := (⟨"com/example/oxbow/oxbow/engine/SeededRandomNextLongPinLaw", "unmix", "(J)J"⟩ : MethodName)) hown (mvT hZ (hw _ (List.mem_of_getElem? (i := 19) rfl))) (mvT hZ (hw _ (List.mem_of_getElem? (i := 20) rfl))) (mvT hZ (hw _ (List.mem_of_getElem? (i := 21) rfl))) (mvT hZ (hw _ (List.mem_of_getElem? (i := 22) rfl))) (by decide) (backOf (W := 0) (own_rm4 l Z a0 hw [] (own_mix (q1 + (-7046029254386353131 : Int64))) T4.heap n0 Z4) hZ (hw _ (List.mem_of_getElem? (i := 22) rfl)) (hw _ (List.mem_of_getElem? (i := 21) rfl)) (by decide) (by decide)) (g := (mkF m 21 #[.val (.long q1), .second, .val (.ref b1), .val (.long (own_mix (q1 + (-7046029254386353131 : Int64)))), .second, .val (.long (own_mix ((q1 + (-7046029254386353131 : Int64)) + (-7046029254386353131 : Int64)))), .second] [(.long (own_mix (q1 + (-7046029254386353131 : Int64))))])) rfl (by rw [hml]; rfl) (argsL := [(.long (own_mix (q1 + (-7046029254386353131 : Int64))))]) (rest := []) (lenOf own_pd2 rfl) rfl (by show 2 * 0 + _ ≤ _; exact Nat.le_of_eq rfl) (hb hby at_21) (fun _ _ => ⟨rfl, rfl, (by decide : 1 + 0 ≤ _), (by decide : 1 + 0 ≤ _)⟩)
  dsimp only [Pt.U, Pt.locs, Pt.cells, Pt.slots] at X5 l5 y5 z5 st5 hQ5
  subst l5 y5 z5
  obtain ⟨rfl, N5q, e5⟩ := hQ5
  have N5 := Fr.app N4 N5q
  refine own_go (T5.setTop (mkF m 24 #[.val (.long q1), .second, .val (.ref b1), .val (.long (own_mix (q1 + (-7046029254386353131 : Int64)))), .second, .val (.long (own_mix ((q1 + (-7046029254386353131 : Int64)) + (-7046029254386353131 : Int64)))), .second] [(.long (own_unmix (own_mix (q1 + (-7046029254386353131 : Int64)))))])) (fun _ k => st5 _ k) ?_
  refine own_go (T5.setTop (mkF m 25 #[.val (.long q1), .second, .val (.ref b1), .val (.long (own_mix (q1 + (-7046029254386353131 : Int64)))), .second, .val (.long (own_mix ((q1 + (-7046029254386353131 : Int64)) + (-7046029254386353131 : Int64)))), .second] [(.long q1), (.long (own_unmix (own_mix (q1 + (-7046029254386353131 : Int64)))))])) (fun _ k => XS.lloadN X5.here hx rfl (hb hby at_24) rfl k) ?_
  refine own_go (T5.setTop (mkF m 28 #[.val (.long q1), .second, .val (.ref b1), .val (.long (own_mix (q1 + (-7046029254386353131 : Int64)))), .second, .val (.long (own_mix ((q1 + (-7046029254386353131 : Int64)) + (-7046029254386353131 : Int64)))), .second] [(.long (-7046029254386353131 : Int64)), (.long q1), (.long (own_unmix (own_mix (q1 + (-7046029254386353131 : Int64)))))])) (fun _ k => X5.ldc2Long hx hown (mvT hZ (hw _ (List.mem_of_getElem? (i := 25) rfl))) (g := (mkF m 25 #[.val (.long q1), .second, .val (.ref b1), .val (.long (own_mix (q1 + (-7046029254386353131 : Int64)))), .second, .val (.long (own_mix ((q1 + (-7046029254386353131 : Int64)) + (-7046029254386353131 : Int64)))), .second] [(.long q1), (.long (own_unmix (own_mix (q1 + (-7046029254386353131 : Int64)))))])) rfl (hb hby at_25) _ k) ?_
  refine own_go (T5.setTop (mkF m 29 #[.val (.long q1), .second, .val (.ref b1), .val (.long (own_mix (q1 + (-7046029254386353131 : Int64)))), .second, .val (.long (own_mix ((q1 + (-7046029254386353131 : Int64)) + (-7046029254386353131 : Int64)))), .second] [(.long (q1 + (-7046029254386353131 : Int64))), (.long (own_unmix (own_mix (q1 + (-7046029254386353131 : Int64)))))])) (fun _ k => XS.ladd X5.here hx rfl (hb hby at_28) rfl k) ?_
  refine own_go (T5.setTop (mkF m 30 #[.val (.long q1), .second, .val (.ref b1), .val (.long (own_mix (q1 + (-7046029254386353131 : Int64)))), .second, .val (.long (own_mix ((q1 + (-7046029254386353131 : Int64)) + (-7046029254386353131 : Int64)))), .second] [(.int (lcmpW (own_unmix (own_mix (q1 + (-7046029254386353131 : Int64)))) (q1 + (-7046029254386353131 : Int64))))])) (fun _ k => XS.lcmp X5.here hx rfl (hb hby at_29) rfl k) ?_
  by_cases hc30 : (own_unmix (own_mix (q1 + (-7046029254386353131 : Int64)))) = (q1 + (-7046029254386353131 : Int64))
  · have hz30 : (((own_unmix (own_mix (q1 + (-7046029254386353131 : Int64))))).toInt = ((q1 + (-7046029254386353131 : Int64))).toInt) := own_zLeq hc30 rfl rfl
    refine own_go (T5.setTop (mkF m 33 #[.val (.long q1), .second, .val (.ref b1), .val (.long (own_mix (q1 + (-7046029254386353131 : Int64)))), .second, .val (.long (own_mix ((q1 + (-7046029254386353131 : Int64)) + (-7046029254386353131 : Int64)))), .second] [])) (fun _ k => XS.ifNo X5.here hx rfl (hb hby at_30) rfl ((if0 _ _).trans (teq ((lw_eq (own_unmix (own_mix (q1 + (-7046029254386353131 : Int64)))) (q1 + (-7046029254386353131 : Int64))).mpr hc30)).2) k) ?_
    refine own_go (T5.setTop (mkF m 35 #[.val (.long q1), .second, .val (.ref b1), .val (.long (own_mix (q1 + (-7046029254386353131 : Int64)))), .second, .val (.long (own_mix ((q1 + (-7046029254386353131 : Int64)) + (-7046029254386353131 : Int64)))), .second] [(.long (own_mix ((q1 + (-7046029254386353131 : Int64)) + (-7046029254386353131 : Int64))))])) (fun _ k => XS.lload X5.here hx rfl (hb hby at_33) rfl k) ?_
    obtain ⟨_, _, ⟨T6, L6, k6, n6⟩, -, X6, ⟨Lc6, hQ6, l6, y6, z6⟩, st6⟩ := Jvm.LawKit.callS X5 hx (y := (⟨"com/example/oxbow/oxbow/engine/SeededRandomNextLongPinLaw", "unmix", "(J)J"⟩ : MethodName)) hown (mvT hZ (hw _ (List.mem_of_getElem? (i := 19) rfl))) (mvT hZ (hw _ (List.mem_of_getElem? (i := 20) rfl))) (mvT hZ (hw _ (List.mem_of_getElem? (i := 21) rfl))) (mvT hZ (hw _ (List.mem_of_getElem? (i := 22) rfl))) (by decide) (backOf (W := 0) (own_rm4 l Z a0 hw [] (own_mix ((q1 + (-7046029254386353131 : Int64)) + (-7046029254386353131 : Int64))) T4.heap n0 Z4) hZ (hw _ (List.mem_of_getElem? (i := 22) rfl)) (hw _ (List.mem_of_getElem? (i := 21) rfl)) (by decide) (by decide)) (g := (mkF m 35 #[.val (.long q1), .second, .val (.ref b1), .val (.long (own_mix (q1 + (-7046029254386353131 : Int64)))), .second, .val (.long (own_mix ((q1 + (-7046029254386353131 : Int64)) + (-7046029254386353131 : Int64)))), .second] [(.long (own_mix ((q1 + (-7046029254386353131 : Int64)) + (-7046029254386353131 : Int64))))])) rfl (by rw [hml]; rfl) (argsL := [(.long (own_mix ((q1 + (-7046029254386353131 : Int64)) + (-7046029254386353131 : Int64))))]) (rest := []) (lenOf own_pd2 rfl) rfl (by show 2 * 0 + _ ≤ _; exact Nat.le_of_eq rfl) (hb hby at_35) (fun _ _ => ⟨rfl, e5, (by decide : 1 + 0 ≤ _), (by decide : 1 + 0 ≤ _)⟩)
    dsimp only [Pt.U, Pt.locs, Pt.cells, Pt.slots] at X6 l6 y6 z6 st6 hQ6
    subst l6 y6 z6
    obtain ⟨rfl, N6q, e6⟩ := hQ6
    have N6 := Fr.app N5 N6q
    refine own_go (T6.setTop (mkF m 38 #[.val (.long q1), .second, .val (.ref b1), .val (.long (own_mix (q1 + (-7046029254386353131 : Int64)))), .second, .val (.long (own_mix ((q1 + (-7046029254386353131 : Int64)) + (-7046029254386353131 : Int64)))), .second] [(.long (own_unmix (own_mix ((q1 + (-7046029254386353131 : Int64)) + (-7046029254386353131 : Int64)))))])) (fun _ k => st6 _ k) ?_
    refine own_go (T6.setTop (mkF m 39 #[.val (.long q1), .second, .val (.ref b1), .val (.long (own_mix (q1 + (-7046029254386353131 : Int64)))), .second, .val (.long (own_mix ((q1 + (-7046029254386353131 : Int64)) + (-7046029254386353131 : Int64)))), .second] [(.long q1), (.long (own_unmix (own_mix ((q1 + (-7046029254386353131 : Int64)) + (-7046029254386353131 : Int64)))))])) (fun _ k => XS.lloadN X6.here hx rfl (hb hby at_38) rfl k) ?_
    refine own_go (T6.setTop (mkF m 42 #[.val (.long q1), .second, .val (.ref b1), .val (.long (own_mix (q1 + (-7046029254386353131 : Int64)))), .second, .val (.long (own_mix ((q1 + (-7046029254386353131 : Int64)) + (-7046029254386353131 : Int64)))), .second] [(.long (-7046029254386353131 : Int64)), (.long q1), (.long (own_unmix (own_mix ((q1 + (-7046029254386353131 : Int64)) + (-7046029254386353131 : Int64)))))])) (fun _ k => X6.ldc2Long hx hown (mvT hZ (hw _ (List.mem_of_getElem? (i := 25) rfl))) (g := (mkF m 39 #[.val (.long q1), .second, .val (.ref b1), .val (.long (own_mix (q1 + (-7046029254386353131 : Int64)))), .second, .val (.long (own_mix ((q1 + (-7046029254386353131 : Int64)) + (-7046029254386353131 : Int64)))), .second] [(.long q1), (.long (own_unmix (own_mix ((q1 + (-7046029254386353131 : Int64)) + (-7046029254386353131 : Int64)))))])) rfl (hb hby at_39) _ k) ?_
    refine own_go (T6.setTop (mkF m 43 #[.val (.long q1), .second, .val (.ref b1), .val (.long (own_mix (q1 + (-7046029254386353131 : Int64)))), .second, .val (.long (own_mix ((q1 + (-7046029254386353131 : Int64)) + (-7046029254386353131 : Int64)))), .second] [(.long (q1 + (-7046029254386353131 : Int64))), (.long (own_unmix (own_mix ((q1 + (-7046029254386353131 : Int64)) + (-7046029254386353131 : Int64)))))])) (fun _ k => XS.ladd X6.here hx rfl (hb hby at_42) rfl k) ?_
    refine own_go (T6.setTop (mkF m 46 #[.val (.long q1), .second, .val (.ref b1), .val (.long (own_mix (q1 + (-7046029254386353131 : Int64)))), .second, .val (.long (own_mix ((q1 + (-7046029254386353131 : Int64)) + (-7046029254386353131 : Int64)))), .second] [(.long (-7046029254386353131 : Int64)), (.long (q1 + (-7046029254386353131 : Int64))), (.long (own_unmix (own_mix ((q1 + (-7046029254386353131 : Int64)) + (-7046029254386353131 : Int64)))))])) (fun _ k => X6.ldc2Long hx hown (mvT hZ (hw _ (List.mem_of_getElem? (i := 25) rfl))) (g := (mkF m 43 #[.val (.long q1), .second, .val (.ref b1), .val (.long (own_mix (q1 + (-7046029254386353131 : Int64)))), .second, .val (.long (own_mix ((q1 + (-7046029254386353131 : Int64)) + (-7046029254386353131 : Int64)))), .second] [(.long (q1 + (-7046029254386353131 : Int64))), (.long (own_unmix (own_mix ((q1 + (-7046029254386353131 : Int64)) + (-7046029254386353131 : Int64)))))])) rfl (hb hby at_43) _ k) ?_
    refine own_go (T6.setTop (mkF m 47 #[.val (.long q1), .second, .val (.ref b1), .val (.long (own_mix (q1 + (-7046029254386353131 : Int64)))), .second, .val (.long (own_mix ((q1 + (-7046029254386353131 : Int64)) + (-7046029254386353131 : Int64)))), .second] [(.long ((q1 + (-7046029254386353131 : Int64)) + (-7046029254386353131 : Int64))), (.long (own_unmix (own_mix ((q1 + (-7046029254386353131 : Int64)) + (-7046029254386353131 : Int64)))))])) (fun _ k => XS.ladd X6.here hx rfl (hb hby at_46) rfl k) ?_
    refine own_go (T6.setTop (mkF m 48 #[.val (.long q1), .second, .val (.ref b1), .val (.long (own_mix (q1 + (-7046029254386353131 : Int64)))), .second, .val (.long (own_mix ((q1 + (-7046029254386353131 : Int64)) + (-7046029254386353131 : Int64)))), .second] [(.int (lcmpW (own_unmix (own_mix ((q1 + (-7046029254386353131 : Int64)) + (-7046029254386353131 : Int64)))) ((q1 + (-7046029254386353131 : Int64)) + (-7046029254386353131 : Int64))))])) (fun _ k => XS.lcmp X6.here hx rfl (hb hby at_47) rfl k) ?_
    by_cases hc48 : (own_unmix (own_mix ((q1 + (-7046029254386353131 : Int64)) + (-7046029254386353131 : Int64)))) = ((q1 + (-7046029254386353131 : Int64)) + (-7046029254386353131 : Int64))
    · have hz48 : (((own_unmix (own_mix ((q1 + (-7046029254386353131 : Int64)) + (-7046029254386353131 : Int64))))).toInt = (((q1 + (-7046029254386353131 : Int64)) + (-7046029254386353131 : Int64))).toInt) := own_zLeq hc48 rfl rfl
      refine own_go (T6.setTop (mkF m 51 #[.val (.long q1), .second, .val (.ref b1), .val (.long (own_mix (q1 + (-7046029254386353131 : Int64)))), .second, .val (.long (own_mix ((q1 + (-7046029254386353131 : Int64)) + (-7046029254386353131 : Int64)))), .second] [])) (fun _ k => XS.ifNo X6.here hx rfl (hb hby at_48) rfl ((if0 _ _).trans (teq ((lw_eq (own_unmix (own_mix ((q1 + (-7046029254386353131 : Int64)) + (-7046029254386353131 : Int64)))) ((q1 + (-7046029254386353131 : Int64)) + (-7046029254386353131 : Int64))).mpr hc48)).2) k) ?_
      refine own_go (T6.setTop (mkF m 52 #[.val (.long q1), .second, .val (.ref b1), .val (.long (own_mix (q1 + (-7046029254386353131 : Int64)))), .second, .val (.long (own_mix ((q1 + (-7046029254386353131 : Int64)) + (-7046029254386353131 : Int64)))), .second] [(.int (1 : Int32))])) (fun _ k => XS.iconst X6.here hx rfl (hb hby at_51) k) ?_
      refine own_go (T6.setTop (mkF m 56 #[.val (.long q1), .second, .val (.ref b1), .val (.long (own_mix (q1 + (-7046029254386353131 : Int64)))), .second, .val (.long (own_mix ((q1 + (-7046029254386353131 : Int64)) + (-7046029254386353131 : Int64)))), .second] [(.int (1 : Int32))])) (fun _ k => XS.goto X6.here hx rfl (pc0 := 52) (pc' := 56) rfl (hb hby at_52) (by decide) (by decide) k) ?_
      refine own_ret X6 (BodyLoose.notSynchronized Bd) (some (.int (1 : Int32))) (fun h => by rw [Bd.returns] at h; cases h) (fun fs hr => retN X6 hx (t := .boolean) Bd.returns (by simp) (hb hby at_56) hr) (by decide) (by decide) ?_
      exact ⟨rfl, N6⟩
    · have hz48 : ¬ (((own_unmix (own_mix ((q1 + (-7046029254386353131 : Int64)) + (-7046029254386353131 : Int64))))).toInt = (((q1 + (-7046029254386353131 : Int64)) + (-7046029254386353131 : Int64))).toInt) := own_zLneq hc48 rfl rfl
      exact absurd (own_law _) hc48
  · have hz30 : ¬ (((own_unmix (own_mix (q1 + (-7046029254386353131 : Int64))))).toInt = ((q1 + (-7046029254386353131 : Int64))).toInt) := own_zLneq hc30 rfl rfl
    exact absurd (own_law _) hc30
set_option maxRecDepth 65536 in
set_option maxHeartbeats 40000000 in
theorem own_comes {Post : Tables → Env → Array Value → State → Outcome → State → Prop} (hpost : ∀ tb e args s v u, (limb_1_1.after args s (.returned v) u = true ∧ limb_1_2.after args s (.returned v) u = true ∧ True) → FrameEnd s (.returned v) u (Jvm.fieldLocs frame_1_writes args s ++ Jvm.arrayLocs frame_1_arrays args s ++ Jvm.staticLocs frame_1_statics s) 16 128 → Post tb e args s (.returned v) u) :
    ArmFor flags0 classFile x code maxLocals ret World_1 tables_1 room_1 Calls_1 rest_1 Pre_1 Post := by
  intro l hfl _ _ p e ha hc hk s m args below hf hA hF happ hP
  obtain ⟨hcalls, hrest, hpre⟩ := hP
  obtain ⟨-, -, -, hnamed, -, -, -, hat⟩ := (Spec.applies_iff hf).mp happ
  obtain ⟨hg, hn⟩ := and_e (Cond.before_iff.mp (show (Jvm.Cond.and given_1 narrow_1).before args s = true from hpre))
  obtain ⟨hq0, hr0⟩ := and_e hg
  obtain ⟨w0, rfl⟩ : ∃ w0 : Value, args = #[w0] := by
    have hs : args.size = 1 := by simpa [Cond.value, given_1] using hq0
    obtain ⟨L⟩ := args
    match L, hs with
    | [w0], _ => exact ⟨w0, rfl⟩
  have hw := fun d (hd : d ∈ tables_1) => atoms_spec (ws := Jvm.Cond.code x code maxLocals ret :: tables_1) hat d (List.mem_cons_of_mem _ hd)
  have hfit : Fit s := fun {y c} hc i hi => by
    obtain ⟨ha, rfl⟩ := Array.getElem?_eq_some_iff.mp hc
    have q := List.all_eq_true.mp ((Array.all_eq_true_iff_forall_mem.mp hF) _ (Array.getElem_mem ha)) i (List.mem_range.mpr hi)
    simpa [Array.getElem?_eq_getElem hi] using q
  obtain ⟨i0, ei0⟩ := isL_v hr0
  obtain rfl : w0 = (.long i0) := Option.some.inj ei0
  obtain ⟨n, o, h1, h2, h3, _, L, rfl, ⟨rfl, N⟩, hq⟩ := own_rm0 l s _ hw tables_1 i0 s.heap s.heap.size (Nat.le_refl _) p e ha hc hk s m _ below hf ((Spec.applies_iff_loose hf).mp happ).1 ⟨rfl, State.Warmed39.refl s, rfl⟩ trivial
  refine ⟨n, _, h1, h2, h3, hpost _ _ _ _ _ _ ⟨Cond.after_iff.mpr rfl, Cond.after_iff.mpr (eq_i res_at (Term.int_eval (1)) rfl), trivial⟩ ⟨hq.1, hq.2.1, (hq.2.2.sift fun y hy => Or.inr (N y hy)).mono (by decide) (by decide)⟩⟩
theorem main_1_1 : Claimed_1_1 := own_comes fun _ _ _ _ _ _ h hF => ⟨h.1, hF⟩
theorem main_1_2 : Claimed_1_2 := own_comes fun _ _ _ _ _ _ h hF => ⟨h.2.1, hF⟩
end Jvm.Pilot.@@N@@
namespace Jvm.Pilot.@@N@@
open Jvm Jvm.ClassFile Sem Op Lib Jvm.Free Jvm.Stand Jvm.Pilot.@@N@@.Jvm.D
/-! MADE BY PROGRAM (witnessworld.py) out of the Statement's table words and the real class files: 9 classes; the members and pool entries that the words name. The judged class is class 1, her method 2. -/
namespace start1
open Jvm.ClassFile
def u (s : String) : CpInfo := .utf8 (stringToUtf16 s)
/-- a pool by its gaps: so many unusable entries, then the entry; so many at the end -/
def gap : Nat → List CpInfo → List CpInfo
  | 0, r => r
  | n + 1, r => .unusable :: gap n r
def poolList (es : List (Nat × CpInfo)) (last : Nat) : List CpInfo := es.foldr (fun e r => gap e.1 (e.2 :: r)) (gap last [])
def pool (es : List (Nat × CpInfo)) (last : Nat) : Array CpInfo := ⟨poolList es last⟩
def fileOf (pool : Array CpInfo) (this : Nat) (attrs : Array Attribute := #[]) (ms : Array MethodInfo := #[]) (fl : Nat := 33) (sup : Nat := 0) (ifs : Array Nat := #[]) (fds : Array FieldInfo := #[]) : ClassFile where
  minorVersion := 0
  majorVersion := 65
  constantPool := pool
  accessFlags := fl
  thisClass := this
  superClass := sup
  interfaces := ifs
  fields := fds
  methods := ms
  attributes := attrs
def plain (name : String) (sup : Option ClassId) : Class where
  name := name
  kind := .ordinary
  loader := none
  accessFlags := 33
  super := sup
  interfaces := #[]
  cf := none
  fields := #[]
  methods := #[]
  instanceTypes := #[]
  staticTypes := #[]
  resolved := #[]
  callSites := []
  init := .initialized
  statics := none
  mirror := none

def pool0 : Array CpInfo := pool [(5, u "<init>"), (0, u "()V"), (1, .class_ 10), (1, u "java/lang/Object")] 113

def k0c0 : Code := { maxStack := 0, maxLocals := 1, code := object_method_1_code, exceptionTable := #[], attributes := #[] }
def k0m0 : Method := { name := "<init>", desc := "()V", sig := { parameters := [], returnType := none }, accessFlags := 1, code := some k0c0 }
/-- java/lang/Object -/
def k0 : Class := { plain "java/lang/Object" none with
  accessFlags := 33
  interfaces := #[]
  cf := some (fileOf pool0 8 #[] #[{ accessFlags := 1, nameIndex := 5, descriptorIndex := 6, attributes := #[] }] 33 0 #[] #[])
  fields := #[]
  methods := #[k0m0]
  instanceTypes := #[]
  staticTypes := #[]
  resolved := Array.replicate 124 none
  statics := none }

def pool1 : Array CpInfo := pool [(2, .class_ 4), (1, u "java/lang/Object"), (0, u "<init>"), (0, u "()V"), (0, .long 3573116690164977347), (1, .long 10871156337175269513), (1, .class_ 12), (0, u "com/example/oxbow/oxbow/engine/SeededRandom"), (0, .methodref 11 14), (0, .nameAndType 5 15), (0, u "(J)V"), (0, .methodref 11 17), (0, .nameAndType 18 19), (0, u "nextLong"), (0, u "()J"), (0, .methodref 21 22), (0, .class_ 23), (0, .nameAndType 24 25), (0, u "com/example/oxbow/oxbow/engine/SeededRandomNextLongPinLaw"), (0, u "unmix"), (0, u "(J)J"), (0, .long 11400714819323198485), (1, u "GAMMA"), (0, u "J"), (3, u "law"), (0, u "(J)Z")] 3

def k1m0 : Method := { name := "<init>", desc := "()V", sig := { parameters := [], returnType := none }, accessFlags := 1, code := none }
def k1c1 : Code := { maxStack := 5, maxLocals := 2, code := method_2_code, exceptionTable := #[], attributes := #[] }
def k1m1 : Method := { name := "unmix", desc := "(J)J", sig := { parameters := [.long], returnType := some .long }, accessFlags := 10, code := some k1c1 }
def k1c2 : Code := { maxStack := 6, maxLocals := 7, code := code, exceptionTable := #[], attributes := #[] }
def k1m2 : Method := { name := "law", desc := "(J)Z", sig := { parameters := [.long], returnType := some .boolean }, accessFlags := 9, code := some k1c2 }
/-- com/example/oxbow/oxbow/engine/SeededRandomNextLongPinLaw -/
def k1 : Class := { plain "com/example/oxbow/oxbow/engine/SeededRandomNextLongPinLaw" (some 0) with
  accessFlags := 49
  interfaces := #[]
  cf := some (fileOf pool1 21 #[] #[{ accessFlags := 1, nameIndex := 5, descriptorIndex := 6, attributes := #[] }, { accessFlags := 10, nameIndex := 24, descriptorIndex := 25, attributes := #[] }, { accessFlags := 9, nameIndex := 33, descriptorIndex := 34, attributes := #[] }] 49 2 #[] #[{ accessFlags := 26, nameIndex := 28, descriptorIndex := 29, attributes := #[] }])
  fields := #[{ name := "GAMMA", type := .long, accessFlags := 26, slot := 0, constantValue := 0 }]
  methods := #[k1m0, k1m1, k1m2]
  instanceTypes := #[]
  staticTypes := #[.long]
  resolved := Array.replicate 38 none
  statics := none }

def pool2 : Array CpInfo := pool [(1, .methodref 2 3), (0, .class_ 4), (0, .nameAndType 5 6), (0, u "java/lang/Object"), (0, u "<init>"), (0, u "()V"), (0, .fieldref 8 9), (0, .class_ 10), (0, .nameAndType 11 12), (0, u "com/example/oxbow/oxbow/engine/SeededRandom"), (0, u "state"), (0, u "J"), (0, .long 11400714819323198485), (1, .long 13787848793156543929), (1, .long 10723151780598845931), (12, u "nextLong"), (0, u "()J"), (2, u "(J)V"), (26, u "GOLDEN_GAMMA")] 30

def k2c0 : Code := { maxStack := 3, maxLocals := 3, code := prog_7_method_1_code, exceptionTable := #[], attributes := #[] }
def k2m0 : Method := { name := "<init>", desc := "(J)V", sig := { parameters := [.long], returnType := none }, accessFlags := 1, code := some k2c0 }
def k2c1 : Code := { maxStack := 5, maxLocals := 3, code := prog_7_method_2_code, exceptionTable := #[], attributes := #[] }
def k2m1 : Method := { name := "nextLong", desc := "()J", sig := { parameters := [], returnType := some .long }, accessFlags := 1, code := some k2c1 }
/-- com/example/oxbow/oxbow/engine/SeededRandom -/
def k2 : Class := { plain "com/example/oxbow/oxbow/engine/SeededRandom" (some 0) with
  accessFlags := 49
  interfaces := #[]
  cf := some (fileOf pool2 8 #[] #[{ accessFlags := 1, nameIndex := 5, descriptorIndex := 34, attributes := #[] }, { accessFlags := 1, nameIndex := 30, descriptorIndex := 31, attributes := #[] }] 49 2 #[] #[{ accessFlags := 26, nameIndex := 61, descriptorIndex := 12, attributes := #[] }, { accessFlags := 2, nameIndex := 11, descriptorIndex := 12, attributes := #[] }])
  fields := #[{ name := "GOLDEN_GAMMA", type := .long, accessFlags := 26, slot := 0, constantValue := 0 }, { name := "state", type := .long, accessFlags := 2, slot := 0, constantValue := 0 }]
  methods := #[k2m0, k2m1]
  instanceTypes := #[.long]
  staticTypes := #[.long]
  resolved := Array.replicate 92 none
  statics := none }

def pool3 : Array CpInfo := pool [(1, u "java/lang/Cloneable"), (0, .class_ 1), (0, u "java/lang/Object"), (0, .class_ 3)] 3

/-- java/lang/Cloneable -/
def k3 : Class := { plain "java/lang/Cloneable" (some 0) with
  accessFlags := 1537
  interfaces := #[]
  cf := some (fileOf pool3 2 #[] #[] 1537 4 #[] #[])
  fields := #[]
  methods := #[]
  instanceTypes := #[]
  staticTypes := #[]
  resolved := Array.replicate 8 none
  statics := none }

def pool4 : Array CpInfo := pool [(1, u "java/io/Serializable"), (0, .class_ 1), (0, u "java/lang/Object"), (0, .class_ 3)] 3

/-- java/io/Serializable -/
def k4 : Class := { plain "java/io/Serializable" (some 0) with
  accessFlags := 1537
  interfaces := #[]
  cf := some (fileOf pool4 2 #[] #[] 1537 4 #[] #[])
  fields := #[]
  methods := #[]
  instanceTypes := #[]
  staticTypes := #[]
  resolved := Array.replicate 8 none
  statics := none }

/-- the primitive byte -/
def k5 : Class := { plain "byte" none with kind := .primitive 'B', accessFlags := 0x411 }
/-- [B -/
def k6 : Class := { plain "[B" (some 0) with kind := .array 5 .byte, interfaces := #[3, 4], accessFlags := 1041 }

/-- the primitive int -/
def k7 : Class := { plain "int" none with kind := .primitive 'I', accessFlags := 0x411 }
/-- [I -/
def k8 : Class := { plain "[I" (some 0) with kind := .array 7 .int, interfaces := #[3, 4], accessFlags := 1041 }

def heap : Heap := #[]
def classes : Array Class := #[k0, k1, k2, k3, k4, k5, k6, k7, k8]
def interned : List (Array UInt16 × Addr) := []
def slotsUsed : Nat := 0
def theMethod : MethodId := ⟨1, 2⟩
def args0 : Array Value := #[.long 5]
def aboutOver (below : List Frame) : State where
  vm := { classes := classes, interned := interned.toArray }
  heap := heap
  slotsUsed := slotsUsed
  threads := #[{ frames := .invoking theMethod args0 :: below }]
def below0 : List Frame := [.native { method := ⟨0, 0⟩, args := #[] }]
def about1 : State := aboutOver below0
def p0 : Program := .bare "" "" ""
def e0 : Env := launch0.env 0 0 0
theorem w_frames : about1.frames = Frame.invoking theMethod args0 :: below0 := rfl
set_option maxRecDepth 65536 in
theorem w_args : argsFit about1.vm theMethod args0 = true := by decide +kernel
set_option maxRecDepth 65536 in
theorem w_heap : heapFits about1 = true := by decide +kernel
set_option maxRecDepth 65536 in
theorem w_runnable : about1.curStatus? = some .runnable := by decide +kernel
set_option maxRecDepth 65536 in
theorem w_alone : about1.alone = true := by decide +kernel
set_option maxRecDepth 65536 in
theorem w_named : about1.methodNamed? x = some theMethod := by decide +kernel
set_option maxRecDepth 65536 in
theorem w_hears : about1.hears theMethod below0 = true := by decide +kernel
set_option maxRecDepth 65536 in
theorem w_ripe : about1.ripe theMethod args0 below0 = true := by decide +kernel
theorem w_running : about1.status = .running := rfl
set_option maxRecDepth 65536 in
theorem w_room : about1.hasRoom e0.platform room_1 = true :=
  launch0.hasRoom_least _ room_1 (by decide +kernel) (by decide +kernel) (by decide +kernel) (by decide +kernel) (by decide +kernel) (by decide +kernel)
theorem allAtoms_all (ts : List Jvm.Cond) (a : Array Jvm.Value) (st : Jvm.State) : (allAtoms ts).before a st = ts.all (fun c => c.before a st) := by
  induction ts with
  | nil => rfl
  | cons c t ih =>
    show (Jvm.Cond.and c (allAtoms t)).before a st = _
    rw [Jvm.Cond.before_and, ih, List.all_cons]
def words1 : List Jvm.Cond := Jvm.Cond.code x code maxLocals ret :: tables_1
/-- a 'code' word, met by the world's own term for the bytes: nothing is compared byte by byte -/
theorem code_word {y : MethodName} {bytes : ByteArray} {mx : Nat} {rt : Option FieldType} {a : Array Value} {s : State} {m : MethodId} {meth : Method} {c : Code} (h1 : s.methodNamed? y = some m) (h2 : s.vm.method? m = some meth) (h3 : meth.code = some c) (h4 : c.code = bytes)
    (h5 : (c.maxLocals == mx && c.exceptionTable.isEmpty && decide (c.maxStack ≤ mostOperands) && decide (meth.sig.returnType = rt) && !meth.locks && decide (parseMethodDescriptor y.desc = some meth.sig)) = true) : (Jvm.Cond.code y bytes mx rt).before a s = true := by
  simp only [Bool.and_eq_true, beq_iff_eq, Bool.not_eq_true', decide_eq_true_eq] at h5
  obtain ⟨⟨⟨⟨⟨g1, g2⟩, g3⟩, g4⟩, g5⟩, g6⟩ := h5
  simp [Cond.before, Cond.holds, Cond.value, h1, h2, h3, h4, g1, g2, g3, g4, g5, g6]
def isCode : Jvm.Cond → Bool
  | .code _ _ _ _ => true
  | _ => false
theorem all_split {L : List Jvm.Cond} {P : Jvm.Cond → Bool} (h1 : L.all (fun c => isCode c || P c) = true) (h2 : ∀ c ∈ L.filter isCode, P c = true) : L.all P = true := by
  refine List.all_eq_true.mpr fun c hc => ?_
  have h := List.all_eq_true.mp h1 c hc
  rcases Bool.eq_false_or_eq_true (isCode c) with hi | hi
  · exact h2 c (List.mem_filter.mpr ⟨hc, hi⟩)
  · simpa [hi] using h
set_option maxRecDepth 65536 in
theorem w_c0 : (Jvm.Cond.code x code maxLocals ret).before args0 about1 = true := code_word (m := ⟨1, 2⟩) (meth := k1m2) (c := k1c2) (by decide +kernel) rfl rfl rfl (by decide +kernel)
set_option maxRecDepth 65536 in
theorem w_c1 : (Jvm.Cond.code ({ cls := "com/example/oxbow/oxbow/engine/SeededRandom", name := "<init>", desc := "(J)V" } : Jvm.MethodName) prog_7_method_1_code (3 : Nat) (Option.none : Option Jvm.ClassFile.FieldType)).before args0 about1 = true := code_word (m := ⟨2, 0⟩) (meth := k2m0) (c := k2c0) (by decide +kernel) rfl rfl rfl (by decide +kernel)
set_option maxRecDepth 65536 in
theorem w_c2 : (Jvm.Cond.code ({ cls := "java/lang/Object", name := "<init>", desc := "()V" } : Jvm.MethodName) object_method_1_code (1 : Nat) (Option.none : Option Jvm.ClassFile.FieldType)).before args0 about1 = true := code_word (m := ⟨0, 0⟩) (meth := k0m0) (c := k0c0) (by decide +kernel) rfl rfl rfl (by decide +kernel)
set_option maxRecDepth 65536 in
theorem w_c3 : (Jvm.Cond.code ({ cls := "com/example/oxbow/oxbow/engine/SeededRandom", name := "nextLong", desc := "()J" } : Jvm.MethodName) prog_7_method_2_code (3 : Nat) (Option.some Jvm.ClassFile.FieldType.long)).before args0 about1 = true := code_word (m := ⟨2, 1⟩) (meth := k2m1) (c := k2c1) (by decide +kernel) rfl rfl rfl (by decide +kernel)
set_option maxRecDepth 65536 in
theorem w_c4 : (Jvm.Cond.code ({ cls := "com/example/oxbow/oxbow/engine/SeededRandomNextLongPinLaw", name := "unmix", desc := "(J)J" } : Jvm.MethodName) method_2_code (2 : Nat) (Option.some Jvm.ClassFile.FieldType.long)).before args0 about1 = true := code_word (m := ⟨1, 1⟩) (meth := k1m1) (c := k1c1) (by decide +kernel) rfl rfl rfl (by decide +kernel)
def codes1 : List Jvm.Cond := [Jvm.Cond.code x code maxLocals ret, Jvm.Cond.code ({ cls := "com/example/oxbow/oxbow/engine/SeededRandom", name := "<init>", desc := "(J)V" } : Jvm.MethodName) prog_7_method_1_code (3 : Nat) (Option.none : Option Jvm.ClassFile.FieldType), Jvm.Cond.code ({ cls := "java/lang/Object", name := "<init>", desc := "()V" } : Jvm.MethodName) object_method_1_code (1 : Nat) (Option.none : Option Jvm.ClassFile.FieldType), Jvm.Cond.code ({ cls := "com/example/oxbow/oxbow/engine/SeededRandom", name := "nextLong", desc := "()J" } : Jvm.MethodName) prog_7_method_2_code (3 : Nat) (Option.some Jvm.ClassFile.FieldType.long), Jvm.Cond.code ({ cls := "com/example/oxbow/oxbow/engine/SeededRandomNextLongPinLaw", name := "unmix", desc := "(J)J" } : Jvm.MethodName) method_2_code (2 : Nat) (Option.some Jvm.ClassFile.FieldType.long)]
set_option maxRecDepth 65536 in
theorem codes_eq : words1.filter isCode = codes1 := rfl
theorem w_codes : ∀ c ∈ words1.filter isCode, c.before args0 about1 = true := by
  rw [codes_eq]
  intro c hc
  simp only [codes1, List.mem_cons, List.not_mem_nil, or_false] at hc
  rcases hc with rfl | rfl | rfl | rfl | rfl
  · exact w_c0
  · exact w_c1
  · exact w_c2
  · exact w_c3
  · exact w_c4
set_option maxRecDepth 65536 in
theorem w_t1 : (words1.take 24).all (fun c => isCode c || c.before args0 about1) = true := by decide +kernel
set_option maxRecDepth 65536 in
theorem w_t2 : (words1.drop 24).all (fun c => isCode c || c.before args0 about1) = true := by decide +kernel
theorem w_tables : (allAtoms (Jvm.Cond.code x code maxLocals ret :: tables_1)).before args0 about1 = true := by
  rw [allAtoms_all]
  show words1.all (fun c => c.before args0 about1) = true
  refine all_split ?_ w_codes
  rw [← List.take_append_drop 24 words1, List.all_append, w_t1, w_t2]
  rfl
set_option maxRecDepth 65536 in
theorem w_case : (Jvm.Cond.and given_1 narrow_1).before args0 about1 = true := by decide +kernel
theorem w_applies : (headSpec (Jvm.Cond.code x code maxLocals ret :: tables_1) room_1).applies x e0.platform about1 = true :=
  (Spec.applies_iff w_frames).mpr ⟨w_running, w_runnable, w_alone, w_named, w_hears, w_ripe, w_room, w_tables⟩
theorem atStart : AtStart classFile x code maxLocals ret World_1 tables_1 room_1 Calls_1 rest_1 Pre_1 launch0 p0 e0 about1 theMethod args0 below0 :=
  ⟨lists_1, trivial, launch0.admits_env _ _ _, launch0.least_env, fairChoices_fair.cas, fairChoices_fair.clock, w_frames, w_args, w_heap, w_applies, trivial, trivial, w_case⟩
end start1
theorem witness_1 : WitnessClaimed_1 := ⟨start1.p0, start1.e0, start1.about1, start1.theMethod, start1.args0, start1.below0, start1.atStart⟩
end Jvm.Pilot.@@N@@
