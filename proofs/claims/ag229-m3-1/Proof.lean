import JvmDerived
import JvmDerived.Pilot.@@N@@Statement
import JvmDerived.Pilot.@@N@@Code
set_option linter.unusedVariables false
set_option linter.unusedSimpArgs false
namespace Jvm.RoadKit
open Sem ClassFile Op Lib Jvm.Stand Jvm.Free Jvm.LawKit
section New
variable {p : Program} {l : Launch} {e : Env} {R : Room} {s : State} {m : MethodId} {args : Array Value} {below : List Frame} {meth : Method} {c : Code} {T : State} {locs : List Loc} {cells slots k n : Nat} {Q : Option Value → Heap → List Loc → Prop}
theorem retI (X : Stand p l e R s m args below meth c T locs cells slots) (hx : p.tables.exec = Jvm.exec) {pc : Nat} {Ls : Array Slot} {z : Int32} {rest : List Value} (hret : meth.sig.returnType = some .int) (hd : decode c.code pc = .ok (.ireturn, 1)) {fs : List Frame}
    (hl : ∀ (f : JFrame) (acts : List Action), f.method = m → f.locked = none → f.entered = [] → (doReturn e (T.setTop f) acts (some (.int z))).1 = T.setFrames fs) : Steps p.tables e below (T.setTop (mkF m pc Ls (.int z :: rest))) (T.setFrames fs) := by
  have hm' : T.vm.method? m = some meth := X.method'
  have hn : narrow .int (.int z) = .int z := rfl
  show Steps p.tables e below (T.setTop { method := m, pc := pc, locals := Ls, stack := _ :: rest, locked := none }) _
  jvm_step X.here [X.here.top, hx, hd, hm', hret, hn]
  first | (intro acts; rw [hl _ acts rfl rfl rfl]) | rw [hl _ _ rfl rfl rfl]
  exact Steps.refl _
/-- from S0 the run comes to a return that leaves what Q says -/
def own_Fin (p : Program) (e : Env) (below : List Frame) (s : State) (Q : Option Value → Heap → List Loc → Prop) (k n : Nat) (S0 : State) : Prop :=
  ∃ s₂ o, Steps p.tables e below S0 s₂ ∧ s₂.status = .running ∧ Ended s₂ below o ∧ ∃ v L, o = .returned v ∧ Q v s₂.heap L ∧ FrameEnd s o s₂ L k n
theorem own_go {S0 : State} (S1 : State) (h : ∀ t, Steps p.tables e below S1 t → Steps p.tables e below S0 t) (q : own_Fin p e below s Q k n S1) : own_Fin p e below s Q k n S0 := by
  obtain ⟨s₂, o, h1, h2⟩ := q
  exact ⟨s₂, o, h _ h1, h2⟩
theorem own_ret (X : Stand p l e R s m args below meth c T locs cells slots) (hlocks : meth.locks = false) (v : Option Value) (hv : meth.sig.returnType = none → v = none) {g : JFrame}
    (hs : ∀ fs, (∀ (f : JFrame) (acts : List Action), f.method = m → f.locked = none → f.entered = [] → (doReturn e (T.setTop f) acts v).1 = T.setFrames fs) → Steps p.tables e below (T.setTop g) (T.setFrames fs))
    (hk : cells ≤ k) (hn : slots ≤ n) (hQ : Q v T.heap locs) : own_Fin p e below s Q k n (T.setTop g) := by
  obtain ⟨fs, hr, hrun, hended, hW, hsame⟩ := X.leave (v := v) hv hlocks
  exact ⟨_, _, hs fs hr, hrun, hended, _, _, rfl, hQ, ⟨_, rfl⟩, hW, hsame.mono hk hn⟩
theorem own_zlt {x y : Int32} {a b : Int} (h : x < y) (hx : x.toInt = a) (hy : y.toInt = b) : a < b := by rw [← hx, ← hy]; exact Int32.lt_iff_toInt_lt.mp h
theorem own_znlt {x y : Int32} {a b : Int} (h : ¬ x < y) (hx : x.toInt = a) (hy : y.toInt = b) : ¬ a < b := by rw [← hx, ← hy]; exact fun q => h (Int32.lt_iff_toInt_lt.mpr q)
theorem own_zeq {x y : Int32} {a b : Int} (h : x = y) (hx : x.toInt = a) (hy : y.toInt = b) : a = b := by rw [← hx, ← hy, h]
theorem own_zneq {x y : Int32} {a b : Int} (h : ¬ x = y) (hx : x.toInt = a) (hy : y.toInt = b) : ¬ a = b := by rw [← hx, ← hy]; exact fun q => h (Int32.toInt_inj.mp q)
theorem own_zLlt {x y : Int64} {a b : Int} (h : x < y) (hx : x.toInt = a) (hy : y.toInt = b) : a < b := by rw [← hx, ← hy]; exact Int64.lt_iff_toInt_lt.mp h
theorem own_zLnlt {x y : Int64} {a b : Int} (h : ¬ x < y) (hx : x.toInt = a) (hy : y.toInt = b) : ¬ a < b := by rw [← hx, ← hy]; exact fun q => h (Int64.lt_iff_toInt_lt.mpr q)
theorem own_zLeq {x y : Int64} {a b : Int} (h : x = y) (hx : x.toInt = a) (hy : y.toInt = b) : a = b := by rw [← hx, ← hy, h]
theorem own_zLneq {x y : Int64} {a b : Int} (h : ¬ x = y) (hx : x.toInt = a) (hy : y.toInt = b) : ¬ a = b := by rw [← hx, ← hy]; exact fun q => h (Int64.toInt_inj.mp q)
end New
end Jvm.RoadKit
namespace Jvm.Pilot.@@N@@
open Jvm Jvm.ClassFile Sem Op Lib Jvm.Free Jvm.Stand Jvm.LawKit Jvm.RoadKit Bundle Jvm.Pilot.@@N@@.Jvm.D
theorem own_pd0 : parseMethodDescriptor "()Z" = some ⟨[], some .boolean⟩ := by decide +kernel

theorem own_eqint {t : Term} {n : Int32} {args : Array Value} {s : State} (h : (Jvm.Cond.eq t (.int n)).value args s none s [] = some true) : t.eval args s none [] s = some (.int n) := by
  obtain ⟨x, y, hx, hy, -, k2⟩ := cmp_v (Or.inl h)
  cases (Term.int_eval n).symm.trans hy
  obtain ⟨z, rfl⟩ : ∃ z, x = .int z := k2
  have q : z = n := gotT (Cond.eq_ints hx (Term.int_eval n)) h
  rw [hx, q]
theorem own_eqref {t u : Term} {w : Addr} {args : Array Value} {s : State} (h : (Jvm.Cond.eq t u).value args s none s [] = some true) (hu : u.eval args s none [] s = some (.ref w)) : t.eval args s none [] s = some (.ref w) := by
  obtain ⟨x, y, hx, hy, k1, k2⟩ := cmp_v (Or.inl h)
  cases hu.symm.trans hy
  have r : x.isRef = true := k2.2
  have q : x = .ref w := gotT (eq_R hx hy r rfl) h
  rw [hx, q]

theorem own_fit (i : Int) (a wC wG wS wF wN : Addr) (b' b : Int32) (hi : 0 ≤ i ∧ i < 5) (dis : (i = 0 ∧ a = wC) ∨ (i = 1 ∧ a = wG) ∨ (i = 2 ∧ a = wS) ∨ (i = 3 ∧ a = wF) ∨ (¬ i < 4 ∧ a = wN)) (fb : (b = 1 ∧ 2 ≤ i) ∨ (b = 0 ∧ ¬ 2 ≤ i))
    (B : (b' = 1 ∧ (a = wS ∨ a = wF ∨ a = wN)) ∨ (b' = 0 ∧ ¬ (a = wS ∨ a = wF ∨ a = wN))) (d1 : ¬ wC = wS) (d2 : ¬ wC = wF) (d3 : ¬ wC = wN) (d4 : ¬ wG = wS) (d5 : ¬ wG = wF) (d6 : ¬ wG = wN) : b' = b := by
  rcases fb with ⟨rfl, f⟩ | ⟨rfl, f⟩ <;> rcases B with ⟨rfl, g⟩ | ⟨rfl, g⟩
  · rfl
  · rcases dis with ⟨e, rfl⟩ | ⟨e, rfl⟩ | ⟨e, rfl⟩ | ⟨e, rfl⟩ | ⟨e, rfl⟩
    · omega
    · omega
    · exact absurd (Or.inl rfl) g
    · exact absurd (Or.inr (Or.inl rfl)) g
    · exact absurd (Or.inr (Or.inr rfl)) g
  · rcases dis with ⟨e, rfl⟩ | ⟨e, rfl⟩ | ⟨e, rfl⟩ | ⟨e, rfl⟩ | ⟨e, rfl⟩
    · exact absurd g (fun q => q.elim d1 fun q => q.elim d2 d3)
    · exact absurd g (fun q => q.elim d4 fun q => q.elim d5 d6)
    · omega
    · omega
    · omega
  · rfl
theorem own_i (p : Int32) : 0 ≤ ((p &&& (2147483647 : Int32)) % (5 : Int32)).toInt ∧ ((p &&& (2147483647 : Int32)) % (5 : Int32)).toInt < 5 := by
  have h1 := c_mask p 2147483647 31 (by decide) (by decide)
  have h2 := (c_irem (p &&& 2147483647) 5 5 rfl).1 (by omega)
  rw [h2]; omega

theorem d1_0 : decode prog_11_method_4_code 0 = .ok (.aload_n 0, 1) := by decide +kernel
theorem d1_1 : decode prog_11_method_4_code 1 = .ok (.getstatic 10, 3) := by decide +kernel
theorem d1_4 : decode prog_11_method_4_code 4 = .ok (.if_acmp .eq 17, 3) := by decide +kernel
theorem d1_7 : decode prog_11_method_4_code 7 = .ok (.aload_n 0, 1) := by decide +kernel
theorem d1_8 : decode prog_11_method_4_code 8 = .ok (.getstatic 13, 3) := by decide +kernel
theorem d1_11 : decode prog_11_method_4_code 11 = .ok (.if_acmp .eq 10, 3) := by decide +kernel
theorem d1_14 : decode prog_11_method_4_code 14 = .ok (.aload_n 0, 1) := by decide +kernel
theorem d1_15 : decode prog_11_method_4_code 15 = .ok (.getstatic 16, 3) := by decide +kernel
theorem d1_18 : decode prog_11_method_4_code 18 = .ok (.if_acmp .ne 7, 3) := by decide +kernel
theorem d1_21 : decode prog_11_method_4_code 21 = .ok (.iconst 1, 1) := by decide +kernel
theorem d1_22 : decode prog_11_method_4_code 22 = .ok (.goto 4, 3) := by decide +kernel
theorem d1_25 : decode prog_11_method_4_code 25 = .ok (.iconst 0, 1) := by decide +kernel
theorem d1_26 : decode prog_11_method_4_code 26 = .ok (.ireturn, 1) := by decide +kernel
theorem own_pn1 : plainName "com/example/cutover/cutover/MoveState$Phase" = true := by first | (simp [plainName, overriddenIn]; done) | decide +kernel
theorem own_ef1 (m : MethodId) (a1 : Addr) : entryFrame m #[(.ref a1)] 1 = (mkF m 0 #[.val (.ref a1)] []) := by first | (simp [entryFrame, mkF, argsToLocals, Value.category]; done) | rfl
def own_Q1 (Z : State) (a1 : Addr) (wS wF wN : Addr) (h0 : Heap) (n0 : Nat) (v : Option Value) (h : Heap) (L : List Loc) : Prop := ∃ b : Int32, v = some (.int b) ∧ Fr n0 L ∧ h = h0 ∧ ((b = 1 ∧ (a1 = wS ∨ a1 = wF ∨ a1 = wN)) ∨ (b = 0 ∧ ¬ (a1 = wS ∨ a1 = wF ∨ a1 = wN)))
set_option maxRecDepth 65536 in
set_option maxHeartbeats 40000000 in
theorem own_rm1 (l : Launch) (Z : State) (a0 : Array Value) (hw : ∀ d ∈ tables_1, d.before a0 Z = true) (ws : List Jvm.Cond) (a1 : Addr) (wS wF wN : Addr) (h0 : Heap) (n0 : Nat) (Z0 : n0 ≤ h0.size) (S_STOPPED : Sta Z h0 "com/example/cutover/cutover/MoveState$Phase" "STOPPED" "Lcom/example/cutover/cutover/MoveState$Phase;" (.ref wS)) (S_FAILED : Sta Z h0 "com/example/cutover/cutover/MoveState$Phase" "FAILED" "Lcom/example/cutover/cutover/MoveState$Phase;" (.ref wF)) (S_FINISHED : Sta Z h0 "com/example/cutover/cutover/MoveState$Phase" "FINISHED" "Lcom/example/cutover/cutover/MoveState$Phase;" (.ref wN)) :
    MetFree l (⟨"com/example/cutover/cutover/MoveState$Phase", "ended", "()Z"⟩ : MethodName) (head1 (Jvm.Cond.code (⟨"com/example/cutover/cutover/MoveState$Phase", "ended", "()Z"⟩ : MethodName) prog_11_method_4_code 1 (some .boolean) :: ws) ({ frames := 0, cells := 0, slots := 0, locals := 0 } : Room)) (fun a U => a = #[(.ref a1)] ∧ Z.Warmed39 U.vm ∧ U.heap = h0) (fun _ _ _ _ _ => True) (fun _ U o U' => ∃ v L, o = .returned v ∧ own_Q1 Z a1 wS wF wN h0 n0 v U'.heap L ∧ FrameEnd U o U' L ({ frames := 0, cells := 0, slots := 0, locals := 0 } : Room).cells ({ frames := 0, cells := 0, slots := 0, locals := 0 } : Room).slots) := by
  refine MetFree.of_bodySF (plainFor_of_name own_pn1) hisR ?_
  intro p e s m args below meth c s₁ Bd hml0 hP hK
  obtain ⟨rfl, hZ, hh⟩ := hP
  have hx := Bd.exec
  have hby := Bd.bytes
  have hml : c.maxLocals = 1 := hml0
  have hown : s.vm.findClass "com/example/cutover/cutover/MoveState$Phase" = some m.cls := findClass_of_methodNamed Bd.named
  have hnm := (name_of_methodNamed Bd.named Bd.method).1
  have X0 : Stand p l e ({ frames := 0, cells := 0, slots := 0, locals := 0 } : Room) s m #[(.ref a1)] below meth c s₁ [] 0 0 := Stand.of_body Bd
  have e0 : s₁.heap = h0 := by rw [← hh, Bd.state]; rfl
  have N0 := Fr.nil n0
  have J21 : ∀ (T : State) (lc : List Loc) (X : Stand p l e ({ frames := 0, cells := 0, slots := 0, locals := 0 } : Room) s m #[(.ref a1)] below meth c T lc 0 0) (eT : T.heap = h0) (N : Fr n0 lc) (f21 : a1 = wS ∨ a1 = wF ∨ a1 = wN), own_Fin p e below s (own_Q1 Z a1 wS wF wN h0 n0) ({ frames := 0, cells := 0, slots := 0, locals := 0 } : Room).cells ({ frames := 0, cells := 0, slots := 0, locals := 0 } : Room).slots (T.setTop (mkF m 21 #[.val (.ref a1)] [])) := by
    intro T lc X eT N  f21
    refine own_go (T.setTop (mkF m 22 #[.val (.ref a1)] [(.int (1 : Int32))])) (fun _ k => XS.iconst X.here hx rfl (hb hby d1_21) k) ?_
    refine own_go (T.setTop (mkF m 26 #[.val (.ref a1)] [(.int (1 : Int32))])) (fun _ k => XS.goto X.here hx rfl (pc0 := 22) (pc' := 26) rfl (hb hby d1_22) (by decide) (by decide) k) ?_
    refine own_ret X (BodyLoose.notSynchronized Bd) (some (.int (1 : Int32))) (fun h => by rw [Bd.returns] at h; cases h) (fun fs hr => retN X hx (t := .boolean) Bd.returns (by simp) (hb hby d1_26) hr) (by decide) (by decide) ?_
    exact ⟨_, rfl, N, eT, Or.inl ⟨rfl, f21⟩⟩
  have J25 : ∀ (T : State) (lc : List Loc) (X : Stand p l e ({ frames := 0, cells := 0, slots := 0, locals := 0 } : Room) s m #[(.ref a1)] below meth c T lc 0 0) (eT : T.heap = h0) (N : Fr n0 lc) (f25 : ¬ (a1 = wS ∨ a1 = wF ∨ a1 = wN)), own_Fin p e below s (own_Q1 Z a1 wS wF wN h0 n0) ({ frames := 0, cells := 0, slots := 0, locals := 0 } : Room).cells ({ frames := 0, cells := 0, slots := 0, locals := 0 } : Room).slots (T.setTop (mkF m 25 #[.val (.ref a1)] [])) := by
    intro T lc X eT N  f25
    refine own_go (T.setTop (mkF m 26 #[.val (.ref a1)] [(.int (0 : Int32))])) (fun _ k => XS.iconst X.here hx rfl (hb hby d1_25) k) ?_
    refine own_ret X (BodyLoose.notSynchronized Bd) (some (.int (0 : Int32))) (fun h => by rw [Bd.returns] at h; cases h) (fun fs hr => retN X hx (t := .boolean) Bd.returns (by simp) (hb hby d1_26) hr) (by decide) (by decide) ?_
    exact ⟨_, rfl, N, eT, Or.inr ⟨rfl, f25⟩⟩
  show own_Fin p e below s (own_Q1 Z a1 wS wF wN h0 n0) ({ frames := 0, cells := 0, slots := 0, locals := 0 } : Room).cells ({ frames := 0, cells := 0, slots := 0, locals := 0 } : Room).slots (s₁.setTop (entryFrame m #[(.ref a1)] 1))
  refine own_go (s₁.setTop (mkF m 0 #[.val (.ref a1)] [])) (fun t k => castTop (own_ef1 m a1) k) ?_
  refine own_go (s₁.setTop (mkF m 1 #[.val (.ref a1)] [(.ref a1)])) (fun _ k => XS.aloadN X0.here hx rfl (hb hby d1_0) rfl rfl k) ?_
  obtain ⟨T1, X1, e1, st1⟩ := getS2 X0 hx hZ hown (host := "") (Or.inl (hw _ (List.mem_of_getElem? (i := 9) rfl))) Via.refl e0 S_STOPPED (g := (mkF m 1 #[.val (.ref a1)] [(.ref a1)])) rfl (hb hby d1_1)
  refine own_go (T1.setTop (mkF m 4 #[.val (.ref a1)] [(.ref wS), (.ref a1)])) (fun _ k => st1 _ k) ?_
  by_cases ha4 : a1 = wS
  · refine own_go (T1.setTop (mkF m 21 #[.val (.ref a1)] [])) (fun _ k => Jvm.RoadKit.acmp (g := (mkF m 4 #[.val (.ref a1)] [(.ref wS), (.ref a1)])) X1 hx rfl rfl rfl (pc0 := 4) (pc' := 21) (same := true) rfl (hb hby d1_4) rfl (decide_eq_true (congrArg Value.ref ha4)) (by decide) (by decide) k) ?_
    refine J21 _ _ X1 e1 N0 ?_
    first | exact Or.inl ha4 | exact Or.inr (Or.inl ha11) | exact Or.inr (Or.inr ha18)
  · refine own_go (T1.setTop (mkF m 7 #[.val (.ref a1)] [])) (fun _ k => Jvm.RoadKit.acmp (g := (mkF m 4 #[.val (.ref a1)] [(.ref wS), (.ref a1)])) X1 hx rfl rfl rfl (pc0 := 4) (pc' := 7) (same := false) rfl (hb hby d1_4) rfl (decide_eq_false fun q => ha4 (Value.ref.inj q)) (by decide) (by decide) k) ?_
    refine own_go (T1.setTop (mkF m 8 #[.val (.ref a1)] [(.ref a1)])) (fun _ k => XS.aloadN X1.here hx rfl (hb hby d1_7) rfl rfl k) ?_
    obtain ⟨T2, X2, e2, st2⟩ := getS2 X1 hx hZ hown (host := "") (Or.inl (hw _ (List.mem_of_getElem? (i := 11) rfl))) Via.refl e1 S_FAILED (g := (mkF m 8 #[.val (.ref a1)] [(.ref a1)])) rfl (hb hby d1_8)
    refine own_go (T2.setTop (mkF m 11 #[.val (.ref a1)] [(.ref wF), (.ref a1)])) (fun _ k => st2 _ k) ?_
    by_cases ha11 : a1 = wF
    · refine own_go (T2.setTop (mkF m 21 #[.val (.ref a1)] [])) (fun _ k => Jvm.RoadKit.acmp (g := (mkF m 11 #[.val (.ref a1)] [(.ref wF), (.ref a1)])) X2 hx rfl rfl rfl (pc0 := 11) (pc' := 21) (same := true) rfl (hb hby d1_11) rfl (decide_eq_true (congrArg Value.ref ha11)) (by decide) (by decide) k) ?_
      refine J21 _ _ X2 e2 N0 ?_
      first | exact Or.inl ha4 | exact Or.inr (Or.inl ha11) | exact Or.inr (Or.inr ha18)
    · refine own_go (T2.setTop (mkF m 14 #[.val (.ref a1)] [])) (fun _ k => Jvm.RoadKit.acmp (g := (mkF m 11 #[.val (.ref a1)] [(.ref wF), (.ref a1)])) X2 hx rfl rfl rfl (pc0 := 11) (pc' := 14) (same := false) rfl (hb hby d1_11) rfl (decide_eq_false fun q => ha11 (Value.ref.inj q)) (by decide) (by decide) k) ?_
      refine own_go (T2.setTop (mkF m 15 #[.val (.ref a1)] [(.ref a1)])) (fun _ k => XS.aloadN X2.here hx rfl (hb hby d1_14) rfl rfl k) ?_
      obtain ⟨T3, X3, e3, st3⟩ := getS2 X2 hx hZ hown (host := "") (Or.inl (hw _ (List.mem_of_getElem? (i := 13) rfl))) Via.refl e2 S_FINISHED (g := (mkF m 15 #[.val (.ref a1)] [(.ref a1)])) rfl (hb hby d1_15)
      refine own_go (T3.setTop (mkF m 18 #[.val (.ref a1)] [(.ref wN), (.ref a1)])) (fun _ k => st3 _ k) ?_
      by_cases ha18 : a1 = wN
      · refine own_go (T3.setTop (mkF m 21 #[.val (.ref a1)] [])) (fun _ k => Jvm.RoadKit.acmp (g := (mkF m 18 #[.val (.ref a1)] [(.ref wN), (.ref a1)])) X3 hx rfl rfl rfl (pc0 := 18) (pc' := 21) (same := true) rfl (hb hby d1_18) rfl (decide_eq_true (congrArg Value.ref ha18)) (by decide) (by decide) k) ?_
        refine J21 _ _ X3 e3 N0 ?_
        first | exact Or.inl ha4 | exact Or.inr (Or.inl ha11) | exact Or.inr (Or.inr ha18)
      · refine own_go (T3.setTop (mkF m 25 #[.val (.ref a1)] [])) (fun _ k => Jvm.RoadKit.acmp (g := (mkF m 18 #[.val (.ref a1)] [(.ref wN), (.ref a1)])) X3 hx rfl rfl rfl (pc0 := 18) (pc' := 25) (same := false) rfl (hb hby d1_18) rfl (decide_eq_false fun q => ha18 (Value.ref.inj q)) (by decide) (by decide) k) ?_
        refine J25 _ _ X3 e3 N0 ?_
        exact fun q => q.elim ha4 fun q => q.elim ha11 ha18
theorem own_pn0 : plainName "com/example/cutover/cutover/PhaseEndedPinLaw" = true := by first | (simp [plainName, overriddenIn]; done) | decide +kernel
theorem own_ef0 (m : MethodId) (p1 : Int32) : entryFrame m #[(.int p1)] maxLocals = (mkF m 0 #[.val (.int p1), .unset, .unset, .unset] []) := by first | (simp [entryFrame, mkF, argsToLocals, Value.category, maxLocals]; done) | rfl
def own_Q0 (Z : State) (p1 : Int32) (wC wG wS wF wN : Addr) (h0 : Heap) (n0 : Nat) (v : Option Value) (h : Heap) (L : List Loc) : Prop := v = some (.int (1 : Int32)) ∧ Fr n0 L
set_option maxRecDepth 65536 in
set_option maxHeartbeats 40000000 in
theorem own_rm0 (l : Launch) (Z : State) (a0 : Array Value) (hw : ∀ d ∈ tables_1, d.before a0 Z = true) (ws : List Jvm.Cond) (p1 : Int32) (wC wG wS wF wN : Addr) (h0 : Heap) (n0 : Nat) (Z0 : n0 ≤ h0.size) (S_COPYING : Sta Z h0 "com/example/cutover/cutover/MoveState$Phase" "COPYING" "Lcom/example/cutover/cutover/MoveState$Phase;" (.ref wC)) (S_FOLLOWING : Sta Z h0 "com/example/cutover/cutover/MoveState$Phase" "FOLLOWING" "Lcom/example/cutover/cutover/MoveState$Phase;" (.ref wG)) (S_STOPPED : Sta Z h0 "com/example/cutover/cutover/MoveState$Phase" "STOPPED" "Lcom/example/cutover/cutover/MoveState$Phase;" (.ref wS)) (S_FAILED : Sta Z h0 "com/example/cutover/cutover/MoveState$Phase" "FAILED" "Lcom/example/cutover/cutover/MoveState$Phase;" (.ref wF)) (S_FINISHED : Sta Z h0 "com/example/cutover/cutover/MoveState$Phase" "FINISHED" "Lcom/example/cutover/cutover/MoveState$Phase;" (.ref wN)) (E_COPYING : Exa Z h0 wC "com/example/cutover/cutover/MoveState$Phase") (E_FOLLOWING : Exa Z h0 wG "com/example/cutover/cutover/MoveState$Phase") (E_STOPPED : Exa Z h0 wS "com/example/cutover/cutover/MoveState$Phase") (E_FAILED : Exa Z h0 wF "com/example/cutover/cutover/MoveState$Phase") (E_FINISHED : Exa Z h0 wN "com/example/cutover/cutover/MoveState$Phase") (dwCwS : ¬ wC = wS) (dwCwF : ¬ wC = wF) (dwCwN : ¬ wC = wN) (dwGwS : ¬ wG = wS) (dwGwF : ¬ wG = wF) (dwGwN : ¬ wG = wN) :
    MetFree l x (head1 (Jvm.Cond.code x code maxLocals ret :: ws) room_1) (fun a U => a = #[(.int p1)] ∧ Z.Warmed39 U.vm ∧ U.heap = h0) (fun _ _ _ _ _ => True) (fun _ U o U' => ∃ v L, o = .returned v ∧ own_Q0 Z p1 wC wG wS wF wN h0 n0 v U'.heap L ∧ FrameEnd U o U' L room_1.cells room_1.slots) := by
  refine MetFree.of_bodySF (plainFor_of_name own_pn0) hisR ?_
  intro p e s m args below meth c s₁ Bd hml0 hP hK
  obtain ⟨rfl, hZ, hh⟩ := hP
  have hx := Bd.exec
  have hby := Bd.bytes
  have hml : c.maxLocals = 4 := hml0
  have hown : s.vm.findClass "com/example/cutover/cutover/PhaseEndedPinLaw" = some m.cls := findClass_of_methodNamed Bd.named
  have hnm := (name_of_methodNamed Bd.named Bd.method).1
  have X0 : Stand p l e room_1 s m #[(.int p1)] below meth c s₁ [] 0 0 := Stand.of_body Bd
  have e0 : s₁.heap = h0 := by rw [← hh, Bd.state]; rfl
  have N0 := Fr.nil n0
  have hi := own_i p1
  have J68 : ∀ (T : State) (lc : List Loc) (X : Stand p l e room_1 s m #[(.int p1)] below meth c T lc 0 0) (eT : T.heap = h0) (N : Fr n0 lc) (a : Addr) (b : Int32) (EA : Exa Z h0 a "com/example/cutover/cutover/MoveState$Phase") (dis : (((p1 &&& (2147483647 : Int32)) % (5 : Int32)).toInt = 0 ∧ a = wC) ∨ (((p1 &&& (2147483647 : Int32)) % (5 : Int32)).toInt = 1 ∧ a = wG) ∨ (((p1 &&& (2147483647 : Int32)) % (5 : Int32)).toInt = 2 ∧ a = wS) ∨ (((p1 &&& (2147483647 : Int32)) % (5 : Int32)).toInt = 3 ∧ a = wF) ∨ (¬ ((p1 &&& (2147483647 : Int32)) % (5 : Int32)).toInt < 4 ∧ a = wN)) (fb : (b = 1 ∧ 2 ≤ ((p1 &&& (2147483647 : Int32)) % (5 : Int32)).toInt) ∨ (b = 0 ∧ ¬ 2 ≤ ((p1 &&& (2147483647 : Int32)) % (5 : Int32)).toInt)), own_Fin p e below s (own_Q0 Z p1 wC wG wS wF wN h0 n0) room_1.cells room_1.slots (T.setTop (mkF m 68 #[.val (.int p1), .val (.int ((p1 &&& (2147483647 : Int32)) % (5 : Int32))), .val (.ref a), .unset] [(.int b)])) := by
    intro T lc X eT N a b EA dis fb
    refine own_go (T.setTop (mkF m 69 #[.val (.int p1), .val (.int ((p1 &&& (2147483647 : Int32)) % (5 : Int32))), .val (.ref a), .val (.int b)] [])) (fun _ k => XS.istoreN X.here hx rfl (hb hby at_68) rfl (l' := #[.val (.int p1), .val (.int ((p1 &&& (2147483647 : Int32)) % (5 : Int32))), .val (.ref a), .val (.int b)]) rfl k) ?_
    refine own_go (T.setTop (mkF m 70 #[.val (.int p1), .val (.int ((p1 &&& (2147483647 : Int32)) % (5 : Int32))), .val (.ref a), .val (.int b)] [(.ref a)])) (fun _ k => XS.aloadN X.here hx rfl (hb hby at_69) rfl rfl k) ?_
    obtain ⟨cq1, kq1, q1a, q1b, q1c⟩ := isOf hZ eT EA
    obtain ⟨_, _, ⟨T1, L1, k1, n1⟩, -, X1, ⟨Lc1, hQ1, l1, y1, z1⟩, st1⟩ := X.virtualBack hx (y := (⟨"com/example/cutover/cutover/MoveState$Phase", "ended", "()Z"⟩ : MethodName)) (z := (⟨"com/example/cutover/cutover/MoveState$Phase", "ended", "()Z"⟩ : MethodName)) hown (mvT hZ (hw _ (List.mem_of_getElem? (i := 4) rfl))) (mvT hZ (hw _ (List.mem_of_getElem? (i := 5) rfl))) (notFace_of_selects (args := #[]) (mvT hZ (hw _ (List.mem_of_getElem? (i := 7) rfl)))) (mvT hZ (hw _ (List.mem_of_getElem? (i := 7) rfl))) (mvT hZ (hw _ (List.mem_of_getElem? (i := 6) rfl))) (by decide) (backOf (W := 0) (own_rm1 l Z a0 hw [] a wS wF wN h0 n0 Z0 S_STOPPED S_FAILED S_FINISHED) hZ (hw _ (List.mem_of_getElem? (i := 8) rfl)) (hw _ (List.mem_of_getElem? (i := 2) rfl)) (by decide) (by decide)) q1a q1c (g := (mkF m 70 #[.val (.int p1), .val (.int ((p1 &&& (2147483647 : Int32)) % (5 : Int32))), .val (.ref a), .val (.int b)] [(.ref a)])) rfl (by rw [hml]; rfl) (Steps.refl _) (argsL := []) (rest := []) (lenOf own_pd0 rfl) rfl (by show 2 * 0 + _ ≤ _; exact Nat.le_of_eq rfl) (hb hby at_70) (fun _ _ => ⟨rfl, eT, (by decide : 0 + 0 ≤ _), (by decide : 0 + 0 ≤ _)⟩)
    dsimp only [Pt.U, Pt.locs, Pt.cells, Pt.slots] at X1 l1 y1 z1 st1 hQ1
    subst l1 y1 z1
    obtain ⟨b1, rfl, N1q, e1, B1⟩ := hQ1
    have N1 := Fr.app N N1q
    refine own_go (T1.setTop (mkF m 73 #[.val (.int p1), .val (.int ((p1 &&& (2147483647 : Int32)) % (5 : Int32))), .val (.ref a), .val (.int b)] [(.int b1)])) (fun _ k => st1.trans k) ?_
    refine own_go (T1.setTop (mkF m 74 #[.val (.int p1), .val (.int ((p1 &&& (2147483647 : Int32)) % (5 : Int32))), .val (.ref a), .val (.int b)] [(.int b), (.int b1)])) (fun _ k => XS.iloadN X1.here hx rfl (hb hby at_73) rfl k) ?_
    by_cases hc74 : b1 = b
    · have hz74 : ((b1).toInt = (b).toInt) := own_zeq hc74 rfl rfl
      refine own_go (T1.setTop (mkF m 77 #[.val (.int p1), .val (.int ((p1 &&& (2147483647 : Int32)) % (5 : Int32))), .val (.ref a), .val (.int b)] [])) (fun _ k => XS.icmpNo X1.here hx rfl (hb hby at_74) rfl (teq hc74).2 k) ?_
      refine own_go (T1.setTop (mkF m 78 #[.val (.int p1), .val (.int ((p1 &&& (2147483647 : Int32)) % (5 : Int32))), .val (.ref a), .val (.int b)] [(.int (1 : Int32))])) (fun _ k => XS.iconst X1.here hx rfl (hb hby at_77) k) ?_
      refine own_go (T1.setTop (mkF m 82 #[.val (.int p1), .val (.int ((p1 &&& (2147483647 : Int32)) % (5 : Int32))), .val (.ref a), .val (.int b)] [(.int (1 : Int32))])) (fun _ k => XS.goto X1.here hx rfl (pc0 := 78) (pc' := 82) rfl (hb hby at_78) (by decide) (by decide) k) ?_
      refine own_ret X1 (BodyLoose.notSynchronized Bd) (some (.int (1 : Int32))) (fun h => by rw [Bd.returns] at h; cases h) (fun fs hr => retN X1 hx (t := .boolean) Bd.returns (by simp) (hb hby at_82) hr) (by decide) (by decide) ?_
      exact ⟨rfl, N1⟩
    · have hz74 : ¬ ((b1).toInt = (b).toInt) := own_zneq hc74 rfl rfl
      exact absurd (own_fit ((p1 &&& (2147483647 : Int32)) % (5 : Int32)).toInt a wC wG wS wF wN b1 b hi dis fb B1 dwCwS dwCwF dwCwN dwGwS dwGwF dwGwN) hc74
  have J58 : ∀ (T : State) (lc : List Loc) (X : Stand p l e room_1 s m #[(.int p1)] below meth c T lc 0 0) (eT : T.heap = h0) (N : Fr n0 lc) (a : Addr) (EA : Exa Z h0 a "com/example/cutover/cutover/MoveState$Phase") (dis : (((p1 &&& (2147483647 : Int32)) % (5 : Int32)).toInt = 0 ∧ a = wC) ∨ (((p1 &&& (2147483647 : Int32)) % (5 : Int32)).toInt = 1 ∧ a = wG) ∨ (((p1 &&& (2147483647 : Int32)) % (5 : Int32)).toInt = 2 ∧ a = wS) ∨ (((p1 &&& (2147483647 : Int32)) % (5 : Int32)).toInt = 3 ∧ a = wF) ∨ (¬ ((p1 &&& (2147483647 : Int32)) % (5 : Int32)).toInt < 4 ∧ a = wN)), own_Fin p e below s (own_Q0 Z p1 wC wG wS wF wN h0 n0) room_1.cells room_1.slots (T.setTop (mkF m 58 #[.val (.int p1), .val (.int ((p1 &&& (2147483647 : Int32)) % (5 : Int32))), .val (.ref a), .unset] [])) := by
    intro T lc X eT N a EA dis
    refine own_go (T.setTop (mkF m 59 #[.val (.int p1), .val (.int ((p1 &&& (2147483647 : Int32)) % (5 : Int32))), .val (.ref a), .unset] [(.int ((p1 &&& (2147483647 : Int32)) % (5 : Int32)))])) (fun _ k => XS.iloadN X.here hx rfl (hb hby at_58) rfl k) ?_
    refine own_go (T.setTop (mkF m 60 #[.val (.int p1), .val (.int ((p1 &&& (2147483647 : Int32)) % (5 : Int32))), .val (.ref a), .unset] [(.int (2 : Int32)), (.int ((p1 &&& (2147483647 : Int32)) % (5 : Int32)))])) (fun _ k => XS.iconst X.here hx rfl (hb hby at_59) k) ?_
    by_cases hc60 : ((p1 &&& (2147483647 : Int32)) % (5 : Int32)) < (2 : Int32)
    · have hz60 : ((((p1 &&& (2147483647 : Int32)) % (5 : Int32))).toInt < 2) := own_zlt hc60 rfl rfl
      refine own_go (T.setTop (mkF m 67 #[.val (.int p1), .val (.int ((p1 &&& (2147483647 : Int32)) % (5 : Int32))), .val (.ref a), .unset] [])) (fun _ k => XS.icmpYes X.here hx rfl (pc0 := 60) (pc' := 67) rfl (hb hby at_60) rfl (tlt hc60).1 (by decide) (by decide) k) ?_
      refine own_go (T.setTop (mkF m 68 #[.val (.int p1), .val (.int ((p1 &&& (2147483647 : Int32)) % (5 : Int32))), .val (.ref a), .unset] [(.int (0 : Int32))])) (fun _ k => XS.iconst X.here hx rfl (hb hby at_67) k) ?_
      exact J68 _ _ X eT N _ _ EA dis (by first | exact Or.inl ⟨rfl, by omega⟩ | exact Or.inr ⟨rfl, by omega⟩)
    · have hz60 : ¬ ((((p1 &&& (2147483647 : Int32)) % (5 : Int32))).toInt < 2) := own_znlt hc60 rfl rfl
      refine own_go (T.setTop (mkF m 63 #[.val (.int p1), .val (.int ((p1 &&& (2147483647 : Int32)) % (5 : Int32))), .val (.ref a), .unset] [])) (fun _ k => XS.icmpNo X.here hx rfl (hb hby at_60) rfl (flt hc60).1 k) ?_
      refine own_go (T.setTop (mkF m 64 #[.val (.int p1), .val (.int ((p1 &&& (2147483647 : Int32)) % (5 : Int32))), .val (.ref a), .unset] [(.int (1 : Int32))])) (fun _ k => XS.iconst X.here hx rfl (hb hby at_63) k) ?_
      refine own_go (T.setTop (mkF m 68 #[.val (.int p1), .val (.int ((p1 &&& (2147483647 : Int32)) % (5 : Int32))), .val (.ref a), .unset] [(.int (1 : Int32))])) (fun _ k => XS.goto X.here hx rfl (pc0 := 64) (pc' := 68) rfl (hb hby at_64) (by decide) (by decide) k) ?_
      exact J68 _ _ X eT N _ _ EA dis (by first | exact Or.inl ⟨rfl, by omega⟩ | exact Or.inr ⟨rfl, by omega⟩)
  show own_Fin p e below s (own_Q0 Z p1 wC wG wS wF wN h0 n0) room_1.cells room_1.slots (s₁.setTop (entryFrame m #[(.int p1)] maxLocals))
  refine own_go (s₁.setTop (mkF m 0 #[.val (.int p1), .unset, .unset, .unset] [])) (fun t k => castTop (own_ef0 m p1) k) ?_
  refine own_go (s₁.setTop (mkF m 1 #[.val (.int p1), .unset, .unset, .unset] [(.int p1)])) (fun _ k => XS.iloadN X0.here hx rfl (hb hby at_0) rfl k) ?_
  refine own_go (s₁.setTop (mkF m 3 #[.val (.int p1), .unset, .unset, .unset] [(.int (2147483647 : Int32)), (.int p1)])) (fun _ k => X0.ldcInt hx hown (mvT hZ (hw _ (List.mem_of_getElem? (i := 0) rfl))) (g := (mkF m 1 #[.val (.int p1), .unset, .unset, .unset] [(.int p1)])) rfl (hb hby at_1) _ k) ?_
  refine own_go (s₁.setTop (mkF m 4 #[.val (.int p1), .unset, .unset, .unset] [(.int (p1 &&& (2147483647 : Int32)))])) (fun _ k => XS.iand X0.here hx rfl (hb hby at_3) rfl k) ?_
  refine own_go (s₁.setTop (mkF m 5 #[.val (.int p1), .unset, .unset, .unset] [(.int (5 : Int32)), (.int (p1 &&& (2147483647 : Int32)))])) (fun _ k => XS.iconst X0.here hx rfl (hb hby at_4) k) ?_
  refine own_go (s₁.setTop (mkF m 6 #[.val (.int p1), .unset, .unset, .unset] [(.int ((p1 &&& (2147483647 : Int32)) % (5 : Int32)))])) (fun _ k => iremM X0 hx rfl (hb hby at_5) rfl (by decide) k) ?_
  refine own_go (s₁.setTop (mkF m 7 #[.val (.int p1), .val (.int ((p1 &&& (2147483647 : Int32)) % (5 : Int32))), .unset, .unset] [])) (fun _ k => XS.istoreN X0.here hx rfl (hb hby at_6) rfl (l' := #[.val (.int p1), .val (.int ((p1 &&& (2147483647 : Int32)) % (5 : Int32))), .unset, .unset]) rfl k) ?_
  refine own_go (s₁.setTop (mkF m 8 #[.val (.int p1), .val (.int ((p1 &&& (2147483647 : Int32)) % (5 : Int32))), .unset, .unset] [(.int ((p1 &&& (2147483647 : Int32)) % (5 : Int32)))])) (fun _ k => XS.iloadN X0.here hx rfl (hb hby at_7) rfl k) ?_
  by_cases hc8 : ((p1 &&& (2147483647 : Int32)) % (5 : Int32)) = (0 : Int32)
  · have hz8 : ((((p1 &&& (2147483647 : Int32)) % (5 : Int32))).toInt = 0) := own_zeq hc8 rfl rfl
    refine own_go (s₁.setTop (mkF m 11 #[.val (.int p1), .val (.int ((p1 &&& (2147483647 : Int32)) % (5 : Int32))), .unset, .unset] [])) (fun _ k => XS.ifNo X0.here hx rfl (hb hby at_8) rfl ((if0 _ _).trans (teq hc8).2) k) ?_
    obtain ⟨T2, X2, e2, st2⟩ := getS2 X0 hx hZ hown (host := "") (Or.inl (hw _ (List.mem_of_getElem? (i := 1) rfl))) Via.refl e0 S_COPYING (g := (mkF m 11 #[.val (.int p1), .val (.int ((p1 &&& (2147483647 : Int32)) % (5 : Int32))), .unset, .unset] [])) rfl (hb hby at_11)
    refine own_go (T2.setTop (mkF m 14 #[.val (.int p1), .val (.int ((p1 &&& (2147483647 : Int32)) % (5 : Int32))), .unset, .unset] [(.ref wC)])) (fun _ k => st2 _ k) ?_
    refine own_go (T2.setTop (mkF m 15 #[.val (.int p1), .val (.int ((p1 &&& (2147483647 : Int32)) % (5 : Int32))), .val (.ref wC), .unset] [])) (fun _ k => XS.astoreN X2.here hx rfl (hb hby at_14) rfl rfl (l' := #[.val (.int p1), .val (.int ((p1 &&& (2147483647 : Int32)) % (5 : Int32))), .val (.ref wC), .unset]) rfl k) ?_
    refine own_go (T2.setTop (mkF m 58 #[.val (.int p1), .val (.int ((p1 &&& (2147483647 : Int32)) % (5 : Int32))), .val (.ref wC), .unset] [])) (fun _ k => XS.goto X2.here hx rfl (pc0 := 15) (pc' := 58) rfl (hb hby at_15) (by decide) (by decide) k) ?_
    exact J58 _ _ X2 e2 N0 _ E_COPYING (by first | exact Or.inl ⟨by omega, rfl⟩ | exact Or.inr (Or.inl ⟨by omega, rfl⟩) | exact Or.inr (Or.inr (Or.inl ⟨by omega, rfl⟩)) | exact Or.inr (Or.inr (Or.inr (Or.inl ⟨by omega, rfl⟩))) | exact Or.inr (Or.inr (Or.inr (Or.inr ⟨by omega, rfl⟩))))
  · have hz8 : ¬ ((((p1 &&& (2147483647 : Int32)) % (5 : Int32))).toInt = 0) := own_zneq hc8 rfl rfl
    refine own_go (s₁.setTop (mkF m 18 #[.val (.int p1), .val (.int ((p1 &&& (2147483647 : Int32)) % (5 : Int32))), .unset, .unset] [])) (fun _ k => XS.ifYes X0.here hx rfl (pc0 := 8) (pc' := 18) rfl (hb hby at_8) rfl ((if0 _ _).trans (feq hc8).2) (by decide) (by decide) k) ?_
    refine own_go (s₁.setTop (mkF m 19 #[.val (.int p1), .val (.int ((p1 &&& (2147483647 : Int32)) % (5 : Int32))), .unset, .unset] [(.int ((p1 &&& (2147483647 : Int32)) % (5 : Int32)))])) (fun _ k => XS.iloadN X0.here hx rfl (hb hby at_18) rfl k) ?_
    refine own_go (s₁.setTop (mkF m 20 #[.val (.int p1), .val (.int ((p1 &&& (2147483647 : Int32)) % (5 : Int32))), .unset, .unset] [(.int (1 : Int32)), (.int ((p1 &&& (2147483647 : Int32)) % (5 : Int32)))])) (fun _ k => XS.iconst X0.here hx rfl (hb hby at_19) k) ?_
    by_cases hc20 : ((p1 &&& (2147483647 : Int32)) % (5 : Int32)) = (1 : Int32)
    · have hz20 : ((((p1 &&& (2147483647 : Int32)) % (5 : Int32))).toInt = 1) := own_zeq hc20 rfl rfl
      refine own_go (s₁.setTop (mkF m 23 #[.val (.int p1), .val (.int ((p1 &&& (2147483647 : Int32)) % (5 : Int32))), .unset, .unset] [])) (fun _ k => XS.icmpNo X0.here hx rfl (hb hby at_20) rfl (teq hc20).2 k) ?_
      obtain ⟨T3, X3, e3, st3⟩ := getS2 X0 hx hZ hown (host := "") (Or.inl (hw _ (List.mem_of_getElem? (i := 16) rfl))) Via.refl e0 S_FOLLOWING (g := (mkF m 23 #[.val (.int p1), .val (.int ((p1 &&& (2147483647 : Int32)) % (5 : Int32))), .unset, .unset] [])) rfl (hb hby at_23)
      refine own_go (T3.setTop (mkF m 26 #[.val (.int p1), .val (.int ((p1 &&& (2147483647 : Int32)) % (5 : Int32))), .unset, .unset] [(.ref wG)])) (fun _ k => st3 _ k) ?_
      refine own_go (T3.setTop (mkF m 27 #[.val (.int p1), .val (.int ((p1 &&& (2147483647 : Int32)) % (5 : Int32))), .val (.ref wG), .unset] [])) (fun _ k => XS.astoreN X3.here hx rfl (hb hby at_26) rfl rfl (l' := #[.val (.int p1), .val (.int ((p1 &&& (2147483647 : Int32)) % (5 : Int32))), .val (.ref wG), .unset]) rfl k) ?_
      refine own_go (T3.setTop (mkF m 58 #[.val (.int p1), .val (.int ((p1 &&& (2147483647 : Int32)) % (5 : Int32))), .val (.ref wG), .unset] [])) (fun _ k => XS.goto X3.here hx rfl (pc0 := 27) (pc' := 58) rfl (hb hby at_27) (by decide) (by decide) k) ?_
      exact J58 _ _ X3 e3 N0 _ E_FOLLOWING (by first | exact Or.inl ⟨by omega, rfl⟩ | exact Or.inr (Or.inl ⟨by omega, rfl⟩) | exact Or.inr (Or.inr (Or.inl ⟨by omega, rfl⟩)) | exact Or.inr (Or.inr (Or.inr (Or.inl ⟨by omega, rfl⟩))) | exact Or.inr (Or.inr (Or.inr (Or.inr ⟨by omega, rfl⟩))))
    · have hz20 : ¬ ((((p1 &&& (2147483647 : Int32)) % (5 : Int32))).toInt = 1) := own_zneq hc20 rfl rfl
      refine own_go (s₁.setTop (mkF m 30 #[.val (.int p1), .val (.int ((p1 &&& (2147483647 : Int32)) % (5 : Int32))), .unset, .unset] [])) (fun _ k => XS.icmpYes X0.here hx rfl (pc0 := 20) (pc' := 30) rfl (hb hby at_20) rfl (feq hc20).2 (by decide) (by decide) k) ?_
      refine own_go (s₁.setTop (mkF m 31 #[.val (.int p1), .val (.int ((p1 &&& (2147483647 : Int32)) % (5 : Int32))), .unset, .unset] [(.int ((p1 &&& (2147483647 : Int32)) % (5 : Int32)))])) (fun _ k => XS.iloadN X0.here hx rfl (hb hby at_30) rfl k) ?_
      refine own_go (s₁.setTop (mkF m 32 #[.val (.int p1), .val (.int ((p1 &&& (2147483647 : Int32)) % (5 : Int32))), .unset, .unset] [(.int (2 : Int32)), (.int ((p1 &&& (2147483647 : Int32)) % (5 : Int32)))])) (fun _ k => XS.iconst X0.here hx rfl (hb hby at_31) k) ?_
      by_cases hc32 : ((p1 &&& (2147483647 : Int32)) % (5 : Int32)) = (2 : Int32)
      · have hz32 : ((((p1 &&& (2147483647 : Int32)) % (5 : Int32))).toInt = 2) := own_zeq hc32 rfl rfl
        refine own_go (s₁.setTop (mkF m 35 #[.val (.int p1), .val (.int ((p1 &&& (2147483647 : Int32)) % (5 : Int32))), .unset, .unset] [])) (fun _ k => XS.icmpNo X0.here hx rfl (hb hby at_32) rfl (teq hc32).2 k) ?_
        obtain ⟨T4, X4, e4, st4⟩ := getS2 X0 hx hZ hown (host := "") (Or.inl (hw _ (List.mem_of_getElem? (i := 19) rfl))) Via.refl e0 S_STOPPED (g := (mkF m 35 #[.val (.int p1), .val (.int ((p1 &&& (2147483647 : Int32)) % (5 : Int32))), .unset, .unset] [])) rfl (hb hby at_35)
        refine own_go (T4.setTop (mkF m 38 #[.val (.int p1), .val (.int ((p1 &&& (2147483647 : Int32)) % (5 : Int32))), .unset, .unset] [(.ref wS)])) (fun _ k => st4 _ k) ?_
        refine own_go (T4.setTop (mkF m 39 #[.val (.int p1), .val (.int ((p1 &&& (2147483647 : Int32)) % (5 : Int32))), .val (.ref wS), .unset] [])) (fun _ k => XS.astoreN X4.here hx rfl (hb hby at_38) rfl rfl (l' := #[.val (.int p1), .val (.int ((p1 &&& (2147483647 : Int32)) % (5 : Int32))), .val (.ref wS), .unset]) rfl k) ?_
        refine own_go (T4.setTop (mkF m 58 #[.val (.int p1), .val (.int ((p1 &&& (2147483647 : Int32)) % (5 : Int32))), .val (.ref wS), .unset] [])) (fun _ k => XS.goto X4.here hx rfl (pc0 := 39) (pc' := 58) rfl (hb hby at_39) (by decide) (by decide) k) ?_
        exact J58 _ _ X4 e4 N0 _ E_STOPPED (by first | exact Or.inl ⟨by omega, rfl⟩ | exact Or.inr (Or.inl ⟨by omega, rfl⟩) | exact Or.inr (Or.inr (Or.inl ⟨by omega, rfl⟩)) | exact Or.inr (Or.inr (Or.inr (Or.inl ⟨by omega, rfl⟩))) | exact Or.inr (Or.inr (Or.inr (Or.inr ⟨by omega, rfl⟩))))
      · have hz32 : ¬ ((((p1 &&& (2147483647 : Int32)) % (5 : Int32))).toInt = 2) := own_zneq hc32 rfl rfl
        refine own_go (s₁.setTop (mkF m 42 #[.val (.int p1), .val (.int ((p1 &&& (2147483647 : Int32)) % (5 : Int32))), .unset, .unset] [])) (fun _ k => XS.icmpYes X0.here hx rfl (pc0 := 32) (pc' := 42) rfl (hb hby at_32) rfl (feq hc32).2 (by decide) (by decide) k) ?_
        refine own_go (s₁.setTop (mkF m 43 #[.val (.int p1), .val (.int ((p1 &&& (2147483647 : Int32)) % (5 : Int32))), .unset, .unset] [(.int ((p1 &&& (2147483647 : Int32)) % (5 : Int32)))])) (fun _ k => XS.iloadN X0.here hx rfl (hb hby at_42) rfl k) ?_
        refine own_go (s₁.setTop (mkF m 44 #[.val (.int p1), .val (.int ((p1 &&& (2147483647 : Int32)) % (5 : Int32))), .unset, .unset] [(.int (3 : Int32)), (.int ((p1 &&& (2147483647 : Int32)) % (5 : Int32)))])) (fun _ k => XS.iconst X0.here hx rfl (hb hby at_43) k) ?_
        by_cases hc44 : ((p1 &&& (2147483647 : Int32)) % (5 : Int32)) = (3 : Int32)
        · have hz44 : ((((p1 &&& (2147483647 : Int32)) % (5 : Int32))).toInt = 3) := own_zeq hc44 rfl rfl
          refine own_go (s₁.setTop (mkF m 47 #[.val (.int p1), .val (.int ((p1 &&& (2147483647 : Int32)) % (5 : Int32))), .unset, .unset] [])) (fun _ k => XS.icmpNo X0.here hx rfl (hb hby at_44) rfl (teq hc44).2 k) ?_
          obtain ⟨T5, X5, e5, st5⟩ := getS2 X0 hx hZ hown (host := "") (Or.inl (hw _ (List.mem_of_getElem? (i := 15) rfl))) Via.refl e0 S_FAILED (g := (mkF m 47 #[.val (.int p1), .val (.int ((p1 &&& (2147483647 : Int32)) % (5 : Int32))), .unset, .unset] [])) rfl (hb hby at_47)
          refine own_go (T5.setTop (mkF m 50 #[.val (.int p1), .val (.int ((p1 &&& (2147483647 : Int32)) % (5 : Int32))), .unset, .unset] [(.ref wF)])) (fun _ k => st5 _ k) ?_
          refine own_go (T5.setTop (mkF m 51 #[.val (.int p1), .val (.int ((p1 &&& (2147483647 : Int32)) % (5 : Int32))), .val (.ref wF), .unset] [])) (fun _ k => XS.astoreN X5.here hx rfl (hb hby at_50) rfl rfl (l' := #[.val (.int p1), .val (.int ((p1 &&& (2147483647 : Int32)) % (5 : Int32))), .val (.ref wF), .unset]) rfl k) ?_
          refine own_go (T5.setTop (mkF m 58 #[.val (.int p1), .val (.int ((p1 &&& (2147483647 : Int32)) % (5 : Int32))), .val (.ref wF), .unset] [])) (fun _ k => XS.goto X5.here hx rfl (pc0 := 51) (pc' := 58) rfl (hb hby at_51) (by decide) (by decide) k) ?_
          exact J58 _ _ X5 e5 N0 _ E_FAILED (by first | exact Or.inl ⟨by omega, rfl⟩ | exact Or.inr (Or.inl ⟨by omega, rfl⟩) | exact Or.inr (Or.inr (Or.inl ⟨by omega, rfl⟩)) | exact Or.inr (Or.inr (Or.inr (Or.inl ⟨by omega, rfl⟩))) | exact Or.inr (Or.inr (Or.inr (Or.inr ⟨by omega, rfl⟩))))
        · have hz44 : ¬ ((((p1 &&& (2147483647 : Int32)) % (5 : Int32))).toInt = 3) := own_zneq hc44 rfl rfl
          refine own_go (s₁.setTop (mkF m 54 #[.val (.int p1), .val (.int ((p1 &&& (2147483647 : Int32)) % (5 : Int32))), .unset, .unset] [])) (fun _ k => XS.icmpYes X0.here hx rfl (pc0 := 44) (pc' := 54) rfl (hb hby at_44) rfl (feq hc44).2 (by decide) (by decide) k) ?_
          obtain ⟨T6, X6, e6, st6⟩ := getS2 X0 hx hZ hown (host := "") (Or.inl (hw _ (List.mem_of_getElem? (i := 18) rfl))) Via.refl e0 S_FINISHED (g := (mkF m 54 #[.val (.int p1), .val (.int ((p1 &&& (2147483647 : Int32)) % (5 : Int32))), .unset, .unset] [])) rfl (hb hby at_54)
          refine own_go (T6.setTop (mkF m 57 #[.val (.int p1), .val (.int ((p1 &&& (2147483647 : Int32)) % (5 : Int32))), .unset, .unset] [(.ref wN)])) (fun _ k => st6 _ k) ?_
          refine own_go (T6.setTop (mkF m 58 #[.val (.int p1), .val (.int ((p1 &&& (2147483647 : Int32)) % (5 : Int32))), .val (.ref wN), .unset] [])) (fun _ k => XS.astoreN X6.here hx rfl (hb hby at_57) rfl rfl (l' := #[.val (.int p1), .val (.int ((p1 &&& (2147483647 : Int32)) % (5 : Int32))), .val (.ref wN), .unset]) rfl k) ?_
          exact J58 _ _ X6 e6 N0 _ E_FINISHED (by first | exact Or.inl ⟨by omega, rfl⟩ | exact Or.inr (Or.inl ⟨by omega, rfl⟩) | exact Or.inr (Or.inr (Or.inl ⟨by omega, rfl⟩)) | exact Or.inr (Or.inr (Or.inr (Or.inl ⟨by omega, rfl⟩))) | exact Or.inr (Or.inr (Or.inr (Or.inr ⟨by omega, rfl⟩))))
set_option maxRecDepth 65536 in
set_option maxHeartbeats 40000000 in
theorem own_comes {Post : Tables → Env → Array Value → State → Outcome → State → Prop} (hpost : ∀ tb e args s v u, (limb_1_1.after args s (.returned v) u = true ∧ limb_1_2.after args s (.returned v) u = true ∧ True) → FrameEnd s (.returned v) u (Jvm.fieldLocs frame_1_writes args s ++ Jvm.arrayLocs frame_1_arrays args s ++ Jvm.staticLocs frame_1_statics s) 0 0 → Post tb e args s (.returned v) u) :
    ArmFor flags0 classFile x code maxLocals ret World_1 tables_1 room_1 Calls_1 rest_1 Pre_1 Post := by
  intro l hfl _ _ p e ha hc hk s m args below hf hA hF happ hP
  obtain ⟨hcalls, hrest, hpre⟩ := hP
  obtain ⟨-, -, -, hnamed, -, -, -, hat⟩ := (Spec.applies_iff hf).mp happ
  obtain ⟨hg, hn⟩ := and_e (Cond.before_iff.mp (show (Jvm.Cond.and given_1 narrow_1).before args s = true from hpre))
  obtain ⟨hq0, hr0⟩ := and_e hg
  obtain ⟨w0, rfl⟩ : ∃ w0 : Value, args = #[w0] := by
    have hs : args.size = 1 := by simpa [Cond.value, given_1] using hq0
    obtain ⟨L⟩ := args
    match L, hs with
    | [w0], _ => exact ⟨w0, rfl⟩
  have hw := fun d (hd : d ∈ tables_1) => atoms_spec (ws := Jvm.Cond.code x code maxLocals ret :: tables_1) hat d (List.mem_cons_of_mem _ hd)
  have hfit : Fit s := fun {y c} hc i hi => by
    obtain ⟨ha, rfl⟩ := Array.getElem?_eq_some_iff.mp hc
    have q := List.all_eq_true.mp ((Array.all_eq_true_iff_forall_mem.mp hF) _ (Array.getElem_mem ha)) i (List.mem_range.mpr hi)
    simpa [Array.getElem?_eq_getElem hi] using q
  obtain ⟨i0, ei0⟩ := is_v hr0
  obtain rfl : w0 = (.int i0) := Option.some.inj ei0
  obtain ⟨nn0, nr0⟩ := and_e hn
  obtain ⟨nn1, nr1⟩ := and_e nr0
  obtain ⟨nn2, nr2⟩ := and_e nr1
  obtain ⟨nn3, nr3⟩ := and_e nr2
  obtain ⟨nn4, nr4⟩ := and_e nr3
  obtain ⟨nn5, nr5⟩ := and_e nr4
  obtain ⟨nn6, nr6⟩ := and_e nr5
  obtain ⟨nn7, nr7⟩ := and_e nr6
  obtain ⟨nn8, nr8⟩ := and_e nr7
  have nn9 := nr8
  obtain ⟨wC, vwC⟩ := exa_v nn0
  have E_COPYING : Exa s s.heap wC "com/example/cutover/cutover/MoveState$Phase" := Exa.start vwC nn0
  have S_COPYING : Sta s s.heap "com/example/cutover/cutover/MoveState$Phase" "COPYING" "Lcom/example/cutover/cutover/MoveState$Phase;" (.ref wC) := Sta.start vwC (Or.inr ⟨(hw _ (List.mem_of_getElem? (i := 2) rfl)), (hw _ (List.mem_of_getElem? (i := 3) rfl))⟩)
  have F_COPYING : Fld s s.heap wC "java/lang/Enum" "ordinal" "I" (.int 0) := Fld.start ((fld_at vwC).symm.trans (own_eqint nn2))
  obtain ⟨wG, vwG⟩ := exa_v nn8
  have E_FOLLOWING : Exa s s.heap wG "com/example/cutover/cutover/MoveState$Phase" := Exa.start vwG nn8
  have S_FOLLOWING : Sta s s.heap "com/example/cutover/cutover/MoveState$Phase" "FOLLOWING" "Lcom/example/cutover/cutover/MoveState$Phase;" (.ref wG) := Sta.start vwG (Or.inr ⟨(hw _ (List.mem_of_getElem? (i := 2) rfl)), (hw _ (List.mem_of_getElem? (i := 17) rfl))⟩)
  have F_FOLLOWING : Fld s s.heap wG "java/lang/Enum" "ordinal" "I" (.int 1) := Fld.start ((fld_at vwG).symm.trans (own_eqint nn9))
  obtain ⟨wS, vwS⟩ := exa_v nn1
  have E_STOPPED : Exa s s.heap wS "com/example/cutover/cutover/MoveState$Phase" := Exa.start vwS nn1
  have S_STOPPED : Sta s s.heap "com/example/cutover/cutover/MoveState$Phase" "STOPPED" "Lcom/example/cutover/cutover/MoveState$Phase;" (.ref wS) := Sta.start vwS (Or.inr ⟨(hw _ (List.mem_of_getElem? (i := 2) rfl)), (hw _ (List.mem_of_getElem? (i := 10) rfl))⟩)
  have F_STOPPED : Fld s s.heap wS "java/lang/Enum" "ordinal" "I" (.int 2) := Fld.start ((fld_at vwS).symm.trans (own_eqint nn3))
  obtain ⟨wF, vwF⟩ := exa_v nn4
  have E_FAILED : Exa s s.heap wF "com/example/cutover/cutover/MoveState$Phase" := Exa.start vwF nn4
  have S_FAILED : Sta s s.heap "com/example/cutover/cutover/MoveState$Phase" "FAILED" "Lcom/example/cutover/cutover/MoveState$Phase;" (.ref wF) := Sta.start vwF (Or.inr ⟨(hw _ (List.mem_of_getElem? (i := 2) rfl)), (hw _ (List.mem_of_getElem? (i := 12) rfl))⟩)
  have F_FAILED : Fld s s.heap wF "java/lang/Enum" "ordinal" "I" (.int 3) := Fld.start ((fld_at vwF).symm.trans (own_eqint nn5))
  obtain ⟨wN, vwN⟩ := exa_v nn6
  have E_FINISHED : Exa s s.heap wN "com/example/cutover/cutover/MoveState$Phase" := Exa.start vwN nn6
  have S_FINISHED : Sta s s.heap "com/example/cutover/cutover/MoveState$Phase" "FINISHED" "Lcom/example/cutover/cutover/MoveState$Phase;" (.ref wN) := Sta.start vwN (Or.inr ⟨(hw _ (List.mem_of_getElem? (i := 2) rfl)), (hw _ (List.mem_of_getElem? (i := 14) rfl))⟩)
  have F_FINISHED : Fld s s.heap wN "java/lang/Enum" "ordinal" "I" (.int 4) := Fld.start ((fld_at vwN).symm.trans (own_eqint nn7))
  obtain ⟨n, o, h1, h2, h3, _, L, rfl, ⟨rfl, N⟩, hq⟩ := own_rm0 l s _ hw tables_1 i0 wC wG wS wF wN s.heap s.heap.size (Nat.le_refl _) S_COPYING S_FOLLOWING S_STOPPED S_FAILED S_FINISHED E_COPYING E_FOLLOWING E_STOPPED E_FAILED E_FINISHED (F_COPYING.ne F_STOPPED (by decide)) (F_COPYING.ne F_FAILED (by decide)) (F_COPYING.ne F_FINISHED (by decide)) (F_FOLLOWING.ne F_STOPPED (by decide)) (F_FOLLOWING.ne F_FAILED (by decide)) (F_FOLLOWING.ne F_FINISHED (by decide)) p e ha hc hk s m _ below hf ((Spec.applies_iff_loose hf).mp happ).1 ⟨rfl, State.Warmed39.refl s, rfl⟩ trivial
  refine ⟨n, _, h1, h2, h3, hpost _ _ _ _ _ _ ⟨Cond.after_iff.mpr rfl, Cond.after_iff.mpr (eq_i res_at (Term.int_eval (1)) rfl), trivial⟩ ⟨hq.1, hq.2.1, (hq.2.2.sift fun y hy => Or.inr (N y hy)).mono (by decide) (by decide)⟩⟩
theorem main_1_1 : Claimed_1_1 := own_comes fun _ _ _ _ _ _ h hF => ⟨h.1, hF⟩
theorem main_1_2 : Claimed_1_2 := own_comes fun _ _ _ _ _ _ h hF => ⟨h.2.1, hF⟩
end Jvm.Pilot.@@N@@
namespace Jvm.Pilot.@@N@@
open Jvm Jvm.ClassFile Sem Op Lib Jvm.Free Jvm.Stand Jvm.Pilot.@@N@@.Jvm.D
/-! MADE BY PROGRAM (witnessworld.py) out of the Statement's table words and the real class files: 12 classes; the members and pool entries that the words name. The judged class is class 1, her method 1. -/
namespace start1
open Jvm.ClassFile
def u (s : String) : CpInfo := .utf8 (stringToUtf16 s)
/-- a pool by its gaps: so many unusable entries, then the entry; so many at the end -/
def gap : Nat → List CpInfo → List CpInfo
  | 0, r => r
  | n + 1, r => .unusable :: gap n r
def poolList (es : List (Nat × CpInfo)) (last : Nat) : List CpInfo := es.foldr (fun e r => gap e.1 (e.2 :: r)) (gap last [])
def pool (es : List (Nat × CpInfo)) (last : Nat) : Array CpInfo := ⟨poolList es last⟩
def fileOf (pool : Array CpInfo) (this : Nat) (attrs : Array Attribute := #[]) (ms : Array MethodInfo := #[]) (fl : Nat := 33) (sup : Nat := 0) (ifs : Array Nat := #[]) (fds : Array FieldInfo := #[]) : ClassFile where
  minorVersion := 0
  majorVersion := 65
  constantPool := pool
  accessFlags := fl
  thisClass := this
  superClass := sup
  interfaces := ifs
  fields := fds
  methods := ms
  attributes := attrs
def plain (name : String) (sup : Option ClassId) : Class where
  name := name
  kind := .ordinary
  loader := none
  accessFlags := 33
  super := sup
  interfaces := #[]
  cf := none
  fields := #[]
  methods := #[]
  instanceTypes := #[]
  staticTypes := #[]
  resolved := #[]
  callSites := []
  init := .initialized
  statics := none
  mirror := none

def pool0 : Array CpInfo := pool [(5, u "<init>"), (0, u "()V"), (1, .class_ 10), (1, u "java/lang/Object")] 113

def k0m0 : Method := { name := "<init>", desc := "()V", sig := { parameters := [], returnType := none }, accessFlags := 1, code := none }
/-- java/lang/Object -/
def k0 : Class := { plain "java/lang/Object" none with
  accessFlags := 33
  interfaces := #[]
  cf := some (fileOf pool0 8 #[] #[{ accessFlags := 1, nameIndex := 5, descriptorIndex := 6, attributes := #[] }] 33 0 #[] #[])
  fields := #[]
  methods := #[k0m0]
  instanceTypes := #[]
  staticTypes := #[]
  resolved := Array.replicate 124 none
  statics := none }

def pool1 : Array CpInfo := pool [(2, .class_ 4), (1, u "java/lang/Object"), (0, u "<init>"), (0, u "()V"), (0, .integer 2147483647), (0, .fieldref 9 10), (0, .class_ 11), (0, .nameAndType 12 13), (0, u "com/example/cutover/cutover/MoveState$Phase"), (0, u "COPYING"), (0, u "Lcom/example/cutover/cutover/MoveState$Phase;"), (0, .fieldref 9 15), (0, .nameAndType 16 13), (0, u "FOLLOWING"), (0, .fieldref 9 18), (0, .nameAndType 19 13), (0, u "STOPPED"), (0, .fieldref 9 21), (0, .nameAndType 22 13), (0, u "FAILED"), (0, .fieldref 9 24), (0, .nameAndType 25 13), (0, u "FINISHED"), (0, .methodref 9 27), (0, .nameAndType 28 29), (0, u "ended"), (0, u "()Z"), (0, .class_ 31), (0, u "com/example/cutover/cutover/PhaseEndedPinLaw"), (2, u "law"), (0, u "(I)Z")] 7

def k1m0 : Method := { name := "<init>", desc := "()V", sig := { parameters := [], returnType := none }, accessFlags := 2, code := none }
def k1c1 : Code := { maxStack := 2, maxLocals := 4, code := code, exceptionTable := #[], attributes := #[] }
def k1m1 : Method := { name := "law", desc := "(I)Z", sig := { parameters := [.int], returnType := some .boolean }, accessFlags := 9, code := some k1c1 }
/-- com/example/cutover/cutover/PhaseEndedPinLaw -/
def k1 : Class := { plain "com/example/cutover/cutover/PhaseEndedPinLaw" (some 0) with
  accessFlags := 49
  interfaces := #[]
  cf := some (fileOf pool1 30 #[] #[{ accessFlags := 2, nameIndex := 5, descriptorIndex := 6, attributes := #[] }, { accessFlags := 9, nameIndex := 34, descriptorIndex := 35, attributes := #[] }] 49 2 #[] #[])
  fields := #[]
  methods := #[k1m0, k1m1]
  instanceTypes := #[]
  staticTypes := #[]
  resolved := Array.replicate 43 none
  statics := none }

def pool2 : Array CpInfo := pool [(1, .class_ 2), (0, u "java/lang/constant/Constable"), (0, .class_ 4), (0, u "java/lang/Object")] 6

/-- java/lang/constant/Constable -/
def k2 : Class := { plain "java/lang/constant/Constable" (some 0) with
  accessFlags := 1537
  interfaces := #[]
  cf := some (fileOf pool2 1 #[] #[] 1537 3 #[] #[])
  fields := #[]
  methods := #[]
  instanceTypes := #[]
  staticTypes := #[]
  resolved := Array.replicate 11 none
  statics := none }

def pool3 : Array CpInfo := pool [(1, .class_ 2), (0, u "java/lang/Comparable"), (0, .class_ 4), (0, u "java/lang/Object")] 7

/-- java/lang/Comparable -/
def k3 : Class := { plain "java/lang/Comparable" (some 0) with
  accessFlags := 1537
  interfaces := #[]
  cf := some (fileOf pool3 1 #[] #[] 1537 3 #[] #[])
  fields := #[]
  methods := #[]
  instanceTypes := #[]
  staticTypes := #[]
  resolved := Array.replicate 12 none
  statics := none }

def pool4 : Array CpInfo := pool [(1, .class_ 2), (0, u "java/io/Serializable"), (0, .class_ 4), (0, u "java/lang/Object")] 2

/-- java/io/Serializable -/
def k4 : Class := { plain "java/io/Serializable" (some 0) with
  accessFlags := 1537
  interfaces := #[]
  cf := some (fileOf pool4 1 #[] #[] 1537 3 #[] #[])
  fields := #[]
  methods := #[]
  instanceTypes := #[]
  staticTypes := #[]
  resolved := Array.replicate 7 none
  statics := none }

def pool5 : Array CpInfo := pool [(2, .class_ 4), (1, u "java/lang/Enum"), (0, u "name"), (0, u "Ljava/lang/String;"), (2, u "ordinal"), (0, u "I"), (1, .class_ 14), (1, u "java/lang/Object"), (4, u "hash"), (86, .class_ 108), (1, u "java/lang/Enum$EnumDesc"), (2, .class_ 112), (0, u "java/lang/constant/Constable"), (0, .class_ 114), (0, u "java/lang/Comparable"), (0, .class_ 116), (0, u "java/io/Serializable")] 87

/-- java/lang/Enum -/
def k5 : Class := { plain "java/lang/Enum" (some 0) with
  accessFlags := 1057
  interfaces := #[2, 3, 4]
  cf := some (fileOf pool5 2 #[.nestMembers #[106]] #[] 1057 12 #[111, 113, 115] #[{ accessFlags := 18, nameIndex := 5, descriptorIndex := 6, attributes := #[] }, { accessFlags := 18, nameIndex := 9, descriptorIndex := 10, attributes := #[] }, { accessFlags := 2, nameIndex := 19, descriptorIndex := 10, attributes := #[] }])
  fields := #[{ name := "name", type := (.object "java/lang/String"), accessFlags := 18, slot := 0, constantValue := 0 }, { name := "ordinal", type := .int, accessFlags := 18, slot := 1, constantValue := 0 }, { name := "hash", type := .int, accessFlags := 2, slot := 2, constantValue := 0 }]
  methods := #[]
  instanceTypes := #[(.object "java/lang/String"), .int, .int]
  staticTypes := #[]
  resolved := Array.replicate 204 none
  statics := none }

def pool6 : Array CpInfo := pool [(1, .class_ 2), (0, u "com/example/cutover/cutover/MoveState$Phase"), (2, u "COPYING"), (0, u "Lcom/example/cutover/cutover/MoveState$Phase;"), (2, u "FOLLOWING"), (0, .fieldref 1 11), (0, .nameAndType 12 6), (0, u "STOPPED"), (0, .fieldref 1 14), (0, .nameAndType 15 6), (0, u "FAILED"), (0, .fieldref 1 17), (0, .nameAndType 18 6), (0, u "FINISHED"), (2, u "$VALUES"), (0, u "[Lcom/example/cutover/cutover/MoveState$Phase;"), (6, .class_ 31), (1, u "java/lang/Enum"), (39, u "ended"), (0, u "()Z"), (7, .class_ 81), (0, u "com/example/cutover/cutover/MoveState")] 2

def k6c0 : Code := { maxStack := 2, maxLocals := 1, code := prog_11_method_4_code, exceptionTable := #[], attributes := #[] }
def k6m0 : Method := { name := "ended", desc := "()Z", sig := { parameters := [], returnType := some .boolean }, accessFlags := 0, code := some k6c0 }
/-- com/example/cutover/cutover/MoveState$Phase -/
def k6 : Class := { plain "com/example/cutover/cutover/MoveState$Phase" (some 5) with
  accessFlags := 16432
  interfaces := #[]
  cf := some (fileOf pool6 1 #[.nestHost 80] #[{ accessFlags := 0, nameIndex := 71, descriptorIndex := 72, attributes := #[] }] 16432 29 #[] #[{ accessFlags := 16409, nameIndex := 5, descriptorIndex := 6, attributes := #[] }, { accessFlags := 16409, nameIndex := 9, descriptorIndex := 6, attributes := #[] }, { accessFlags := 16409, nameIndex := 12, descriptorIndex := 6, attributes := #[] }, { accessFlags := 16409, nameIndex := 15, descriptorIndex := 6, attributes := #[] }, { accessFlags := 16409, nameIndex := 18, descriptorIndex := 6, attributes := #[] }, { accessFlags := 4122, nameIndex := 21, descriptorIndex := 22, attributes := #[] }])
  fields := #[{ name := "COPYING", type := (.object "com/example/cutover/cutover/MoveState$Phase"), accessFlags := 16409, slot := 0, constantValue := 0 }, { name := "FOLLOWING", type := (.object "com/example/cutover/cutover/MoveState$Phase"), accessFlags := 16409, slot := 1, constantValue := 0 }, { name := "STOPPED", type := (.object "com/example/cutover/cutover/MoveState$Phase"), accessFlags := 16409, slot := 2, constantValue := 0 }, { name := "FAILED", type := (.object "com/example/cutover/cutover/MoveState$Phase"), accessFlags := 16409, slot := 3, constantValue := 0 }, { name := "FINISHED", type := (.object "com/example/cutover/cutover/MoveState$Phase"), accessFlags := 16409, slot := 4, constantValue := 0 }, { name := "$VALUES", type := (.array (.object "com/example/cutover/cutover/MoveState$Phase")), accessFlags := 4122, slot := 5, constantValue := 0 }]
  methods := #[k6m0]
  instanceTypes := #[(.object "java/lang/String"), .int, .int]
  staticTypes := #[(.object "com/example/cutover/cutover/MoveState$Phase"), (.object "com/example/cutover/cutover/MoveState$Phase"), (.object "com/example/cutover/cutover/MoveState$Phase"), (.object "com/example/cutover/cutover/MoveState$Phase"), (.object "com/example/cutover/cutover/MoveState$Phase"), (.array (.object "com/example/cutover/cutover/MoveState$Phase"))]
  resolved := Array.replicate 84 none
  statics := some 0 }

def pool7 : Array CpInfo := pool [(1, u "java/lang/Cloneable"), (0, .class_ 1), (0, u "java/lang/Object"), (0, .class_ 3)] 3

/-- java/lang/Cloneable -/
def k7 : Class := { plain "java/lang/Cloneable" (some 0) with
  accessFlags := 1537
  interfaces := #[]
  cf := some (fileOf pool7 2 #[] #[] 1537 4 #[] #[])
  fields := #[]
  methods := #[]
  instanceTypes := #[]
  staticTypes := #[]
  resolved := Array.replicate 8 none
  statics := none }

/-- the primitive byte -/
def k8 : Class := { plain "byte" none with kind := .primitive 'B', accessFlags := 0x411 }
/-- [B -/
def k9 : Class := { plain "[B" (some 0) with kind := .array 8 .byte, interfaces := #[7, 4], accessFlags := 1041 }

/-- the primitive int -/
def k10 : Class := { plain "int" none with kind := .primitive 'I', accessFlags := 0x411 }
/-- [I -/
def k11 : Class := { plain "[I" (some 0) with kind := .array 10 .int, interfaces := #[7, 4], accessFlags := 1041 }

def heap : Heap := #[{ cls := 6, slots := #[.ref 1, .ref 2, .ref 3, .ref 4, .ref 5, .null], vm := .statics 6 },
  { cls := 6, slots := #[.null, .int 0, .int 0], vm := .none },
  { cls := 6, slots := #[.null, .int 1, .int 0], vm := .none },
  { cls := 6, slots := #[.null, .int 2, .int 0], vm := .none },
  { cls := 6, slots := #[.null, .int 3, .int 0], vm := .none },
  { cls := 6, slots := #[.null, .int 4, .int 0], vm := .none }]
def classes : Array Class := #[k0, k1, k2, k3, k4, k5, k6, k7, k8, k9, k10, k11]
def interned : List (Array UInt16 × Addr) := []
def slotsUsed : Nat := 21
def theMethod : MethodId := ⟨1, 1⟩
def args0 : Array Value := #[.int 3]
def aboutOver (below : List Frame) : State where
  vm := { classes := classes, interned := interned.toArray }
  heap := heap
  slotsUsed := slotsUsed
  threads := #[{ frames := .invoking theMethod args0 :: below }]
def below0 : List Frame := [.native { method := ⟨0, 0⟩, args := #[] }]
def about1 : State := aboutOver below0
def p0 : Program := .bare "" "" ""
def e0 : Env := launch0.env 0 0 0
theorem w_frames : about1.frames = Frame.invoking theMethod args0 :: below0 := rfl
set_option maxRecDepth 65536 in
theorem w_args : argsFit about1.vm theMethod args0 = true := by decide +kernel
set_option maxRecDepth 65536 in
theorem w_heap : heapFits about1 = true := by decide +kernel
set_option maxRecDepth 65536 in
theorem w_runnable : about1.curStatus? = some .runnable := by decide +kernel
set_option maxRecDepth 65536 in
theorem w_alone : about1.alone = true := by decide +kernel
set_option maxRecDepth 65536 in
theorem w_named : about1.methodNamed? x = some theMethod := by decide +kernel
set_option maxRecDepth 65536 in
theorem w_hears : about1.hears theMethod below0 = true := by decide +kernel
set_option maxRecDepth 65536 in
theorem w_ripe : about1.ripe theMethod args0 below0 = true := by decide +kernel
theorem w_running : about1.status = .running := rfl
set_option maxRecDepth 65536 in
theorem w_room : about1.hasRoom e0.platform room_1 = true :=
  launch0.hasRoom_least _ room_1 (by decide +kernel) (by decide +kernel) (by decide +kernel) (by decide +kernel) (by decide +kernel) (by decide +kernel)
theorem allAtoms_all (ts : List Jvm.Cond) (a : Array Jvm.Value) (st : Jvm.State) : (allAtoms ts).before a st = ts.all (fun c => c.before a st) := by
  induction ts with
  | nil => rfl
  | cons c t ih =>
    show (Jvm.Cond.and c (allAtoms t)).before a st = _
    rw [Jvm.Cond.before_and, ih, List.all_cons]
def words1 : List Jvm.Cond := Jvm.Cond.code x code maxLocals ret :: tables_1
/-- a 'code' word, met by the world's own term for the bytes: nothing is compared byte by byte -/
theorem code_word {y : MethodName} {bytes : ByteArray} {mx : Nat} {rt : Option FieldType} {a : Array Value} {s : State} {m : MethodId} {meth : Method} {c : Code} (h1 : s.methodNamed? y = some m) (h2 : s.vm.method? m = some meth) (h3 : meth.code = some c) (h4 : c.code = bytes)
    (h5 : (c.maxLocals == mx && c.exceptionTable.isEmpty && decide (c.maxStack ≤ mostOperands) && decide (meth.sig.returnType = rt) && !meth.locks && decide (parseMethodDescriptor y.desc = some meth.sig)) = true) : (Jvm.Cond.code y bytes mx rt).before a s = true := by
  simp only [Bool.and_eq_true, beq_iff_eq, Bool.not_eq_true', decide_eq_true_eq] at h5
  obtain ⟨⟨⟨⟨⟨g1, g2⟩, g3⟩, g4⟩, g5⟩, g6⟩ := h5
  simp [Cond.before, Cond.holds, Cond.value, h1, h2, h3, h4, g1, g2, g3, g4, g5, g6]
def isCode : Jvm.Cond → Bool
  | .code _ _ _ _ => true
  | _ => false
theorem all_split {L : List Jvm.Cond} {P : Jvm.Cond → Bool} (h1 : L.all (fun c => isCode c || P c) = true) (h2 : ∀ c ∈ L.filter isCode, P c = true) : L.all P = true := by
  refine List.all_eq_true.mpr fun c hc => ?_
  have h := List.all_eq_true.mp h1 c hc
  rcases Bool.eq_false_or_eq_true (isCode c) with hi | hi
  · exact h2 c (List.mem_filter.mpr ⟨hc, hi⟩)
  · simpa [hi] using h
set_option maxRecDepth 65536 in
theorem w_c0 : (Jvm.Cond.code x code maxLocals ret).before args0 about1 = true := code_word (m := ⟨1, 1⟩) (meth := k1m1) (c := k1c1) (by decide +kernel) rfl rfl rfl (by decide +kernel)
set_option maxRecDepth 65536 in
theorem w_c1 : (Jvm.Cond.code ({ cls := "com/example/cutover/cutover/MoveState$Phase", name := "ended", desc := "()Z" } : Jvm.MethodName) prog_11_method_4_code (1 : Nat) (Option.some Jvm.ClassFile.FieldType.boolean)).before args0 about1 = true := code_word (m := ⟨6, 0⟩) (meth := k6m0) (c := k6c0) (by decide +kernel) rfl rfl rfl (by decide +kernel)
def codes1 : List Jvm.Cond := [Jvm.Cond.code x code maxLocals ret, Jvm.Cond.code ({ cls := "com/example/cutover/cutover/MoveState$Phase", name := "ended", desc := "()Z" } : Jvm.MethodName) prog_11_method_4_code (1 : Nat) (Option.some Jvm.ClassFile.FieldType.boolean)]
set_option maxRecDepth 65536 in
theorem codes_eq : words1.filter isCode = codes1 := rfl
theorem w_codes : ∀ c ∈ words1.filter isCode, c.before args0 about1 = true := by
  rw [codes_eq]
  intro c hc
  simp only [codes1, List.mem_cons, List.not_mem_nil, or_false] at hc
  rcases hc with rfl | rfl
  · exact w_c0
  · exact w_c1
set_option maxRecDepth 65536 in
theorem w_t1 : words1.all (fun c => isCode c || c.before args0 about1) = true := by decide +kernel
theorem w_tables : (allAtoms (Jvm.Cond.code x code maxLocals ret :: tables_1)).before args0 about1 = true := by
  rw [allAtoms_all]
  show words1.all (fun c => c.before args0 about1) = true
  refine all_split ?_ w_codes
  rw [w_t1]
set_option maxRecDepth 65536 in
theorem w_case : (Jvm.Cond.and given_1 narrow_1).before args0 about1 = true := by decide +kernel
theorem w_applies : (headSpec (Jvm.Cond.code x code maxLocals ret :: tables_1) room_1).applies x e0.platform about1 = true :=
  (Spec.applies_iff w_frames).mpr ⟨w_running, w_runnable, w_alone, w_named, w_hears, w_ripe, w_room, w_tables⟩
theorem atStart : AtStart classFile x code maxLocals ret World_1 tables_1 room_1 Calls_1 rest_1 Pre_1 launch0 p0 e0 about1 theMethod args0 below0 :=
  ⟨lists_1, trivial, launch0.admits_env _ _ _, launch0.least_env, fairChoices_fair.cas, fairChoices_fair.clock, w_frames, w_args, w_heap, w_applies, trivial, trivial, w_case⟩
end start1
theorem witness_1 : WitnessClaimed_1 := ⟨start1.p0, start1.e0, start1.about1, start1.theMethod, start1.args0, start1.below0, start1.atStart⟩
end Jvm.Pilot.@@N@@
