import JvmDerived
import JvmDerived.Pilot.@@N@@Statement
import JvmDerived.Pilot.@@N@@Code
set_option linter.unusedVariables false
set_option linter.unusedSimpArgs false
namespace Jvm.RoadKit
open Sem ClassFile Op Lib Jvm.Stand Jvm.Free Jvm.LawKit
section New
variable {p : Program} {l : Launch} {e : Env} {R : Room} {s : State} {m : MethodId} {args : Array Value} {below : List Frame} {meth : Method} {c : Code} {T : State} {locs : List Loc} {cells slots k n : Nat} {Q : Option Value → Heap → List Loc → Prop}
theorem retI (X : Stand p l e R s m args below meth c T locs cells slots) (hx : p.tables.exec = Jvm.exec) {pc : Nat} {Ls : Array Slot} {z : Int32} {rest : List Value} (hret : meth.sig.returnType = some .int) (hd : decode c.code pc = .ok (.ireturn, 1)) {fs : List Frame}
    (hl : ∀ (f : JFrame) (acts : List Action), f.method = m → f.locked = none → f.entered = [] → (doReturn e (T.setTop f) acts (some (.int z))).1 = T.setFrames fs) : Steps p.tables e below (T.setTop (mkF m pc Ls (.int z :: rest))) (T.setFrames fs) := by
  have hm' : T.vm.method? m = some meth := X.method'
  have hn : narrow .int (.int z) = .int z := rfl
  show Steps p.tables e below (T.setTop { method := m, pc := pc, locals := Ls, stack := _ :: rest, locked := none }) _
  jvm_step X.here [X.here.top, hx, hd, hm', hret, hn]
  first | (intro acts; rw [hl _ acts rfl rfl rfl]) | rw [hl _ _ rfl rfl rfl]
  exact Steps.refl _
/-- from S0 the run comes to a return that leaves what Q says -/
def own_Fin (p : Program) (e : Env) (below : List Frame) (s : State) (Q : Option Value → Heap → List Loc → Prop) (k n : Nat) (S0 : State) : Prop :=
  ∃ s₂ o, Steps p.tables e below S0 s₂ ∧ s₂.status = .running ∧ Ended s₂ below o ∧ ∃ v L, o = .returned v ∧ Q v s₂.heap L ∧ FrameEnd s o s₂ L k n
theorem own_go {S0 : State} (S1 : State) (h : ∀ t, Steps p.tables e below S1 t → Steps p.tables e below S0 t) (q : own_Fin p e below s Q k n S1) : own_Fin p e below s Q k n S0 := by
  obtain ⟨s₂, o, h1, h2⟩ := q
  exact ⟨s₂, o, h _ h1, h2⟩
theorem own_ret (X : Stand p l e R s m args below meth c T locs cells slots) (hlocks : meth.locks = false) (v : Option Value) (hv : meth.sig.returnType = none → v = none) {g : JFrame}
    (hs : ∀ fs, (∀ (f : JFrame) (acts : List Action), f.method = m → f.locked = none → f.entered = [] → (doReturn e (T.setTop f) acts v).1 = T.setFrames fs) → Steps p.tables e below (T.setTop g) (T.setFrames fs))
    (hk : cells ≤ k) (hn : slots ≤ n) (hQ : Q v T.heap locs) : own_Fin p e below s Q k n (T.setTop g) := by
  obtain ⟨fs, hr, hrun, hended, hW, hsame⟩ := X.leave (v := v) hv hlocks
  exact ⟨_, _, hs fs hr, hrun, hended, _, _, rfl, hQ, ⟨_, rfl⟩, hW, hsame.mono hk hn⟩
theorem own_zlt {x y : Int32} {a b : Int} (h : x < y) (hx : x.toInt = a) (hy : y.toInt = b) : a < b := by rw [← hx, ← hy]; exact Int32.lt_iff_toInt_lt.mp h
theorem own_znlt {x y : Int32} {a b : Int} (h : ¬ x < y) (hx : x.toInt = a) (hy : y.toInt = b) : ¬ a < b := by rw [← hx, ← hy]; exact fun q => h (Int32.lt_iff_toInt_lt.mpr q)
theorem own_zeq {x y : Int32} {a b : Int} (h : x = y) (hx : x.toInt = a) (hy : y.toInt = b) : a = b := by rw [← hx, ← hy, h]
theorem own_zneq {x y : Int32} {a b : Int} (h : ¬ x = y) (hx : x.toInt = a) (hy : y.toInt = b) : ¬ a = b := by rw [← hx, ← hy]; exact fun q => h (Int32.toInt_inj.mp q)
theorem own_zLlt {x y : Int64} {a b : Int} (h : x < y) (hx : x.toInt = a) (hy : y.toInt = b) : a < b := by rw [← hx, ← hy]; exact Int64.lt_iff_toInt_lt.mp h
theorem own_zLnlt {x y : Int64} {a b : Int} (h : ¬ x < y) (hx : x.toInt = a) (hy : y.toInt = b) : ¬ a < b := by rw [← hx, ← hy]; exact fun q => h (Int64.lt_iff_toInt_lt.mpr q)
theorem own_zLeq {x y : Int64} {a b : Int} (h : x = y) (hx : x.toInt = a) (hy : y.toInt = b) : a = b := by rw [← hx, ← hy, h]
theorem own_zLneq {x y : Int64} {a b : Int} (h : ¬ x = y) (hx : x.toInt = a) (hy : y.toInt = b) : ¬ a = b := by rw [← hx, ← hy]; exact fun q => h (Int64.toInt_inj.mp q)
end New
end Jvm.RoadKit
namespace Jvm.Pilot.@@N@@
open Jvm Jvm.ClassFile Sem Op Lib Jvm.Free Jvm.Stand Jvm.LawKit Jvm.RoadKit Bundle Jvm.Pilot.@@N@@.Jvm.D
theorem own_pd0 : parseMethodDescriptor "(JJ)J" = some ⟨[.long, .long], some .long⟩ := by decide +kernel

theorem own_div0 (T P k : Int) (hP : 1 ≤ P) (e : T = P * k) : (T - 1) / P = k - 1 := by
  have h : T - 1 = (P - 1) + P * (k - 1) := by rw [e, Int.mul_sub]; omega
  rw [h, Int.add_mul_ediv_left _ _ (by omega), Int.ediv_eq_zero_of_lt (by omega) (by omega)]; omega
theorem own_div1 (T P k r : Int) (hr : 1 ≤ r) (hP : r < P) (e : T = P * k + r) : (T - 1) / P = k := by
  have h : T - 1 = (r - 1) + P * k := by omega
  rw [h, Int.add_mul_ediv_left _ _ (by omega), Int.ediv_eq_zero_of_lt (by omega) (by omega)]; omega
theorem own_law (t p w u : Int64) (ht : 0 ≤ t.toInt) (hp : 1 ≤ p.toInt)
    (hw : (t - t / p * p = 0 ∧ w = t / p + (0 : Int32).toInt64) ∨ (¬ t - t / p * p = 0 ∧ w = t / p + (1 : Int32).toInt64))
    (hu : (t = 0 ∧ u = 0) ∨ (¬ t = 0 ∧ u = (t - 1) / p + 1)) : w = u := by
  have hne : p ≠ -1 := fun q => by rw [q] at hp; exact absurd hp (by decide)
  have m1 : (t - t / p * p).toInt = t.toInt % p.toInt := (c_lrem t p _ rfl).1 ht
  have d1 : (t / p).toInt = t.toInt / p.toInt := (c_ldiv t p _ rfl hne).1 ht
  have z0 : (0 : Int32).toInt64 = 0 := by decide
  have z1 : (1 : Int32).toInt64 = 1 := by decide
  have hz : (0 : Int64).toInt = 0 := rfl
  have ho : (1 : Int64).toInt = 1 := rfl
  rw [z0, z1] at hw
  have em := Int.mul_ediv_add_emod t.toInt p.toInt
  have en := Int.emod_nonneg t.toInt (show p.toInt ≠ 0 by omega)
  have el := Int.emod_lt_of_pos t.toInt (show 0 < p.toInt by omega)
  rcases hu with ⟨e, rfl⟩ | ⟨e, rfl⟩
  · have e' : t.toInt = 0 := by rw [e]; rfl
    rcases hw with ⟨f, rfl⟩ | ⟨f, rfl⟩
    · rw [Int64.add_zero]; apply Int64.toInt_inj.mp; rw [d1, e', hz, Int.zero_ediv]
    · exact absurd (by apply Int64.toInt_inj.mp; rw [m1, e', hz, Int.zero_emod]) f
  · have e' : ¬ t.toInt = 0 := fun q => e (Int64.toInt_inj.mp (q.trans hz.symm))
    have s1 : (t - 1).toInt = t.toInt - 1 := by
      have h1 := c_lsub t 1; have h2 := rng64 (t - 1); have h3 := rng64 t; rw [ho] at h1; omega
    have d2 : ((t - 1) / p).toInt = (t.toInt - 1) / p.toInt := by rw [← s1]; exact (c_ldiv (t - 1) p _ rfl hne).1 (by omega)
    rcases hw with ⟨f, rfl⟩ | ⟨f, rfl⟩
    · have f' : t.toInt % p.toInt = 0 := by rw [← m1, f]; rfl
      have g := own_div0 t.toInt p.toInt (t.toInt / p.toInt) hp (by omega)
      rw [Int64.add_zero]; apply Int64.toInt_inj.mp
      have h1 := c_ladd ((t - 1) / p) 1; have h2 := rng64 ((t - 1) / p + 1); have h3 := rng64 (t / p)
      rw [ho, d2, g] at h1; rw [d1] at h3 ⊢
      omega
    · have f' : ¬ t.toInt % p.toInt = 0 := fun q => f (Int64.toInt_inj.mp (m1.trans (q.trans hz.symm)))
      have g := own_div1 t.toInt p.toInt (t.toInt / p.toInt) (t.toInt % p.toInt) (by omega) el em.symm
      have k : t / p = (t - 1) / p := Int64.toInt_inj.mp (by rw [d1, d2, g])
      rw [k]

theorem d1_0 : decode jdk_29_method_66_code 0 = .ok (.lload_n 0, 1) := by decide +kernel
theorem d1_1 : decode jdk_29_method_66_code 1 = .ok (.lload_n 2, 1) := by decide +kernel
theorem d1_2 : decode jdk_29_method_66_code 2 = .ok (.lcmp, 1) := by decide +kernel
theorem d1_3 : decode jdk_29_method_66_code 3 = .ok (.ifCond .lt 7, 3) := by decide +kernel
theorem d1_6 : decode jdk_29_method_66_code 6 = .ok (.lload_n 0, 1) := by decide +kernel
theorem d1_7 : decode jdk_29_method_66_code 7 = .ok (.goto 4, 3) := by decide +kernel
theorem d1_10 : decode jdk_29_method_66_code 10 = .ok (.lload_n 2, 1) := by decide +kernel
theorem d1_11 : decode jdk_29_method_66_code 11 = .ok (.lreturn, 1) := by decide +kernel
theorem own_ef1 (m : MethodId) (q1 : Int64) (q2 : Int64) : entryFrame m #[(.long q1), (.long q2)] 4 = (mkF m 0 #[.val (.long q1), .second, .val (.long q2), .second] []) := by first | (simp [entryFrame, mkF, argsToLocals, Value.category]; done) | rfl
def own_Q1 (Z : State) (q1 : Int64) (q2 : Int64)  (h0 : Heap) (n0 : Nat) (v : Option Value) (h : Heap) (L : List Loc) : Prop := ∃ w : Int64, v = some (.long w) ∧ Fr n0 L ∧ h = h0 ∧ ((q1.toInt < q2.toInt ∧ w = q2) ∨ (¬ q1.toInt < q2.toInt ∧ w = q1))
set_option maxRecDepth 65536 in
set_option maxHeartbeats 40000000 in
theorem own_rm1 (l : Launch) (Z : State) (a0 : Array Value) (hw : ∀ d ∈ tables_1, d.before a0 Z = true) (ws : List Jvm.Cond) (q1 : Int64) (q2 : Int64)  (h0 : Heap) (n0 : Nat) (Z0 : n0 ≤ h0.size) :
    MetFree l (⟨"java/lang/Math", "max", "(JJ)J"⟩ : MethodName) (head1 (Jvm.Cond.code (⟨"java/lang/Math", "max", "(JJ)J"⟩ : MethodName) jdk_29_method_66_code 4 (some .long) :: ws) ({ frames := 0, cells := 0, slots := 0, locals := 0 } : Room)) (fun a U => a = #[(.long q1), (.long q2)] ∧ Z.Warmed39 U.vm ∧ U.heap = h0) (fun _ _ _ _ _ => True) (fun _ U o U' => ∃ v L, o = .returned v ∧ own_Q1 Z q1 q2 h0 n0 v U'.heap L ∧ FrameEnd U o U' L ({ frames := 0, cells := 0, slots := 0, locals := 0 } : Room).cells ({ frames := 0, cells := 0, slots := 0, locals := 0 } : Room).slots) := by
  refine MetFree.of_bodySF (Jvm.Free.JP.mathPlain rfl (by decide +kernel)) hisR ?_
  intro p e s m args below meth c s₁ Bd hml0 hP hK
  obtain ⟨rfl, hZ, hh⟩ := hP
  have hx := Bd.exec
  have hby := Bd.bytes
  have hml : c.maxLocals = 4 := hml0
  have hown : s.vm.findClass "java/lang/Math" = some m.cls := findClass_of_methodNamed Bd.named
  have hnm := (name_of_methodNamed Bd.named Bd.method).1
  have X0 : Stand p l e ({ frames := 0, cells := 0, slots := 0, locals := 0 } : Room) s m #[(.long q1), (.long q2)] below meth c s₁ [] 0 0 := Stand.of_body Bd
  have e0 : s₁.heap = h0 := by rw [← hh, Bd.state]; rfl
  have N0 := Fr.nil n0
  show own_Fin p e below s (own_Q1 Z q1 q2 h0 n0) ({ frames := 0, cells := 0, slots := 0, locals := 0 } : Room).cells ({ frames := 0, cells := 0, slots := 0, locals := 0 } : Room).slots (s₁.setTop (entryFrame m #[(.long q1), (.long q2)] 4))
  refine own_go (s₁.setTop (mkF m 0 #[.val (.long q1), .second, .val (.long q2), .second] [])) (fun t k => castTop (own_ef1 m q1 q2) k) ?_
  refine own_go (s₁.setTop (mkF m 1 #[.val (.long q1), .second, .val (.long q2), .second] [(.long q1)])) (fun _ k => XS.lloadN X0.here hx rfl (hb hby d1_0) rfl k) ?_
  refine own_go (s₁.setTop (mkF m 2 #[.val (.long q1), .second, .val (.long q2), .second] [(.long q2), (.long q1)])) (fun _ k => XS.lloadN X0.here hx rfl (hb hby d1_1) rfl k) ?_
  refine own_go (s₁.setTop (mkF m 3 #[.val (.long q1), .second, .val (.long q2), .second] [(.int (lcmpW q1 q2))])) (fun _ k => XS.lcmp X0.here hx rfl (hb hby d1_2) rfl k) ?_
  by_cases hc3 : q1 < q2
  · have hz3 : ((q1).toInt < (q2).toInt) := own_zLlt hc3 rfl rfl
    refine own_go (s₁.setTop (mkF m 10 #[.val (.long q1), .second, .val (.long q2), .second] [])) (fun _ k => XS.ifYes X0.here hx rfl (pc0 := 3) (pc' := 10) rfl (hb hby d1_3) rfl ((if0 _ _).trans (tlt ((lw_lt q1 q2).mpr hc3)).1) (by decide) (by decide) k) ?_
    refine own_go (s₁.setTop (mkF m 11 #[.val (.long q1), .second, .val (.long q2), .second] [(.long q2)])) (fun _ k => XS.lloadN X0.here hx rfl (hb hby d1_10) rfl k) ?_
    refine own_ret X0 (BodyLoose.notSynchronized Bd) (some (.long q2)) (fun h => by rw [Bd.returns] at h; cases h) (fun fs hr => retOut X0 hx Bd.returns rfl (Or.inr (Or.inl ⟨rfl, rfl, _, rfl⟩)) (hb hby d1_11) hr) (by decide) (by decide) ?_
    exact ⟨_, rfl, N0, e0, by first | exact Or.inl ⟨hz3, rfl⟩ | exact Or.inr ⟨hz3, rfl⟩⟩
  · have hz3 : ¬ ((q1).toInt < (q2).toInt) := own_zLnlt hc3 rfl rfl
    refine own_go (s₁.setTop (mkF m 6 #[.val (.long q1), .second, .val (.long q2), .second] [])) (fun _ k => XS.ifNo X0.here hx rfl (hb hby d1_3) rfl ((if0 _ _).trans (flt (fun q => hc3 ((lw_lt q1 q2).mp q))).1) k) ?_
    refine own_go (s₁.setTop (mkF m 7 #[.val (.long q1), .second, .val (.long q2), .second] [(.long q1)])) (fun _ k => XS.lloadN X0.here hx rfl (hb hby d1_6) rfl k) ?_
    refine own_go (s₁.setTop (mkF m 11 #[.val (.long q1), .second, .val (.long q2), .second] [(.long q1)])) (fun _ k => XS.goto X0.here hx rfl (pc0 := 7) (pc' := 11) rfl (hb hby d1_7) (by decide) (by decide) k) ?_
    refine own_ret X0 (BodyLoose.notSynchronized Bd) (some (.long q1)) (fun h => by rw [Bd.returns] at h; cases h) (fun fs hr => retOut X0 hx Bd.returns rfl (Or.inr (Or.inl ⟨rfl, rfl, _, rfl⟩)) (hb hby d1_11) hr) (by decide) (by decide) ?_
    exact ⟨_, rfl, N0, e0, by first | exact Or.inl ⟨hz3, rfl⟩ | exact Or.inr ⟨hz3, rfl⟩⟩
theorem d2_0 : decode prog_24_method_13_code 0 = .ok (.lload_n 0, 1) := by decide +kernel
theorem d2_1 : decode prog_24_method_13_code 1 = .ok (.lload_n 2, 1) := by decide +kernel
theorem d2_2 : decode prog_24_method_13_code 2 = .ok (.ldiv, 1) := by decide +kernel
theorem d2_3 : decode prog_24_method_13_code 3 = .ok (.lload_n 0, 1) := by decide +kernel
theorem d2_4 : decode prog_24_method_13_code 4 = .ok (.lload_n 2, 1) := by decide +kernel
theorem d2_5 : decode prog_24_method_13_code 5 = .ok (.lrem, 1) := by decide +kernel
theorem d2_6 : decode prog_24_method_13_code 6 = .ok (.lconst 0, 1) := by decide +kernel
theorem d2_7 : decode prog_24_method_13_code 7 = .ok (.lcmp, 1) := by decide +kernel
theorem d2_8 : decode prog_24_method_13_code 8 = .ok (.ifCond .ne 7, 3) := by decide +kernel
theorem d2_11 : decode prog_24_method_13_code 11 = .ok (.iconst 0, 1) := by decide +kernel
theorem d2_12 : decode prog_24_method_13_code 12 = .ok (.goto 4, 3) := by decide +kernel
theorem d2_15 : decode prog_24_method_13_code 15 = .ok (.iconst 1, 1) := by decide +kernel
theorem d2_16 : decode prog_24_method_13_code 16 = .ok (.i2l, 1) := by decide +kernel
theorem d2_17 : decode prog_24_method_13_code 17 = .ok (.ladd, 1) := by decide +kernel
theorem d2_18 : decode prog_24_method_13_code 18 = .ok (.lreturn, 1) := by decide +kernel
theorem own_pn2 : plainName "com/example/bentwire/bentwire/metainfo/Metainfo" = true := by first | (simp [plainName, overriddenIn]; done) | decide +kernel
theorem own_ef2 (m : MethodId) (q1 : Int64) (q2 : Int64) : entryFrame m #[(.long q1), (.long q2)] 4 = (mkF m 0 #[.val (.long q1), .second, .val (.long q2), .second] []) := by first | (simp [entryFrame, mkF, argsToLocals, Value.category]; done) | rfl
def own_Q2 (Z : State) (q1 : Int64) (q2 : Int64)  (h0 : Heap) (n0 : Nat) (v : Option Value) (h : Heap) (L : List Loc) : Prop := ∃ w : Int64, v = some (.long w) ∧ Fr n0 L ∧ h = h0 ∧ ((q1 - q1 / q2 * q2 = 0 ∧ w = q1 / q2 + (0 : Int32).toInt64) ∨ (¬ q1 - q1 / q2 * q2 = 0 ∧ w = q1 / q2 + (1 : Int32).toInt64))
set_option maxRecDepth 65536 in
set_option maxHeartbeats 40000000 in
theorem own_rm2 (l : Launch) (Z : State) (a0 : Array Value) (hw : ∀ d ∈ tables_1, d.before a0 Z = true) (ws : List Jvm.Cond) (q1 : Int64) (q2 : Int64)  (h0 : Heap) (n0 : Nat) (Z0 : n0 ≤ h0.size) (hnz : q2 ≠ 0) :
    MetFree l (⟨"com/example/bentwire/bentwire/metainfo/Metainfo", "piecesFor", "(JJ)J"⟩ : MethodName) (head1 (Jvm.Cond.code (⟨"com/example/bentwire/bentwire/metainfo/Metainfo", "piecesFor", "(JJ)J"⟩ : MethodName) prog_24_method_13_code 4 (some .long) :: ws) ({ frames := 0, cells := 0, slots := 0, locals := 0 } : Room)) (fun a U => a = #[(.long q1), (.long q2)] ∧ Z.Warmed39 U.vm ∧ U.heap = h0) (fun _ _ _ _ _ => True) (fun _ U o U' => ∃ v L, o = .returned v ∧ own_Q2 Z q1 q2 h0 n0 v U'.heap L ∧ FrameEnd U o U' L ({ frames := 0, cells := 0, slots := 0, locals := 0 } : Room).cells ({ frames := 0, cells := 0, slots := 0, locals := 0 } : Room).slots) := by
  refine MetFree.of_bodySF (plainFor_of_name own_pn2) hisR ?_
  intro p e s m args below meth c s₁ Bd hml0 hP hK
  obtain ⟨rfl, hZ, hh⟩ := hP
  have hx := Bd.exec
  have hby := Bd.bytes
  have hml : c.maxLocals = 4 := hml0
  have hown : s.vm.findClass "com/example/bentwire/bentwire/metainfo/Metainfo" = some m.cls := findClass_of_methodNamed Bd.named
  have hnm := (name_of_methodNamed Bd.named Bd.method).1
  have X0 : Stand p l e ({ frames := 0, cells := 0, slots := 0, locals := 0 } : Room) s m #[(.long q1), (.long q2)] below meth c s₁ [] 0 0 := Stand.of_body Bd
  have e0 : s₁.heap = h0 := by rw [← hh, Bd.state]; rfl
  have N0 := Fr.nil n0
  show own_Fin p e below s (own_Q2 Z q1 q2 h0 n0) ({ frames := 0, cells := 0, slots := 0, locals := 0 } : Room).cells ({ frames := 0, cells := 0, slots := 0, locals := 0 } : Room).slots (s₁.setTop (entryFrame m #[(.long q1), (.long q2)] 4))
  refine own_go (s₁.setTop (mkF m 0 #[.val (.long q1), .second, .val (.long q2), .second] [])) (fun t k => castTop (own_ef2 m q1 q2) k) ?_
  refine own_go (s₁.setTop (mkF m 1 #[.val (.long q1), .second, .val (.long q2), .second] [(.long q1)])) (fun _ k => XS.lloadN X0.here hx rfl (hb hby d2_0) rfl k) ?_
  refine own_go (s₁.setTop (mkF m 2 #[.val (.long q1), .second, .val (.long q2), .second] [(.long q2), (.long q1)])) (fun _ k => XS.lloadN X0.here hx rfl (hb hby d2_1) rfl k) ?_
  refine own_go (s₁.setTop (mkF m 3 #[.val (.long q1), .second, .val (.long q2), .second] [(.long (q1 / q2))])) (fun _ k => XS.ldiv X0.here hx rfl (hb hby d2_2) rfl hnz k) ?_
  refine own_go (s₁.setTop (mkF m 4 #[.val (.long q1), .second, .val (.long q2), .second] [(.long q1), (.long (q1 / q2))])) (fun _ k => XS.lloadN X0.here hx rfl (hb hby d2_3) rfl k) ?_
  refine own_go (s₁.setTop (mkF m 5 #[.val (.long q1), .second, .val (.long q2), .second] [(.long q2), (.long q1), (.long (q1 / q2))])) (fun _ k => XS.lloadN X0.here hx rfl (hb hby d2_4) rfl k) ?_
  refine own_go (s₁.setTop (mkF m 6 #[.val (.long q1), .second, .val (.long q2), .second] [(.long (q1 - q1 / q2 * q2)), (.long (q1 / q2))])) (fun _ k => XS.lrem X0.here hx rfl (hb hby d2_5) rfl hnz k) ?_
  refine own_go (s₁.setTop (mkF m 7 #[.val (.long q1), .second, .val (.long q2), .second] [(.long (0 : Int64)), (.long (q1 - q1 / q2 * q2)), (.long (q1 / q2))])) (fun _ k => XS.lconst X0.here hx rfl (hb hby d2_6) k) ?_
  refine own_go (s₁.setTop (mkF m 8 #[.val (.long q1), .second, .val (.long q2), .second] [(.int (lcmpW (q1 - q1 / q2 * q2) (0 : Int64))), (.long (q1 / q2))])) (fun _ k => XS.lcmp X0.here hx rfl (hb hby d2_7) rfl k) ?_
  by_cases hc8 : (q1 - q1 / q2 * q2) = (0 : Int64)
  · have hz8 : (((q1 - q1 / q2 * q2)).toInt = 0) := own_zLeq hc8 rfl rfl
    refine own_go (s₁.setTop (mkF m 11 #[.val (.long q1), .second, .val (.long q2), .second] [(.long (q1 / q2))])) (fun _ k => XS.ifNo X0.here hx rfl (hb hby d2_8) rfl ((if0 _ _).trans (teq ((lw_eq (q1 - q1 / q2 * q2) (0 : Int64)).mpr hc8)).2) k) ?_
    refine own_go (s₁.setTop (mkF m 12 #[.val (.long q1), .second, .val (.long q2), .second] [(.int (0 : Int32)), (.long (q1 / q2))])) (fun _ k => XS.iconst X0.here hx rfl (hb hby d2_11) k) ?_
    refine own_go (s₁.setTop (mkF m 16 #[.val (.long q1), .second, .val (.long q2), .second] [(.int (0 : Int32)), (.long (q1 / q2))])) (fun _ k => XS.goto X0.here hx rfl (pc0 := 12) (pc' := 16) rfl (hb hby d2_12) (by decide) (by decide) k) ?_
    refine own_go (s₁.setTop (mkF m 17 #[.val (.long q1), .second, .val (.long q2), .second] [(.long ((0 : Int32).toInt64)), (.long (q1 / q2))])) (fun _ k => XS.i2l X0.here hx rfl (hb hby d2_16) rfl k) ?_
    refine own_go (s₁.setTop (mkF m 18 #[.val (.long q1), .second, .val (.long q2), .second] [(.long ((q1 / q2) + ((0 : Int32).toInt64)))])) (fun _ k => XS.ladd X0.here hx rfl (hb hby d2_17) rfl k) ?_
    refine own_ret X0 (BodyLoose.notSynchronized Bd) (some (.long ((q1 / q2) + ((0 : Int32).toInt64)))) (fun h => by rw [Bd.returns] at h; cases h) (fun fs hr => retOut X0 hx Bd.returns rfl (Or.inr (Or.inl ⟨rfl, rfl, _, rfl⟩)) (hb hby d2_18) hr) (by decide) (by decide) ?_
    exact ⟨_, rfl, N0, e0, by first | exact Or.inl ⟨hc8, rfl⟩ | exact Or.inr ⟨hc8, rfl⟩⟩
  · have hz8 : ¬ (((q1 - q1 / q2 * q2)).toInt = 0) := own_zLneq hc8 rfl rfl
    refine own_go (s₁.setTop (mkF m 15 #[.val (.long q1), .second, .val (.long q2), .second] [(.long (q1 / q2))])) (fun _ k => XS.ifYes X0.here hx rfl (pc0 := 8) (pc' := 15) rfl (hb hby d2_8) rfl ((if0 _ _).trans (feq (fun q => hc8 ((lw_eq (q1 - q1 / q2 * q2) (0 : Int64)).mp q))).2) (by decide) (by decide) k) ?_
    refine own_go (s₁.setTop (mkF m 16 #[.val (.long q1), .second, .val (.long q2), .second] [(.int (1 : Int32)), (.long (q1 / q2))])) (fun _ k => XS.iconst X0.here hx rfl (hb hby d2_15) k) ?_
    refine own_go (s₁.setTop (mkF m 17 #[.val (.long q1), .second, .val (.long q2), .second] [(.long ((1 : Int32).toInt64)), (.long (q1 / q2))])) (fun _ k => XS.i2l X0.here hx rfl (hb hby d2_16) rfl k) ?_
    refine own_go (s₁.setTop (mkF m 18 #[.val (.long q1), .second, .val (.long q2), .second] [(.long ((q1 / q2) + ((1 : Int32).toInt64)))])) (fun _ k => XS.ladd X0.here hx rfl (hb hby d2_17) rfl k) ?_
    refine own_ret X0 (BodyLoose.notSynchronized Bd) (some (.long ((q1 / q2) + ((1 : Int32).toInt64)))) (fun h => by rw [Bd.returns] at h; cases h) (fun fs hr => retOut X0 hx Bd.returns rfl (Or.inr (Or.inl ⟨rfl, rfl, _, rfl⟩)) (hb hby d2_18) hr) (by decide) (by decide) ?_
    exact ⟨_, rfl, N0, e0, by first | exact Or.inl ⟨hc8, rfl⟩ | exact Or.inr ⟨hc8, rfl⟩⟩
theorem d3_0 : decode method_2_code 0 = .ok (.lload_n 0, 1) := by decide +kernel
theorem d3_1 : decode method_2_code 1 = .ok (.lconst 0, 1) := by decide +kernel
theorem d3_2 : decode method_2_code 2 = .ok (.lcmp, 1) := by decide +kernel
theorem d3_3 : decode method_2_code 3 = .ok (.ifCond .ne 5, 3) := by decide +kernel
theorem d3_6 : decode method_2_code 6 = .ok (.lconst 0, 1) := by decide +kernel
theorem d3_7 : decode method_2_code 7 = .ok (.lreturn, 1) := by decide +kernel
theorem d3_8 : decode method_2_code 8 = .ok (.lload_n 0, 1) := by decide +kernel
theorem d3_9 : decode method_2_code 9 = .ok (.lconst 1, 1) := by decide +kernel
theorem d3_10 : decode method_2_code 10 = .ok (.lsub, 1) := by decide +kernel
theorem d3_11 : decode method_2_code 11 = .ok (.lload_n 2, 1) := by decide +kernel
theorem d3_12 : decode method_2_code 12 = .ok (.ldiv, 1) := by decide +kernel
theorem d3_13 : decode method_2_code 13 = .ok (.lconst 1, 1) := by decide +kernel
theorem d3_14 : decode method_2_code 14 = .ok (.ladd, 1) := by decide +kernel
theorem d3_15 : decode method_2_code 15 = .ok (.lreturn, 1) := by decide +kernel
theorem own_pn3 : plainName "com/example/bentwire/bentwire/metainfo/MetainfoPiecesForPinLaw" = true := by first | (simp [plainName, overriddenIn]; done) | decide +kernel
theorem own_ef3 (m : MethodId) (q1 : Int64) (q2 : Int64) : entryFrame m #[(.long q1), (.long q2)] 4 = (mkF m 0 #[.val (.long q1), .second, .val (.long q2), .second] []) := by first | (simp [entryFrame, mkF, argsToLocals, Value.category]; done) | rfl
def own_Q3 (Z : State) (q1 : Int64) (q2 : Int64)  (h0 : Heap) (n0 : Nat) (v : Option Value) (h : Heap) (L : List Loc) : Prop := ∃ w : Int64, v = some (.long w) ∧ Fr n0 L ∧ h = h0 ∧ ((q1 = 0 ∧ w = 0) ∨ (¬ q1 = 0 ∧ w = (q1 - 1) / q2 + 1))
set_option maxRecDepth 65536 in
set_option maxHeartbeats 40000000 in
theorem own_rm3 (l : Launch) (Z : State) (a0 : Array Value) (hw : ∀ d ∈ tables_1, d.before a0 Z = true) (ws : List Jvm.Cond) (q1 : Int64) (q2 : Int64)  (h0 : Heap) (n0 : Nat) (Z0 : n0 ≤ h0.size) (hnz : q2 ≠ 0) :
    MetFree l (⟨"com/example/bentwire/bentwire/metainfo/MetainfoPiecesForPinLaw", "ceilingReference", "(JJ)J"⟩ : MethodName) (head1 (Jvm.Cond.code (⟨"com/example/bentwire/bentwire/metainfo/MetainfoPiecesForPinLaw", "ceilingReference", "(JJ)J"⟩ : MethodName) method_2_code 4 (some .long) :: ws) ({ frames := 0, cells := 0, slots := 0, locals := 0 } : Room)) (fun a U => a = #[(.long q1), (.long q2)] ∧ Z.Warmed39 U.vm ∧ U.heap = h0) (fun _ _ _ _ _ => True) (fun _ U o U' => ∃ v L, o = .returned v ∧ own_Q3 Z q1 q2 h0 n0 v U'.heap L ∧ FrameEnd U o U' L ({ frames := 0, cells := 0, slots := 0, locals := 0 } : Room).cells ({ frames := 0, cells := 0, slots := 0, locals := 0 } : Room).slots) := by
  refine MetFree.of_bodySF (plainFor_of_name own_pn3) hisR ?_
  intro p e s m args below meth c s₁ Bd hml0 hP hK
  obtain ⟨rfl, hZ, hh⟩ := hP
  have hx := Bd.exec
  have hby := Bd.bytes
  have hml : c.maxLocals = 4 := hml0
  have hown : s.vm.findClass "com/example/bentwire/bentwire/metainfo/MetainfoPiecesForPinLaw" = some m.cls := findClass_of_methodNamed Bd.named
  have hnm := (name_of_methodNamed Bd.named Bd.method).1
  have X0 : Stand p l e ({ frames := 0, cells := 0, slots := 0, locals := 0 } : Room) s m #[(.long q1), (.long q2)] below meth c s₁ [] 0 0 := Stand.of_body Bd
  have e0 : s₁.heap = h0 := by rw [← hh, Bd.state]; rfl
  have N0 := Fr.nil n0
  show own_Fin p e below s (own_Q3 Z q1 q2 h0 n0) ({ frames := 0, cells := 0, slots := 0, locals := 0 } : Room).cells ({ frames := 0, cells := 0, slots := 0, locals := 0 } : Room).slots (s₁.setTop (entryFrame m #[(.long q1), (.long q2)] 4))
  refine own_go (s₁.setTop (mkF m 0 #[.val (.long q1), .second, .val (.long q2), .second] [])) (fun t k => castTop (own_ef3 m q1 q2) k) ?_
  refine own_go (s₁.setTop (mkF m 1 #[.val (.long q1), .second, .val (.long q2), .second] [(.long q1)])) (fun _ k => XS.lloadN X0.here hx rfl (hb hby d3_0) rfl k) ?_
  refine own_go (s₁.setTop (mkF m 2 #[.val (.long q1), .second, .val (.long q2), .second] [(.long (0 : Int64)), (.long q1)])) (fun _ k => XS.lconst X0.here hx rfl (hb hby d3_1) k) ?_
  refine own_go (s₁.setTop (mkF m 3 #[.val (.long q1), .second, .val (.long q2), .second] [(.int (lcmpW q1 (0 : Int64)))])) (fun _ k => XS.lcmp X0.here hx rfl (hb hby d3_2) rfl k) ?_
  by_cases hc3 : q1 = (0 : Int64)
  · have hz3 : ((q1).toInt = 0) := own_zLeq hc3 rfl rfl
    refine own_go (s₁.setTop (mkF m 6 #[.val (.long q1), .second, .val (.long q2), .second] [])) (fun _ k => XS.ifNo X0.here hx rfl (hb hby d3_3) rfl ((if0 _ _).trans (teq ((lw_eq q1 (0 : Int64)).mpr hc3)).2) k) ?_
    refine own_go (s₁.setTop (mkF m 7 #[.val (.long q1), .second, .val (.long q2), .second] [(.long (0 : Int64))])) (fun _ k => XS.lconst X0.here hx rfl (hb hby d3_6) k) ?_
    refine own_ret X0 (BodyLoose.notSynchronized Bd) (some (.long (0 : Int64))) (fun h => by rw [Bd.returns] at h; cases h) (fun fs hr => retOut X0 hx Bd.returns rfl (Or.inr (Or.inl ⟨rfl, rfl, _, rfl⟩)) (hb hby d3_7) hr) (by decide) (by decide) ?_
    exact ⟨_, rfl, N0, e0, by first | exact Or.inl ⟨hc3, rfl⟩ | exact Or.inr ⟨hc3, rfl⟩⟩
  · have hz3 : ¬ ((q1).toInt = 0) := own_zLneq hc3 rfl rfl
    refine own_go (s₁.setTop (mkF m 8 #[.val (.long q1), .second, .val (.long q2), .second] [])) (fun _ k => XS.ifYes X0.here hx rfl (pc0 := 3) (pc' := 8) rfl (hb hby d3_3) rfl ((if0 _ _).trans (feq (fun q => hc3 ((lw_eq q1 (0 : Int64)).mp q))).2) (by decide) (by decide) k) ?_
    refine own_go (s₁.setTop (mkF m 9 #[.val (.long q1), .second, .val (.long q2), .second] [(.long q1)])) (fun _ k => XS.lloadN X0.here hx rfl (hb hby d3_8) rfl k) ?_
    refine own_go (s₁.setTop (mkF m 10 #[.val (.long q1), .second, .val (.long q2), .second] [(.long (1 : Int64)), (.long q1)])) (fun _ k => XS.lconst X0.here hx rfl (hb hby d3_9) k) ?_
    refine own_go (s₁.setTop (mkF m 11 #[.val (.long q1), .second, .val (.long q2), .second] [(.long (q1 - (1 : Int64)))])) (fun _ k => XS.lsub X0.here hx rfl (hb hby d3_10) rfl k) ?_
    refine own_go (s₁.setTop (mkF m 12 #[.val (.long q1), .second, .val (.long q2), .second] [(.long q2), (.long (q1 - (1 : Int64)))])) (fun _ k => XS.lloadN X0.here hx rfl (hb hby d3_11) rfl k) ?_
    refine own_go (s₁.setTop (mkF m 13 #[.val (.long q1), .second, .val (.long q2), .second] [(.long ((q1 - (1 : Int64)) / q2))])) (fun _ k => XS.ldiv X0.here hx rfl (hb hby d3_12) rfl hnz k) ?_
    refine own_go (s₁.setTop (mkF m 14 #[.val (.long q1), .second, .val (.long q2), .second] [(.long (1 : Int64)), (.long ((q1 - (1 : Int64)) / q2))])) (fun _ k => XS.lconst X0.here hx rfl (hb hby d3_13) k) ?_
    refine own_go (s₁.setTop (mkF m 15 #[.val (.long q1), .second, .val (.long q2), .second] [(.long (((q1 - (1 : Int64)) / q2) + (1 : Int64)))])) (fun _ k => XS.ladd X0.here hx rfl (hb hby d3_14) rfl k) ?_
    refine own_ret X0 (BodyLoose.notSynchronized Bd) (some (.long (((q1 - (1 : Int64)) / q2) + (1 : Int64)))) (fun h => by rw [Bd.returns] at h; cases h) (fun fs hr => retOut X0 hx Bd.returns rfl (Or.inr (Or.inl ⟨rfl, rfl, _, rfl⟩)) (hb hby d3_15) hr) (by decide) (by decide) ?_
    exact ⟨_, rfl, N0, e0, by first | exact Or.inl ⟨hc3, rfl⟩ | exact Or.inr ⟨hc3, rfl⟩⟩
theorem own_pn0 : plainName "com/example/bentwire/bentwire/metainfo/MetainfoPiecesForPinLaw" = true := by first | (simp [plainName, overriddenIn]; done) | decide +kernel
theorem own_ef0 (m : MethodId) (q1 : Int64) (q2 : Int64) : entryFrame m #[(.long q1), (.long q2)] maxLocals = (mkF m 0 #[.val (.long q1), .second, .val (.long q2), .second, .unset, .unset, .unset, .unset, .unset, .unset] []) := by first | (simp [entryFrame, mkF, argsToLocals, Value.category, maxLocals]; done) | rfl
def own_Q0 (Z : State) (q1 : Int64) (q2 : Int64)  (h0 : Heap) (n0 : Nat) (v : Option Value) (h : Heap) (L : List Loc) : Prop := v = some (.int (1 : Int32)) ∧ Fr n0 L
set_option maxRecDepth 65536 in
set_option maxHeartbeats 40000000 in
theorem own_rm0 (l : Launch) (Z : State) (a0 : Array Value) (hw : ∀ d ∈ tables_1, d.before a0 Z = true) (ws : List Jvm.Cond) (q1 : Int64) (q2 : Int64)  (h0 : Heap) (n0 : Nat) (Z0 : n0 ≤ h0.size) :
    MetFree l x (head1 (Jvm.Cond.code x code maxLocals ret :: ws) room_1) (fun a U => a = #[(.long q1), (.long q2)] ∧ Z.Warmed39 U.vm ∧ U.heap = h0) (fun _ _ _ _ _ => True) (fun _ U o U' => ∃ v L, o = .returned v ∧ own_Q0 Z q1 q2 h0 n0 v U'.heap L ∧ FrameEnd U o U' L room_1.cells room_1.slots) := by
  refine MetFree.of_bodySF (plainFor_of_name own_pn0) hisR ?_
  intro p e s m args below meth c s₁ Bd hml0 hP hK
  obtain ⟨rfl, hZ, hh⟩ := hP
  have hx := Bd.exec
  have hby := Bd.bytes
  have hml : c.maxLocals = 10 := hml0
  have hown : s.vm.findClass "com/example/bentwire/bentwire/metainfo/MetainfoPiecesForPinLaw" = some m.cls := findClass_of_methodNamed Bd.named
  have hnm := (name_of_methodNamed Bd.named Bd.method).1
  have X0 : Stand p l e room_1 s m #[(.long q1), (.long q2)] below meth c s₁ [] 0 0 := Stand.of_body Bd
  have e0 : s₁.heap = h0 := by rw [← hh, Bd.state]; rfl
  have N0 := Fr.nil n0
  have ht : 0 ≤ (q1 &&& (9223372036854775807 : Int64)).toInt := by rw [c_maskL q1 9223372036854775807 63 (by decide) (by decide)]; omega
  show own_Fin p e below s (own_Q0 Z q1 q2 h0 n0) room_1.cells room_1.slots (s₁.setTop (entryFrame m #[(.long q1), (.long q2)] maxLocals))
  refine own_go (s₁.setTop (mkF m 0 #[.val (.long q1), .second, .val (.long q2), .second, .unset, .unset, .unset, .unset, .unset, .unset] [])) (fun t k => castTop (own_ef0 m q1 q2) k) ?_
  refine own_go (s₁.setTop (mkF m 1 #[.val (.long q1), .second, .val (.long q2), .second, .unset, .unset, .unset, .unset, .unset, .unset] [(.long q1)])) (fun _ k => XS.lloadN X0.here hx rfl (hb hby at_0) rfl k) ?_
  refine own_go (s₁.setTop (mkF m 4 #[.val (.long q1), .second, .val (.long q2), .second, .unset, .unset, .unset, .unset, .unset, .unset] [(.long (9223372036854775807 : Int64)), (.long q1)])) (fun _ k => X0.ldc2Long hx hown (mvT hZ (hw _ (List.mem_of_getElem? (i := 0) rfl))) (g := (mkF m 1 #[.val (.long q1), .second, .val (.long q2), .second, .unset, .unset, .unset, .unset, .unset, .unset] [(.long q1)])) rfl (hb hby at_1) _ k) ?_
  refine own_go (s₁.setTop (mkF m 5 #[.val (.long q1), .second, .val (.long q2), .second, .unset, .unset, .unset, .unset, .unset, .unset] [(.long (q1 &&& (9223372036854775807 : Int64)))])) (fun _ k => XS.land X0.here hx rfl (hb hby at_4) rfl k) ?_
  refine own_go (s₁.setTop (mkF m 7 #[.val (.long q1), .second, .val (.long q2), .second, .val (.long (q1 &&& (9223372036854775807 : Int64))), .second, .unset, .unset, .unset, .unset] [])) (fun _ k => XS.lstore X0.here hx rfl (hb hby at_5) rfl (l' := #[.val (.long q1), .second, .val (.long q2), .second, .val (.long (q1 &&& (9223372036854775807 : Int64))), .second, .unset, .unset, .unset, .unset]) rfl k) ?_
  refine own_go (s₁.setTop (mkF m 8 #[.val (.long q1), .second, .val (.long q2), .second, .val (.long (q1 &&& (9223372036854775807 : Int64))), .second, .unset, .unset, .unset, .unset] [(.long (1 : Int64))])) (fun _ k => XS.lconst X0.here hx rfl (hb hby at_7) k) ?_
  refine own_go (s₁.setTop (mkF m 9 #[.val (.long q1), .second, .val (.long q2), .second, .val (.long (q1 &&& (9223372036854775807 : Int64))), .second, .unset, .unset, .unset, .unset] [(.long q2), (.long (1 : Int64))])) (fun _ k => XS.lloadN X0.here hx rfl (hb hby at_8) rfl k) ?_
  refine own_go (s₁.setTop (mkF m 12 #[.val (.long q1), .second, .val (.long q2), .second, .val (.long (q1 &&& (9223372036854775807 : Int64))), .second, .unset, .unset, .unset, .unset] [(.long (9223372036854775807 : Int64)), (.long q2), (.long (1 : Int64))])) (fun _ k => X0.ldc2Long hx hown (mvT hZ (hw _ (List.mem_of_getElem? (i := 0) rfl))) (g := (mkF m 9 #[.val (.long q1), .second, .val (.long q2), .second, .val (.long (q1 &&& (9223372036854775807 : Int64))), .second, .unset, .unset, .unset, .unset] [(.long q2), (.long (1 : Int64))])) rfl (hb hby at_9) _ k) ?_
  refine own_go (s₁.setTop (mkF m 13 #[.val (.long q1), .second, .val (.long q2), .second, .val (.long (q1 &&& (9223372036854775807 : Int64))), .second, .unset, .unset, .unset, .unset] [(.long (q2 &&& (9223372036854775807 : Int64))), (.long (1 : Int64))])) (fun _ k => XS.land X0.here hx rfl (hb hby at_12) rfl k) ?_
  obtain ⟨_, _, ⟨T1, L1, k1, n1⟩, -, X1, ⟨Lc1, hQ1, l1, y1, z1⟩, st1⟩ := Jvm.LawKit.callS X0 hx (y := (⟨"java/lang/Math", "max", "(JJ)J"⟩ : MethodName)) hown (mvT hZ (hw _ (List.mem_of_getElem? (i := 1) rfl))) (mvT hZ (hw _ (List.mem_of_getElem? (i := 2) rfl))) (mvT hZ (hw _ (List.mem_of_getElem? (i := 3) rfl))) (mvT hZ (hw _ (List.mem_of_getElem? (i := 4) rfl))) (by decide) (backOf (W := 0) (own_rm1 l Z a0 hw [] (1 : Int64) (q2 &&& (9223372036854775807 : Int64)) h0 n0 Z0) hZ (hw _ (List.mem_of_getElem? (i := 4) rfl)) (hw _ (List.mem_of_getElem? (i := 3) rfl)) (by decide) (by decide)) (g := (mkF m 13 #[.val (.long q1), .second, .val (.long q2), .second, .val (.long (q1 &&& (9223372036854775807 : Int64))), .second, .unset, .unset, .unset, .unset] [(.long (q2 &&& (9223372036854775807 : Int64))), (.long (1 : Int64))])) rfl (by rw [hml]; rfl) (argsL := [(.long (1 : Int64)), (.long (q2 &&& (9223372036854775807 : Int64)))]) (rest := []) (lenOf own_pd0 rfl) rfl (by show 2 * 0 + _ ≤ _; exact Nat.le_of_eq rfl) (hb hby at_13) (fun _ _ => ⟨rfl, e0, (by decide : 0 + 0 ≤ _), (by decide : 0 + 0 ≤ _)⟩)
  dsimp only [Pt.U, Pt.locs, Pt.cells, Pt.slots] at X1 l1 y1 z1 st1 hQ1
  subst l1 y1 z1
  obtain ⟨w1, rfl, N1q, e1, B1⟩ := hQ1
  have N1 := Fr.app N0 N1q
  have hp1 : 1 ≤ w1.toInt := by rcases B1 with ⟨f, rfl⟩ | ⟨f, rfl⟩ <;> (have : (1 : Int64).toInt = 1 := rfl) <;> omega
  have hnz : w1 ≠ 0 := fun q => by rw [q] at hp1; exact absurd hp1 (by decide)
  refine own_go (T1.setTop (mkF m 16 #[.val (.long q1), .second, .val (.long q2), .second, .val (.long (q1 &&& (9223372036854775807 : Int64))), .second, .unset, .unset, .unset, .unset] [(.long w1)])) (fun _ k => st1 _ k) ?_
  refine own_go (T1.setTop (mkF m 18 #[.val (.long q1), .second, .val (.long q2), .second, .val (.long (q1 &&& (9223372036854775807 : Int64))), .second, .val (.long w1), .second, .unset, .unset] [])) (fun _ k => XS.lstore X1.here hx rfl (hb hby at_16) rfl (l' := #[.val (.long q1), .second, .val (.long q2), .second, .val (.long (q1 &&& (9223372036854775807 : Int64))), .second, .val (.long w1), .second, .unset, .unset]) rfl k) ?_
  refine own_go (T1.setTop (mkF m 20 #[.val (.long q1), .second, .val (.long q2), .second, .val (.long (q1 &&& (9223372036854775807 : Int64))), .second, .val (.long w1), .second, .unset, .unset] [(.long (q1 &&& (9223372036854775807 : Int64)))])) (fun _ k => XS.lload X1.here hx rfl (hb hby at_18) rfl k) ?_
  refine own_go (T1.setTop (mkF m 22 #[.val (.long q1), .second, .val (.long q2), .second, .val (.long (q1 &&& (9223372036854775807 : Int64))), .second, .val (.long w1), .second, .unset, .unset] [(.long w1), (.long (q1 &&& (9223372036854775807 : Int64)))])) (fun _ k => XS.lload X1.here hx rfl (hb hby at_20) rfl k) ?_
  obtain ⟨_, _, ⟨T2, L2, k2, n2⟩, -, X2, ⟨Lc2, hQ2, l2, y2, z2⟩, st2⟩ := Jvm.LawKit.callS X1 hx (y := (⟨"com/example/bentwire/bentwire/metainfo/Metainfo", "piecesFor", "(JJ)J"⟩ : MethodName)) hown (mvT hZ (hw _ (List.mem_of_getElem? (i := 5) rfl))) (mvT hZ (hw _ (List.mem_of_getElem? (i := 6) rfl))) (mvT hZ (hw _ (List.mem_of_getElem? (i := 7) rfl))) (mvT hZ (hw _ (List.mem_of_getElem? (i := 8) rfl))) (by decide) (backOf (W := 0) (own_rm2 l Z a0 hw [] (q1 &&& (9223372036854775807 : Int64)) w1 h0 n0 Z0 hnz) hZ (hw _ (List.mem_of_getElem? (i := 8) rfl)) (hw _ (List.mem_of_getElem? (i := 7) rfl)) (by decide) (by decide)) (g := (mkF m 22 #[.val (.long q1), .second, .val (.long q2), .second, .val (.long (q1 &&& (9223372036854775807 : Int64))), .second, .val (.long w1), .second, .unset, .unset] [(.long w1), (.long (q1 &&& (9223372036854775807 : Int64)))])) rfl (by rw [hml]; rfl) (argsL := [(.long (q1 &&& (9223372036854775807 : Int64))), (.long w1)]) (rest := []) (lenOf own_pd0 rfl) rfl (by show 2 * 0 + _ ≤ _; exact Nat.le_of_eq rfl) (hb hby at_22) (fun _ _ => ⟨rfl, e1, (by decide : 0 + 0 ≤ _), (by decide : 0 + 0 ≤ _)⟩)
  dsimp only [Pt.U, Pt.locs, Pt.cells, Pt.slots] at X2 l2 y2 z2 st2 hQ2
  subst l2 y2 z2
  obtain ⟨w2, rfl, N2q, e2, B2⟩ := hQ2
  have N2 := Fr.app N1 N2q
  refine own_go (T2.setTop (mkF m 25 #[.val (.long q1), .second, .val (.long q2), .second, .val (.long (q1 &&& (9223372036854775807 : Int64))), .second, .val (.long w1), .second, .unset, .unset] [(.long w2)])) (fun _ k => st2 _ k) ?_
  refine own_go (T2.setTop (mkF m 27 #[.val (.long q1), .second, .val (.long q2), .second, .val (.long (q1 &&& (9223372036854775807 : Int64))), .second, .val (.long w1), .second, .val (.long w2), .second] [])) (fun _ k => XS.lstore X2.here hx rfl (hb hby at_25) rfl (l' := #[.val (.long q1), .second, .val (.long q2), .second, .val (.long (q1 &&& (9223372036854775807 : Int64))), .second, .val (.long w1), .second, .val (.long w2), .second]) rfl k) ?_
  refine own_go (T2.setTop (mkF m 29 #[.val (.long q1), .second, .val (.long q2), .second, .val (.long (q1 &&& (9223372036854775807 : Int64))), .second, .val (.long w1), .second, .val (.long w2), .second] [(.long w2)])) (fun _ k => XS.lload X2.here hx rfl (hb hby at_27) rfl k) ?_
  refine own_go (T2.setTop (mkF m 31 #[.val (.long q1), .second, .val (.long q2), .second, .val (.long (q1 &&& (9223372036854775807 : Int64))), .second, .val (.long w1), .second, .val (.long w2), .second] [(.long (q1 &&& (9223372036854775807 : Int64))), (.long w2)])) (fun _ k => XS.lload X2.here hx rfl (hb hby at_29) rfl k) ?_
  refine own_go (T2.setTop (mkF m 33 #[.val (.long q1), .second, .val (.long q2), .second, .val (.long (q1 &&& (9223372036854775807 : Int64))), .second, .val (.long w1), .second, .val (.long w2), .second] [(.long w1), (.long (q1 &&& (9223372036854775807 : Int64))), (.long w2)])) (fun _ k => XS.lload X2.here hx rfl (hb hby at_31) rfl k) ?_
  obtain ⟨_, _, ⟨T3, L3, k3, n3⟩, -, X3, ⟨Lc3, hQ3, l3, y3, z3⟩, st3⟩ := Jvm.LawKit.callS X2 hx (y := (⟨"com/example/bentwire/bentwire/metainfo/MetainfoPiecesForPinLaw", "ceilingReference", "(JJ)J"⟩ : MethodName)) hown (mvT hZ (hw _ (List.mem_of_getElem? (i := 9) rfl))) (mvT hZ (hw _ (List.mem_of_getElem? (i := 10) rfl))) (mvT hZ (hw _ (List.mem_of_getElem? (i := 11) rfl))) (mvT hZ (hw _ (List.mem_of_getElem? (i := 12) rfl))) (by decide) (backOf (W := 2) (own_rm3 l Z a0 hw [] (q1 &&& (9223372036854775807 : Int64)) w1 h0 n0 Z0 hnz) hZ (hw _ (List.mem_of_getElem? (i := 12) rfl)) (hw _ (List.mem_of_getElem? (i := 11) rfl)) (by decide) (by decide)) (g := (mkF m 33 #[.val (.long q1), .second, .val (.long q2), .second, .val (.long (q1 &&& (9223372036854775807 : Int64))), .second, .val (.long w1), .second, .val (.long w2), .second] [(.long w1), (.long (q1 &&& (9223372036854775807 : Int64))), (.long w2)])) rfl (by rw [hml]; rfl) (argsL := [(.long (q1 &&& (9223372036854775807 : Int64))), (.long w1)]) (rest := [(.long w2)]) (lenOf own_pd0 rfl) rfl (by show 2 * 0 + _ ≤ _; exact Nat.le_of_eq rfl) (hb hby at_33) (fun _ _ => ⟨rfl, e2, (by decide : 0 + 0 ≤ _), (by decide : 0 + 0 ≤ _)⟩)
  dsimp only [Pt.U, Pt.locs, Pt.cells, Pt.slots] at X3 l3 y3 z3 st3 hQ3
  subst l3 y3 z3
  obtain ⟨w3, rfl, N3q, e3, B3⟩ := hQ3
  have N3 := Fr.app N2 N3q
  refine own_go (T3.setTop (mkF m 36 #[.val (.long q1), .second, .val (.long q2), .second, .val (.long (q1 &&& (9223372036854775807 : Int64))), .second, .val (.long w1), .second, .val (.long w2), .second] [(.long w3), (.long w2)])) (fun _ k => st3 _ k) ?_
  refine own_go (T3.setTop (mkF m 37 #[.val (.long q1), .second, .val (.long q2), .second, .val (.long (q1 &&& (9223372036854775807 : Int64))), .second, .val (.long w1), .second, .val (.long w2), .second] [(.int (lcmpW w2 w3))])) (fun _ k => XS.lcmp X3.here hx rfl (hb hby at_36) rfl k) ?_
  by_cases hc37 : w2 = w3
  · have hz37 : ((w2).toInt = (w3).toInt) := own_zLeq hc37 rfl rfl
    refine own_go (T3.setTop (mkF m 40 #[.val (.long q1), .second, .val (.long q2), .second, .val (.long (q1 &&& (9223372036854775807 : Int64))), .second, .val (.long w1), .second, .val (.long w2), .second] [])) (fun _ k => XS.ifNo X3.here hx rfl (hb hby at_37) rfl ((if0 _ _).trans (teq ((lw_eq w2 w3).mpr hc37)).2) k) ?_
    refine own_go (T3.setTop (mkF m 41 #[.val (.long q1), .second, .val (.long q2), .second, .val (.long (q1 &&& (9223372036854775807 : Int64))), .second, .val (.long w1), .second, .val (.long w2), .second] [(.int (1 : Int32))])) (fun _ k => XS.iconst X3.here hx rfl (hb hby at_40) k) ?_
    refine own_go (T3.setTop (mkF m 45 #[.val (.long q1), .second, .val (.long q2), .second, .val (.long (q1 &&& (9223372036854775807 : Int64))), .second, .val (.long w1), .second, .val (.long w2), .second] [(.int (1 : Int32))])) (fun _ k => XS.goto X3.here hx rfl (pc0 := 41) (pc' := 45) rfl (hb hby at_41) (by decide) (by decide) k) ?_
    refine own_ret X3 (BodyLoose.notSynchronized Bd) (some (.int (1 : Int32))) (fun h => by rw [Bd.returns] at h; cases h) (fun fs hr => retN X3 hx (t := .boolean) Bd.returns (by simp) (hb hby at_45) hr) (by decide) (by decide) ?_
    exact ⟨rfl, N3⟩
  · have hz37 : ¬ ((w2).toInt = (w3).toInt) := own_zLneq hc37 rfl rfl
    exact absurd (own_law (q1 &&& (9223372036854775807 : Int64)) w1 w2 w3 ht hp1 B2 B3) hc37
set_option maxRecDepth 65536 in
set_option maxHeartbeats 40000000 in
theorem own_comes {Post : Tables → Env → Array Value → State → Outcome → State → Prop} (hpost : ∀ tb e args s v u, (limb_1_1.after args s (.returned v) u = true ∧ limb_1_2.after args s (.returned v) u = true ∧ True) → FrameEnd s (.returned v) u (Jvm.fieldLocs frame_1_writes args s ++ Jvm.arrayLocs frame_1_arrays args s ++ Jvm.staticLocs frame_1_statics s) 0 0 → Post tb e args s (.returned v) u) :
    ArmFor flags0 classFile x code maxLocals ret World_1 tables_1 room_1 Calls_1 rest_1 Pre_1 Post := by
  intro l hfl _ _ p e ha hc hk s m args below hf hA hF happ hP
  obtain ⟨hcalls, hrest, hpre⟩ := hP
  obtain ⟨-, -, -, hnamed, -, -, -, hat⟩ := (Spec.applies_iff hf).mp happ
  obtain ⟨hg, hn⟩ := and_e (Cond.before_iff.mp (show (Jvm.Cond.and given_1 narrow_1).before args s = true from hpre))
  obtain ⟨hq0, hr0⟩ := and_e hg
  obtain ⟨hq1, hr1⟩ := and_e hr0
  obtain ⟨w0, w1, rfl⟩ : ∃ w0 w1 : Value, args = #[w0, w1] := by
    have hs : args.size = 2 := by simpa [Cond.value, given_1] using hq0
    obtain ⟨L⟩ := args
    match L, hs with
    | [w0, w1], _ => exact ⟨w0, w1, rfl⟩
  have hw := fun d (hd : d ∈ tables_1) => atoms_spec (ws := Jvm.Cond.code x code maxLocals ret :: tables_1) hat d (List.mem_cons_of_mem _ hd)
  have hfit : Fit s := fun {y c} hc i hi => by
    obtain ⟨ha, rfl⟩ := Array.getElem?_eq_some_iff.mp hc
    have q := List.all_eq_true.mp ((Array.all_eq_true_iff_forall_mem.mp hF) _ (Array.getElem_mem ha)) i (List.mem_range.mpr hi)
    simpa [Array.getElem?_eq_getElem hi] using q
  obtain ⟨i0, ei0⟩ := isL_v hq1
  obtain rfl : w0 = (.long i0) := Option.some.inj ei0
  obtain ⟨i1, ei1⟩ := isL_v hr1
  obtain rfl : w1 = (.long i1) := Option.some.inj ei1
  obtain ⟨n, o, h1, h2, h3, _, L, rfl, ⟨rfl, N⟩, hq⟩ := own_rm0 l s _ hw tables_1 i0 i1 s.heap s.heap.size (Nat.le_refl _) p e ha hc hk s m _ below hf ((Spec.applies_iff_loose hf).mp happ).1 ⟨rfl, State.Warmed39.refl s, rfl⟩ trivial
  refine ⟨n, _, h1, h2, h3, hpost _ _ _ _ _ _ ⟨Cond.after_iff.mpr rfl, Cond.after_iff.mpr (eq_i res_at (Term.int_eval (1)) rfl), trivial⟩ ⟨hq.1, hq.2.1, (hq.2.2.sift fun y hy => Or.inr (N y hy)).mono (by decide) (by decide)⟩⟩
theorem main_1_1 : Claimed_1_1 := own_comes fun _ _ _ _ _ _ h hF => ⟨h.1, hF⟩
theorem main_1_2 : Claimed_1_2 := own_comes fun _ _ _ _ _ _ h hF => ⟨h.2.1, hF⟩
end Jvm.Pilot.@@N@@
namespace Jvm.Pilot.@@N@@
open Jvm Jvm.ClassFile Sem Op Lib Jvm.Free Jvm.Stand Jvm.Pilot.@@N@@.Jvm.D
/-! MADE BY PROGRAM (witnessworld.py) out of the Statement's table words and the real class files: 10 classes; the members and pool entries that the words name. The judged class is class 1, her method 2. -/
namespace start1
open Jvm.ClassFile
def u (s : String) : CpInfo := .utf8 (stringToUtf16 s)
/-- a pool by its gaps: so many unusable entries, then the entry; so many at the end -/
def gap : Nat → List CpInfo → List CpInfo
  | 0, r => r
  | n + 1, r => .unusable :: gap n r
def poolList (es : List (Nat × CpInfo)) (last : Nat) : List CpInfo := es.foldr (fun e r => gap e.1 (e.2 :: r)) (gap last [])
def pool (es : List (Nat × CpInfo)) (last : Nat) : Array CpInfo := ⟨poolList es last⟩
def fileOf (pool : Array CpInfo) (this : Nat) (attrs : Array Attribute := #[]) (ms : Array MethodInfo := #[]) (fl : Nat := 33) (sup : Nat := 0) (ifs : Array Nat := #[]) (fds : Array FieldInfo := #[]) : ClassFile where
  minorVersion := 0
  majorVersion := 65
  constantPool := pool
  accessFlags := fl
  thisClass := this
  superClass := sup
  interfaces := ifs
  fields := fds
  methods := ms
  attributes := attrs
def plain (name : String) (sup : Option ClassId) : Class where
  name := name
  kind := .ordinary
  loader := none
  accessFlags := 33
  super := sup
  interfaces := #[]
  cf := none
  fields := #[]
  methods := #[]
  instanceTypes := #[]
  staticTypes := #[]
  resolved := #[]
  callSites := []
  init := .initialized
  statics := none
  mirror := none

def pool0 : Array CpInfo := pool [(5, u "<init>"), (0, u "()V"), (1, .class_ 10), (1, u "java/lang/Object")] 113

def k0m0 : Method := { name := "<init>", desc := "()V", sig := { parameters := [], returnType := none }, accessFlags := 1, code := none }
/-- java/lang/Object -/
def k0 : Class := { plain "java/lang/Object" none with
  accessFlags := 33
  interfaces := #[]
  cf := some (fileOf pool0 8 #[] #[{ accessFlags := 1, nameIndex := 5, descriptorIndex := 6, attributes := #[] }] 33 0 #[] #[])
  fields := #[]
  methods := #[k0m0]
  instanceTypes := #[]
  staticTypes := #[]
  resolved := Array.replicate 124 none
  statics := none }

def pool1 : Array CpInfo := pool [(2, .class_ 4), (1, u "java/lang/Object"), (0, u "<init>"), (0, u "()V"), (2, .long 9223372036854775807), (1, .methodref 12 13), (0, .class_ 14), (0, .nameAndType 15 16), (0, u "java/lang/Math"), (0, u "max"), (0, u "(JJ)J"), (0, .methodref 18 19), (0, .class_ 20), (0, .nameAndType 21 16), (0, u "com/example/bentwire/bentwire/metainfo/Metainfo"), (0, u "piecesFor"), (0, .methodref 23 24), (0, .class_ 25), (0, .nameAndType 26 16), (0, u "com/example/bentwire/bentwire/metainfo/MetainfoPiecesForPinLaw"), (0, u "ceilingReference"), (3, u "law"), (0, u "(JJ)Z")] 2

def k1m0 : Method := { name := "<init>", desc := "()V", sig := { parameters := [], returnType := none }, accessFlags := 2, code := none }
def k1c1 : Code := { maxStack := 4, maxLocals := 4, code := method_2_code, exceptionTable := #[], attributes := #[] }
def k1m1 : Method := { name := "ceilingReference", desc := "(JJ)J", sig := { parameters := [.long, .long], returnType := some .long }, accessFlags := 10, code := some k1c1 }
def k1c2 : Code := { maxStack := 6, maxLocals := 10, code := code, exceptionTable := #[], attributes := #[] }
def k1m2 : Method := { name := "law", desc := "(JJ)Z", sig := { parameters := [.long, .long], returnType := some .boolean }, accessFlags := 9, code := some k1c2 }
/-- com/example/bentwire/bentwire/metainfo/MetainfoPiecesForPinLaw -/
def k1 : Class := { plain "com/example/bentwire/bentwire/metainfo/MetainfoPiecesForPinLaw" (some 0) with
  accessFlags := 49
  interfaces := #[]
  cf := some (fileOf pool1 23 #[] #[{ accessFlags := 2, nameIndex := 5, descriptorIndex := 6, attributes := #[] }, { accessFlags := 10, nameIndex := 26, descriptorIndex := 16, attributes := #[] }, { accessFlags := 9, nameIndex := 30, descriptorIndex := 31, attributes := #[] }] 49 2 #[] #[])
  fields := #[]
  methods := #[k1m0, k1m1, k1m2]
  instanceTypes := #[]
  staticTypes := #[]
  resolved := Array.replicate 34 none
  statics := none }

def pool2 : Array CpInfo := pool [(1, .class_ 2), (0, u "java/lang/Math"), (1, .class_ 6), (1, u "java/lang/Object"), (0, u "<init>"), (0, u "()V"), (89, .class_ 100), (1, u "java/lang/Math$RandomNumberGeneratorHolder"), (20, u "(JJ)J"), (50, u "negativeZeroFloatBits"), (0, u "J"), (2, u "negativeZeroDoubleBits"), (21, u "max"), (46, u "$assertionsDisabled"), (0, u "Z"), (91, u "twoToTheDoubleScaleDown"), (0, u "D"), (4, u "twoToTheDoubleScaleUp"), (9, u "E"), (3, u "PI"), (2, u "TAU"), (2, u "DEGREES_TO_RADIANS"), (0, u "RADIANS_TO_DEGREES")] 94

def k2m0 : Method := { name := "<init>", desc := "()V", sig := { parameters := [], returnType := none }, accessFlags := 2, code := none }
def k2c1 : Code := { maxStack := 4, maxLocals := 4, code := jdk_29_method_66_code, exceptionTable := #[], attributes := #[] }
def k2m1 : Method := { name := "max", desc := "(JJ)J", sig := { parameters := [.long, .long], returnType := some .long }, accessFlags := 9, code := some k2c1 }
/-- java/lang/Math -/
def k2 : Class := { plain "java/lang/Math" (some 0) with
  accessFlags := 49
  interfaces := #[]
  cf := some (fileOf pool2 1 #[.nestMembers #[98]] #[{ accessFlags := 2, nameIndex := 7, descriptorIndex := 8, attributes := #[] }, { accessFlags := 9, nameIndex := 198, descriptorIndex := 121, attributes := #[] }] 49 4 #[] #[{ accessFlags := 25, nameIndex := 354, descriptorIndex := 339, attributes := #[] }, { accessFlags := 25, nameIndex := 358, descriptorIndex := 339, attributes := #[] }, { accessFlags := 25, nameIndex := 361, descriptorIndex := 339, attributes := #[] }, { accessFlags := 26, nameIndex := 364, descriptorIndex := 339, attributes := #[] }, { accessFlags := 26, nameIndex := 365, descriptorIndex := 339, attributes := #[] }, { accessFlags := 26, nameIndex := 172, descriptorIndex := 173, attributes := #[] }, { accessFlags := 26, nameIndex := 176, descriptorIndex := 173, attributes := #[] }, { accessFlags := 8, nameIndex := 344, descriptorIndex := 339, attributes := #[] }, { accessFlags := 8, nameIndex := 338, descriptorIndex := 339, attributes := #[] }, { accessFlags := 4120, nameIndex := 245, descriptorIndex := 246, attributes := #[] }])
  fields := #[{ name := "E", type := .double, accessFlags := 25, slot := 0, constantValue := 0 }, { name := "PI", type := .double, accessFlags := 25, slot := 1, constantValue := 0 }, { name := "TAU", type := .double, accessFlags := 25, slot := 2, constantValue := 0 }, { name := "DEGREES_TO_RADIANS", type := .double, accessFlags := 26, slot := 3, constantValue := 0 }, { name := "RADIANS_TO_DEGREES", type := .double, accessFlags := 26, slot := 4, constantValue := 0 }, { name := "negativeZeroFloatBits", type := .long, accessFlags := 26, slot := 5, constantValue := 0 }, { name := "negativeZeroDoubleBits", type := .long, accessFlags := 26, slot := 6, constantValue := 0 }, { name := "twoToTheDoubleScaleUp", type := .double, accessFlags := 8, slot := 7, constantValue := 0 }, { name := "twoToTheDoubleScaleDown", type := .double, accessFlags := 8, slot := 8, constantValue := 0 }, { name := "$assertionsDisabled", type := .boolean, accessFlags := 4120, slot := 9, constantValue := 0 }]
  methods := #[k2m0, k2m1]
  instanceTypes := #[]
  staticTypes := #[.double, .double, .double, .double, .double, .long, .long, .double, .double, .boolean]
  resolved := Array.replicate 460 none
  statics := none }

def pool3 : Array CpInfo := pool [(2, .class_ 4), (1, u "java/lang/Object"), (3, .class_ 10), (1, u "com/example/bentwire/bentwire/metainfo/Metainfo"), (0, u "infoHash"), (0, u "[B"), (2, u "name"), (0, u "Ljava/lang/String;"), (2, u "totalLength"), (0, u "J"), (2, u "pieceLength"), (2, u "pieces"), (2, u "isPrivate"), (0, u "Z"), (2, u "announce"), (8, u "files"), (0, u "Ljava/util/List;"), (10, u "DECODER"), (0, u "Lcom/example/bentwire/bentwire/bencode/BencodeDecoder;"), (103, u "piecesFor"), (0, u "(JJ)J"), (21, u "PRIVATE"), (0, u "Lcom/example/bentwire/bentwire/bencode/BencodeInteger;"), (19, u "INFO"), (0, u "Lcom/example/bentwire/bentwire/bencode/BencodeString;")] 198

def k3c0 : Code := { maxStack := 6, maxLocals := 4, code := prog_24_method_13_code, exceptionTable := #[], attributes := #[] }
def k3m0 : Method := { name := "piecesFor", desc := "(JJ)J", sig := { parameters := [.long, .long], returnType := some .long }, accessFlags := 8, code := some k3c0 }
/-- com/example/bentwire/bentwire/metainfo/Metainfo -/
def k3 : Class := { plain "com/example/bentwire/bentwire/metainfo/Metainfo" (some 0) with
  accessFlags := 49
  interfaces := #[]
  cf := some (fileOf pool3 8 #[] #[{ accessFlags := 8, nameIndex := 159, descriptorIndex := 160, attributes := #[] }] 49 2 #[] #[{ accessFlags := 26, nameIndex := 54, descriptorIndex := 55, attributes := #[] }, { accessFlags := 24, nameIndex := 203, descriptorIndex := 204, attributes := #[] }, { accessFlags := 24, nameIndex := 182, descriptorIndex := 183, attributes := #[] }, { accessFlags := 18, nameIndex := 11, descriptorIndex := 12, attributes := #[] }, { accessFlags := 18, nameIndex := 15, descriptorIndex := 16, attributes := #[] }, { accessFlags := 18, nameIndex := 19, descriptorIndex := 20, attributes := #[] }, { accessFlags := 18, nameIndex := 23, descriptorIndex := 20, attributes := #[] }, { accessFlags := 18, nameIndex := 26, descriptorIndex := 12, attributes := #[] }, { accessFlags := 18, nameIndex := 29, descriptorIndex := 30, attributes := #[] }, { accessFlags := 18, nameIndex := 33, descriptorIndex := 16, attributes := #[] }, { accessFlags := 18, nameIndex := 42, descriptorIndex := 43, attributes := #[] }])
  fields := #[{ name := "DECODER", type := (.object "com/example/bentwire/bentwire/bencode/BencodeDecoder"), accessFlags := 26, slot := 0, constantValue := 0 }, { name := "INFO", type := (.object "com/example/bentwire/bentwire/bencode/BencodeString"), accessFlags := 24, slot := 1, constantValue := 0 }, { name := "PRIVATE", type := (.object "com/example/bentwire/bentwire/bencode/BencodeInteger"), accessFlags := 24, slot := 2, constantValue := 0 }, { name := "infoHash", type := (.array .byte), accessFlags := 18, slot := 0, constantValue := 0 }, { name := "name", type := (.object "java/lang/String"), accessFlags := 18, slot := 1, constantValue := 0 }, { name := "totalLength", type := .long, accessFlags := 18, slot := 2, constantValue := 0 }, { name := "pieceLength", type := .long, accessFlags := 18, slot := 3, constantValue := 0 }, { name := "pieces", type := (.array .byte), accessFlags := 18, slot := 4, constantValue := 0 }, { name := "isPrivate", type := .boolean, accessFlags := 18, slot := 5, constantValue := 0 }, { name := "announce", type := (.object "java/lang/String"), accessFlags := 18, slot := 6, constantValue := 0 }, { name := "files", type := (.object "java/util/List"), accessFlags := 18, slot := 7, constantValue := 0 }]
  methods := #[k3m0]
  instanceTypes := #[(.array .byte), (.object "java/lang/String"), .long, .long, (.array .byte), .boolean, (.object "java/lang/String"), (.object "java/util/List")]
  staticTypes := #[(.object "com/example/bentwire/bentwire/bencode/BencodeDecoder"), (.object "com/example/bentwire/bentwire/bencode/BencodeString"), (.object "com/example/bentwire/bentwire/bencode/BencodeInteger")]
  resolved := Array.replicate 403 none
  statics := none }

def pool4 : Array CpInfo := pool [(1, u "java/lang/Cloneable"), (0, .class_ 1), (0, u "java/lang/Object"), (0, .class_ 3)] 3

/-- java/lang/Cloneable -/
def k4 : Class := { plain "java/lang/Cloneable" (some 0) with
  accessFlags := 1537
  interfaces := #[]
  cf := some (fileOf pool4 2 #[] #[] 1537 4 #[] #[])
  fields := #[]
  methods := #[]
  instanceTypes := #[]
  staticTypes := #[]
  resolved := Array.replicate 8 none
  statics := none }

def pool5 : Array CpInfo := pool [(1, u "java/io/Serializable"), (0, .class_ 1), (0, u "java/lang/Object"), (0, .class_ 3)] 3

/-- java/io/Serializable -/
def k5 : Class := { plain "java/io/Serializable" (some 0) with
  accessFlags := 1537
  interfaces := #[]
  cf := some (fileOf pool5 2 #[] #[] 1537 4 #[] #[])
  fields := #[]
  methods := #[]
  instanceTypes := #[]
  staticTypes := #[]
  resolved := Array.replicate 8 none
  statics := none }

/-- the primitive byte -/
def k6 : Class := { plain "byte" none with kind := .primitive 'B', accessFlags := 0x411 }
/-- [B -/
def k7 : Class := { plain "[B" (some 0) with kind := .array 6 .byte, interfaces := #[4, 5], accessFlags := 1041 }

/-- the primitive int -/
def k8 : Class := { plain "int" none with kind := .primitive 'I', accessFlags := 0x411 }
/-- [I -/
def k9 : Class := { plain "[I" (some 0) with kind := .array 8 .int, interfaces := #[4, 5], accessFlags := 1041 }

def heap : Heap := #[]
def classes : Array Class := #[k0, k1, k2, k3, k4, k5, k6, k7, k8, k9]
def interned : List (Array UInt16 × Addr) := []
def slotsUsed : Nat := 0
def theMethod : MethodId := ⟨1, 2⟩
def args0 : Array Value := #[.long 10, .long 3]
def aboutOver (below : List Frame) : State where
  vm := { classes := classes, interned := interned.toArray }
  heap := heap
  slotsUsed := slotsUsed
  threads := #[{ frames := .invoking theMethod args0 :: below }]
def below0 : List Frame := [.native { method := ⟨0, 0⟩, args := #[] }]
def about1 : State := aboutOver below0
def p0 : Program := .bare "" "" ""
def e0 : Env := launch0.env 0 0 0
theorem w_frames : about1.frames = Frame.invoking theMethod args0 :: below0 := rfl
set_option maxRecDepth 65536 in
theorem w_args : argsFit about1.vm theMethod args0 = true := by decide +kernel
set_option maxRecDepth 65536 in
theorem w_heap : heapFits about1 = true := by decide +kernel
set_option maxRecDepth 65536 in
theorem w_runnable : about1.curStatus? = some .runnable := by decide +kernel
set_option maxRecDepth 65536 in
theorem w_alone : about1.alone = true := by decide +kernel
set_option maxRecDepth 65536 in
theorem w_named : about1.methodNamed? x = some theMethod := by decide +kernel
set_option maxRecDepth 65536 in
theorem w_hears : about1.hears theMethod below0 = true := by decide +kernel
set_option maxRecDepth 65536 in
theorem w_ripe : about1.ripe theMethod args0 below0 = true := by decide +kernel
theorem w_running : about1.status = .running := rfl
set_option maxRecDepth 65536 in
theorem w_room : about1.hasRoom e0.platform room_1 = true :=
  launch0.hasRoom_least _ room_1 (by decide +kernel) (by decide +kernel) (by decide +kernel) (by decide +kernel) (by decide +kernel) (by decide +kernel)
theorem allAtoms_all (ts : List Jvm.Cond) (a : Array Jvm.Value) (st : Jvm.State) : (allAtoms ts).before a st = ts.all (fun c => c.before a st) := by
  induction ts with
  | nil => rfl
  | cons c t ih =>
    show (Jvm.Cond.and c (allAtoms t)).before a st = _
    rw [Jvm.Cond.before_and, ih, List.all_cons]
def words1 : List Jvm.Cond := Jvm.Cond.code x code maxLocals ret :: tables_1
/-- a 'code' word, met by the world's own term for the bytes: nothing is compared byte by byte -/
theorem code_word {y : MethodName} {bytes : ByteArray} {mx : Nat} {rt : Option FieldType} {a : Array Value} {s : State} {m : MethodId} {meth : Method} {c : Code} (h1 : s.methodNamed? y = some m) (h2 : s.vm.method? m = some meth) (h3 : meth.code = some c) (h4 : c.code = bytes)
    (h5 : (c.maxLocals == mx && c.exceptionTable.isEmpty && decide (c.maxStack ≤ mostOperands) && decide (meth.sig.returnType = rt) && !meth.locks && decide (parseMethodDescriptor y.desc = some meth.sig)) = true) : (Jvm.Cond.code y bytes mx rt).before a s = true := by
  simp only [Bool.and_eq_true, beq_iff_eq, Bool.not_eq_true', decide_eq_true_eq] at h5
  obtain ⟨⟨⟨⟨⟨g1, g2⟩, g3⟩, g4⟩, g5⟩, g6⟩ := h5
  simp [Cond.before, Cond.holds, Cond.value, h1, h2, h3, h4, g1, g2, g3, g4, g5, g6]
def isCode : Jvm.Cond → Bool
  | .code _ _ _ _ => true
  | _ => false
theorem all_split {L : List Jvm.Cond} {P : Jvm.Cond → Bool} (h1 : L.all (fun c => isCode c || P c) = true) (h2 : ∀ c ∈ L.filter isCode, P c = true) : L.all P = true := by
  refine List.all_eq_true.mpr fun c hc => ?_
  have h := List.all_eq_true.mp h1 c hc
  rcases Bool.eq_false_or_eq_true (isCode c) with hi | hi
  · exact h2 c (List.mem_filter.mpr ⟨hc, hi⟩)
  · simpa [hi] using h
set_option maxRecDepth 65536 in
theorem w_c0 : (Jvm.Cond.code x code maxLocals ret).before args0 about1 = true := code_word (m := ⟨1, 2⟩) (meth := k1m2) (c := k1c2) (by decide +kernel) rfl rfl rfl (by decide +kernel)
set_option maxRecDepth 65536 in
theorem w_c1 : (Jvm.Cond.code ({ cls := "java/lang/Math", name := "max", desc := "(JJ)J" } : Jvm.MethodName) jdk_29_method_66_code (4 : Nat) (Option.some Jvm.ClassFile.FieldType.long)).before args0 about1 = true := code_word (m := ⟨2, 1⟩) (meth := k2m1) (c := k2c1) (by decide +kernel) rfl rfl rfl (by decide +kernel)
set_option maxRecDepth 65536 in
theorem w_c2 : (Jvm.Cond.code ({ cls := "com/example/bentwire/bentwire/metainfo/Metainfo", name := "piecesFor", desc := "(JJ)J" } : Jvm.MethodName) prog_24_method_13_code (4 : Nat) (Option.some Jvm.ClassFile.FieldType.long)).before args0 about1 = true := code_word (m := ⟨3, 0⟩) (meth := k3m0) (c := k3c0) (by decide +kernel) rfl rfl rfl (by decide +kernel)
set_option maxRecDepth 65536 in
theorem w_c3 : (Jvm.Cond.code ({ cls := "com/example/bentwire/bentwire/metainfo/MetainfoPiecesForPinLaw", name := "ceilingReference", desc := "(JJ)J" } : Jvm.MethodName) method_2_code (4 : Nat) (Option.some Jvm.ClassFile.FieldType.long)).before args0 about1 = true := code_word (m := ⟨1, 1⟩) (meth := k1m1) (c := k1c1) (by decide +kernel) rfl rfl rfl (by decide +kernel)
def codes1 : List Jvm.Cond := [Jvm.Cond.code x code maxLocals ret, Jvm.Cond.code ({ cls := "java/lang/Math", name := "max", desc := "(JJ)J" } : Jvm.MethodName) jdk_29_method_66_code (4 : Nat) (Option.some Jvm.ClassFile.FieldType.long), Jvm.Cond.code ({ cls := "com/example/bentwire/bentwire/metainfo/Metainfo", name := "piecesFor", desc := "(JJ)J" } : Jvm.MethodName) prog_24_method_13_code (4 : Nat) (Option.some Jvm.ClassFile.FieldType.long), Jvm.Cond.code ({ cls := "com/example/bentwire/bentwire/metainfo/MetainfoPiecesForPinLaw", name := "ceilingReference", desc := "(JJ)J" } : Jvm.MethodName) method_2_code (4 : Nat) (Option.some Jvm.ClassFile.FieldType.long)]
set_option maxRecDepth 65536 in
theorem codes_eq : words1.filter isCode = codes1 := rfl
theorem w_codes : ∀ c ∈ words1.filter isCode, c.before args0 about1 = true := by
  rw [codes_eq]
  intro c hc
  simp only [codes1, List.mem_cons, List.not_mem_nil, or_false] at hc
  rcases hc with rfl | rfl | rfl | rfl
  · exact w_c0
  · exact w_c1
  · exact w_c2
  · exact w_c3
set_option maxRecDepth 65536 in
theorem w_t1 : words1.all (fun c => isCode c || c.before args0 about1) = true := by decide +kernel
theorem w_tables : (allAtoms (Jvm.Cond.code x code maxLocals ret :: tables_1)).before args0 about1 = true := by
  rw [allAtoms_all]
  show words1.all (fun c => c.before args0 about1) = true
  refine all_split ?_ w_codes
  rw [w_t1]
set_option maxRecDepth 65536 in
theorem w_case : (Jvm.Cond.and given_1 narrow_1).before args0 about1 = true := by decide +kernel
theorem w_applies : (headSpec (Jvm.Cond.code x code maxLocals ret :: tables_1) room_1).applies x e0.platform about1 = true :=
  (Spec.applies_iff w_frames).mpr ⟨w_running, w_runnable, w_alone, w_named, w_hears, w_ripe, w_room, w_tables⟩
theorem atStart : AtStart classFile x code maxLocals ret World_1 tables_1 room_1 Calls_1 rest_1 Pre_1 launch0 p0 e0 about1 theMethod args0 below0 :=
  ⟨lists_1, trivial, launch0.admits_env _ _ _, launch0.least_env, fairChoices_fair.cas, fairChoices_fair.clock, w_frames, w_args, w_heap, w_applies, trivial, trivial, w_case⟩
end start1
theorem witness_1 : WitnessClaimed_1 := ⟨start1.p0, start1.e0, start1.about1, start1.theMethod, start1.args0, start1.below0, start1.atStart⟩
end Jvm.Pilot.@@N@@
