import JvmDerived
import JvmDerived.Pilot.@@N@@Statement
import JvmDerived.Pilot.@@N@@Code
set_option linter.unusedVariables false
set_option linter.unusedSimpArgs false
namespace Jvm.RoadKit
open Sem ClassFile Op Lib Jvm.Stand Jvm.Free Jvm.LawKit
section New
variable {p : Program} {l : Launch} {e : Env} {R : Room} {s : State} {m : MethodId} {args : Array Value} {below : List Frame} {meth : Method} {c : Code} {T : State} {locs : List Loc} {cells slots k n : Nat} {Q : Option Value → Heap → List Loc → Prop}
theorem retI (X : Stand p l e R s m args below meth c T locs cells slots) (hx : p.tables.exec = Jvm.exec) {pc : Nat} {Ls : Array Slot} {z : Int32} {rest : List Value} (hret : meth.sig.returnType = some .int) (hd : decode c.code pc = .ok (.ireturn, 1)) {fs : List Frame}
    (hl : ∀ (f : JFrame) (acts : List Action), f.method = m → f.locked = none → f.entered = [] → (doReturn e (T.setTop f) acts (some (.int z))).1 = T.setFrames fs) : Steps p.tables e below (T.setTop (mkF m pc Ls (.int z :: rest))) (T.setFrames fs) := by
  have hm' : T.vm.method? m = some meth := X.method'
  have hn : narrow .int (.int z) = .int z := rfl
  show Steps p.tables e below (T.setTop { method := m, pc := pc, locals := Ls, stack := _ :: rest, locked := none }) _
  jvm_step X.here [X.here.top, hx, hd, hm', hret, hn]
  first | (intro acts; rw [hl _ acts rfl rfl rfl]) | rw [hl _ _ rfl rfl rfl]
  exact Steps.refl _
/-- from S0 the run comes to a return that leaves what Q says -/
def own_Fin (p : Program) (e : Env) (below : List Frame) (s : State) (Q : Option Value → Heap → List Loc → Prop) (k n : Nat) (S0 : State) : Prop :=
  ∃ s₂ o, Steps p.tables e below S0 s₂ ∧ s₂.status = .running ∧ Ended s₂ below o ∧ ∃ v L, o = .returned v ∧ Q v s₂.heap L ∧ FrameEnd s o s₂ L k n
theorem own_go {S0 : State} (S1 : State) (h : ∀ t, Steps p.tables e below S1 t → Steps p.tables e below S0 t) (q : own_Fin p e below s Q k n S1) : own_Fin p e below s Q k n S0 := by
  obtain ⟨s₂, o, h1, h2⟩ := q
  exact ⟨s₂, o, h _ h1, h2⟩
theorem own_ret (X : Stand p l e R s m args below meth c T locs cells slots) (hlocks : meth.locks = false) (v : Option Value) (hv : meth.sig.returnType = none → v = none) {g : JFrame}
    (hs : ∀ fs, (∀ (f : JFrame) (acts : List Action), f.method = m → f.locked = none → f.entered = [] → (doReturn e (T.setTop f) acts v).1 = T.setFrames fs) → Steps p.tables e below (T.setTop g) (T.setFrames fs))
    (hk : cells ≤ k) (hn : slots ≤ n) (hQ : Q v T.heap locs) : own_Fin p e below s Q k n (T.setTop g) := by
  obtain ⟨fs, hr, hrun, hended, hW, hsame⟩ := X.leave (v := v) hv hlocks
  exact ⟨_, _, hs fs hr, hrun, hended, _, _, rfl, hQ, ⟨_, rfl⟩, hW, hsame.mono hk hn⟩
theorem own_zlt {x y : Int32} {a b : Int} (h : x < y) (hx : x.toInt = a) (hy : y.toInt = b) : a < b := by rw [← hx, ← hy]; exact Int32.lt_iff_toInt_lt.mp h
theorem own_znlt {x y : Int32} {a b : Int} (h : ¬ x < y) (hx : x.toInt = a) (hy : y.toInt = b) : ¬ a < b := by rw [← hx, ← hy]; exact fun q => h (Int32.lt_iff_toInt_lt.mpr q)
theorem own_zeq {x y : Int32} {a b : Int} (h : x = y) (hx : x.toInt = a) (hy : y.toInt = b) : a = b := by rw [← hx, ← hy, h]
theorem own_zneq {x y : Int32} {a b : Int} (h : ¬ x = y) (hx : x.toInt = a) (hy : y.toInt = b) : ¬ a = b := by rw [← hx, ← hy]; exact fun q => h (Int32.toInt_inj.mp q)
theorem own_zLlt {x y : Int64} {a b : Int} (h : x < y) (hx : x.toInt = a) (hy : y.toInt = b) : a < b := by rw [← hx, ← hy]; exact Int64.lt_iff_toInt_lt.mp h
theorem own_zLnlt {x y : Int64} {a b : Int} (h : ¬ x < y) (hx : x.toInt = a) (hy : y.toInt = b) : ¬ a < b := by rw [← hx, ← hy]; exact fun q => h (Int64.lt_iff_toInt_lt.mpr q)
theorem own_zLeq {x y : Int64} {a b : Int} (h : x = y) (hx : x.toInt = a) (hy : y.toInt = b) : a = b := by rw [← hx, ← hy, h]
theorem own_zLneq {x y : Int64} {a b : Int} (h : ¬ x = y) (hx : x.toInt = a) (hy : y.toInt = b) : ¬ a = b := by rw [← hx, ← hy]; exact fun q => h (Int64.toInt_inj.mp q)
end New
end Jvm.RoadKit
namespace Jvm.Pilot.@@N@@
open Jvm Jvm.ClassFile Sem Op Lib Jvm.Free Jvm.Stand Jvm.LawKit Jvm.RoadKit Bundle Jvm.Pilot.@@N@@.Jvm.D
theorem own_pd0 : parseMethodDescriptor "(IJ)J" = some ⟨[.int, .long], some .long⟩ := by decide +kernel

theorem own_add (x y : Int32) (a b : Int) (hx : x.toInt = a) (hy : y.toInt = b) (h : -2147483648 ≤ a + b ∧ a + b < 2147483648) : (x + y).toInt = a + b := by
  have h1 := c_iadd x y; have h2 := rng32 (x + y)
  rw [hx, hy] at h1; omega
theorem own_ladd (x y : Int64) (a b : Int) (hx : x.toInt = a) (hy : y.toInt = b) (h : -9223372036854775808 ≤ a + b ∧ a + b < 9223372036854775808) : (x + y).toInt = a + b := by
  have h1 := c_ladd x y; have h2 := rng64 (x + y)
  rw [hx, hy] at h1; omega
theorem own_law (P : Int32) (q : Int64) (d : Int64) (h0 : 0 ≤ P.toInt) (h1 : P.toInt < 1073741824) (hd : (d.toInt = 1 ∧ ¬ P.toInt % 8 = 0) ∨ (d.toInt = 0 ∧ P.toInt % 8 = 0)) :
    ((((((10 : Int32) + ((P + (7 : Int32)) / (8 : Int32))) + (1 : Int32)).toInt64) + ((2 : Int64) * (P.toInt64))) + q) = (((((10 : Int64) + ((((P.toUInt32 >>> ((3 : Int32) &&& 31).toUInt32).toInt32).toInt64) + d)) + (1 : Int64)) + ((2 : Int64) * (P.toInt64))) + q) := by
  have a1 : (P + (7 : Int32)).toInt = P.toInt + 7 := own_add _ _ _ _ rfl rfl (by omega)
  have a2 := (c_idiv (P + 7) 8 8 rfl (by decide)).1 (by omega)
  rw [a1] at a2
  have a3 : ((10 : Int32) + ((P + (7 : Int32)) / (8 : Int32))).toInt = 10 + (P.toInt + 7) / 8 := own_add _ _ _ _ rfl a2 (by omega)
  have a4 : (((10 : Int32) + ((P + (7 : Int32)) / (8 : Int32))) + (1 : Int32)).toInt = (10 + (P.toInt + 7) / 8) + 1 := own_add _ _ _ _ a3 rfl (by omega)
  have b1 := c_iushr P 3 3 rfl (by decide)
  have b2 : (P.toInt % 4294967296) / ((2 ^ 3 : Nat) : Int) = P.toInt / 8 := by
    show (P.toInt % 4294967296) / 8 = P.toInt / 8
    omega
  rw [b2] at b1
  have key : (((10 : Int32) + ((P + (7 : Int32)) / (8 : Int32))) + (1 : Int32)).toInt64 = ((10 : Int64) + ((((P.toUInt32 >>> ((3 : Int32) &&& 31).toUInt32).toInt32).toInt64) + d)) + (1 : Int64) := by
    apply Int64.toInt_inj.mp
    rw [c_i2l, a4]
    generalize hw : (P.toUInt32 >>> ((3 : Int32) &&& 31).toUInt32).toInt32 = w at *
    have c1 : w.toInt64.toInt = P.toInt / 8 := by rw [c_i2l]; exact b1
    have c2 := own_ladd w.toInt64 d _ _ c1 rfl (by omega)
    have c3 := own_ladd 10 (w.toInt64 + d) _ _ rfl c2 (by show _ ≤ 10 + _ ∧ 10 + _ < _; omega)
    have c4 := own_ladd (10 + (w.toInt64 + d)) 1 _ 1 c3 rfl (by show _ ≤ 10 + _ + 1 ∧ 10 + _ + 1 < _; omega)
    rw [c4]
    show 10 + (P.toInt + 7) / 8 + 1 = 10 + (P.toInt / 8 + d.toInt) + 1
    omega
  rw [key]

theorem d1_0 : decode prog_107_method_5_code 0 = .ok (.iload_n 0, 1) := by decide +kernel
theorem d1_1 : decode prog_107_method_5_code 1 = .ok (.ifCond .ne 7, 3) := by decide +kernel
theorem d1_4 : decode prog_107_method_5_code 4 = .ok (.ldc2_w 47, 3) := by decide +kernel
theorem d1_7 : decode prog_107_method_5_code 7 = .ok (.lreturn, 1) := by decide +kernel
theorem d1_8 : decode prog_107_method_5_code 8 = .ok (.bipush 10, 2) := by decide +kernel
theorem d1_10 : decode prog_107_method_5_code 10 = .ok (.iload_n 0, 1) := by decide +kernel
theorem d1_11 : decode prog_107_method_5_code 11 = .ok (.bipush 7, 2) := by decide +kernel
theorem d1_13 : decode prog_107_method_5_code 13 = .ok (.iadd, 1) := by decide +kernel
theorem d1_14 : decode prog_107_method_5_code 14 = .ok (.bipush 8, 2) := by decide +kernel
theorem d1_16 : decode prog_107_method_5_code 16 = .ok (.idiv, 1) := by decide +kernel
theorem d1_17 : decode prog_107_method_5_code 17 = .ok (.iadd, 1) := by decide +kernel
theorem d1_18 : decode prog_107_method_5_code 18 = .ok (.iconst 1, 1) := by decide +kernel
theorem d1_19 : decode prog_107_method_5_code 19 = .ok (.iadd, 1) := by decide +kernel
theorem d1_20 : decode prog_107_method_5_code 20 = .ok (.i2l, 1) := by decide +kernel
theorem d1_21 : decode prog_107_method_5_code 21 = .ok (.ldc2_w 49, 3) := by decide +kernel
theorem d1_24 : decode prog_107_method_5_code 24 = .ok (.iload_n 0, 1) := by decide +kernel
theorem d1_25 : decode prog_107_method_5_code 25 = .ok (.i2l, 1) := by decide +kernel
theorem d1_26 : decode prog_107_method_5_code 26 = .ok (.lmul, 1) := by decide +kernel
theorem d1_27 : decode prog_107_method_5_code 27 = .ok (.ladd, 1) := by decide +kernel
theorem d1_28 : decode prog_107_method_5_code 28 = .ok (.lload_n 1, 1) := by decide +kernel
theorem d1_29 : decode prog_107_method_5_code 29 = .ok (.ladd, 1) := by decide +kernel
theorem d1_30 : decode prog_107_method_5_code 30 = .ok (.lreturn, 1) := by decide +kernel
theorem own_pn1 : plainName "com/example/cutover/cutover/mariadb/Packets" = true := by first | (simp [plainName, overriddenIn]; done) | decide +kernel
theorem own_ef1 (m : MethodId) (p1 : Int32) (q2 : Int64) : entryFrame m #[(.int p1), (.long q2)] 3 = (mkF m 0 #[.val (.int p1), .val (.long q2), .second] []) := by first | (simp [entryFrame, mkF, argsToLocals, Value.category]; done) | rfl
def own_Q1 (Z : State) (p1 : Int32) (q2 : Int64)  (h0 : Heap) (n0 : Nat) (v : Option Value) (h : Heap) (L : List Loc) : Prop := ∃ w : Int64, v = some (.long w) ∧ Fr n0 L ∧ h = h0 ∧ (p1.toInt = 0 → w = 10) ∧ (¬ p1.toInt = 0 → w = ((((((10 : Int32) + ((p1 + (7 : Int32)) / (8 : Int32))) + (1 : Int32)).toInt64) + ((2 : Int64) * (p1.toInt64))) + q2))
set_option maxRecDepth 65536 in
set_option maxHeartbeats 40000000 in
theorem own_rm1 (l : Launch) (Z : State) (a0 : Array Value) (hw : ∀ d ∈ tables_1, d.before a0 Z = true) (ws : List Jvm.Cond) (p1 : Int32) (q2 : Int64)  (h0 : Heap) (n0 : Nat) (Z0 : n0 ≤ h0.size) :
    MetFree l (⟨"com/example/cutover/cutover/mariadb/Packets", "execute", "(IJ)J"⟩ : MethodName) (head1 (Jvm.Cond.code (⟨"com/example/cutover/cutover/mariadb/Packets", "execute", "(IJ)J"⟩ : MethodName) prog_107_method_5_code 3 (some .long) :: ws) ({ frames := 0, cells := 0, slots := 0, locals := 0 } : Room)) (fun a U => a = #[(.int p1), (.long q2)] ∧ Z.Warmed39 U.vm ∧ U.heap = h0) (fun _ _ _ _ _ => True) (fun _ U o U' => ∃ v L, o = .returned v ∧ own_Q1 Z p1 q2 h0 n0 v U'.heap L ∧ FrameEnd U o U' L ({ frames := 0, cells := 0, slots := 0, locals := 0 } : Room).cells ({ frames := 0, cells := 0, slots := 0, locals := 0 } : Room).slots) := by
  refine MetFree.of_bodySF (plainFor_of_name own_pn1) hisR ?_
  intro p e s m args below meth c s₁ Bd hml0 hP hK
  obtain ⟨rfl, hZ, hh⟩ := hP
  have hx := Bd.exec
  have hby := Bd.bytes
  have hml : c.maxLocals = 3 := hml0
  have hown : s.vm.findClass "com/example/cutover/cutover/mariadb/Packets" = some m.cls := findClass_of_methodNamed Bd.named
  have hnm := (name_of_methodNamed Bd.named Bd.method).1
  have X0 : Stand p l e ({ frames := 0, cells := 0, slots := 0, locals := 0 } : Room) s m #[(.int p1), (.long q2)] below meth c s₁ [] 0 0 := Stand.of_body Bd
  have e0 : s₁.heap = h0 := by rw [← hh, Bd.state]; rfl
  have N0 := Fr.nil n0
  show own_Fin p e below s (own_Q1 Z p1 q2 h0 n0) ({ frames := 0, cells := 0, slots := 0, locals := 0 } : Room).cells ({ frames := 0, cells := 0, slots := 0, locals := 0 } : Room).slots (s₁.setTop (entryFrame m #[(.int p1), (.long q2)] 3))
  refine own_go (s₁.setTop (mkF m 0 #[.val (.int p1), .val (.long q2), .second] [])) (fun t k => castTop (own_ef1 m p1 q2) k) ?_
  refine own_go (s₁.setTop (mkF m 1 #[.val (.int p1), .val (.long q2), .second] [(.int p1)])) (fun _ k => XS.iloadN X0.here hx rfl (hb hby d1_0) rfl k) ?_
  by_cases hc1 : p1 = (0 : Int32)
  · have hz1 : ((p1).toInt = 0) := own_zeq hc1 rfl rfl
    refine own_go (s₁.setTop (mkF m 4 #[.val (.int p1), .val (.long q2), .second] [])) (fun _ k => XS.ifNo X0.here hx rfl (hb hby d1_1) rfl ((if0 _ _).trans (teq hc1).2) k) ?_
    refine own_go (s₁.setTop (mkF m 7 #[.val (.int p1), .val (.long q2), .second] [(.long (10 : Int64))])) (fun _ k => X0.ldc2Long hx hown (mvT hZ (hw _ (List.mem_of_getElem? (i := 5) rfl))) (g := (mkF m 4 #[.val (.int p1), .val (.long q2), .second] [])) rfl (hb hby d1_4) _ k) ?_
    refine own_ret X0 (BodyLoose.notSynchronized Bd) (some (.long (10 : Int64))) (fun h => by rw [Bd.returns] at h; cases h) (fun fs hr => retOut X0 hx Bd.returns rfl (Or.inr (Or.inl ⟨rfl, rfl, _, rfl⟩)) (hb hby d1_7) hr) (by decide) (by decide) ?_
    exact ⟨_, rfl, N0, e0, fun _ => rfl, fun q => absurd (by rw [hc1]; rfl) q⟩
  · have hz1 : ¬ ((p1).toInt = 0) := own_zneq hc1 rfl rfl
    refine own_go (s₁.setTop (mkF m 8 #[.val (.int p1), .val (.long q2), .second] [])) (fun _ k => XS.ifYes X0.here hx rfl (pc0 := 1) (pc' := 8) rfl (hb hby d1_1) rfl ((if0 _ _).trans (feq hc1).2) (by decide) (by decide) k) ?_
    refine own_go (s₁.setTop (mkF m 10 #[.val (.int p1), .val (.long q2), .second] [(.int (10 : Int32))])) (fun _ k => XS.bipush X0.here hx rfl (hb hby d1_8) k) ?_
    refine own_go (s₁.setTop (mkF m 11 #[.val (.int p1), .val (.long q2), .second] [(.int p1), (.int (10 : Int32))])) (fun _ k => XS.iloadN X0.here hx rfl (hb hby d1_10) rfl k) ?_
    refine own_go (s₁.setTop (mkF m 13 #[.val (.int p1), .val (.long q2), .second] [(.int (7 : Int32)), (.int p1), (.int (10 : Int32))])) (fun _ k => XS.bipush X0.here hx rfl (hb hby d1_11) k) ?_
    refine own_go (s₁.setTop (mkF m 14 #[.val (.int p1), .val (.long q2), .second] [(.int (p1 + (7 : Int32))), (.int (10 : Int32))])) (fun _ k => XS.iadd X0.here hx rfl (hb hby d1_13) rfl k) ?_
    refine own_go (s₁.setTop (mkF m 16 #[.val (.int p1), .val (.long q2), .second] [(.int (8 : Int32)), (.int (p1 + (7 : Int32))), (.int (10 : Int32))])) (fun _ k => XS.bipush X0.here hx rfl (hb hby d1_14) k) ?_
    refine own_go (s₁.setTop (mkF m 17 #[.val (.int p1), .val (.long q2), .second] [(.int ((p1 + (7 : Int32)) / (8 : Int32))), (.int (10 : Int32))])) (fun _ k => XS.idiv X0.here hx rfl (hb hby d1_16) rfl (by decide) k) ?_
    refine own_go (s₁.setTop (mkF m 18 #[.val (.int p1), .val (.long q2), .second] [(.int ((10 : Int32) + ((p1 + (7 : Int32)) / (8 : Int32))))])) (fun _ k => XS.iadd X0.here hx rfl (hb hby d1_17) rfl k) ?_
    refine own_go (s₁.setTop (mkF m 19 #[.val (.int p1), .val (.long q2), .second] [(.int (1 : Int32)), (.int ((10 : Int32) + ((p1 + (7 : Int32)) / (8 : Int32))))])) (fun _ k => XS.iconst X0.here hx rfl (hb hby d1_18) k) ?_
    refine own_go (s₁.setTop (mkF m 20 #[.val (.int p1), .val (.long q2), .second] [(.int (((10 : Int32) + ((p1 + (7 : Int32)) / (8 : Int32))) + (1 : Int32)))])) (fun _ k => XS.iadd X0.here hx rfl (hb hby d1_19) rfl k) ?_
    refine own_go (s₁.setTop (mkF m 21 #[.val (.int p1), .val (.long q2), .second] [(.long ((((10 : Int32) + ((p1 + (7 : Int32)) / (8 : Int32))) + (1 : Int32)).toInt64))])) (fun _ k => XS.i2l X0.here hx rfl (hb hby d1_20) rfl k) ?_
    refine own_go (s₁.setTop (mkF m 24 #[.val (.int p1), .val (.long q2), .second] [(.long (2 : Int64)), (.long ((((10 : Int32) + ((p1 + (7 : Int32)) / (8 : Int32))) + (1 : Int32)).toInt64))])) (fun _ k => X0.ldc2Long hx hown (mvT hZ (hw _ (List.mem_of_getElem? (i := 7) rfl))) (g := (mkF m 21 #[.val (.int p1), .val (.long q2), .second] [(.long ((((10 : Int32) + ((p1 + (7 : Int32)) / (8 : Int32))) + (1 : Int32)).toInt64))])) rfl (hb hby d1_21) _ k) ?_
    refine own_go (s₁.setTop (mkF m 25 #[.val (.int p1), .val (.long q2), .second] [(.int p1), (.long (2 : Int64)), (.long ((((10 : Int32) + ((p1 + (7 : Int32)) / (8 : Int32))) + (1 : Int32)).toInt64))])) (fun _ k => XS.iloadN X0.here hx rfl (hb hby d1_24) rfl k) ?_
    refine own_go (s₁.setTop (mkF m 26 #[.val (.int p1), .val (.long q2), .second] [(.long (p1.toInt64)), (.long (2 : Int64)), (.long ((((10 : Int32) + ((p1 + (7 : Int32)) / (8 : Int32))) + (1 : Int32)).toInt64))])) (fun _ k => XS.i2l X0.here hx rfl (hb hby d1_25) rfl k) ?_
    refine own_go (s₁.setTop (mkF m 27 #[.val (.int p1), .val (.long q2), .second] [(.long ((2 : Int64) * (p1.toInt64))), (.long ((((10 : Int32) + ((p1 + (7 : Int32)) / (8 : Int32))) + (1 : Int32)).toInt64))])) (fun _ k => XS.lmul X0.here hx rfl (hb hby d1_26) rfl k) ?_
    refine own_go (s₁.setTop (mkF m 28 #[.val (.int p1), .val (.long q2), .second] [(.long (((((10 : Int32) + ((p1 + (7 : Int32)) / (8 : Int32))) + (1 : Int32)).toInt64) + ((2 : Int64) * (p1.toInt64))))])) (fun _ k => XS.ladd X0.here hx rfl (hb hby d1_27) rfl k) ?_
    refine own_go (s₁.setTop (mkF m 29 #[.val (.int p1), .val (.long q2), .second] [(.long q2), (.long (((((10 : Int32) + ((p1 + (7 : Int32)) / (8 : Int32))) + (1 : Int32)).toInt64) + ((2 : Int64) * (p1.toInt64))))])) (fun _ k => XS.lloadN X0.here hx rfl (hb hby d1_28) rfl k) ?_
    refine own_go (s₁.setTop (mkF m 30 #[.val (.int p1), .val (.long q2), .second] [(.long ((((((10 : Int32) + ((p1 + (7 : Int32)) / (8 : Int32))) + (1 : Int32)).toInt64) + ((2 : Int64) * (p1.toInt64))) + q2))])) (fun _ k => XS.ladd X0.here hx rfl (hb hby d1_29) rfl k) ?_
    refine own_ret X0 (BodyLoose.notSynchronized Bd) (some (.long ((((((10 : Int32) + ((p1 + (7 : Int32)) / (8 : Int32))) + (1 : Int32)).toInt64) + ((2 : Int64) * (p1.toInt64))) + q2))) (fun h => by rw [Bd.returns] at h; cases h) (fun fs hr => retOut X0 hx Bd.returns rfl (Or.inr (Or.inl ⟨rfl, rfl, _, rfl⟩)) (hb hby d1_30) hr) (by decide) (by decide) ?_
    exact ⟨_, rfl, N0, e0, fun q => absurd q hz1, fun _ => rfl⟩
theorem own_pn0 : plainName "com/example/cutover/cutover/mariadb/PacketsExecutePinLaw" = true := by first | (simp [plainName, overriddenIn]; done) | decide +kernel
theorem own_ef0 (m : MethodId) (p1 : Int32) (q2 : Int64) (p3 : Int32) : entryFrame m #[(.int p1), (.long q2), (.int p3)] maxLocals = (mkF m 0 #[.val (.int p1), .val (.long q2), .second, .val (.int p3), .unset, .unset, .unset, .unset, .unset, .unset, .unset, .unset, .unset, .unset, .unset, .unset, .unset] []) := by first | (simp [entryFrame, mkF, argsToLocals, Value.category, maxLocals]; done) | rfl
def own_Q0 (Z : State) (p1 : Int32) (q2 : Int64) (p3 : Int32)  (h0 : Heap) (n0 : Nat) (v : Option Value) (h : Heap) (L : List Loc) : Prop := v = some (.int (1 : Int32)) ∧ Fr n0 L
set_option maxRecDepth 65536 in
set_option maxHeartbeats 40000000 in
theorem own_rm0 (l : Launch) (Z : State) (a0 : Array Value) (hw : ∀ d ∈ tables_1, d.before a0 Z = true) (ws : List Jvm.Cond) (p1 : Int32) (q2 : Int64) (p3 : Int32)  (h0 : Heap) (n0 : Nat) (Z0 : n0 ≤ h0.size) :
    MetFree l x (head1 (Jvm.Cond.code x code maxLocals ret :: ws) room_1) (fun a U => a = #[(.int p1), (.long q2), (.int p3)] ∧ Z.Warmed39 U.vm ∧ U.heap = h0) (fun _ _ _ _ _ => True) (fun _ U o U' => ∃ v L, o = .returned v ∧ own_Q0 Z p1 q2 p3 h0 n0 v U'.heap L ∧ FrameEnd U o U' L room_1.cells room_1.slots) := by
  refine MetFree.of_bodySF (plainFor_of_name own_pn0) hisR ?_
  intro p e s m args below meth c s₁ Bd hml0 hP hK
  obtain ⟨rfl, hZ, hh⟩ := hP
  have hx := Bd.exec
  have hby := Bd.bytes
  have hml : c.maxLocals = 17 := hml0
  have hown : s.vm.findClass "com/example/cutover/cutover/mariadb/PacketsExecutePinLaw" = some m.cls := findClass_of_methodNamed Bd.named
  have hnm := (name_of_methodNamed Bd.named Bd.method).1
  have X0 : Stand p l e room_1 s m #[(.int p1), (.long q2), (.int p3)] below meth c s₁ [] 0 0 := Stand.of_body Bd
  have e0 : s₁.heap = h0 := by rw [← hh, Bd.state]; rfl
  have N0 := Fr.nil n0
  have J67 : ∀ (T : State) (lc : List Loc) (X : Stand p l e room_1 s m #[(.int p1), (.long q2), (.int p3)] below meth c T lc 0 0) (eT : T.heap = h0) (N : Fr n0 lc) (P : Int32) (w1 : Int64) (d : Int64) (fP : 0 ≤ P.toInt ∧ P.toInt < 1073741824) (hz26 : ¬ P.toInt = 0) (B1 : ¬ P.toInt = 0 → w1 = ((((((10 : Int32) + ((P + (7 : Int32)) / (8 : Int32))) + (1 : Int32)).toInt64) + ((2 : Int64) * (P.toInt64))) + q2)) (fd : (d.toInt = 1 ∧ ¬ P.toInt % 8 = 0) ∨ (d.toInt = 0 ∧ P.toInt % 8 = 0)), own_Fin p e below s (own_Q0 Z p1 q2 p3 h0 n0) room_1.cells room_1.slots (T.setTop (mkF m 67 #[.val (.int p1), .val (.long q2), .second, .val (.int p3), .val (.int P), .val (.long w1), .second, .val (.long (10 : Int64)), .second, .unset, .unset, .unset, .unset, .unset, .unset, .unset, .unset] [(.long d), (.long (((P.toUInt32 >>> ((3 : Int32) &&& 31).toUInt32).toInt32).toInt64))])) := by
    intro T lc X eT N P w1 d fP hz26 B1 fd
    refine own_go (T.setTop (mkF m 68 #[.val (.int p1), .val (.long q2), .second, .val (.int p3), .val (.int P), .val (.long w1), .second, .val (.long (10 : Int64)), .second, .unset, .unset, .unset, .unset, .unset, .unset, .unset, .unset] [(.long ((((P.toUInt32 >>> ((3 : Int32) &&& 31).toUInt32).toInt32).toInt64) + d))])) (fun _ k => XS.ladd X.here hx rfl (hb hby at_67) rfl k) ?_
    refine own_go (T.setTop (mkF m 70 #[.val (.int p1), .val (.long q2), .second, .val (.int p3), .val (.int P), .val (.long w1), .second, .val (.long (10 : Int64)), .second, .val (.long ((((P.toUInt32 >>> ((3 : Int32) &&& 31).toUInt32).toInt32).toInt64) + d)), .second, .unset, .unset, .unset, .unset, .unset, .unset] [])) (fun _ k => XS.lstore X.here hx rfl (hb hby at_68) rfl (l' := #[.val (.int p1), .val (.long q2), .second, .val (.int p3), .val (.int P), .val (.long w1), .second, .val (.long (10 : Int64)), .second, .val (.long ((((P.toUInt32 >>> ((3 : Int32) &&& 31).toUInt32).toInt32).toInt64) + d)), .second, .unset, .unset, .unset, .unset, .unset, .unset]) rfl k) ?_
    refine own_go (T.setTop (mkF m 71 #[.val (.int p1), .val (.long q2), .second, .val (.int p3), .val (.int P), .val (.long w1), .second, .val (.long (10 : Int64)), .second, .val (.long ((((P.toUInt32 >>> ((3 : Int32) &&& 31).toUInt32).toInt32).toInt64) + d)), .second, .unset, .unset, .unset, .unset, .unset, .unset] [(.long (1 : Int64))])) (fun _ k => XS.lconst X.here hx rfl (hb hby at_70) k) ?_
    refine own_go (T.setTop (mkF m 73 #[.val (.int p1), .val (.long q2), .second, .val (.int p3), .val (.int P), .val (.long w1), .second, .val (.long (10 : Int64)), .second, .val (.long ((((P.toUInt32 >>> ((3 : Int32) &&& 31).toUInt32).toInt32).toInt64) + d)), .second, .val (.long (1 : Int64)), .second, .unset, .unset, .unset, .unset] [])) (fun _ k => XS.lstore X.here hx rfl (hb hby at_71) rfl (l' := #[.val (.int p1), .val (.long q2), .second, .val (.int p3), .val (.int P), .val (.long w1), .second, .val (.long (10 : Int64)), .second, .val (.long ((((P.toUInt32 >>> ((3 : Int32) &&& 31).toUInt32).toInt32).toInt64) + d)), .second, .val (.long (1 : Int64)), .second, .unset, .unset, .unset, .unset]) rfl k) ?_
    refine own_go (T.setTop (mkF m 76 #[.val (.int p1), .val (.long q2), .second, .val (.int p3), .val (.int P), .val (.long w1), .second, .val (.long (10 : Int64)), .second, .val (.long ((((P.toUInt32 >>> ((3 : Int32) &&& 31).toUInt32).toInt32).toInt64) + d)), .second, .val (.long (1 : Int64)), .second, .unset, .unset, .unset, .unset] [(.long (2 : Int64))])) (fun _ k => X.ldc2Long hx hown (mvT hZ (hw _ (List.mem_of_getElem? (i := 8) rfl))) (g := (mkF m 73 #[.val (.int p1), .val (.long q2), .second, .val (.int p3), .val (.int P), .val (.long w1), .second, .val (.long (10 : Int64)), .second, .val (.long ((((P.toUInt32 >>> ((3 : Int32) &&& 31).toUInt32).toInt32).toInt64) + d)), .second, .val (.long (1 : Int64)), .second, .unset, .unset, .unset, .unset] [])) rfl (hb hby at_73) _ k) ?_
    refine own_go (T.setTop (mkF m 78 #[.val (.int p1), .val (.long q2), .second, .val (.int p3), .val (.int P), .val (.long w1), .second, .val (.long (10 : Int64)), .second, .val (.long ((((P.toUInt32 >>> ((3 : Int32) &&& 31).toUInt32).toInt32).toInt64) + d)), .second, .val (.long (1 : Int64)), .second, .unset, .unset, .unset, .unset] [(.int P), (.long (2 : Int64))])) (fun _ k => XS.iload X.here hx rfl (hb hby at_76) rfl k) ?_
    refine own_go (T.setTop (mkF m 79 #[.val (.int p1), .val (.long q2), .second, .val (.int p3), .val (.int P), .val (.long w1), .second, .val (.long (10 : Int64)), .second, .val (.long ((((P.toUInt32 >>> ((3 : Int32) &&& 31).toUInt32).toInt32).toInt64) + d)), .second, .val (.long (1 : Int64)), .second, .unset, .unset, .unset, .unset] [(.long (P.toInt64)), (.long (2 : Int64))])) (fun _ k => XS.i2l X.here hx rfl (hb hby at_78) rfl k) ?_
    refine own_go (T.setTop (mkF m 80 #[.val (.int p1), .val (.long q2), .second, .val (.int p3), .val (.int P), .val (.long w1), .second, .val (.long (10 : Int64)), .second, .val (.long ((((P.toUInt32 >>> ((3 : Int32) &&& 31).toUInt32).toInt32).toInt64) + d)), .second, .val (.long (1 : Int64)), .second, .unset, .unset, .unset, .unset] [(.long ((2 : Int64) * (P.toInt64)))])) (fun _ k => XS.lmul X.here hx rfl (hb hby at_79) rfl k) ?_
    refine own_go (T.setTop (mkF m 82 #[.val (.int p1), .val (.long q2), .second, .val (.int p3), .val (.int P), .val (.long w1), .second, .val (.long (10 : Int64)), .second, .val (.long ((((P.toUInt32 >>> ((3 : Int32) &&& 31).toUInt32).toInt32).toInt64) + d)), .second, .val (.long (1 : Int64)), .second, .val (.long ((2 : Int64) * (P.toInt64))), .second, .unset, .unset] [])) (fun _ k => XS.lstore X.here hx rfl (hb hby at_80) rfl (l' := #[.val (.int p1), .val (.long q2), .second, .val (.int p3), .val (.int P), .val (.long w1), .second, .val (.long (10 : Int64)), .second, .val (.long ((((P.toUInt32 >>> ((3 : Int32) &&& 31).toUInt32).toInt32).toInt64) + d)), .second, .val (.long (1 : Int64)), .second, .val (.long ((2 : Int64) * (P.toInt64))), .second, .unset, .unset]) rfl k) ?_
    refine own_go (T.setTop (mkF m 84 #[.val (.int p1), .val (.long q2), .second, .val (.int p3), .val (.int P), .val (.long w1), .second, .val (.long (10 : Int64)), .second, .val (.long ((((P.toUInt32 >>> ((3 : Int32) &&& 31).toUInt32).toInt32).toInt64) + d)), .second, .val (.long (1 : Int64)), .second, .val (.long ((2 : Int64) * (P.toInt64))), .second, .unset, .unset] [(.long (10 : Int64))])) (fun _ k => XS.lload X.here hx rfl (hb hby at_82) rfl k) ?_
    refine own_go (T.setTop (mkF m 86 #[.val (.int p1), .val (.long q2), .second, .val (.int p3), .val (.int P), .val (.long w1), .second, .val (.long (10 : Int64)), .second, .val (.long ((((P.toUInt32 >>> ((3 : Int32) &&& 31).toUInt32).toInt32).toInt64) + d)), .second, .val (.long (1 : Int64)), .second, .val (.long ((2 : Int64) * (P.toInt64))), .second, .unset, .unset] [(.long ((((P.toUInt32 >>> ((3 : Int32) &&& 31).toUInt32).toInt32).toInt64) + d)), (.long (10 : Int64))])) (fun _ k => XS.lload X.here hx rfl (hb hby at_84) rfl k) ?_
    refine own_go (T.setTop (mkF m 87 #[.val (.int p1), .val (.long q2), .second, .val (.int p3), .val (.int P), .val (.long w1), .second, .val (.long (10 : Int64)), .second, .val (.long ((((P.toUInt32 >>> ((3 : Int32) &&& 31).toUInt32).toInt32).toInt64) + d)), .second, .val (.long (1 : Int64)), .second, .val (.long ((2 : Int64) * (P.toInt64))), .second, .unset, .unset] [(.long ((10 : Int64) + ((((P.toUInt32 >>> ((3 : Int32) &&& 31).toUInt32).toInt32).toInt64) + d)))])) (fun _ k => XS.ladd X.here hx rfl (hb hby at_86) rfl k) ?_
    refine own_go (T.setTop (mkF m 89 #[.val (.int p1), .val (.long q2), .second, .val (.int p3), .val (.int P), .val (.long w1), .second, .val (.long (10 : Int64)), .second, .val (.long ((((P.toUInt32 >>> ((3 : Int32) &&& 31).toUInt32).toInt32).toInt64) + d)), .second, .val (.long (1 : Int64)), .second, .val (.long ((2 : Int64) * (P.toInt64))), .second, .unset, .unset] [(.long (1 : Int64)), (.long ((10 : Int64) + ((((P.toUInt32 >>> ((3 : Int32) &&& 31).toUInt32).toInt32).toInt64) + d)))])) (fun _ k => XS.lload X.here hx rfl (hb hby at_87) rfl k) ?_
    refine own_go (T.setTop (mkF m 90 #[.val (.int p1), .val (.long q2), .second, .val (.int p3), .val (.int P), .val (.long w1), .second, .val (.long (10 : Int64)), .second, .val (.long ((((P.toUInt32 >>> ((3 : Int32) &&& 31).toUInt32).toInt32).toInt64) + d)), .second, .val (.long (1 : Int64)), .second, .val (.long ((2 : Int64) * (P.toInt64))), .second, .unset, .unset] [(.long (((10 : Int64) + ((((P.toUInt32 >>> ((3 : Int32) &&& 31).toUInt32).toInt32).toInt64) + d)) + (1 : Int64)))])) (fun _ k => XS.ladd X.here hx rfl (hb hby at_89) rfl k) ?_
    refine own_go (T.setTop (mkF m 92 #[.val (.int p1), .val (.long q2), .second, .val (.int p3), .val (.int P), .val (.long w1), .second, .val (.long (10 : Int64)), .second, .val (.long ((((P.toUInt32 >>> ((3 : Int32) &&& 31).toUInt32).toInt32).toInt64) + d)), .second, .val (.long (1 : Int64)), .second, .val (.long ((2 : Int64) * (P.toInt64))), .second, .unset, .unset] [(.long ((2 : Int64) * (P.toInt64))), (.long (((10 : Int64) + ((((P.toUInt32 >>> ((3 : Int32) &&& 31).toUInt32).toInt32).toInt64) + d)) + (1 : Int64)))])) (fun _ k => XS.lload X.here hx rfl (hb hby at_90) rfl k) ?_
    refine own_go (T.setTop (mkF m 93 #[.val (.int p1), .val (.long q2), .second, .val (.int p3), .val (.int P), .val (.long w1), .second, .val (.long (10 : Int64)), .second, .val (.long ((((P.toUInt32 >>> ((3 : Int32) &&& 31).toUInt32).toInt32).toInt64) + d)), .second, .val (.long (1 : Int64)), .second, .val (.long ((2 : Int64) * (P.toInt64))), .second, .unset, .unset] [(.long ((((10 : Int64) + ((((P.toUInt32 >>> ((3 : Int32) &&& 31).toUInt32).toInt32).toInt64) + d)) + (1 : Int64)) + ((2 : Int64) * (P.toInt64))))])) (fun _ k => XS.ladd X.here hx rfl (hb hby at_92) rfl k) ?_
    refine own_go (T.setTop (mkF m 94 #[.val (.int p1), .val (.long q2), .second, .val (.int p3), .val (.int P), .val (.long w1), .second, .val (.long (10 : Int64)), .second, .val (.long ((((P.toUInt32 >>> ((3 : Int32) &&& 31).toUInt32).toInt32).toInt64) + d)), .second, .val (.long (1 : Int64)), .second, .val (.long ((2 : Int64) * (P.toInt64))), .second, .unset, .unset] [(.long q2), (.long ((((10 : Int64) + ((((P.toUInt32 >>> ((3 : Int32) &&& 31).toUInt32).toInt32).toInt64) + d)) + (1 : Int64)) + ((2 : Int64) * (P.toInt64))))])) (fun _ k => XS.lloadN X.here hx rfl (hb hby at_93) rfl k) ?_
    refine own_go (T.setTop (mkF m 95 #[.val (.int p1), .val (.long q2), .second, .val (.int p3), .val (.int P), .val (.long w1), .second, .val (.long (10 : Int64)), .second, .val (.long ((((P.toUInt32 >>> ((3 : Int32) &&& 31).toUInt32).toInt32).toInt64) + d)), .second, .val (.long (1 : Int64)), .second, .val (.long ((2 : Int64) * (P.toInt64))), .second, .unset, .unset] [(.long (((((10 : Int64) + ((((P.toUInt32 >>> ((3 : Int32) &&& 31).toUInt32).toInt32).toInt64) + d)) + (1 : Int64)) + ((2 : Int64) * (P.toInt64))) + q2))])) (fun _ k => XS.ladd X.here hx rfl (hb hby at_94) rfl k) ?_
    refine own_go (T.setTop (mkF m 97 #[.val (.int p1), .val (.long q2), .second, .val (.int p3), .val (.int P), .val (.long w1), .second, .val (.long (10 : Int64)), .second, .val (.long ((((P.toUInt32 >>> ((3 : Int32) &&& 31).toUInt32).toInt32).toInt64) + d)), .second, .val (.long (1 : Int64)), .second, .val (.long ((2 : Int64) * (P.toInt64))), .second, .val (.long (((((10 : Int64) + ((((P.toUInt32 >>> ((3 : Int32) &&& 31).toUInt32).toInt32).toInt64) + d)) + (1 : Int64)) + ((2 : Int64) * (P.toInt64))) + q2)), .second] [])) (fun _ k => XS.lstore X.here hx rfl (hb hby at_95) rfl (l' := #[.val (.int p1), .val (.long q2), .second, .val (.int p3), .val (.int P), .val (.long w1), .second, .val (.long (10 : Int64)), .second, .val (.long ((((P.toUInt32 >>> ((3 : Int32) &&& 31).toUInt32).toInt32).toInt64) + d)), .second, .val (.long (1 : Int64)), .second, .val (.long ((2 : Int64) * (P.toInt64))), .second, .val (.long (((((10 : Int64) + ((((P.toUInt32 >>> ((3 : Int32) &&& 31).toUInt32).toInt32).toInt64) + d)) + (1 : Int64)) + ((2 : Int64) * (P.toInt64))) + q2)), .second]) rfl k) ?_
    refine own_go (T.setTop (mkF m 99 #[.val (.int p1), .val (.long q2), .second, .val (.int p3), .val (.int P), .val (.long w1), .second, .val (.long (10 : Int64)), .second, .val (.long ((((P.toUInt32 >>> ((3 : Int32) &&& 31).toUInt32).toInt32).toInt64) + d)), .second, .val (.long (1 : Int64)), .second, .val (.long ((2 : Int64) * (P.toInt64))), .second, .val (.long (((((10 : Int64) + ((((P.toUInt32 >>> ((3 : Int32) &&& 31).toUInt32).toInt32).toInt64) + d)) + (1 : Int64)) + ((2 : Int64) * (P.toInt64))) + q2)), .second] [(.long w1)])) (fun _ k => XS.lload X.here hx rfl (hb hby at_97) rfl k) ?_
    refine own_go (T.setTop (mkF m 101 #[.val (.int p1), .val (.long q2), .second, .val (.int p3), .val (.int P), .val (.long w1), .second, .val (.long (10 : Int64)), .second, .val (.long ((((P.toUInt32 >>> ((3 : Int32) &&& 31).toUInt32).toInt32).toInt64) + d)), .second, .val (.long (1 : Int64)), .second, .val (.long ((2 : Int64) * (P.toInt64))), .second, .val (.long (((((10 : Int64) + ((((P.toUInt32 >>> ((3 : Int32) &&& 31).toUInt32).toInt32).toInt64) + d)) + (1 : Int64)) + ((2 : Int64) * (P.toInt64))) + q2)), .second] [(.long (((((10 : Int64) + ((((P.toUInt32 >>> ((3 : Int32) &&& 31).toUInt32).toInt32).toInt64) + d)) + (1 : Int64)) + ((2 : Int64) * (P.toInt64))) + q2)), (.long w1)])) (fun _ k => XS.lload X.here hx rfl (hb hby at_99) rfl k) ?_
    refine own_go (T.setTop (mkF m 102 #[.val (.int p1), .val (.long q2), .second, .val (.int p3), .val (.int P), .val (.long w1), .second, .val (.long (10 : Int64)), .second, .val (.long ((((P.toUInt32 >>> ((3 : Int32) &&& 31).toUInt32).toInt32).toInt64) + d)), .second, .val (.long (1 : Int64)), .second, .val (.long ((2 : Int64) * (P.toInt64))), .second, .val (.long (((((10 : Int64) + ((((P.toUInt32 >>> ((3 : Int32) &&& 31).toUInt32).toInt32).toInt64) + d)) + (1 : Int64)) + ((2 : Int64) * (P.toInt64))) + q2)), .second] [(.int (lcmpW w1 (((((10 : Int64) + ((((P.toUInt32 >>> ((3 : Int32) &&& 31).toUInt32).toInt32).toInt64) + d)) + (1 : Int64)) + ((2 : Int64) * (P.toInt64))) + q2)))])) (fun _ k => XS.lcmp X.here hx rfl (hb hby at_101) rfl k) ?_
    by_cases hc102 : w1 = (((((10 : Int64) + ((((P.toUInt32 >>> ((3 : Int32) &&& 31).toUInt32).toInt32).toInt64) + d)) + (1 : Int64)) + ((2 : Int64) * (P.toInt64))) + q2)
    · have hz102 : ((w1).toInt = ((((((10 : Int64) + ((((P.toUInt32 >>> ((3 : Int32) &&& 31).toUInt32).toInt32).toInt64) + d)) + (1 : Int64)) + ((2 : Int64) * (P.toInt64))) + q2)).toInt) := own_zLeq hc102 rfl rfl
      refine own_go (T.setTop (mkF m 105 #[.val (.int p1), .val (.long q2), .second, .val (.int p3), .val (.int P), .val (.long w1), .second, .val (.long (10 : Int64)), .second, .val (.long ((((P.toUInt32 >>> ((3 : Int32) &&& 31).toUInt32).toInt32).toInt64) + d)), .second, .val (.long (1 : Int64)), .second, .val (.long ((2 : Int64) * (P.toInt64))), .second, .val (.long (((((10 : Int64) + ((((P.toUInt32 >>> ((3 : Int32) &&& 31).toUInt32).toInt32).toInt64) + d)) + (1 : Int64)) + ((2 : Int64) * (P.toInt64))) + q2)), .second] [])) (fun _ k => XS.ifNo X.here hx rfl (hb hby at_102) rfl ((if0 _ _).trans (teq ((lw_eq w1 (((((10 : Int64) + ((((P.toUInt32 >>> ((3 : Int32) &&& 31).toUInt32).toInt32).toInt64) + d)) + (1 : Int64)) + ((2 : Int64) * (P.toInt64))) + q2)).mpr hc102)).2) k) ?_
      refine own_go (T.setTop (mkF m 106 #[.val (.int p1), .val (.long q2), .second, .val (.int p3), .val (.int P), .val (.long w1), .second, .val (.long (10 : Int64)), .second, .val (.long ((((P.toUInt32 >>> ((3 : Int32) &&& 31).toUInt32).toInt32).toInt64) + d)), .second, .val (.long (1 : Int64)), .second, .val (.long ((2 : Int64) * (P.toInt64))), .second, .val (.long (((((10 : Int64) + ((((P.toUInt32 >>> ((3 : Int32) &&& 31).toUInt32).toInt32).toInt64) + d)) + (1 : Int64)) + ((2 : Int64) * (P.toInt64))) + q2)), .second] [(.int (1 : Int32))])) (fun _ k => XS.iconst X.here hx rfl (hb hby at_105) k) ?_
      refine own_go (T.setTop (mkF m 110 #[.val (.int p1), .val (.long q2), .second, .val (.int p3), .val (.int P), .val (.long w1), .second, .val (.long (10 : Int64)), .second, .val (.long ((((P.toUInt32 >>> ((3 : Int32) &&& 31).toUInt32).toInt32).toInt64) + d)), .second, .val (.long (1 : Int64)), .second, .val (.long ((2 : Int64) * (P.toInt64))), .second, .val (.long (((((10 : Int64) + ((((P.toUInt32 >>> ((3 : Int32) &&& 31).toUInt32).toInt32).toInt64) + d)) + (1 : Int64)) + ((2 : Int64) * (P.toInt64))) + q2)), .second] [(.int (1 : Int32))])) (fun _ k => XS.goto X.here hx rfl (pc0 := 106) (pc' := 110) rfl (hb hby at_106) (by decide) (by decide) k) ?_
      refine own_ret X (BodyLoose.notSynchronized Bd) (some (.int (1 : Int32))) (fun h => by rw [Bd.returns] at h; cases h) (fun fs hr => retN X hx (t := .boolean) Bd.returns (by simp) (hb hby at_110) hr) (by decide) (by decide) ?_
      exact ⟨rfl, N⟩
    · have hz102 : ¬ ((w1).toInt = ((((((10 : Int64) + ((((P.toUInt32 >>> ((3 : Int32) &&& 31).toUInt32).toInt32).toInt64) + d)) + (1 : Int64)) + ((2 : Int64) * (P.toInt64))) + q2)).toInt) := own_zLneq hc102 rfl rfl
      exact absurd ((B1 hz26).trans (own_law P q2 d fP.1 fP.2 fd)) hc102
  have J14 : ∀ (T : State) (lc : List Loc) (X : Stand p l e room_1 s m #[(.int p1), (.long q2), (.int p3)] below meth c T lc 0 0) (eT : T.heap = h0) (N : Fr n0 lc) (P : Int32) (fP : 0 ≤ P.toInt ∧ P.toInt < 1073741824), own_Fin p e below s (own_Q0 Z p1 q2 p3 h0 n0) room_1.cells room_1.slots (T.setTop (mkF m 14 #[.val (.int p1), .val (.long q2), .second, .val (.int p3), .unset, .unset, .unset, .unset, .unset, .unset, .unset, .unset, .unset, .unset, .unset, .unset, .unset] [(.int P)])) := by
    intro T lc X eT N P fP
    refine own_go (T.setTop (mkF m 16 #[.val (.int p1), .val (.long q2), .second, .val (.int p3), .val (.int P), .unset, .unset, .unset, .unset, .unset, .unset, .unset, .unset, .unset, .unset, .unset, .unset] [])) (fun _ k => XS.istore X.here hx rfl (hb hby at_14) rfl (l' := #[.val (.int p1), .val (.long q2), .second, .val (.int p3), .val (.int P), .unset, .unset, .unset, .unset, .unset, .unset, .unset, .unset, .unset, .unset, .unset, .unset]) rfl k) ?_
    refine own_go (T.setTop (mkF m 18 #[.val (.int p1), .val (.long q2), .second, .val (.int p3), .val (.int P), .unset, .unset, .unset, .unset, .unset, .unset, .unset, .unset, .unset, .unset, .unset, .unset] [(.int P)])) (fun _ k => XS.iload X.here hx rfl (hb hby at_16) rfl k) ?_
    refine own_go (T.setTop (mkF m 19 #[.val (.int p1), .val (.long q2), .second, .val (.int p3), .val (.int P), .unset, .unset, .unset, .unset, .unset, .unset, .unset, .unset, .unset, .unset, .unset, .unset] [(.long q2), (.int P)])) (fun _ k => XS.lloadN X.here hx rfl (hb hby at_18) rfl k) ?_
    obtain ⟨_, _, ⟨T1, L1, k1, n1⟩, -, X1, ⟨Lc1, hQ1, l1, y1, z1⟩, st1⟩ := Jvm.LawKit.callS X hx (y := (⟨"com/example/cutover/cutover/mariadb/Packets", "execute", "(IJ)J"⟩ : MethodName)) hown (mvT hZ (hw _ (List.mem_of_getElem? (i := 1) rfl))) (mvT hZ (hw _ (List.mem_of_getElem? (i := 2) rfl))) (mvT hZ (hw _ (List.mem_of_getElem? (i := 3) rfl))) (mvT hZ (hw _ (List.mem_of_getElem? (i := 4) rfl))) (by decide) (backOf (W := 0) (own_rm1 l Z a0 hw [] P q2 h0 n0 Z0) hZ (hw _ (List.mem_of_getElem? (i := 4) rfl)) (hw _ (List.mem_of_getElem? (i := 3) rfl)) (by decide) (by decide)) (g := (mkF m 19 #[.val (.int p1), .val (.long q2), .second, .val (.int p3), .val (.int P), .unset, .unset, .unset, .unset, .unset, .unset, .unset, .unset, .unset, .unset, .unset, .unset] [(.long q2), (.int P)])) rfl (by rw [hml]; rfl) (argsL := [(.int P), (.long q2)]) (rest := []) (lenOf own_pd0 rfl) rfl (by show 2 * 0 + _ ≤ _; exact Nat.le_of_eq rfl) (hb hby at_19) (fun _ _ => ⟨rfl, eT, (by decide : 0 + 0 ≤ _), (by decide : 0 + 0 ≤ _)⟩)
    dsimp only [Pt.U, Pt.locs, Pt.cells, Pt.slots] at X1 l1 y1 z1 st1 hQ1
    subst l1 y1 z1
    obtain ⟨w1, rfl, N1q, e1, A1, B1⟩ := hQ1
    have N1 := Fr.app N N1q
    refine own_go (T1.setTop (mkF m 22 #[.val (.int p1), .val (.long q2), .second, .val (.int p3), .val (.int P), .unset, .unset, .unset, .unset, .unset, .unset, .unset, .unset, .unset, .unset, .unset, .unset] [(.long w1)])) (fun _ k => st1 _ k) ?_
    refine own_go (T1.setTop (mkF m 24 #[.val (.int p1), .val (.long q2), .second, .val (.int p3), .val (.int P), .val (.long w1), .second, .unset, .unset, .unset, .unset, .unset, .unset, .unset, .unset, .unset, .unset] [])) (fun _ k => XS.lstore X1.here hx rfl (hb hby at_22) rfl (l' := #[.val (.int p1), .val (.long q2), .second, .val (.int p3), .val (.int P), .val (.long w1), .second, .unset, .unset, .unset, .unset, .unset, .unset, .unset, .unset, .unset, .unset]) rfl k) ?_
    refine own_go (T1.setTop (mkF m 26 #[.val (.int p1), .val (.long q2), .second, .val (.int p3), .val (.int P), .val (.long w1), .second, .unset, .unset, .unset, .unset, .unset, .unset, .unset, .unset, .unset, .unset] [(.int P)])) (fun _ k => XS.iload X1.here hx rfl (hb hby at_24) rfl k) ?_
    by_cases hc26 : P = (0 : Int32)
    · have hz26 : ((P).toInt = 0) := own_zeq hc26 rfl rfl
      refine own_go (T1.setTop (mkF m 29 #[.val (.int p1), .val (.long q2), .second, .val (.int p3), .val (.int P), .val (.long w1), .second, .unset, .unset, .unset, .unset, .unset, .unset, .unset, .unset, .unset, .unset] [])) (fun _ k => XS.ifNo X1.here hx rfl (hb hby at_26) rfl ((if0 _ _).trans (teq hc26).2) k) ?_
      refine own_go (T1.setTop (mkF m 31 #[.val (.int p1), .val (.long q2), .second, .val (.int p3), .val (.int P), .val (.long w1), .second, .unset, .unset, .unset, .unset, .unset, .unset, .unset, .unset, .unset, .unset] [(.long w1)])) (fun _ k => XS.lload X1.here hx rfl (hb hby at_29) rfl k) ?_
      refine own_go (T1.setTop (mkF m 34 #[.val (.int p1), .val (.long q2), .second, .val (.int p3), .val (.int P), .val (.long w1), .second, .unset, .unset, .unset, .unset, .unset, .unset, .unset, .unset, .unset, .unset] [(.long (10 : Int64)), (.long w1)])) (fun _ k => X1.ldc2Long hx hown (mvT hZ (hw _ (List.mem_of_getElem? (i := 6) rfl))) (g := (mkF m 31 #[.val (.int p1), .val (.long q2), .second, .val (.int p3), .val (.int P), .val (.long w1), .second, .unset, .unset, .unset, .unset, .unset, .unset, .unset, .unset, .unset, .unset] [(.long w1)])) rfl (hb hby at_31) _ k) ?_
      refine own_go (T1.setTop (mkF m 35 #[.val (.int p1), .val (.long q2), .second, .val (.int p3), .val (.int P), .val (.long w1), .second, .unset, .unset, .unset, .unset, .unset, .unset, .unset, .unset, .unset, .unset] [(.int (lcmpW w1 (10 : Int64)))])) (fun _ k => XS.lcmp X1.here hx rfl (hb hby at_34) rfl k) ?_
      by_cases hc35 : w1 = (10 : Int64)
      · have hz35 : ((w1).toInt = 10) := own_zLeq hc35 rfl rfl
        refine own_go (T1.setTop (mkF m 38 #[.val (.int p1), .val (.long q2), .second, .val (.int p3), .val (.int P), .val (.long w1), .second, .unset, .unset, .unset, .unset, .unset, .unset, .unset, .unset, .unset, .unset] [])) (fun _ k => XS.ifNo X1.here hx rfl (hb hby at_35) rfl ((if0 _ _).trans (teq ((lw_eq w1 (10 : Int64)).mpr hc35)).2) k) ?_
        refine own_go (T1.setTop (mkF m 39 #[.val (.int p1), .val (.long q2), .second, .val (.int p3), .val (.int P), .val (.long w1), .second, .unset, .unset, .unset, .unset, .unset, .unset, .unset, .unset, .unset, .unset] [(.int (1 : Int32))])) (fun _ k => XS.iconst X1.here hx rfl (hb hby at_38) k) ?_
        refine own_go (T1.setTop (mkF m 43 #[.val (.int p1), .val (.long q2), .second, .val (.int p3), .val (.int P), .val (.long w1), .second, .unset, .unset, .unset, .unset, .unset, .unset, .unset, .unset, .unset, .unset] [(.int (1 : Int32))])) (fun _ k => XS.goto X1.here hx rfl (pc0 := 39) (pc' := 43) rfl (hb hby at_39) (by decide) (by decide) k) ?_
        refine own_ret X1 (BodyLoose.notSynchronized Bd) (some (.int (1 : Int32))) (fun h => by rw [Bd.returns] at h; cases h) (fun fs hr => retN X1 hx (t := .boolean) Bd.returns (by simp) (hb hby at_43) hr) (by decide) (by decide) ?_
        exact ⟨rfl, N1⟩
      · have hz35 : ¬ ((w1).toInt = 10) := own_zLneq hc35 rfl rfl
        exact absurd (A1 hz26) hc35
    · have hz26 : ¬ ((P).toInt = 0) := own_zneq hc26 rfl rfl
      refine own_go (T1.setTop (mkF m 44 #[.val (.int p1), .val (.long q2), .second, .val (.int p3), .val (.int P), .val (.long w1), .second, .unset, .unset, .unset, .unset, .unset, .unset, .unset, .unset, .unset, .unset] [])) (fun _ k => XS.ifYes X1.here hx rfl (pc0 := 26) (pc' := 44) rfl (hb hby at_26) rfl ((if0 _ _).trans (feq hc26).2) (by decide) (by decide) k) ?_
      refine own_go (T1.setTop (mkF m 47 #[.val (.int p1), .val (.long q2), .second, .val (.int p3), .val (.int P), .val (.long w1), .second, .unset, .unset, .unset, .unset, .unset, .unset, .unset, .unset, .unset, .unset] [(.long (10 : Int64))])) (fun _ k => X1.ldc2Long hx hown (mvT hZ (hw _ (List.mem_of_getElem? (i := 6) rfl))) (g := (mkF m 44 #[.val (.int p1), .val (.long q2), .second, .val (.int p3), .val (.int P), .val (.long w1), .second, .unset, .unset, .unset, .unset, .unset, .unset, .unset, .unset, .unset, .unset] [])) rfl (hb hby at_44) _ k) ?_
      refine own_go (T1.setTop (mkF m 49 #[.val (.int p1), .val (.long q2), .second, .val (.int p3), .val (.int P), .val (.long w1), .second, .val (.long (10 : Int64)), .second, .unset, .unset, .unset, .unset, .unset, .unset, .unset, .unset] [])) (fun _ k => XS.lstore X1.here hx rfl (hb hby at_47) rfl (l' := #[.val (.int p1), .val (.long q2), .second, .val (.int p3), .val (.int P), .val (.long w1), .second, .val (.long (10 : Int64)), .second, .unset, .unset, .unset, .unset, .unset, .unset, .unset, .unset]) rfl k) ?_
      refine own_go (T1.setTop (mkF m 51 #[.val (.int p1), .val (.long q2), .second, .val (.int p3), .val (.int P), .val (.long w1), .second, .val (.long (10 : Int64)), .second, .unset, .unset, .unset, .unset, .unset, .unset, .unset, .unset] [(.int P)])) (fun _ k => XS.iload X1.here hx rfl (hb hby at_49) rfl k) ?_
      refine own_go (T1.setTop (mkF m 52 #[.val (.int p1), .val (.long q2), .second, .val (.int p3), .val (.int P), .val (.long w1), .second, .val (.long (10 : Int64)), .second, .unset, .unset, .unset, .unset, .unset, .unset, .unset, .unset] [(.int (3 : Int32)), (.int P)])) (fun _ k => XS.iconst X1.here hx rfl (hb hby at_51) k) ?_
      refine own_go (T1.setTop (mkF m 53 #[.val (.int p1), .val (.long q2), .second, .val (.int p3), .val (.int P), .val (.long w1), .second, .val (.long (10 : Int64)), .second, .unset, .unset, .unset, .unset, .unset, .unset, .unset, .unset] [(.int ((P.toUInt32 >>> ((3 : Int32) &&& 31).toUInt32).toInt32))])) (fun _ k => XS.iushr X1.here hx rfl (hb hby at_52) rfl k) ?_
      refine own_go (T1.setTop (mkF m 54 #[.val (.int p1), .val (.long q2), .second, .val (.int p3), .val (.int P), .val (.long w1), .second, .val (.long (10 : Int64)), .second, .unset, .unset, .unset, .unset, .unset, .unset, .unset, .unset] [(.long (((P.toUInt32 >>> ((3 : Int32) &&& 31).toUInt32).toInt32).toInt64))])) (fun _ k => XS.i2l X1.here hx rfl (hb hby at_53) rfl k) ?_
      refine own_go (T1.setTop (mkF m 56 #[.val (.int p1), .val (.long q2), .second, .val (.int p3), .val (.int P), .val (.long w1), .second, .val (.long (10 : Int64)), .second, .unset, .unset, .unset, .unset, .unset, .unset, .unset, .unset] [(.int P), (.long (((P.toUInt32 >>> ((3 : Int32) &&& 31).toUInt32).toInt32).toInt64))])) (fun _ k => XS.iload X1.here hx rfl (hb hby at_54) rfl k) ?_
      refine own_go (T1.setTop (mkF m 58 #[.val (.int p1), .val (.long q2), .second, .val (.int p3), .val (.int P), .val (.long w1), .second, .val (.long (10 : Int64)), .second, .unset, .unset, .unset, .unset, .unset, .unset, .unset, .unset] [(.int (7 : Int32)), (.int P), (.long (((P.toUInt32 >>> ((3 : Int32) &&& 31).toUInt32).toInt32).toInt64))])) (fun _ k => XS.bipush X1.here hx rfl (hb hby at_56) k) ?_
      refine own_go (T1.setTop (mkF m 59 #[.val (.int p1), .val (.long q2), .second, .val (.int p3), .val (.int P), .val (.long w1), .second, .val (.long (10 : Int64)), .second, .unset, .unset, .unset, .unset, .unset, .unset, .unset, .unset] [(.int (P &&& (7 : Int32))), (.long (((P.toUInt32 >>> ((3 : Int32) &&& 31).toUInt32).toInt32).toInt64))])) (fun _ k => XS.iand X1.here hx rfl (hb hby at_58) rfl k) ?_
      by_cases hc59 : (P &&& (7 : Int32)) = (0 : Int32)
      · have hz59 : (((P &&& (7 : Int32))).toInt = 0) := own_zeq hc59 rfl rfl
        refine own_go (T1.setTop (mkF m 66 #[.val (.int p1), .val (.long q2), .second, .val (.int p3), .val (.int P), .val (.long w1), .second, .val (.long (10 : Int64)), .second, .unset, .unset, .unset, .unset, .unset, .unset, .unset, .unset] [(.long (((P.toUInt32 >>> ((3 : Int32) &&& 31).toUInt32).toInt32).toInt64))])) (fun _ k => XS.ifYes X1.here hx rfl (pc0 := 59) (pc' := 66) rfl (hb hby at_59) rfl ((if0 _ _).trans (teq hc59).1) (by decide) (by decide) k) ?_
        refine own_go (T1.setTop (mkF m 67 #[.val (.int p1), .val (.long q2), .second, .val (.int p3), .val (.int P), .val (.long w1), .second, .val (.long (10 : Int64)), .second, .unset, .unset, .unset, .unset, .unset, .unset, .unset, .unset] [(.long (0 : Int64)), (.long (((P.toUInt32 >>> ((3 : Int32) &&& 31).toUInt32).toInt32).toInt64))])) (fun _ k => XS.lconst X1.here hx rfl (hb hby at_66) k) ?_
        exact J67 _ _ X1 e1 N1 _ _ _ fP hz26 B1 (by have c9 : (P &&& (7 : Int32)).toInt = P.toInt % (8 : Nat) := c_mask P 7 3 (by decide) (by decide); first | exact Or.inl ⟨rfl, by omega⟩ | exact Or.inr ⟨rfl, by omega⟩)
      · have hz59 : ¬ (((P &&& (7 : Int32))).toInt = 0) := own_zneq hc59 rfl rfl
        refine own_go (T1.setTop (mkF m 62 #[.val (.int p1), .val (.long q2), .second, .val (.int p3), .val (.int P), .val (.long w1), .second, .val (.long (10 : Int64)), .second, .unset, .unset, .unset, .unset, .unset, .unset, .unset, .unset] [(.long (((P.toUInt32 >>> ((3 : Int32) &&& 31).toUInt32).toInt32).toInt64))])) (fun _ k => XS.ifNo X1.here hx rfl (hb hby at_59) rfl ((if0 _ _).trans (feq hc59).1) k) ?_
        refine own_go (T1.setTop (mkF m 63 #[.val (.int p1), .val (.long q2), .second, .val (.int p3), .val (.int P), .val (.long w1), .second, .val (.long (10 : Int64)), .second, .unset, .unset, .unset, .unset, .unset, .unset, .unset, .unset] [(.long (1 : Int64)), (.long (((P.toUInt32 >>> ((3 : Int32) &&& 31).toUInt32).toInt32).toInt64))])) (fun _ k => XS.lconst X1.here hx rfl (hb hby at_62) k) ?_
        refine own_go (T1.setTop (mkF m 67 #[.val (.int p1), .val (.long q2), .second, .val (.int p3), .val (.int P), .val (.long w1), .second, .val (.long (10 : Int64)), .second, .unset, .unset, .unset, .unset, .unset, .unset, .unset, .unset] [(.long (1 : Int64)), (.long (((P.toUInt32 >>> ((3 : Int32) &&& 31).toUInt32).toInt32).toInt64))])) (fun _ k => XS.goto X1.here hx rfl (pc0 := 63) (pc' := 67) rfl (hb hby at_63) (by decide) (by decide) k) ?_
        exact J67 _ _ X1 e1 N1 _ _ _ fP hz26 B1 (by have c9 : (P &&& (7 : Int32)).toInt = P.toInt % (8 : Nat) := c_mask P 7 3 (by decide) (by decide); first | exact Or.inl ⟨rfl, by omega⟩ | exact Or.inr ⟨rfl, by omega⟩)
  show own_Fin p e below s (own_Q0 Z p1 q2 p3 h0 n0) room_1.cells room_1.slots (s₁.setTop (entryFrame m #[(.int p1), (.long q2), (.int p3)] maxLocals))
  refine own_go (s₁.setTop (mkF m 0 #[.val (.int p1), .val (.long q2), .second, .val (.int p3), .unset, .unset, .unset, .unset, .unset, .unset, .unset, .unset, .unset, .unset, .unset, .unset, .unset] [])) (fun t k => castTop (own_ef0 m p1 q2 p3) k) ?_
  refine own_go (s₁.setTop (mkF m 1 #[.val (.int p1), .val (.long q2), .second, .val (.int p3), .unset, .unset, .unset, .unset, .unset, .unset, .unset, .unset, .unset, .unset, .unset, .unset, .unset] [(.int p3)])) (fun _ k => XS.iloadN X0.here hx rfl (hb hby at_0) rfl k) ?_
  refine own_go (s₁.setTop (mkF m 2 #[.val (.int p1), .val (.long q2), .second, .val (.int p3), .unset, .unset, .unset, .unset, .unset, .unset, .unset, .unset, .unset, .unset, .unset, .unset, .unset] [(.int (3 : Int32)), (.int p3)])) (fun _ k => XS.iconst X0.here hx rfl (hb hby at_1) k) ?_
  refine own_go (s₁.setTop (mkF m 3 #[.val (.int p1), .val (.long q2), .second, .val (.int p3), .unset, .unset, .unset, .unset, .unset, .unset, .unset, .unset, .unset, .unset, .unset, .unset, .unset] [(.int (p3 &&& (3 : Int32)))])) (fun _ k => XS.iand X0.here hx rfl (hb hby at_2) rfl k) ?_
  by_cases hc3 : (p3 &&& (3 : Int32)) = (0 : Int32)
  · have hz3 : (((p3 &&& (3 : Int32))).toInt = 0) := own_zeq hc3 rfl rfl
    refine own_go (s₁.setTop (mkF m 6 #[.val (.int p1), .val (.long q2), .second, .val (.int p3), .unset, .unset, .unset, .unset, .unset, .unset, .unset, .unset, .unset, .unset, .unset, .unset, .unset] [])) (fun _ k => XS.ifNo X0.here hx rfl (hb hby at_3) rfl ((if0 _ _).trans (teq hc3).2) k) ?_
    refine own_go (s₁.setTop (mkF m 7 #[.val (.int p1), .val (.long q2), .second, .val (.int p3), .unset, .unset, .unset, .unset, .unset, .unset, .unset, .unset, .unset, .unset, .unset, .unset, .unset] [(.int (0 : Int32))])) (fun _ k => XS.iconst X0.here hx rfl (hb hby at_6) k) ?_
    refine own_go (s₁.setTop (mkF m 14 #[.val (.int p1), .val (.long q2), .second, .val (.int p3), .unset, .unset, .unset, .unset, .unset, .unset, .unset, .unset, .unset, .unset, .unset, .unset, .unset] [(.int (0 : Int32))])) (fun _ k => XS.goto X0.here hx rfl (pc0 := 7) (pc' := 14) rfl (hb hby at_7) (by decide) (by decide) k) ?_
    refine J14 _ _ X0 e0 N0 _ ?_
    first | exact ⟨by decide, by decide⟩ | (have c9 : (p1 &&& (1073741823 : Int32)).toInt = p1.toInt % (1073741824 : Nat) := c_mask p1 1073741823 30 (by decide) (by decide); omega)
  · have hz3 : ¬ (((p3 &&& (3 : Int32))).toInt = 0) := own_zneq hc3 rfl rfl
    refine own_go (s₁.setTop (mkF m 10 #[.val (.int p1), .val (.long q2), .second, .val (.int p3), .unset, .unset, .unset, .unset, .unset, .unset, .unset, .unset, .unset, .unset, .unset, .unset, .unset] [])) (fun _ k => XS.ifYes X0.here hx rfl (pc0 := 3) (pc' := 10) rfl (hb hby at_3) rfl ((if0 _ _).trans (feq hc3).2) (by decide) (by decide) k) ?_
    refine own_go (s₁.setTop (mkF m 11 #[.val (.int p1), .val (.long q2), .second, .val (.int p3), .unset, .unset, .unset, .unset, .unset, .unset, .unset, .unset, .unset, .unset, .unset, .unset, .unset] [(.int p1)])) (fun _ k => XS.iloadN X0.here hx rfl (hb hby at_10) rfl k) ?_
    refine own_go (s₁.setTop (mkF m 13 #[.val (.int p1), .val (.long q2), .second, .val (.int p3), .unset, .unset, .unset, .unset, .unset, .unset, .unset, .unset, .unset, .unset, .unset, .unset, .unset] [(.int (1073741823 : Int32)), (.int p1)])) (fun _ k => X0.ldcInt hx hown (mvT hZ (hw _ (List.mem_of_getElem? (i := 0) rfl))) (g := (mkF m 11 #[.val (.int p1), .val (.long q2), .second, .val (.int p3), .unset, .unset, .unset, .unset, .unset, .unset, .unset, .unset, .unset, .unset, .unset, .unset, .unset] [(.int p1)])) rfl (hb hby at_11) _ k) ?_
    refine own_go (s₁.setTop (mkF m 14 #[.val (.int p1), .val (.long q2), .second, .val (.int p3), .unset, .unset, .unset, .unset, .unset, .unset, .unset, .unset, .unset, .unset, .unset, .unset, .unset] [(.int (p1 &&& (1073741823 : Int32)))])) (fun _ k => XS.iand X0.here hx rfl (hb hby at_13) rfl k) ?_
    refine J14 _ _ X0 e0 N0 _ ?_
    first | exact ⟨by decide, by decide⟩ | (have c9 : (p1 &&& (1073741823 : Int32)).toInt = p1.toInt % (1073741824 : Nat) := c_mask p1 1073741823 30 (by decide) (by decide); omega)
set_option maxRecDepth 65536 in
set_option maxHeartbeats 40000000 in
theorem own_comes {Post : Tables → Env → Array Value → State → Outcome → State → Prop} (hpost : ∀ tb e args s v u, (limb_1_1.after args s (.returned v) u = true ∧ limb_1_2.after args s (.returned v) u = true ∧ True) → FrameEnd s (.returned v) u (Jvm.fieldLocs frame_1_writes args s ++ Jvm.arrayLocs frame_1_arrays args s ++ Jvm.staticLocs frame_1_statics s) 0 0 → Post tb e args s (.returned v) u) :
    ArmFor flags0 classFile x code maxLocals ret World_1 tables_1 room_1 Calls_1 rest_1 Pre_1 Post := by
  intro l hfl _ _ p e ha hc hk s m args below hf hA hF happ hP
  obtain ⟨hcalls, hrest, hpre⟩ := hP
  obtain ⟨-, -, -, hnamed, -, -, -, hat⟩ := (Spec.applies_iff hf).mp happ
  obtain ⟨hg, hn⟩ := and_e (Cond.before_iff.mp (show (Jvm.Cond.and given_1 narrow_1).before args s = true from hpre))
  obtain ⟨hq0, hr0⟩ := and_e hg
  obtain ⟨hq1, hr1⟩ := and_e hr0
  obtain ⟨hq2, hr2⟩ := and_e hr1
  obtain ⟨w0, w1, w2, rfl⟩ : ∃ w0 w1 w2 : Value, args = #[w0, w1, w2] := by
    have hs : args.size = 3 := by simpa [Cond.value, given_1] using hq0
    obtain ⟨L⟩ := args
    match L, hs with
    | [w0, w1, w2], _ => exact ⟨w0, w1, w2, rfl⟩
  have hw := fun d (hd : d ∈ tables_1) => atoms_spec (ws := Jvm.Cond.code x code maxLocals ret :: tables_1) hat d (List.mem_cons_of_mem _ hd)
  have hfit : Fit s := fun {y c} hc i hi => by
    obtain ⟨ha, rfl⟩ := Array.getElem?_eq_some_iff.mp hc
    have q := List.all_eq_true.mp ((Array.all_eq_true_iff_forall_mem.mp hF) _ (Array.getElem_mem ha)) i (List.mem_range.mpr hi)
    simpa [Array.getElem?_eq_getElem hi] using q
  obtain ⟨i0, ei0⟩ := is_v hq1
  obtain rfl : w0 = (.int i0) := Option.some.inj ei0
  obtain ⟨i1, ei1⟩ := isL_v hq2
  obtain rfl : w1 = (.long i1) := Option.some.inj ei1
  obtain ⟨i2, ei2⟩ := is_v hr2
  obtain rfl : w2 = (.int i2) := Option.some.inj ei2
  obtain ⟨n, o, h1, h2, h3, _, L, rfl, ⟨rfl, N⟩, hq⟩ := own_rm0 l s _ hw tables_1 i0 i1 i2 s.heap s.heap.size (Nat.le_refl _) p e ha hc hk s m _ below hf ((Spec.applies_iff_loose hf).mp happ).1 ⟨rfl, State.Warmed39.refl s, rfl⟩ trivial
  refine ⟨n, _, h1, h2, h3, hpost _ _ _ _ _ _ ⟨Cond.after_iff.mpr rfl, Cond.after_iff.mpr (eq_i res_at (Term.int_eval (1)) rfl), trivial⟩ ⟨hq.1, hq.2.1, (hq.2.2.sift fun y hy => Or.inr (N y hy)).mono (by decide) (by decide)⟩⟩
theorem main_1_1 : Claimed_1_1 := own_comes fun _ _ _ _ _ _ h hF => ⟨h.1, hF⟩
theorem main_1_2 : Claimed_1_2 := own_comes fun _ _ _ _ _ _ h hF => ⟨h.2.1, hF⟩
end Jvm.Pilot.@@N@@
namespace Jvm.Pilot.@@N@@
open Jvm Jvm.ClassFile Sem Op Lib Jvm.Free Jvm.Stand Jvm.Pilot.@@N@@.Jvm.D
/-! MADE BY PROGRAM (witnessworld.py) out of the Statement's table words and the real class files: 9 classes; the members and pool entries that the words name. The judged class is class 1, her method 1. -/
namespace start1
open Jvm.ClassFile
def u (s : String) : CpInfo := .utf8 (stringToUtf16 s)
/-- a pool by its gaps: so many unusable entries, then the entry; so many at the end -/
def gap : Nat → List CpInfo → List CpInfo
  | 0, r => r
  | n + 1, r => .unusable :: gap n r
def poolList (es : List (Nat × CpInfo)) (last : Nat) : List CpInfo := es.foldr (fun e r => gap e.1 (e.2 :: r)) (gap last [])
def pool (es : List (Nat × CpInfo)) (last : Nat) : Array CpInfo := ⟨poolList es last⟩
def fileOf (pool : Array CpInfo) (this : Nat) (attrs : Array Attribute := #[]) (ms : Array MethodInfo := #[]) (fl : Nat := 33) (sup : Nat := 0) (ifs : Array Nat := #[]) (fds : Array FieldInfo := #[]) : ClassFile where
  minorVersion := 0
  majorVersion := 65
  constantPool := pool
  accessFlags := fl
  thisClass := this
  superClass := sup
  interfaces := ifs
  fields := fds
  methods := ms
  attributes := attrs
def plain (name : String) (sup : Option ClassId) : Class where
  name := name
  kind := .ordinary
  loader := none
  accessFlags := 33
  super := sup
  interfaces := #[]
  cf := none
  fields := #[]
  methods := #[]
  instanceTypes := #[]
  staticTypes := #[]
  resolved := #[]
  callSites := []
  init := .initialized
  statics := none
  mirror := none

def pool0 : Array CpInfo := pool [(5, u "<init>"), (0, u "()V"), (1, .class_ 10), (1, u "java/lang/Object")] 113

def k0m0 : Method := { name := "<init>", desc := "()V", sig := { parameters := [], returnType := none }, accessFlags := 1, code := none }
/-- java/lang/Object -/
def k0 : Class := { plain "java/lang/Object" none with
  accessFlags := 33
  interfaces := #[]
  cf := some (fileOf pool0 8 #[] #[{ accessFlags := 1, nameIndex := 5, descriptorIndex := 6, attributes := #[] }] 33 0 #[] #[])
  fields := #[]
  methods := #[k0m0]
  instanceTypes := #[]
  staticTypes := #[]
  resolved := Array.replicate 124 none
  statics := none }

def pool1 : Array CpInfo := pool [(2, .class_ 4), (1, u "java/lang/Object"), (0, u "<init>"), (0, u "()V"), (0, .integer 1073741823), (0, .methodref 9 10), (0, .class_ 11), (0, .nameAndType 12 13), (0, u "com/example/cutover/cutover/mariadb/Packets"), (0, u "execute"), (0, u "(IJ)J"), (0, .long 10), (1, .long 2), (1, .class_ 19), (0, u "com/example/cutover/cutover/mariadb/PacketsExecutePinLaw"), (2, u "law"), (0, u "(IJI)Z")] 3

def k1m0 : Method := { name := "<init>", desc := "()V", sig := { parameters := [], returnType := none }, accessFlags := 2, code := none }
def k1c1 : Code := { maxStack := 4, maxLocals := 17, code := code, exceptionTable := #[], attributes := #[] }
def k1m1 : Method := { name := "law", desc := "(IJI)Z", sig := { parameters := [.int, .long, .int], returnType := some .boolean }, accessFlags := 9, code := some k1c1 }
/-- com/example/cutover/cutover/mariadb/PacketsExecutePinLaw -/
def k1 : Class := { plain "com/example/cutover/cutover/mariadb/PacketsExecutePinLaw" (some 0) with
  accessFlags := 49
  interfaces := #[]
  cf := some (fileOf pool1 18 #[] #[{ accessFlags := 2, nameIndex := 5, descriptorIndex := 6, attributes := #[] }, { accessFlags := 9, nameIndex := 22, descriptorIndex := 23, attributes := #[] }] 49 2 #[] #[])
  fields := #[]
  methods := #[k1m0, k1m1]
  instanceTypes := #[]
  staticTypes := #[]
  resolved := Array.replicate 27 none
  statics := none }

def pool2 : Array CpInfo := pool [(2, .class_ 4), (1, u "java/lang/Object"), (0, u "<init>"), (0, u "()V"), (35, .class_ 44), (1, u "com/example/cutover/cutover/mariadb/Packets"), (2, .long 10), (1, .long 2), (48, u "execute"), (0, u "(IJ)J")] 7

def k2m0 : Method := { name := "<init>", desc := "()V", sig := { parameters := [], returnType := none }, accessFlags := 2, code := none }
def k2c1 : Code := { maxStack := 6, maxLocals := 3, code := prog_107_method_5_code, exceptionTable := #[], attributes := #[] }
def k2m1 : Method := { name := "execute", desc := "(IJ)J", sig := { parameters := [.int, .long], returnType := some .long }, accessFlags := 9, code := some k2c1 }
/-- com/example/cutover/cutover/mariadb/Packets -/
def k2 : Class := { plain "com/example/cutover/cutover/mariadb/Packets" (some 0) with
  accessFlags := 49
  interfaces := #[]
  cf := some (fileOf pool2 42 #[] #[{ accessFlags := 2, nameIndex := 5, descriptorIndex := 6, attributes := #[] }, { accessFlags := 9, nameIndex := 98, descriptorIndex := 99, attributes := #[] }] 49 2 #[] #[])
  fields := #[]
  methods := #[k2m0, k2m1]
  instanceTypes := #[]
  staticTypes := #[]
  resolved := Array.replicate 107 none
  statics := none }

def pool3 : Array CpInfo := pool [(1, u "java/lang/Cloneable"), (0, .class_ 1), (0, u "java/lang/Object"), (0, .class_ 3)] 3

/-- java/lang/Cloneable -/
def k3 : Class := { plain "java/lang/Cloneable" (some 0) with
  accessFlags := 1537
  interfaces := #[]
  cf := some (fileOf pool3 2 #[] #[] 1537 4 #[] #[])
  fields := #[]
  methods := #[]
  instanceTypes := #[]
  staticTypes := #[]
  resolved := Array.replicate 8 none
  statics := none }

def pool4 : Array CpInfo := pool [(1, u "java/io/Serializable"), (0, .class_ 1), (0, u "java/lang/Object"), (0, .class_ 3)] 3

/-- java/io/Serializable -/
def k4 : Class := { plain "java/io/Serializable" (some 0) with
  accessFlags := 1537
  interfaces := #[]
  cf := some (fileOf pool4 2 #[] #[] 1537 4 #[] #[])
  fields := #[]
  methods := #[]
  instanceTypes := #[]
  staticTypes := #[]
  resolved := Array.replicate 8 none
  statics := none }

/-- the primitive byte -/
def k5 : Class := { plain "byte" none with kind := .primitive 'B', accessFlags := 0x411 }
/-- [B -/
def k6 : Class := { plain "[B" (some 0) with kind := .array 5 .byte, interfaces := #[3, 4], accessFlags := 1041 }

/-- the primitive int -/
def k7 : Class := { plain "int" none with kind := .primitive 'I', accessFlags := 0x411 }
/-- [I -/
def k8 : Class := { plain "[I" (some 0) with kind := .array 7 .int, interfaces := #[3, 4], accessFlags := 1041 }

def heap : Heap := #[]
def classes : Array Class := #[k0, k1, k2, k3, k4, k5, k6, k7, k8]
def interned : List (Array UInt16 × Addr) := []
def slotsUsed : Nat := 0
def theMethod : MethodId := ⟨1, 1⟩
def args0 : Array Value := #[.int 5, .long 7, .int 1]
def aboutOver (below : List Frame) : State where
  vm := { classes := classes, interned := interned.toArray }
  heap := heap
  slotsUsed := slotsUsed
  threads := #[{ frames := .invoking theMethod args0 :: below }]
def below0 : List Frame := [.native { method := ⟨0, 0⟩, args := #[] }]
def about1 : State := aboutOver below0
def p0 : Program := .bare "" "" ""
def e0 : Env := launch0.env 0 0 0
theorem w_frames : about1.frames = Frame.invoking theMethod args0 :: below0 := rfl
set_option maxRecDepth 65536 in
theorem w_args : argsFit about1.vm theMethod args0 = true := by decide +kernel
set_option maxRecDepth 65536 in
theorem w_heap : heapFits about1 = true := by decide +kernel
set_option maxRecDepth 65536 in
theorem w_runnable : about1.curStatus? = some .runnable := by decide +kernel
set_option maxRecDepth 65536 in
theorem w_alone : about1.alone = true := by decide +kernel
set_option maxRecDepth 65536 in
theorem w_named : about1.methodNamed? x = some theMethod := by decide +kernel
set_option maxRecDepth 65536 in
theorem w_hears : about1.hears theMethod below0 = true := by decide +kernel
set_option maxRecDepth 65536 in
theorem w_ripe : about1.ripe theMethod args0 below0 = true := by decide +kernel
theorem w_running : about1.status = .running := rfl
set_option maxRecDepth 65536 in
theorem w_room : about1.hasRoom e0.platform room_1 = true :=
  launch0.hasRoom_least _ room_1 (by decide +kernel) (by decide +kernel) (by decide +kernel) (by decide +kernel) (by decide +kernel) (by decide +kernel)
theorem allAtoms_all (ts : List Jvm.Cond) (a : Array Jvm.Value) (st : Jvm.State) : (allAtoms ts).before a st = ts.all (fun c => c.before a st) := by
  induction ts with
  | nil => rfl
  | cons c t ih =>
    show (Jvm.Cond.and c (allAtoms t)).before a st = _
    rw [Jvm.Cond.before_and, ih, List.all_cons]
def words1 : List Jvm.Cond := Jvm.Cond.code x code maxLocals ret :: tables_1
/-- a 'code' word, met by the world's own term for the bytes: nothing is compared byte by byte -/
theorem code_word {y : MethodName} {bytes : ByteArray} {mx : Nat} {rt : Option FieldType} {a : Array Value} {s : State} {m : MethodId} {meth : Method} {c : Code} (h1 : s.methodNamed? y = some m) (h2 : s.vm.method? m = some meth) (h3 : meth.code = some c) (h4 : c.code = bytes)
    (h5 : (c.maxLocals == mx && c.exceptionTable.isEmpty && decide (c.maxStack ≤ mostOperands) && decide (meth.sig.returnType = rt) && !meth.locks && decide (parseMethodDescriptor y.desc = some meth.sig)) = true) : (Jvm.Cond.code y bytes mx rt).before a s = true := by
  simp only [Bool.and_eq_true, beq_iff_eq, Bool.not_eq_true', decide_eq_true_eq] at h5
  obtain ⟨⟨⟨⟨⟨g1, g2⟩, g3⟩, g4⟩, g5⟩, g6⟩ := h5
  simp [Cond.before, Cond.holds, Cond.value, h1, h2, h3, h4, g1, g2, g3, g4, g5, g6]
def isCode : Jvm.Cond → Bool
  | .code _ _ _ _ => true
  | _ => false
theorem all_split {L : List Jvm.Cond} {P : Jvm.Cond → Bool} (h1 : L.all (fun c => isCode c || P c) = true) (h2 : ∀ c ∈ L.filter isCode, P c = true) : L.all P = true := by
  refine List.all_eq_true.mpr fun c hc => ?_
  have h := List.all_eq_true.mp h1 c hc
  rcases Bool.eq_false_or_eq_true (isCode c) with hi | hi
  · exact h2 c (List.mem_filter.mpr ⟨hc, hi⟩)
  · simpa [hi] using h
set_option maxRecDepth 65536 in
theorem w_c0 : (Jvm.Cond.code x code maxLocals ret).before args0 about1 = true := code_word (m := ⟨1, 1⟩) (meth := k1m1) (c := k1c1) (by decide +kernel) rfl rfl rfl (by decide +kernel)
set_option maxRecDepth 65536 in
theorem w_c1 : (Jvm.Cond.code ({ cls := "com/example/cutover/cutover/mariadb/Packets", name := "execute", desc := "(IJ)J" } : Jvm.MethodName) prog_107_method_5_code (3 : Nat) (Option.some Jvm.ClassFile.FieldType.long)).before args0 about1 = true := code_word (m := ⟨2, 1⟩) (meth := k2m1) (c := k2c1) (by decide +kernel) rfl rfl rfl (by decide +kernel)
def codes1 : List Jvm.Cond := [Jvm.Cond.code x code maxLocals ret, Jvm.Cond.code ({ cls := "com/example/cutover/cutover/mariadb/Packets", name := "execute", desc := "(IJ)J" } : Jvm.MethodName) prog_107_method_5_code (3 : Nat) (Option.some Jvm.ClassFile.FieldType.long)]
set_option maxRecDepth 65536 in
theorem codes_eq : words1.filter isCode = codes1 := rfl
theorem w_codes : ∀ c ∈ words1.filter isCode, c.before args0 about1 = true := by
  rw [codes_eq]
  intro c hc
  simp only [codes1, List.mem_cons, List.not_mem_nil, or_false] at hc
  rcases hc with rfl | rfl
  · exact w_c0
  · exact w_c1
set_option maxRecDepth 65536 in
theorem w_t1 : words1.all (fun c => isCode c || c.before args0 about1) = true := by decide +kernel
theorem w_tables : (allAtoms (Jvm.Cond.code x code maxLocals ret :: tables_1)).before args0 about1 = true := by
  rw [allAtoms_all]
  show words1.all (fun c => c.before args0 about1) = true
  refine all_split ?_ w_codes
  rw [w_t1]
set_option maxRecDepth 65536 in
theorem w_case : (Jvm.Cond.and given_1 narrow_1).before args0 about1 = true := by decide +kernel
theorem w_applies : (headSpec (Jvm.Cond.code x code maxLocals ret :: tables_1) room_1).applies x e0.platform about1 = true :=
  (Spec.applies_iff w_frames).mpr ⟨w_running, w_runnable, w_alone, w_named, w_hears, w_ripe, w_room, w_tables⟩
theorem atStart : AtStart classFile x code maxLocals ret World_1 tables_1 room_1 Calls_1 rest_1 Pre_1 launch0 p0 e0 about1 theMethod args0 below0 :=
  ⟨lists_1, trivial, launch0.admits_env _ _ _, launch0.least_env, fairChoices_fair.cas, fairChoices_fair.clock, w_frames, w_args, w_heap, w_applies, trivial, trivial, w_case⟩
end start1
theorem witness_1 : WitnessClaimed_1 := ⟨start1.p0, start1.e0, start1.about1, start1.theMethod, start1.args0, start1.below0, start1.atStart⟩
end Jvm.Pilot.@@N@@
