import JvmDerived
import JvmDerived.Pilot.@@N@@Statement
import JvmDerived.Pilot.@@N@@Code
set_option linter.unusedVariables false
set_option linter.unusedSimpArgs false
namespace Jvm.RoadKit
open Sem ClassFile Op Lib Jvm.Stand Jvm.Free Jvm.LawKit
section New
variable {p : Program} {l : Launch} {e : Env} {R : Room} {s : State} {m : MethodId} {args : Array Value} {below : List Frame} {meth : Method} {c : Code} {T : State} {locs : List Loc} {cells slots k n : Nat} {Q : Option Value → Heap → List Loc → Prop}
theorem retI (X : Stand p l e R s m args below meth c T locs cells slots) (hx : p.tables.exec = Jvm.exec) {pc : Nat} {Ls : Array Slot} {z : Int32} {rest : List Value} (hret : meth.sig.returnType = some .int) (hd : decode c.code pc = .ok (.ireturn, 1)) {fs : List Frame}
    (hl : ∀ (f : JFrame) (acts : List Action), f.method = m → f.locked = none → f.entered = [] → (doReturn e (T.setTop f) acts (some (.int z))).1 = T.setFrames fs) : Steps p.tables e below (T.setTop (mkF m pc Ls (.int z :: rest))) (T.setFrames fs) := by
  have hm' : T.vm.method? m = some meth := X.method'
  have hn : narrow .int (.int z) = .int z := rfl
  show Steps p.tables e below (T.setTop { method := m, pc := pc, locals := Ls, stack := _ :: rest, locked := none }) _
  jvm_step X.here [X.here.top, hx, hd, hm', hret, hn]
  first | (intro acts; rw [hl _ acts rfl rfl rfl]) | rw [hl _ _ rfl rfl rfl]
  exact Steps.refl _
/-- from S0 the run comes to a return that leaves what Q says -/
def own_Fin (p : Program) (e : Env) (below : List Frame) (s : State) (Q : Option Value → Heap → List Loc → Prop) (k n : Nat) (S0 : State) : Prop :=
  ∃ s₂ o, Steps p.tables e below S0 s₂ ∧ s₂.status = .running ∧ Ended s₂ below o ∧ ∃ v L, o = .returned v ∧ Q v s₂.heap L ∧ FrameEnd s o s₂ L k n
theorem own_go {S0 : State} (S1 : State) (h : ∀ t, Steps p.tables e below S1 t → Steps p.tables e below S0 t) (q : own_Fin p e below s Q k n S1) : own_Fin p e below s Q k n S0 := by
  obtain ⟨s₂, o, h1, h2⟩ := q
  exact ⟨s₂, o, h _ h1, h2⟩
theorem own_ret (X : Stand p l e R s m args below meth c T locs cells slots) (hlocks : meth.locks = false) (v : Option Value) (hv : meth.sig.returnType = none → v = none) {g : JFrame}
    (hs : ∀ fs, (∀ (f : JFrame) (acts : List Action), f.method = m → f.locked = none → f.entered = [] → (doReturn e (T.setTop f) acts v).1 = T.setFrames fs) → Steps p.tables e below (T.setTop g) (T.setFrames fs))
    (hk : cells ≤ k) (hn : slots ≤ n) (hQ : Q v T.heap locs) : own_Fin p e below s Q k n (T.setTop g) := by
  obtain ⟨fs, hr, hrun, hended, hW, hsame⟩ := X.leave (v := v) hv hlocks
  exact ⟨_, _, hs fs hr, hrun, hended, _, _, rfl, hQ, ⟨_, rfl⟩, hW, hsame.mono hk hn⟩
theorem own_zlt {x y : Int32} {a b : Int} (h : x < y) (hx : x.toInt = a) (hy : y.toInt = b) : a < b := by rw [← hx, ← hy]; exact Int32.lt_iff_toInt_lt.mp h
theorem own_znlt {x y : Int32} {a b : Int} (h : ¬ x < y) (hx : x.toInt = a) (hy : y.toInt = b) : ¬ a < b := by rw [← hx, ← hy]; exact fun q => h (Int32.lt_iff_toInt_lt.mpr q)
theorem own_zeq {x y : Int32} {a b : Int} (h : x = y) (hx : x.toInt = a) (hy : y.toInt = b) : a = b := by rw [← hx, ← hy, h]
theorem own_zneq {x y : Int32} {a b : Int} (h : ¬ x = y) (hx : x.toInt = a) (hy : y.toInt = b) : ¬ a = b := by rw [← hx, ← hy]; exact fun q => h (Int32.toInt_inj.mp q)
theorem own_zLlt {x y : Int64} {a b : Int} (h : x < y) (hx : x.toInt = a) (hy : y.toInt = b) : a < b := by rw [← hx, ← hy]; exact Int64.lt_iff_toInt_lt.mp h
theorem own_zLnlt {x y : Int64} {a b : Int} (h : ¬ x < y) (hx : x.toInt = a) (hy : y.toInt = b) : ¬ a < b := by rw [← hx, ← hy]; exact fun q => h (Int64.lt_iff_toInt_lt.mpr q)
theorem own_zLeq {x y : Int64} {a b : Int} (h : x = y) (hx : x.toInt = a) (hy : y.toInt = b) : a = b := by rw [← hx, ← hy, h]
theorem own_zLneq {x y : Int64} {a b : Int} (h : ¬ x = y) (hx : x.toInt = a) (hy : y.toInt = b) : ¬ a = b := by rw [← hx, ← hy]; exact fun q => h (Int64.toInt_inj.mp q)
end New
end Jvm.RoadKit
namespace Jvm.Pilot.@@N@@
open Jvm Jvm.ClassFile Sem Op Lib Jvm.Free Jvm.Stand Jvm.LawKit Jvm.RoadKit Bundle Jvm.Pilot.@@N@@.Jvm.D
theorem own_pd0 : parseMethodDescriptor "()V" = some ⟨[], none⟩ := by decide +kernel
theorem own_pd1 : parseMethodDescriptor "(IIII)V" = some ⟨[.int, .int, .int, .int], none⟩ := by decide +kernel
theorem own_pd2 : parseMethodDescriptor "()I" = some ⟨[], some .int⟩ := by decide +kernel
theorem d2_0 : decode jdk_30_method_1_code 0 = .ok (.aload_n 0, 1) := by decide +kernel
theorem d2_1 : decode jdk_30_method_1_code 1 = .ok (.invokespecial 1, 3) := by decide +kernel
theorem d2_4 : decode jdk_30_method_1_code 4 = .ok (.return_, 1) := by decide +kernel
theorem own_pn2 : plainName "java/lang/Record" = true := by first | (simp [plainName, overriddenIn]; done) | decide +kernel
theorem own_ef2 (m : MethodId) (a1 : Addr) : entryFrame m #[(.ref a1)] 1 = (mkF m 0 #[.val (.ref a1)] []) := by first | (simp [entryFrame, mkF, argsToLocals, Value.category]; done) | rfl
def own_Q2 (Z : State) (a1 : Addr)  (h0 : Heap) (n0 : Nat) (v : Option Value) (h : Heap) (L : List Loc) : Prop := v = none ∧ Fr n0 L ∧ h = h0
set_option maxRecDepth 65536 in
set_option maxHeartbeats 40000000 in
theorem own_rm2 (l : Launch) (Z : State) (a0 : Array Value) (hw : ∀ d ∈ tables_1, d.before a0 Z = true) (ws : List Jvm.Cond) (a1 : Addr)  (h0 : Heap) (n0 : Nat) (Z0 : n0 ≤ h0.size) :
    MetFree l (⟨"java/lang/Record", "<init>", "()V"⟩ : MethodName) (head1 (Jvm.Cond.code (⟨"java/lang/Record", "<init>", "()V"⟩ : MethodName) jdk_30_method_1_code 1 none :: ws) ({ frames := 1, cells := 0, slots := 0, locals := 12 } : Room)) (fun a U => a = #[(.ref a1)] ∧ Z.Warmed39 U.vm ∧ U.heap = h0) (fun _ _ _ _ _ => True) (fun _ U o U' => ∃ v L, o = .returned v ∧ own_Q2 Z a1 h0 n0 v U'.heap L ∧ FrameEnd U o U' L ({ frames := 1, cells := 0, slots := 0, locals := 12 } : Room).cells ({ frames := 1, cells := 0, slots := 0, locals := 12 } : Room).slots) := by
  refine MetFree.of_bodySF (plainFor_of_name own_pn2) hisR ?_
  intro p e s m args below meth c s₁ Bd hml0 hP hK
  obtain ⟨rfl, hZ, hh⟩ := hP
  have hx := Bd.exec
  have hby := Bd.bytes
  have hml : c.maxLocals = 1 := hml0
  have hown : s.vm.findClass "java/lang/Record" = some m.cls := findClass_of_methodNamed Bd.named
  have hnm := (name_of_methodNamed Bd.named Bd.method).1
  have X0 : Stand p l e ({ frames := 1, cells := 0, slots := 0, locals := 12 } : Room) s m #[(.ref a1)] below meth c s₁ [] 0 0 := Stand.of_body Bd
  have e0 : s₁.heap = h0 := by rw [← hh, Bd.state]; rfl
  have N0 := Fr.nil n0
  show own_Fin p e below s (own_Q2 Z a1 h0 n0) ({ frames := 1, cells := 0, slots := 0, locals := 12 } : Room).cells ({ frames := 1, cells := 0, slots := 0, locals := 12 } : Room).slots (s₁.setTop (entryFrame m #[(.ref a1)] 1))
  refine own_go (s₁.setTop (mkF m 0 #[.val (.ref a1)] [])) (fun t k => castTop (own_ef2 m a1) k) ?_
  refine own_go (s₁.setTop (mkF m 1 #[.val (.ref a1)] [(.ref a1)])) (fun _ k => XS.aloadN X0.here hx rfl (hb hby d2_0) rfl rfl k) ?_
  obtain ⟨T1, X1, e1, st1⟩ := initO X0 hx hZ hown (hw _ (List.mem_of_getElem? (i := 11) rfl)) (hw _ (List.mem_of_getElem? (i := 12) rfl)) (hw _ (List.mem_of_getElem? (i := 13) rfl)) e0 (g := (mkF m 1 #[.val (.ref a1)] [(.ref a1)])) rfl (by rw [hml]; rfl) rfl (hb hby d2_1) (by decide) (W := 0) (by show 2 * 0 + _ ≤ _; exact Nat.le_of_eq rfl) (by decide)
  refine own_go (T1.setTop (mkF m 4 #[.val (.ref a1)] [])) (fun _ k => st1 _ k) ?_
  refine own_ret X1 (BodyLoose.notSynchronized Bd) none (fun _ => rfl) (fun fs hr => X1.returnOut hx Bd.returns (hb hby d2_4) hr) (by decide) (by decide) ?_
  exact ⟨rfl, N0, e1⟩
theorem d1_0 : decode prog_48_method_1_code 0 = .ok (.aload_n 0, 1) := by decide +kernel
theorem d1_1 : decode prog_48_method_1_code 1 = .ok (.invokespecial 1, 3) := by decide +kernel
theorem d1_4 : decode prog_48_method_1_code 4 = .ok (.aload_n 0, 1) := by decide +kernel
theorem d1_5 : decode prog_48_method_1_code 5 = .ok (.iload_n 1, 1) := by decide +kernel
theorem d1_6 : decode prog_48_method_1_code 6 = .ok (.putfield 7, 3) := by decide +kernel
theorem d1_9 : decode prog_48_method_1_code 9 = .ok (.aload_n 0, 1) := by decide +kernel
theorem d1_10 : decode prog_48_method_1_code 10 = .ok (.iload_n 2, 1) := by decide +kernel
theorem d1_11 : decode prog_48_method_1_code 11 = .ok (.putfield 13, 3) := by decide +kernel
theorem d1_14 : decode prog_48_method_1_code 14 = .ok (.aload_n 0, 1) := by decide +kernel
theorem d1_15 : decode prog_48_method_1_code 15 = .ok (.iload_n 3, 1) := by decide +kernel
theorem d1_16 : decode prog_48_method_1_code 16 = .ok (.putfield 16, 3) := by decide +kernel
theorem d1_19 : decode prog_48_method_1_code 19 = .ok (.aload_n 0, 1) := by decide +kernel
theorem d1_20 : decode prog_48_method_1_code 20 = .ok (.iload 4, 2) := by decide +kernel
theorem d1_22 : decode prog_48_method_1_code 22 = .ok (.putfield 19, 3) := by decide +kernel
theorem d1_25 : decode prog_48_method_1_code 25 = .ok (.return_, 1) := by decide +kernel
theorem own_pn1 : plainName "com/example/oxbow/oxbow/games/riverdrafter/RiverScore" = true := by first | (simp [plainName, overriddenIn]; done) | decide +kernel
theorem own_ef1 (m : MethodId) (a1 : Addr) (p1 : Int32) (p2 : Int32) (p3 : Int32) (p4 : Int32) : entryFrame m #[(.ref a1), (.int p1), (.int p2), (.int p3), (.int p4)] 5 = (mkF m 0 #[.val (.ref a1), .val (.int p1), .val (.int p2), .val (.int p3), .val (.int p4)] []) := by first | (simp [entryFrame, mkF, argsToLocals, Value.category]; done) | rfl
def own_Q1 (Z : State) (a1 : Addr) (p1 : Int32) (p2 : Int32) (p3 : Int32) (p4 : Int32) (u_mills u_sawmills u_ports u_meadows : Value) (h0 : Heap) (n0 : Nat) (v : Option Value) (h : Heap) (L : List Loc) : Prop := v = none ∧ Fr n0 L ∧ Keep h0 h [a1] ∧ Exa Z h a1 "com/example/oxbow/oxbow/games/riverdrafter/RiverScore" ∧ Fld Z h a1 "com/example/oxbow/oxbow/games/riverdrafter/RiverScore" "mills" "I" (.int p1) ∧ Fld Z h a1 "com/example/oxbow/oxbow/games/riverdrafter/RiverScore" "sawmills" "I" (.int p2) ∧ Fld Z h a1 "com/example/oxbow/oxbow/games/riverdrafter/RiverScore" "ports" "I" (.int p3) ∧ Fld Z h a1 "com/example/oxbow/oxbow/games/riverdrafter/RiverScore" "meadows" "I" (.int p4)
set_option maxRecDepth 65536 in
set_option maxHeartbeats 40000000 in
theorem own_rm1 (l : Launch) (Z : State) (a0 : Array Value) (hw : ∀ d ∈ tables_1, d.before a0 Z = true) (ws : List Jvm.Cond) (a1 : Addr) (p1 : Int32) (p2 : Int32) (p3 : Int32) (p4 : Int32) (u_mills u_sawmills u_ports u_meadows : Value) (h0 : Heap) (n0 : Nat) (Z0 : n0 ≤ h0.size) (E_a1 : Exa Z h0 a1 "com/example/oxbow/oxbow/games/riverdrafter/RiverScore") (g_a1 : n0 ≤ a1) (F_mills : Fld Z h0 a1 "com/example/oxbow/oxbow/games/riverdrafter/RiverScore" "mills" "I" u_mills) (F_sawmills : Fld Z h0 a1 "com/example/oxbow/oxbow/games/riverdrafter/RiverScore" "sawmills" "I" u_sawmills) (F_ports : Fld Z h0 a1 "com/example/oxbow/oxbow/games/riverdrafter/RiverScore" "ports" "I" u_ports) (F_meadows : Fld Z h0 a1 "com/example/oxbow/oxbow/games/riverdrafter/RiverScore" "meadows" "I" u_meadows) :
    MetFree l (⟨"com/example/oxbow/oxbow/games/riverdrafter/RiverScore", "<init>", "(IIII)V"⟩ : MethodName) (head1 (Jvm.Cond.code (⟨"com/example/oxbow/oxbow/games/riverdrafter/RiverScore", "<init>", "(IIII)V"⟩ : MethodName) prog_48_method_1_code 5 none :: ws) ({ frames := 2, cells := 0, slots := 0, locals := 24 } : Room)) (fun a U => a = #[(.ref a1), (.int p1), (.int p2), (.int p3), (.int p4)] ∧ Z.Warmed39 U.vm ∧ U.heap = h0) (fun _ _ _ _ _ => True) (fun _ U o U' => ∃ v L, o = .returned v ∧ own_Q1 Z a1 p1 p2 p3 p4 u_mills u_sawmills u_ports u_meadows h0 n0 v U'.heap L ∧ FrameEnd U o U' L ({ frames := 2, cells := 0, slots := 0, locals := 24 } : Room).cells ({ frames := 2, cells := 0, slots := 0, locals := 24 } : Room).slots) := by
  refine MetFree.of_bodySF (plainFor_of_name own_pn1) hisR ?_
  intro p e s m args below meth c s₁ Bd hml0 hP hK
  obtain ⟨rfl, hZ, hh⟩ := hP
  have hx := Bd.exec
  have hby := Bd.bytes
  have hml : c.maxLocals = 5 := hml0
  have hown : s.vm.findClass "com/example/oxbow/oxbow/games/riverdrafter/RiverScore" = some m.cls := findClass_of_methodNamed Bd.named
  have hnm := (name_of_methodNamed Bd.named Bd.method).1
  have X0 : Stand p l e ({ frames := 2, cells := 0, slots := 0, locals := 24 } : Room) s m #[(.ref a1), (.int p1), (.int p2), (.int p3), (.int p4)] below meth c s₁ [] 0 0 := Stand.of_body Bd
  have e0 : s₁.heap = h0 := by rw [← hh, Bd.state]; rfl
  have N0 := Fr.nil n0
  show own_Fin p e below s (own_Q1 Z a1 p1 p2 p3 p4 u_mills u_sawmills u_ports u_meadows h0 n0) ({ frames := 2, cells := 0, slots := 0, locals := 24 } : Room).cells ({ frames := 2, cells := 0, slots := 0, locals := 24 } : Room).slots (s₁.setTop (entryFrame m #[(.ref a1), (.int p1), (.int p2), (.int p3), (.int p4)] 5))
  refine own_go (s₁.setTop (mkF m 0 #[.val (.ref a1), .val (.int p1), .val (.int p2), .val (.int p3), .val (.int p4)] [])) (fun t k => castTop (own_ef1 m a1 p1 p2 p3 p4) k) ?_
  refine own_go (s₁.setTop (mkF m 1 #[.val (.ref a1), .val (.int p1), .val (.int p2), .val (.int p3), .val (.int p4)] [(.ref a1)])) (fun _ k => XS.aloadN X0.here hx rfl (hb hby d1_0) rfl rfl k) ?_
  obtain ⟨_, _, ⟨T1, L1, k1, n1⟩, -, X1, ⟨Lc1, hQ1, l1, y1, z1⟩, st1⟩ := X0.specialBack hx (y := (⟨"java/lang/Record", "<init>", "()V"⟩ : MethodName)) rfl hown (mvT hZ (hw _ (List.mem_of_getElem? (i := 6) rfl))) (mvT hZ (hw _ (List.mem_of_getElem? (i := 7) rfl))) (mvT hZ (hw _ (List.mem_of_getElem? (i := 10) rfl))) (by decide) (backOf (W := 0) (own_rm2 l Z a0 hw [] a1 h0 n0 Z0) hZ (hw _ (List.mem_of_getElem? (i := 10) rfl)) (hw _ (List.mem_of_getElem? (i := 9) rfl)) (by decide) (by decide)) (g := (mkF m 1 #[.val (.ref a1), .val (.int p1), .val (.int p2), .val (.int p3), .val (.int p4)] [(.ref a1)])) rfl (by rw [hml]; rfl) (Steps.refl _) (a := a1) (argsL := []) (rest := []) (lenOf own_pd0 rfl) rfl (by show 2 * 0 + _ ≤ _; exact Nat.le_of_eq rfl) (hb hby d1_1) (fun _ _ => ⟨rfl, e0, (by decide : 0 + 0 ≤ _), (by decide : 0 + 0 ≤ _)⟩)
  dsimp only [Pt.U, Pt.locs, Pt.cells, Pt.slots] at X1 l1 y1 z1 st1 hQ1
  subst l1 y1 z1
  obtain ⟨rfl, N1q, e1⟩ := hQ1
  have N1 := Fr.app N0 N1q
  refine own_go (T1.setTop (mkF m 4 #[.val (.ref a1), .val (.int p1), .val (.int p2), .val (.int p3), .val (.int p4)] [])) (fun _ k => st1.trans k) ?_
  refine own_go (T1.setTop (mkF m 5 #[.val (.ref a1), .val (.int p1), .val (.int p2), .val (.int p3), .val (.int p4)] [(.ref a1)])) (fun _ k => XS.aloadN X1.here hx rfl (hb hby d1_4) rfl rfl k) ?_
  refine own_go (T1.setTop (mkF m 6 #[.val (.ref a1), .val (.int p1), .val (.int p2), .val (.int p3), .val (.int p4)] [(.int p1), (.ref a1)])) (fun _ k => XS.iloadN X1.here hx rfl (hb hby d1_5) rfl k) ?_
  obtain ⟨T2, h2, X2, e2, W2, st2⟩ := putF X1 hx hZ hown (host := "") (Or.inl (hw _ (List.mem_of_getElem? (i := 14) rfl))) Via.refl e1 F_mills E_a1 (Or.inr ⟨(hw _ (List.mem_of_getElem? (i := 15) rfl)), rfl, hnm⟩) (hw _ (List.mem_of_getElem? (i := 1) rfl)) (ty := .int) (by decide) rfl rfl (g := (mkF m 6 #[.val (.ref a1), .val (.int p1), .val (.int p2), .val (.int p3), .val (.int p4)] [(.int p1), (.ref a1)])) rfl rfl (hb hby d1_6)
  have F_mills_a1_2 := F_mills.same W2
  have F_sawmills_a1_2 := F_sawmills.other W2 (Or.inr (slot_ne (Or.inr (hw _ (List.mem_of_getElem? (i := 17) rfl))) (Or.inr (hw _ (List.mem_of_getElem? (i := 15) rfl))) (by decide) (t := .int) (t' := .int) (by decide) (by decide)))
  have F_ports_a1_2 := F_ports.other W2 (Or.inr (slot_ne (Or.inr (hw _ (List.mem_of_getElem? (i := 19) rfl))) (Or.inr (hw _ (List.mem_of_getElem? (i := 15) rfl))) (by decide) (t := .int) (t' := .int) (by decide) (by decide)))
  have F_meadows_a1_2 := F_meadows.other W2 (Or.inr (slot_ne (Or.inr (hw _ (List.mem_of_getElem? (i := 21) rfl))) (Or.inr (hw _ (List.mem_of_getElem? (i := 15) rfl))) (by decide) (t := .int) (t' := .int) (by decide) (by decide)))
  have Ex2 := E_a1.wr W2
  have K2 := (Keep.refl h0 [a1]).wr W2 (Or.inl (List.mem_of_getElem? (i := 0) rfl))
  have N2 := Fr.snoc X2 N1 g_a1
  refine own_go (T2.setTop (mkF m 9 #[.val (.ref a1), .val (.int p1), .val (.int p2), .val (.int p3), .val (.int p4)] [])) (fun _ k => st2 _ k) ?_
  refine own_go (T2.setTop (mkF m 10 #[.val (.ref a1), .val (.int p1), .val (.int p2), .val (.int p3), .val (.int p4)] [(.ref a1)])) (fun _ k => XS.aloadN X2.here hx rfl (hb hby d1_9) rfl rfl k) ?_
  refine own_go (T2.setTop (mkF m 11 #[.val (.ref a1), .val (.int p1), .val (.int p2), .val (.int p3), .val (.int p4)] [(.int p2), (.ref a1)])) (fun _ k => XS.iloadN X2.here hx rfl (hb hby d1_10) rfl k) ?_
  obtain ⟨T3, h3, X3, e3, W3, st3⟩ := putF X2 hx hZ hown (host := "") (Or.inl (hw _ (List.mem_of_getElem? (i := 16) rfl))) Via.refl e2 F_sawmills_a1_2 Ex2 (Or.inr ⟨(hw _ (List.mem_of_getElem? (i := 17) rfl)), rfl, hnm⟩) (hw _ (List.mem_of_getElem? (i := 1) rfl)) (ty := .int) (by decide) rfl rfl (g := (mkF m 11 #[.val (.ref a1), .val (.int p1), .val (.int p2), .val (.int p3), .val (.int p4)] [(.int p2), (.ref a1)])) rfl rfl (hb hby d1_11)
  have F_mills_a1_3 := F_mills_a1_2.other W3 (Or.inr (slot_ne (Or.inr (hw _ (List.mem_of_getElem? (i := 15) rfl))) (Or.inr (hw _ (List.mem_of_getElem? (i := 17) rfl))) (by decide) (t := .int) (t' := .int) (by decide) (by decide)))
  have F_sawmills_a1_3 := F_sawmills_a1_2.same W3
  have F_ports_a1_3 := F_ports_a1_2.other W3 (Or.inr (slot_ne (Or.inr (hw _ (List.mem_of_getElem? (i := 19) rfl))) (Or.inr (hw _ (List.mem_of_getElem? (i := 17) rfl))) (by decide) (t := .int) (t' := .int) (by decide) (by decide)))
  have F_meadows_a1_3 := F_meadows_a1_2.other W3 (Or.inr (slot_ne (Or.inr (hw _ (List.mem_of_getElem? (i := 21) rfl))) (Or.inr (hw _ (List.mem_of_getElem? (i := 17) rfl))) (by decide) (t := .int) (t' := .int) (by decide) (by decide)))
  have Ex3 := Ex2.wr W3
  have K3 := K2.wr W3 (Or.inl (List.mem_of_getElem? (i := 0) rfl))
  have N3 := Fr.snoc X3 N2 g_a1
  refine own_go (T3.setTop (mkF m 14 #[.val (.ref a1), .val (.int p1), .val (.int p2), .val (.int p3), .val (.int p4)] [])) (fun _ k => st3 _ k) ?_
  refine own_go (T3.setTop (mkF m 15 #[.val (.ref a1), .val (.int p1), .val (.int p2), .val (.int p3), .val (.int p4)] [(.ref a1)])) (fun _ k => XS.aloadN X3.here hx rfl (hb hby d1_14) rfl rfl k) ?_
  refine own_go (T3.setTop (mkF m 16 #[.val (.ref a1), .val (.int p1), .val (.int p2), .val (.int p3), .val (.int p4)] [(.int p3), (.ref a1)])) (fun _ k => XS.iloadN X3.here hx rfl (hb hby d1_15) rfl k) ?_
  obtain ⟨T4, h4, X4, e4, W4, st4⟩ := putF X3 hx hZ hown (host := "") (Or.inl (hw _ (List.mem_of_getElem? (i := 18) rfl))) Via.refl e3 F_ports_a1_3 Ex3 (Or.inr ⟨(hw _ (List.mem_of_getElem? (i := 19) rfl)), rfl, hnm⟩) (hw _ (List.mem_of_getElem? (i := 1) rfl)) (ty := .int) (by decide) rfl rfl (g := (mkF m 16 #[.val (.ref a1), .val (.int p1), .val (.int p2), .val (.int p3), .val (.int p4)] [(.int p3), (.ref a1)])) rfl rfl (hb hby d1_16)
  have F_mills_a1_4 := F_mills_a1_3.other W4 (Or.inr (slot_ne (Or.inr (hw _ (List.mem_of_getElem? (i := 15) rfl))) (Or.inr (hw _ (List.mem_of_getElem? (i := 19) rfl))) (by decide) (t := .int) (t' := .int) (by decide) (by decide)))
  have F_sawmills_a1_4 := F_sawmills_a1_3.other W4 (Or.inr (slot_ne (Or.inr (hw _ (List.mem_of_getElem? (i := 17) rfl))) (Or.inr (hw _ (List.mem_of_getElem? (i := 19) rfl))) (by decide) (t := .int) (t' := .int) (by decide) (by decide)))
  have F_ports_a1_4 := F_ports_a1_3.same W4
  have F_meadows_a1_4 := F_meadows_a1_3.other W4 (Or.inr (slot_ne (Or.inr (hw _ (List.mem_of_getElem? (i := 21) rfl))) (Or.inr (hw _ (List.mem_of_getElem? (i := 19) rfl))) (by decide) (t := .int) (t' := .int) (by decide) (by decide)))
  have Ex4 := Ex3.wr W4
  have K4 := K3.wr W4 (Or.inl (List.mem_of_getElem? (i := 0) rfl))
  have N4 := Fr.snoc X4 N3 g_a1
  refine own_go (T4.setTop (mkF m 19 #[.val (.ref a1), .val (.int p1), .val (.int p2), .val (.int p3), .val (.int p4)] [])) (fun _ k => st4 _ k) ?_
  refine own_go (T4.setTop (mkF m 20 #[.val (.ref a1), .val (.int p1), .val (.int p2), .val (.int p3), .val (.int p4)] [(.ref a1)])) (fun _ k => XS.aloadN X4.here hx rfl (hb hby d1_19) rfl rfl k) ?_
  refine own_go (T4.setTop (mkF m 22 #[.val (.ref a1), .val (.int p1), .val (.int p2), .val (.int p3), .val (.int p4)] [(.int p4), (.ref a1)])) (fun _ k => XS.iload X4.here hx rfl (hb hby d1_20) rfl k) ?_
  obtain ⟨T5, h5, X5, e5, W5, st5⟩ := putF X4 hx hZ hown (host := "") (Or.inl (hw _ (List.mem_of_getElem? (i := 20) rfl))) Via.refl e4 F_meadows_a1_4 Ex4 (Or.inr ⟨(hw _ (List.mem_of_getElem? (i := 21) rfl)), rfl, hnm⟩) (hw _ (List.mem_of_getElem? (i := 1) rfl)) (ty := .int) (by decide) rfl rfl (g := (mkF m 22 #[.val (.ref a1), .val (.int p1), .val (.int p2), .val (.int p3), .val (.int p4)] [(.int p4), (.ref a1)])) rfl rfl (hb hby d1_22)
  have F_mills_a1_5 := F_mills_a1_4.other W5 (Or.inr (slot_ne (Or.inr (hw _ (List.mem_of_getElem? (i := 15) rfl))) (Or.inr (hw _ (List.mem_of_getElem? (i := 21) rfl))) (by decide) (t := .int) (t' := .int) (by decide) (by decide)))
  have F_sawmills_a1_5 := F_sawmills_a1_4.other W5 (Or.inr (slot_ne (Or.inr (hw _ (List.mem_of_getElem? (i := 17) rfl))) (Or.inr (hw _ (List.mem_of_getElem? (i := 21) rfl))) (by decide) (t := .int) (t' := .int) (by decide) (by decide)))
  have F_ports_a1_5 := F_ports_a1_4.other W5 (Or.inr (slot_ne (Or.inr (hw _ (List.mem_of_getElem? (i := 19) rfl))) (Or.inr (hw _ (List.mem_of_getElem? (i := 21) rfl))) (by decide) (t := .int) (t' := .int) (by decide) (by decide)))
  have F_meadows_a1_5 := F_meadows_a1_4.same W5
  have Ex5 := Ex4.wr W5
  have K5 := K4.wr W5 (Or.inl (List.mem_of_getElem? (i := 0) rfl))
  have N5 := Fr.snoc X5 N4 g_a1
  refine own_go (T5.setTop (mkF m 25 #[.val (.ref a1), .val (.int p1), .val (.int p2), .val (.int p3), .val (.int p4)] [])) (fun _ k => st5 _ k) ?_
  refine own_ret X5 (BodyLoose.notSynchronized Bd) none (fun _ => rfl) (fun fs hr => X5.returnOut hx Bd.returns (hb hby d1_25) hr) (by decide) (by decide) ?_
  rw [e5]
  exact ⟨rfl, N5, K5, Ex5, F_mills_a1_5, F_sawmills_a1_5, F_ports_a1_5, F_meadows_a1_5⟩
theorem d4_0 : decode prog_48_method_3_code 0 = .ok (.aload_n 0, 1) := by decide +kernel
theorem d4_1 : decode prog_48_method_3_code 1 = .ok (.getfield 7, 3) := by decide +kernel
theorem d4_4 : decode prog_48_method_3_code 4 = .ok (.aload_n 0, 1) := by decide +kernel
theorem d4_5 : decode prog_48_method_3_code 5 = .ok (.getfield 13, 3) := by decide +kernel
theorem d4_8 : decode prog_48_method_3_code 8 = .ok (.iadd, 1) := by decide +kernel
theorem d4_9 : decode prog_48_method_3_code 9 = .ok (.aload_n 0, 1) := by decide +kernel
theorem d4_10 : decode prog_48_method_3_code 10 = .ok (.getfield 16, 3) := by decide +kernel
theorem d4_13 : decode prog_48_method_3_code 13 = .ok (.iadd, 1) := by decide +kernel
theorem d4_14 : decode prog_48_method_3_code 14 = .ok (.aload_n 0, 1) := by decide +kernel
theorem d4_15 : decode prog_48_method_3_code 15 = .ok (.getfield 19, 3) := by decide +kernel
theorem d4_18 : decode prog_48_method_3_code 18 = .ok (.iadd, 1) := by decide +kernel
theorem d4_19 : decode prog_48_method_3_code 19 = .ok (.ireturn, 1) := by decide +kernel
theorem own_pn4 : plainName "com/example/oxbow/oxbow/games/riverdrafter/RiverScore" = true := by first | (simp [plainName, overriddenIn]; done) | decide +kernel
theorem own_ef4 (m : MethodId) (a1 : Addr) : entryFrame m #[(.ref a1)] 1 = (mkF m 0 #[.val (.ref a1)] []) := by first | (simp [entryFrame, mkF, argsToLocals, Value.category]; done) | rfl
def own_Q4 (Z : State) (a1 : Addr) (x y z u : Int32) (h0 : Heap) (n0 : Nat) (v : Option Value) (h : Heap) (L : List Loc) : Prop := v = some (.int (((x + y) + z) + u)) ∧ Fr n0 L ∧ h = h0
set_option maxRecDepth 65536 in
set_option maxHeartbeats 40000000 in
theorem own_rm4 (l : Launch) (Z : State) (a0 : Array Value) (hw : ∀ d ∈ tables_1, d.before a0 Z = true) (ws : List Jvm.Cond) (a1 : Addr) (x y z u : Int32) (h0 : Heap) (n0 : Nat) (Z0 : n0 ≤ h0.size) (F_mills : Fld Z h0 a1 "com/example/oxbow/oxbow/games/riverdrafter/RiverScore" "mills" "I" (.int x)) (F_sawmills : Fld Z h0 a1 "com/example/oxbow/oxbow/games/riverdrafter/RiverScore" "sawmills" "I" (.int y)) (F_ports : Fld Z h0 a1 "com/example/oxbow/oxbow/games/riverdrafter/RiverScore" "ports" "I" (.int z)) (F_meadows : Fld Z h0 a1 "com/example/oxbow/oxbow/games/riverdrafter/RiverScore" "meadows" "I" (.int u)) :
    MetFree l (⟨"com/example/oxbow/oxbow/games/riverdrafter/RiverScore", "total", "()I"⟩ : MethodName) (head1 (Jvm.Cond.code (⟨"com/example/oxbow/oxbow/games/riverdrafter/RiverScore", "total", "()I"⟩ : MethodName) prog_48_method_3_code 1 (some .int) :: ws) ({ frames := 0, cells := 0, slots := 0, locals := 0 } : Room)) (fun a U => a = #[(.ref a1)] ∧ Z.Warmed39 U.vm ∧ U.heap = h0) (fun _ _ _ _ _ => True) (fun _ U o U' => ∃ v L, o = .returned v ∧ own_Q4 Z a1 x y z u h0 n0 v U'.heap L ∧ FrameEnd U o U' L ({ frames := 0, cells := 0, slots := 0, locals := 0 } : Room).cells ({ frames := 0, cells := 0, slots := 0, locals := 0 } : Room).slots) := by
  refine MetFree.of_bodySF (plainFor_of_name own_pn4) hisR ?_
  intro p e s m args below meth c s₁ Bd hml0 hP hK
  obtain ⟨rfl, hZ, hh⟩ := hP
  have hx := Bd.exec
  have hby := Bd.bytes
  have hml : c.maxLocals = 1 := hml0
  have hown : s.vm.findClass "com/example/oxbow/oxbow/games/riverdrafter/RiverScore" = some m.cls := findClass_of_methodNamed Bd.named
  have hnm := (name_of_methodNamed Bd.named Bd.method).1
  have X0 : Stand p l e ({ frames := 0, cells := 0, slots := 0, locals := 0 } : Room) s m #[(.ref a1)] below meth c s₁ [] 0 0 := Stand.of_body Bd
  have e0 : s₁.heap = h0 := by rw [← hh, Bd.state]; rfl
  have N0 := Fr.nil n0
  show own_Fin p e below s (own_Q4 Z a1 x y z u h0 n0) ({ frames := 0, cells := 0, slots := 0, locals := 0 } : Room).cells ({ frames := 0, cells := 0, slots := 0, locals := 0 } : Room).slots (s₁.setTop (entryFrame m #[(.ref a1)] 1))
  refine own_go (s₁.setTop (mkF m 0 #[.val (.ref a1)] [])) (fun t k => castTop (own_ef4 m a1) k) ?_
  refine own_go (s₁.setTop (mkF m 1 #[.val (.ref a1)] [(.ref a1)])) (fun _ k => XS.aloadN X0.here hx rfl (hb hby d4_0) rfl rfl k) ?_
  obtain ⟨T1, X1, e1, st1⟩ := getF X0 hx hZ hown (host := "") (Or.inl (hw _ (List.mem_of_getElem? (i := 14) rfl))) Via.refl e0 F_mills (g := (mkF m 1 #[.val (.ref a1)] [(.ref a1)])) rfl rfl (hb hby d4_1)
  refine own_go (T1.setTop (mkF m 4 #[.val (.ref a1)] [(.int x)])) (fun _ k => st1 _ k) ?_
  refine own_go (T1.setTop (mkF m 5 #[.val (.ref a1)] [(.ref a1), (.int x)])) (fun _ k => XS.aloadN X1.here hx rfl (hb hby d4_4) rfl rfl k) ?_
  obtain ⟨T2, X2, e2, st2⟩ := getF X1 hx hZ hown (host := "") (Or.inl (hw _ (List.mem_of_getElem? (i := 16) rfl))) Via.refl e1 F_sawmills (g := (mkF m 5 #[.val (.ref a1)] [(.ref a1), (.int x)])) rfl rfl (hb hby d4_5)
  refine own_go (T2.setTop (mkF m 8 #[.val (.ref a1)] [(.int y), (.int x)])) (fun _ k => st2 _ k) ?_
  refine own_go (T2.setTop (mkF m 9 #[.val (.ref a1)] [(.int (x + y))])) (fun _ k => XS.iadd X2.here hx rfl (hb hby d4_8) rfl k) ?_
  refine own_go (T2.setTop (mkF m 10 #[.val (.ref a1)] [(.ref a1), (.int (x + y))])) (fun _ k => XS.aloadN X2.here hx rfl (hb hby d4_9) rfl rfl k) ?_
  obtain ⟨T3, X3, e3, st3⟩ := getF X2 hx hZ hown (host := "") (Or.inl (hw _ (List.mem_of_getElem? (i := 18) rfl))) Via.refl e2 F_ports (g := (mkF m 10 #[.val (.ref a1)] [(.ref a1), (.int (x + y))])) rfl rfl (hb hby d4_10)
  refine own_go (T3.setTop (mkF m 13 #[.val (.ref a1)] [(.int z), (.int (x + y))])) (fun _ k => st3 _ k) ?_
  refine own_go (T3.setTop (mkF m 14 #[.val (.ref a1)] [(.int ((x + y) + z))])) (fun _ k => XS.iadd X3.here hx rfl (hb hby d4_13) rfl k) ?_
  refine own_go (T3.setTop (mkF m 15 #[.val (.ref a1)] [(.ref a1), (.int ((x + y) + z))])) (fun _ k => XS.aloadN X3.here hx rfl (hb hby d4_14) rfl rfl k) ?_
  obtain ⟨T4, X4, e4, st4⟩ := getF X3 hx hZ hown (host := "") (Or.inl (hw _ (List.mem_of_getElem? (i := 20) rfl))) Via.refl e3 F_meadows (g := (mkF m 15 #[.val (.ref a1)] [(.ref a1), (.int ((x + y) + z))])) rfl rfl (hb hby d4_15)
  refine own_go (T4.setTop (mkF m 18 #[.val (.ref a1)] [(.int u), (.int ((x + y) + z))])) (fun _ k => st4 _ k) ?_
  refine own_go (T4.setTop (mkF m 19 #[.val (.ref a1)] [(.int (((x + y) + z) + u))])) (fun _ k => XS.iadd X4.here hx rfl (hb hby d4_18) rfl k) ?_
  refine own_ret X4 (BodyLoose.notSynchronized Bd) (some (.int (((x + y) + z) + u))) (fun h => by rw [Bd.returns] at h; cases h) (fun fs hr => retI X4 hx Bd.returns (hb hby d4_19) hr) (by decide) (by decide) ?_
  exact ⟨rfl, N0, e4⟩
theorem own_pn0 : plainName "com/example/oxbow/oxbow/games/riverdrafter/RiverScoreTotalPinLaw" = true := by first | (simp [plainName, overriddenIn]; done) | decide +kernel
theorem own_ef0 (m : MethodId) (p1 : Int32) (p2 : Int32) (p3 : Int32) (p4 : Int32) : entryFrame m #[(.int p1), (.int p2), (.int p3), (.int p4)] maxLocals = (mkF m 0 #[.val (.int p1), .val (.int p2), .val (.int p3), .val (.int p4), .unset, .unset, .unset, .unset, .unset, .unset, .unset] []) := by first | (simp [entryFrame, mkF, argsToLocals, Value.category, maxLocals]; done) | rfl
def own_Q0 (Z : State) (p1 : Int32) (p2 : Int32) (p3 : Int32) (p4 : Int32)  (h0 : Heap) (n0 : Nat) (v : Option Value) (h : Heap) (L : List Loc) : Prop := v = some (.int (1 : Int32)) ∧ Fr n0 L
set_option maxRecDepth 65536 in
set_option maxHeartbeats 40000000 in
theorem own_rm0 (l : Launch) (Z : State) (a0 : Array Value) (hw : ∀ d ∈ tables_1, d.before a0 Z = true) (ws : List Jvm.Cond) (p1 : Int32) (p2 : Int32) (p3 : Int32) (p4 : Int32)  (h0 : Heap) (n0 : Nat) (Z0 : n0 ≤ h0.size) :
    MetFree l x (head1 (Jvm.Cond.code x code maxLocals ret :: ws) room_1) (fun a U => a = #[(.int p1), (.int p2), (.int p3), (.int p4)] ∧ Z.Warmed39 U.vm ∧ U.heap = h0) (fun _ _ _ _ _ => True) (fun _ U o U' => ∃ v L, o = .returned v ∧ own_Q0 Z p1 p2 p3 p4 h0 n0 v U'.heap L ∧ FrameEnd U o U' L room_1.cells room_1.slots) := by
  refine MetFree.of_bodySF (plainFor_of_name own_pn0) hisR ?_
  intro p e s m args below meth c s₁ Bd hml0 hP hK
  obtain ⟨rfl, hZ, hh⟩ := hP
  have hx := Bd.exec
  have hby := Bd.bytes
  have hml : c.maxLocals = 11 := hml0
  have hown : s.vm.findClass "com/example/oxbow/oxbow/games/riverdrafter/RiverScoreTotalPinLaw" = some m.cls := findClass_of_methodNamed Bd.named
  have hnm := (name_of_methodNamed Bd.named Bd.method).1
  have X0 : Stand p l e room_1 s m #[(.int p1), (.int p2), (.int p3), (.int p4)] below meth c s₁ [] 0 0 := Stand.of_body Bd
  have e0 : s₁.heap = h0 := by rw [← hh, Bd.state]; rfl
  have N0 := Fr.nil n0
  show own_Fin p e below s (own_Q0 Z p1 p2 p3 p4 h0 n0) room_1.cells room_1.slots (s₁.setTop (entryFrame m #[(.int p1), (.int p2), (.int p3), (.int p4)] maxLocals))
  refine own_go (s₁.setTop (mkF m 0 #[.val (.int p1), .val (.int p2), .val (.int p3), .val (.int p4), .unset, .unset, .unset, .unset, .unset, .unset, .unset] [])) (fun t k => castTop (own_ef0 m p1 p2 p3 p4) k) ?_
  obtain ⟨T1, h1, X1, e1, E1, A1, D1, -, st1⟩ := newO X0 hx hZ hown (hw _ (List.mem_of_getElem? (i := 0) rfl)) (hw _ (List.mem_of_getElem? (i := 1) rfl)) (hw _ (List.mem_of_getElem? (i := 2) rfl)) e0 (g := (mkF m 0 #[.val (.int p1), .val (.int p2), .val (.int p3), .val (.int p4), .unset, .unset, .unset, .unset, .unset, .unset, .unset] [])) rfl (hb hby at_0) (by decide) (by decide)
  obtain ⟨b1, g1⟩ : ∃ z, z = h0.size := ⟨_, rfl⟩
  rw [← g1] at A1 D1 st1
  have F_mills_b1 : Fld Z h1 b1 "com/example/oxbow/oxbow/games/riverdrafter/RiverScore" "mills" "I" (.int (0 : Int32)) := D1 (Or.inr (hw _ (List.mem_of_getElem? (i := 15) rfl))) (ty := .int) (by decide)
  have F_sawmills_b1 : Fld Z h1 b1 "com/example/oxbow/oxbow/games/riverdrafter/RiverScore" "sawmills" "I" (.int (0 : Int32)) := D1 (Or.inr (hw _ (List.mem_of_getElem? (i := 17) rfl))) (ty := .int) (by decide)
  have F_ports_b1 : Fld Z h1 b1 "com/example/oxbow/oxbow/games/riverdrafter/RiverScore" "ports" "I" (.int (0 : Int32)) := D1 (Or.inr (hw _ (List.mem_of_getElem? (i := 19) rfl))) (ty := .int) (by decide)
  have F_meadows_b1 : Fld Z h1 b1 "com/example/oxbow/oxbow/games/riverdrafter/RiverScore" "meadows" "I" (.int (0 : Int32)) := D1 (Or.inr (hw _ (List.mem_of_getElem? (i := 21) rfl))) (ty := .int) (by decide)
  have g_b1 : n0 ≤ b1 := Nat.le_trans Z0 (Nat.le_of_eq g1.symm)
  have Z1 : n0 ≤ h1.size := Nat.le_trans Z0 E1.1
  refine own_go (T1.setTop (mkF m 3 #[.val (.int p1), .val (.int p2), .val (.int p3), .val (.int p4), .unset, .unset, .unset, .unset, .unset, .unset, .unset] [(.ref b1)])) (fun _ k => st1 _ k) ?_
  refine own_go (T1.setTop (mkF m 4 #[.val (.int p1), .val (.int p2), .val (.int p3), .val (.int p4), .unset, .unset, .unset, .unset, .unset, .unset, .unset] [(.ref b1), (.ref b1)])) (fun _ k => XS.dup X1.here hx rfl (hb hby at_3) rfl rfl k) ?_
  refine own_go (T1.setTop (mkF m 5 #[.val (.int p1), .val (.int p2), .val (.int p3), .val (.int p4), .unset, .unset, .unset, .unset, .unset, .unset, .unset] [(.int p1), (.ref b1), (.ref b1)])) (fun _ k => XS.iloadN X1.here hx rfl (hb hby at_4) rfl k) ?_
  refine own_go (T1.setTop (mkF m 6 #[.val (.int p1), .val (.int p2), .val (.int p3), .val (.int p4), .unset, .unset, .unset, .unset, .unset, .unset, .unset] [(.int p2), (.int p1), (.ref b1), (.ref b1)])) (fun _ k => XS.iloadN X1.here hx rfl (hb hby at_5) rfl k) ?_
  refine own_go (T1.setTop (mkF m 7 #[.val (.int p1), .val (.int p2), .val (.int p3), .val (.int p4), .unset, .unset, .unset, .unset, .unset, .unset, .unset] [(.int p3), (.int p2), (.int p1), (.ref b1), (.ref b1)])) (fun _ k => XS.iloadN X1.here hx rfl (hb hby at_6) rfl k) ?_
  refine own_go (T1.setTop (mkF m 8 #[.val (.int p1), .val (.int p2), .val (.int p3), .val (.int p4), .unset, .unset, .unset, .unset, .unset, .unset, .unset] [(.int p4), (.int p3), (.int p2), (.int p1), (.ref b1), (.ref b1)])) (fun _ k => XS.iloadN X1.here hx rfl (hb hby at_7) rfl k) ?_
  obtain ⟨_, _, ⟨T2, L2, k2, n2⟩, -, X2, ⟨Lc2, hQ2, l2, y2, z2⟩, st2⟩ := X1.specialBack hx (y := (⟨"com/example/oxbow/oxbow/games/riverdrafter/RiverScore", "<init>", "(IIII)V"⟩ : MethodName)) rfl hown (mvT hZ (hw _ (List.mem_of_getElem? (i := 3) rfl))) (mvT hZ (hw _ (List.mem_of_getElem? (i := 4) rfl))) (mvT hZ (hw _ (List.mem_of_getElem? (i := 5) rfl))) (by decide) (backOf (W := 1) (own_rm1 l Z a0 hw [] b1 p1 p2 p3 p4 (.int (0 : Int32)) (.int (0 : Int32)) (.int (0 : Int32)) (.int (0 : Int32)) h1 n0 Z1 A1 g_b1 F_mills_b1 F_sawmills_b1 F_ports_b1 F_meadows_b1) hZ (hw _ (List.mem_of_getElem? (i := 5) rfl)) (hw _ (List.mem_of_getElem? (i := 2) rfl)) (by decide) (by decide)) (g := (mkF m 8 #[.val (.int p1), .val (.int p2), .val (.int p3), .val (.int p4), .unset, .unset, .unset, .unset, .unset, .unset, .unset] [(.int p4), (.int p3), (.int p2), (.int p1), (.ref b1), (.ref b1)])) rfl (by rw [hml]; rfl) (Steps.refl _) (a := b1) (argsL := [(.int p1), (.int p2), (.int p3), (.int p4)]) (rest := [(.ref b1)]) (lenOf own_pd1 rfl) rfl (by show 2 * 0 + _ ≤ _; exact Nat.le_of_eq rfl) (hb hby at_8) (fun _ _ => ⟨rfl, e1, (by decide : 1 + 0 ≤ _), (by decide : 4 + 0 ≤ _)⟩)
  dsimp only [Pt.U, Pt.locs, Pt.cells, Pt.slots] at X2 l2 y2 z2 st2 hQ2
  subst l2 y2 z2
  obtain ⟨rfl, N2q, Ky2, Ey2, Fy_mills_2, Fy_sawmills_2, Fy_ports_2, Fy_meadows_2⟩ := hQ2
  have N2 := Fr.app N0 N2q
  have Z2 : n0 ≤ T2.heap.size := Nat.le_trans Z1 Ky2.1
  refine own_go (T2.setTop (mkF m 11 #[.val (.int p1), .val (.int p2), .val (.int p3), .val (.int p4), .unset, .unset, .unset, .unset, .unset, .unset, .unset] [(.ref b1)])) (fun _ k => st2.trans k) ?_
  obtain ⟨cq3, kq3, q3a, q3b, q3c⟩ := isOf hZ rfl Ey2
  obtain ⟨_, _, ⟨T3, L3, k3, n3⟩, -, X3, ⟨Lc3, hQ3, l3, y3, z3⟩, st3⟩ := X2.virtualBack hx (y := (⟨"com/example/oxbow/oxbow/games/riverdrafter/RiverScore", "total", "()I"⟩ : MethodName)) (z := (⟨"com/example/oxbow/oxbow/games/riverdrafter/RiverScore", "total", "()I"⟩ : MethodName)) hown (mvT hZ (hw _ (List.mem_of_getElem? (i := 22) rfl))) (mvT hZ (hw _ (List.mem_of_getElem? (i := 23) rfl))) (notFace_of_selects (args := #[]) (mvT hZ (hw _ (List.mem_of_getElem? (i := 25) rfl)))) (mvT hZ (hw _ (List.mem_of_getElem? (i := 25) rfl))) (mvT hZ (hw _ (List.mem_of_getElem? (i := 24) rfl))) (by decide) (backOf (W := 0) (own_rm4 l Z a0 hw [] b1 p1 p2 p3 p4 T2.heap n0 Z2 Fy_mills_2 Fy_sawmills_2 Fy_ports_2 Fy_meadows_2) hZ (hw _ (List.mem_of_getElem? (i := 26) rfl)) (hw _ (List.mem_of_getElem? (i := 2) rfl)) (by decide) (by decide)) q3a q3c (g := (mkF m 11 #[.val (.int p1), .val (.int p2), .val (.int p3), .val (.int p4), .unset, .unset, .unset, .unset, .unset, .unset, .unset] [(.ref b1)])) rfl (by rw [hml]; rfl) (Steps.refl _) (argsL := []) (rest := []) (lenOf own_pd2 rfl) rfl (by show 2 * 0 + _ ≤ _; exact Nat.le_of_eq rfl) (hb hby at_11) (fun _ _ => ⟨rfl, rfl, (by decide : 1 + 0 ≤ _), (by decide : 4 + 0 ≤ _)⟩)
  dsimp only [Pt.U, Pt.locs, Pt.cells, Pt.slots] at X3 l3 y3 z3 st3 hQ3
  subst l3 y3 z3
  obtain ⟨rfl, N3q, e3⟩ := hQ3
  have N3 := Fr.app N2 N3q
  refine own_go (T3.setTop (mkF m 14 #[.val (.int p1), .val (.int p2), .val (.int p3), .val (.int p4), .unset, .unset, .unset, .unset, .unset, .unset, .unset] [(.int (((p1 + p2) + p3) + p4))])) (fun _ k => st3.trans k) ?_
  refine own_go (T3.setTop (mkF m 16 #[.val (.int p1), .val (.int p2), .val (.int p3), .val (.int p4), .val (.int (((p1 + p2) + p3) + p4)), .unset, .unset, .unset, .unset, .unset, .unset] [])) (fun _ k => XS.istore X3.here hx rfl (hb hby at_14) rfl (l' := #[.val (.int p1), .val (.int p2), .val (.int p3), .val (.int p4), .val (.int (((p1 + p2) + p3) + p4)), .unset, .unset, .unset, .unset, .unset, .unset]) rfl k) ?_
  obtain ⟨T4, h4, X4, e4, E4, A4, D4, -, st4⟩ := newO X3 hx hZ hown (hw _ (List.mem_of_getElem? (i := 0) rfl)) (hw _ (List.mem_of_getElem? (i := 1) rfl)) (hw _ (List.mem_of_getElem? (i := 2) rfl)) e3 (g := (mkF m 16 #[.val (.int p1), .val (.int p2), .val (.int p3), .val (.int p4), .val (.int (((p1 + p2) + p3) + p4)), .unset, .unset, .unset, .unset, .unset, .unset] [])) rfl (hb hby at_16) (by decide) (by decide)
  obtain ⟨b4, g4⟩ : ∃ z, z = T2.heap.size := ⟨_, rfl⟩
  rw [← g4] at A4 D4 st4
  have F_mills_b4 : Fld Z h4 b4 "com/example/oxbow/oxbow/games/riverdrafter/RiverScore" "mills" "I" (.int (0 : Int32)) := D4 (Or.inr (hw _ (List.mem_of_getElem? (i := 15) rfl))) (ty := .int) (by decide)
  have F_sawmills_b4 : Fld Z h4 b4 "com/example/oxbow/oxbow/games/riverdrafter/RiverScore" "sawmills" "I" (.int (0 : Int32)) := D4 (Or.inr (hw _ (List.mem_of_getElem? (i := 17) rfl))) (ty := .int) (by decide)
  have F_ports_b4 : Fld Z h4 b4 "com/example/oxbow/oxbow/games/riverdrafter/RiverScore" "ports" "I" (.int (0 : Int32)) := D4 (Or.inr (hw _ (List.mem_of_getElem? (i := 19) rfl))) (ty := .int) (by decide)
  have F_meadows_b4 : Fld Z h4 b4 "com/example/oxbow/oxbow/games/riverdrafter/RiverScore" "meadows" "I" (.int (0 : Int32)) := D4 (Or.inr (hw _ (List.mem_of_getElem? (i := 21) rfl))) (ty := .int) (by decide)
  have g_b4 : n0 ≤ b4 := Nat.le_trans Z2 (Nat.le_of_eq g4.symm)
  have Z4 : n0 ≤ h4.size := Nat.le_trans Z2 E4.1
  refine own_go (T4.setTop (mkF m 19 #[.val (.int p1), .val (.int p2), .val (.int p3), .val (.int p4), .val (.int (((p1 + p2) + p3) + p4)), .unset, .unset, .unset, .unset, .unset, .unset] [(.ref b4)])) (fun _ k => st4 _ k) ?_
  refine own_go (T4.setTop (mkF m 20 #[.val (.int p1), .val (.int p2), .val (.int p3), .val (.int p4), .val (.int (((p1 + p2) + p3) + p4)), .unset, .unset, .unset, .unset, .unset, .unset] [(.ref b4), (.ref b4)])) (fun _ k => XS.dup X4.here hx rfl (hb hby at_19) rfl rfl k) ?_
  refine own_go (T4.setTop (mkF m 21 #[.val (.int p1), .val (.int p2), .val (.int p3), .val (.int p4), .val (.int (((p1 + p2) + p3) + p4)), .unset, .unset, .unset, .unset, .unset, .unset] [(.int p1), (.ref b4), (.ref b4)])) (fun _ k => XS.iloadN X4.here hx rfl (hb hby at_20) rfl k) ?_
  refine own_go (T4.setTop (mkF m 22 #[.val (.int p1), .val (.int p2), .val (.int p3), .val (.int p4), .val (.int (((p1 + p2) + p3) + p4)), .unset, .unset, .unset, .unset, .unset, .unset] [(.int (0 : Int32)), (.int p1), (.ref b4), (.ref b4)])) (fun _ k => XS.iconst X4.here hx rfl (hb hby at_21) k) ?_
  refine own_go (T4.setTop (mkF m 23 #[.val (.int p1), .val (.int p2), .val (.int p3), .val (.int p4), .val (.int (((p1 + p2) + p3) + p4)), .unset, .unset, .unset, .unset, .unset, .unset] [(.int (0 : Int32)), (.int (0 : Int32)), (.int p1), (.ref b4), (.ref b4)])) (fun _ k => XS.iconst X4.here hx rfl (hb hby at_22) k) ?_
  refine own_go (T4.setTop (mkF m 24 #[.val (.int p1), .val (.int p2), .val (.int p3), .val (.int p4), .val (.int (((p1 + p2) + p3) + p4)), .unset, .unset, .unset, .unset, .unset, .unset] [(.int (0 : Int32)), (.int (0 : Int32)), (.int (0 : Int32)), (.int p1), (.ref b4), (.ref b4)])) (fun _ k => XS.iconst X4.here hx rfl (hb hby at_23) k) ?_
  obtain ⟨_, _, ⟨T5, L5, k5, n5⟩, -, X5, ⟨Lc5, hQ5, l5, y5, z5⟩, st5⟩ := X4.specialBack hx (y := (⟨"com/example/oxbow/oxbow/games/riverdrafter/RiverScore", "<init>", "(IIII)V"⟩ : MethodName)) rfl hown (mvT hZ (hw _ (List.mem_of_getElem? (i := 3) rfl))) (mvT hZ (hw _ (List.mem_of_getElem? (i := 4) rfl))) (mvT hZ (hw _ (List.mem_of_getElem? (i := 5) rfl))) (by decide) (backOf (W := 1) (own_rm1 l Z a0 hw [] b4 p1 (0 : Int32) (0 : Int32) (0 : Int32) (.int (0 : Int32)) (.int (0 : Int32)) (.int (0 : Int32)) (.int (0 : Int32)) h4 n0 Z4 A4 g_b4 F_mills_b4 F_sawmills_b4 F_ports_b4 F_meadows_b4) hZ (hw _ (List.mem_of_getElem? (i := 5) rfl)) (hw _ (List.mem_of_getElem? (i := 2) rfl)) (by decide) (by decide)) (g := (mkF m 24 #[.val (.int p1), .val (.int p2), .val (.int p3), .val (.int p4), .val (.int (((p1 + p2) + p3) + p4)), .unset, .unset, .unset, .unset, .unset, .unset] [(.int (0 : Int32)), (.int (0 : Int32)), (.int (0 : Int32)), (.int p1), (.ref b4), (.ref b4)])) rfl (by rw [hml]; rfl) (Steps.refl _) (a := b4) (argsL := [(.int p1), (.int (0 : Int32)), (.int (0 : Int32)), (.int (0 : Int32))]) (rest := [(.ref b4)]) (lenOf own_pd1 rfl) rfl (by show 2 * 0 + _ ≤ _; exact Nat.le_of_eq rfl) (hb hby at_24) (fun _ _ => ⟨rfl, e4, (by decide : 2 + 0 ≤ _), (by decide : 8 + 0 ≤ _)⟩)
  dsimp only [Pt.U, Pt.locs, Pt.cells, Pt.slots] at X5 l5 y5 z5 st5 hQ5
  subst l5 y5 z5
  obtain ⟨rfl, N5q, Ky5, Ey5, Fy_mills_5, Fy_sawmills_5, Fy_ports_5, Fy_meadows_5⟩ := hQ5
  have N5 := Fr.app N3 N5q
  have Z5 : n0 ≤ T5.heap.size := Nat.le_trans Z4 Ky5.1
  refine own_go (T5.setTop (mkF m 27 #[.val (.int p1), .val (.int p2), .val (.int p3), .val (.int p4), .val (.int (((p1 + p2) + p3) + p4)), .unset, .unset, .unset, .unset, .unset, .unset] [(.ref b4)])) (fun _ k => st5.trans k) ?_
  obtain ⟨cq6, kq6, q6a, q6b, q6c⟩ := isOf hZ rfl Ey5
  obtain ⟨_, _, ⟨T6, L6, k6, n6⟩, -, X6, ⟨Lc6, hQ6, l6, y6, z6⟩, st6⟩ := X5.virtualBack hx (y := (⟨"com/example/oxbow/oxbow/games/riverdrafter/RiverScore", "total", "()I"⟩ : MethodName)) (z := (⟨"com/example/oxbow/oxbow/games/riverdrafter/RiverScore", "total", "()I"⟩ : MethodName)) hown (mvT hZ (hw _ (List.mem_of_getElem? (i := 22) rfl))) (mvT hZ (hw _ (List.mem_of_getElem? (i := 23) rfl))) (notFace_of_selects (args := #[]) (mvT hZ (hw _ (List.mem_of_getElem? (i := 25) rfl)))) (mvT hZ (hw _ (List.mem_of_getElem? (i := 25) rfl))) (mvT hZ (hw _ (List.mem_of_getElem? (i := 24) rfl))) (by decide) (backOf (W := 0) (own_rm4 l Z a0 hw [] b4 p1 (0 : Int32) (0 : Int32) (0 : Int32) T5.heap n0 Z5 Fy_mills_5 Fy_sawmills_5 Fy_ports_5 Fy_meadows_5) hZ (hw _ (List.mem_of_getElem? (i := 26) rfl)) (hw _ (List.mem_of_getElem? (i := 2) rfl)) (by decide) (by decide)) q6a q6c (g := (mkF m 27 #[.val (.int p1), .val (.int p2), .val (.int p3), .val (.int p4), .val (.int (((p1 + p2) + p3) + p4)), .unset, .unset, .unset, .unset, .unset, .unset] [(.ref b4)])) rfl (by rw [hml]; rfl) (Steps.refl _) (argsL := []) (rest := []) (lenOf own_pd2 rfl) rfl (by show 2 * 0 + _ ≤ _; exact Nat.le_of_eq rfl) (hb hby at_27) (fun _ _ => ⟨rfl, rfl, (by decide : 2 + 0 ≤ _), (by decide : 8 + 0 ≤ _)⟩)
  dsimp only [Pt.U, Pt.locs, Pt.cells, Pt.slots] at X6 l6 y6 z6 st6 hQ6
  subst l6 y6 z6
  obtain ⟨rfl, N6q, e6⟩ := hQ6
  have N6 := Fr.app N5 N6q
  refine own_go (T6.setTop (mkF m 30 #[.val (.int p1), .val (.int p2), .val (.int p3), .val (.int p4), .val (.int (((p1 + p2) + p3) + p4)), .unset, .unset, .unset, .unset, .unset, .unset] [(.int (((p1 + (0 : Int32)) + (0 : Int32)) + (0 : Int32)))])) (fun _ k => st6.trans k) ?_
  refine own_go (T6.setTop (mkF m 32 #[.val (.int p1), .val (.int p2), .val (.int p3), .val (.int p4), .val (.int (((p1 + p2) + p3) + p4)), .val (.int (((p1 + (0 : Int32)) + (0 : Int32)) + (0 : Int32))), .unset, .unset, .unset, .unset, .unset] [])) (fun _ k => XS.istore X6.here hx rfl (hb hby at_30) rfl (l' := #[.val (.int p1), .val (.int p2), .val (.int p3), .val (.int p4), .val (.int (((p1 + p2) + p3) + p4)), .val (.int (((p1 + (0 : Int32)) + (0 : Int32)) + (0 : Int32))), .unset, .unset, .unset, .unset, .unset]) rfl k) ?_
  obtain ⟨T7, h7, X7, e7, E7, A7, D7, -, st7⟩ := newO X6 hx hZ hown (hw _ (List.mem_of_getElem? (i := 0) rfl)) (hw _ (List.mem_of_getElem? (i := 1) rfl)) (hw _ (List.mem_of_getElem? (i := 2) rfl)) e6 (g := (mkF m 32 #[.val (.int p1), .val (.int p2), .val (.int p3), .val (.int p4), .val (.int (((p1 + p2) + p3) + p4)), .val (.int (((p1 + (0 : Int32)) + (0 : Int32)) + (0 : Int32))), .unset, .unset, .unset, .unset, .unset] [])) rfl (hb hby at_32) (by decide) (by decide)
  obtain ⟨b7, g7⟩ : ∃ z, z = T5.heap.size := ⟨_, rfl⟩
  rw [← g7] at A7 D7 st7
  have F_mills_b7 : Fld Z h7 b7 "com/example/oxbow/oxbow/games/riverdrafter/RiverScore" "mills" "I" (.int (0 : Int32)) := D7 (Or.inr (hw _ (List.mem_of_getElem? (i := 15) rfl))) (ty := .int) (by decide)
  have F_sawmills_b7 : Fld Z h7 b7 "com/example/oxbow/oxbow/games/riverdrafter/RiverScore" "sawmills" "I" (.int (0 : Int32)) := D7 (Or.inr (hw _ (List.mem_of_getElem? (i := 17) rfl))) (ty := .int) (by decide)
  have F_ports_b7 : Fld Z h7 b7 "com/example/oxbow/oxbow/games/riverdrafter/RiverScore" "ports" "I" (.int (0 : Int32)) := D7 (Or.inr (hw _ (List.mem_of_getElem? (i := 19) rfl))) (ty := .int) (by decide)
  have F_meadows_b7 : Fld Z h7 b7 "com/example/oxbow/oxbow/games/riverdrafter/RiverScore" "meadows" "I" (.int (0 : Int32)) := D7 (Or.inr (hw _ (List.mem_of_getElem? (i := 21) rfl))) (ty := .int) (by decide)
  have g_b7 : n0 ≤ b7 := Nat.le_trans Z5 (Nat.le_of_eq g7.symm)
  have Z7 : n0 ≤ h7.size := Nat.le_trans Z5 E7.1
  refine own_go (T7.setTop (mkF m 35 #[.val (.int p1), .val (.int p2), .val (.int p3), .val (.int p4), .val (.int (((p1 + p2) + p3) + p4)), .val (.int (((p1 + (0 : Int32)) + (0 : Int32)) + (0 : Int32))), .unset, .unset, .unset, .unset, .unset] [(.ref b7)])) (fun _ k => st7 _ k) ?_
  refine own_go (T7.setTop (mkF m 36 #[.val (.int p1), .val (.int p2), .val (.int p3), .val (.int p4), .val (.int (((p1 + p2) + p3) + p4)), .val (.int (((p1 + (0 : Int32)) + (0 : Int32)) + (0 : Int32))), .unset, .unset, .unset, .unset, .unset] [(.ref b7), (.ref b7)])) (fun _ k => XS.dup X7.here hx rfl (hb hby at_35) rfl rfl k) ?_
  refine own_go (T7.setTop (mkF m 37 #[.val (.int p1), .val (.int p2), .val (.int p3), .val (.int p4), .val (.int (((p1 + p2) + p3) + p4)), .val (.int (((p1 + (0 : Int32)) + (0 : Int32)) + (0 : Int32))), .unset, .unset, .unset, .unset, .unset] [(.int (0 : Int32)), (.ref b7), (.ref b7)])) (fun _ k => XS.iconst X7.here hx rfl (hb hby at_36) k) ?_
  refine own_go (T7.setTop (mkF m 38 #[.val (.int p1), .val (.int p2), .val (.int p3), .val (.int p4), .val (.int (((p1 + p2) + p3) + p4)), .val (.int (((p1 + (0 : Int32)) + (0 : Int32)) + (0 : Int32))), .unset, .unset, .unset, .unset, .unset] [(.int p2), (.int (0 : Int32)), (.ref b7), (.ref b7)])) (fun _ k => XS.iloadN X7.here hx rfl (hb hby at_37) rfl k) ?_
  refine own_go (T7.setTop (mkF m 39 #[.val (.int p1), .val (.int p2), .val (.int p3), .val (.int p4), .val (.int (((p1 + p2) + p3) + p4)), .val (.int (((p1 + (0 : Int32)) + (0 : Int32)) + (0 : Int32))), .unset, .unset, .unset, .unset, .unset] [(.int (0 : Int32)), (.int p2), (.int (0 : Int32)), (.ref b7), (.ref b7)])) (fun _ k => XS.iconst X7.here hx rfl (hb hby at_38) k) ?_
  refine own_go (T7.setTop (mkF m 40 #[.val (.int p1), .val (.int p2), .val (.int p3), .val (.int p4), .val (.int (((p1 + p2) + p3) + p4)), .val (.int (((p1 + (0 : Int32)) + (0 : Int32)) + (0 : Int32))), .unset, .unset, .unset, .unset, .unset] [(.int (0 : Int32)), (.int (0 : Int32)), (.int p2), (.int (0 : Int32)), (.ref b7), (.ref b7)])) (fun _ k => XS.iconst X7.here hx rfl (hb hby at_39) k) ?_
  obtain ⟨_, _, ⟨T8, L8, k8, n8⟩, -, X8, ⟨Lc8, hQ8, l8, y8, z8⟩, st8⟩ := X7.specialBack hx (y := (⟨"com/example/oxbow/oxbow/games/riverdrafter/RiverScore", "<init>", "(IIII)V"⟩ : MethodName)) rfl hown (mvT hZ (hw _ (List.mem_of_getElem? (i := 3) rfl))) (mvT hZ (hw _ (List.mem_of_getElem? (i := 4) rfl))) (mvT hZ (hw _ (List.mem_of_getElem? (i := 5) rfl))) (by decide) (backOf (W := 1) (own_rm1 l Z a0 hw [] b7 (0 : Int32) p2 (0 : Int32) (0 : Int32) (.int (0 : Int32)) (.int (0 : Int32)) (.int (0 : Int32)) (.int (0 : Int32)) h7 n0 Z7 A7 g_b7 F_mills_b7 F_sawmills_b7 F_ports_b7 F_meadows_b7) hZ (hw _ (List.mem_of_getElem? (i := 5) rfl)) (hw _ (List.mem_of_getElem? (i := 2) rfl)) (by decide) (by decide)) (g := (mkF m 40 #[.val (.int p1), .val (.int p2), .val (.int p3), .val (.int p4), .val (.int (((p1 + p2) + p3) + p4)), .val (.int (((p1 + (0 : Int32)) + (0 : Int32)) + (0 : Int32))), .unset, .unset, .unset, .unset, .unset] [(.int (0 : Int32)), (.int (0 : Int32)), (.int p2), (.int (0 : Int32)), (.ref b7), (.ref b7)])) rfl (by rw [hml]; rfl) (Steps.refl _) (a := b7) (argsL := [(.int (0 : Int32)), (.int p2), (.int (0 : Int32)), (.int (0 : Int32))]) (rest := [(.ref b7)]) (lenOf own_pd1 rfl) rfl (by show 2 * 0 + _ ≤ _; exact Nat.le_of_eq rfl) (hb hby at_40) (fun _ _ => ⟨rfl, e7, (by decide : 3 + 0 ≤ _), (by decide : 12 + 0 ≤ _)⟩)
  dsimp only [Pt.U, Pt.locs, Pt.cells, Pt.slots] at X8 l8 y8 z8 st8 hQ8
  subst l8 y8 z8
  obtain ⟨rfl, N8q, Ky8, Ey8, Fy_mills_8, Fy_sawmills_8, Fy_ports_8, Fy_meadows_8⟩ := hQ8
  have N8 := Fr.app N6 N8q
  have Z8 : n0 ≤ T8.heap.size := Nat.le_trans Z7 Ky8.1
  refine own_go (T8.setTop (mkF m 43 #[.val (.int p1), .val (.int p2), .val (.int p3), .val (.int p4), .val (.int (((p1 + p2) + p3) + p4)), .val (.int (((p1 + (0 : Int32)) + (0 : Int32)) + (0 : Int32))), .unset, .unset, .unset, .unset, .unset] [(.ref b7)])) (fun _ k => st8.trans k) ?_
  obtain ⟨cq9, kq9, q9a, q9b, q9c⟩ := isOf hZ rfl Ey8
  obtain ⟨_, _, ⟨T9, L9, k9, n9⟩, -, X9, ⟨Lc9, hQ9, l9, y9, z9⟩, st9⟩ := X8.virtualBack hx (y := (⟨"com/example/oxbow/oxbow/games/riverdrafter/RiverScore", "total", "()I"⟩ : MethodName)) (z := (⟨"com/example/oxbow/oxbow/games/riverdrafter/RiverScore", "total", "()I"⟩ : MethodName)) hown (mvT hZ (hw _ (List.mem_of_getElem? (i := 22) rfl))) (mvT hZ (hw _ (List.mem_of_getElem? (i := 23) rfl))) (notFace_of_selects (args := #[]) (mvT hZ (hw _ (List.mem_of_getElem? (i := 25) rfl)))) (mvT hZ (hw _ (List.mem_of_getElem? (i := 25) rfl))) (mvT hZ (hw _ (List.mem_of_getElem? (i := 24) rfl))) (by decide) (backOf (W := 0) (own_rm4 l Z a0 hw [] b7 (0 : Int32) p2 (0 : Int32) (0 : Int32) T8.heap n0 Z8 Fy_mills_8 Fy_sawmills_8 Fy_ports_8 Fy_meadows_8) hZ (hw _ (List.mem_of_getElem? (i := 26) rfl)) (hw _ (List.mem_of_getElem? (i := 2) rfl)) (by decide) (by decide)) q9a q9c (g := (mkF m 43 #[.val (.int p1), .val (.int p2), .val (.int p3), .val (.int p4), .val (.int (((p1 + p2) + p3) + p4)), .val (.int (((p1 + (0 : Int32)) + (0 : Int32)) + (0 : Int32))), .unset, .unset, .unset, .unset, .unset] [(.ref b7)])) rfl (by rw [hml]; rfl) (Steps.refl _) (argsL := []) (rest := []) (lenOf own_pd2 rfl) rfl (by show 2 * 0 + _ ≤ _; exact Nat.le_of_eq rfl) (hb hby at_43) (fun _ _ => ⟨rfl, rfl, (by decide : 3 + 0 ≤ _), (by decide : 12 + 0 ≤ _)⟩)
  dsimp only [Pt.U, Pt.locs, Pt.cells, Pt.slots] at X9 l9 y9 z9 st9 hQ9
  subst l9 y9 z9
  obtain ⟨rfl, N9q, e9⟩ := hQ9
  have N9 := Fr.app N8 N9q
  refine own_go (T9.setTop (mkF m 46 #[.val (.int p1), .val (.int p2), .val (.int p3), .val (.int p4), .val (.int (((p1 + p2) + p3) + p4)), .val (.int (((p1 + (0 : Int32)) + (0 : Int32)) + (0 : Int32))), .unset, .unset, .unset, .unset, .unset] [(.int ((((0 : Int32) + p2) + (0 : Int32)) + (0 : Int32)))])) (fun _ k => st9.trans k) ?_
  refine own_go (T9.setTop (mkF m 48 #[.val (.int p1), .val (.int p2), .val (.int p3), .val (.int p4), .val (.int (((p1 + p2) + p3) + p4)), .val (.int (((p1 + (0 : Int32)) + (0 : Int32)) + (0 : Int32))), .val (.int ((((0 : Int32) + p2) + (0 : Int32)) + (0 : Int32))), .unset, .unset, .unset, .unset] [])) (fun _ k => XS.istore X9.here hx rfl (hb hby at_46) rfl (l' := #[.val (.int p1), .val (.int p2), .val (.int p3), .val (.int p4), .val (.int (((p1 + p2) + p3) + p4)), .val (.int (((p1 + (0 : Int32)) + (0 : Int32)) + (0 : Int32))), .val (.int ((((0 : Int32) + p2) + (0 : Int32)) + (0 : Int32))), .unset, .unset, .unset, .unset]) rfl k) ?_
  obtain ⟨T10, h10, X10, e10, E10, A10, D10, -, st10⟩ := newO X9 hx hZ hown (hw _ (List.mem_of_getElem? (i := 0) rfl)) (hw _ (List.mem_of_getElem? (i := 1) rfl)) (hw _ (List.mem_of_getElem? (i := 2) rfl)) e9 (g := (mkF m 48 #[.val (.int p1), .val (.int p2), .val (.int p3), .val (.int p4), .val (.int (((p1 + p2) + p3) + p4)), .val (.int (((p1 + (0 : Int32)) + (0 : Int32)) + (0 : Int32))), .val (.int ((((0 : Int32) + p2) + (0 : Int32)) + (0 : Int32))), .unset, .unset, .unset, .unset] [])) rfl (hb hby at_48) (by decide) (by decide)
  obtain ⟨b10, g10⟩ : ∃ z, z = T8.heap.size := ⟨_, rfl⟩
  rw [← g10] at A10 D10 st10
  have F_mills_b10 : Fld Z h10 b10 "com/example/oxbow/oxbow/games/riverdrafter/RiverScore" "mills" "I" (.int (0 : Int32)) := D10 (Or.inr (hw _ (List.mem_of_getElem? (i := 15) rfl))) (ty := .int) (by decide)
  have F_sawmills_b10 : Fld Z h10 b10 "com/example/oxbow/oxbow/games/riverdrafter/RiverScore" "sawmills" "I" (.int (0 : Int32)) := D10 (Or.inr (hw _ (List.mem_of_getElem? (i := 17) rfl))) (ty := .int) (by decide)
  have F_ports_b10 : Fld Z h10 b10 "com/example/oxbow/oxbow/games/riverdrafter/RiverScore" "ports" "I" (.int (0 : Int32)) := D10 (Or.inr (hw _ (List.mem_of_getElem? (i := 19) rfl))) (ty := .int) (by decide)
  have F_meadows_b10 : Fld Z h10 b10 "com/example/oxbow/oxbow/games/riverdrafter/RiverScore" "meadows" "I" (.int (0 : Int32)) := D10 (Or.inr (hw _ (List.mem_of_getElem? (i := 21) rfl))) (ty := .int) (by decide)
  have g_b10 : n0 ≤ b10 := Nat.le_trans Z8 (Nat.le_of_eq g10.symm)
  have Z10 : n0 ≤ h10.size := Nat.le_trans Z8 E10.1
  refine own_go (T10.setTop (mkF m 51 #[.val (.int p1), .val (.int p2), .val (.int p3), .val (.int p4), .val (.int (((p1 + p2) + p3) + p4)), .val (.int (((p1 + (0 : Int32)) + (0 : Int32)) + (0 : Int32))), .val (.int ((((0 : Int32) + p2) + (0 : Int32)) + (0 : Int32))), .unset, .unset, .unset, .unset] [(.ref b10)])) (fun _ k => st10 _ k) ?_
  refine own_go (T10.setTop (mkF m 52 #[.val (.int p1), .val (.int p2), .val (.int p3), .val (.int p4), .val (.int (((p1 + p2) + p3) + p4)), .val (.int (((p1 + (0 : Int32)) + (0 : Int32)) + (0 : Int32))), .val (.int ((((0 : Int32) + p2) + (0 : Int32)) + (0 : Int32))), .unset, .unset, .unset, .unset] [(.ref b10), (.ref b10)])) (fun _ k => XS.dup X10.here hx rfl (hb hby at_51) rfl rfl k) ?_
  refine own_go (T10.setTop (mkF m 53 #[.val (.int p1), .val (.int p2), .val (.int p3), .val (.int p4), .val (.int (((p1 + p2) + p3) + p4)), .val (.int (((p1 + (0 : Int32)) + (0 : Int32)) + (0 : Int32))), .val (.int ((((0 : Int32) + p2) + (0 : Int32)) + (0 : Int32))), .unset, .unset, .unset, .unset] [(.int (0 : Int32)), (.ref b10), (.ref b10)])) (fun _ k => XS.iconst X10.here hx rfl (hb hby at_52) k) ?_
  refine own_go (T10.setTop (mkF m 54 #[.val (.int p1), .val (.int p2), .val (.int p3), .val (.int p4), .val (.int (((p1 + p2) + p3) + p4)), .val (.int (((p1 + (0 : Int32)) + (0 : Int32)) + (0 : Int32))), .val (.int ((((0 : Int32) + p2) + (0 : Int32)) + (0 : Int32))), .unset, .unset, .unset, .unset] [(.int (0 : Int32)), (.int (0 : Int32)), (.ref b10), (.ref b10)])) (fun _ k => XS.iconst X10.here hx rfl (hb hby at_53) k) ?_
  refine own_go (T10.setTop (mkF m 55 #[.val (.int p1), .val (.int p2), .val (.int p3), .val (.int p4), .val (.int (((p1 + p2) + p3) + p4)), .val (.int (((p1 + (0 : Int32)) + (0 : Int32)) + (0 : Int32))), .val (.int ((((0 : Int32) + p2) + (0 : Int32)) + (0 : Int32))), .unset, .unset, .unset, .unset] [(.int p3), (.int (0 : Int32)), (.int (0 : Int32)), (.ref b10), (.ref b10)])) (fun _ k => XS.iloadN X10.here hx rfl (hb hby at_54) rfl k) ?_
  refine own_go (T10.setTop (mkF m 56 #[.val (.int p1), .val (.int p2), .val (.int p3), .val (.int p4), .val (.int (((p1 + p2) + p3) + p4)), .val (.int (((p1 + (0 : Int32)) + (0 : Int32)) + (0 : Int32))), .val (.int ((((0 : Int32) + p2) + (0 : Int32)) + (0 : Int32))), .unset, .unset, .unset, .unset] [(.int (0 : Int32)), (.int p3), (.int (0 : Int32)), (.int (0 : Int32)), (.ref b10), (.ref b10)])) (fun _ k => XS.iconst X10.here hx rfl (hb hby at_55) k) ?_
  obtain ⟨_, _, ⟨T11, L11, k11, n11⟩, -, X11, ⟨Lc11, hQ11, l11, y11, z11⟩, st11⟩ := X10.specialBack hx (y := (⟨"com/example/oxbow/oxbow/games/riverdrafter/RiverScore", "<init>", "(IIII)V"⟩ : MethodName)) rfl hown (mvT hZ (hw _ (List.mem_of_getElem? (i := 3) rfl))) (mvT hZ (hw _ (List.mem_of_getElem? (i := 4) rfl))) (mvT hZ (hw _ (List.mem_of_getElem? (i := 5) rfl))) (by decide) (backOf (W := 1) (own_rm1 l Z a0 hw [] b10 (0 : Int32) (0 : Int32) p3 (0 : Int32) (.int (0 : Int32)) (.int (0 : Int32)) (.int (0 : Int32)) (.int (0 : Int32)) h10 n0 Z10 A10 g_b10 F_mills_b10 F_sawmills_b10 F_ports_b10 F_meadows_b10) hZ (hw _ (List.mem_of_getElem? (i := 5) rfl)) (hw _ (List.mem_of_getElem? (i := 2) rfl)) (by decide) (by decide)) (g := (mkF m 56 #[.val (.int p1), .val (.int p2), .val (.int p3), .val (.int p4), .val (.int (((p1 + p2) + p3) + p4)), .val (.int (((p1 + (0 : Int32)) + (0 : Int32)) + (0 : Int32))), .val (.int ((((0 : Int32) + p2) + (0 : Int32)) + (0 : Int32))), .unset, .unset, .unset, .unset] [(.int (0 : Int32)), (.int p3), (.int (0 : Int32)), (.int (0 : Int32)), (.ref b10), (.ref b10)])) rfl (by rw [hml]; rfl) (Steps.refl _) (a := b10) (argsL := [(.int (0 : Int32)), (.int (0 : Int32)), (.int p3), (.int (0 : Int32))]) (rest := [(.ref b10)]) (lenOf own_pd1 rfl) rfl (by show 2 * 0 + _ ≤ _; exact Nat.le_of_eq rfl) (hb hby at_56) (fun _ _ => ⟨rfl, e10, (by decide : 4 + 0 ≤ _), (by decide : 16 + 0 ≤ _)⟩)
  dsimp only [Pt.U, Pt.locs, Pt.cells, Pt.slots] at X11 l11 y11 z11 st11 hQ11
  subst l11 y11 z11
  obtain ⟨rfl, N11q, Ky11, Ey11, Fy_mills_11, Fy_sawmills_11, Fy_ports_11, Fy_meadows_11⟩ := hQ11
  have N11 := Fr.app N9 N11q
  have Z11 : n0 ≤ T11.heap.size := Nat.le_trans Z10 Ky11.1
  refine own_go (T11.setTop (mkF m 59 #[.val (.int p1), .val (.int p2), .val (.int p3), .val (.int p4), .val (.int (((p1 + p2) + p3) + p4)), .val (.int (((p1 + (0 : Int32)) + (0 : Int32)) + (0 : Int32))), .val (.int ((((0 : Int32) + p2) + (0 : Int32)) + (0 : Int32))), .unset, .unset, .unset, .unset] [(.ref b10)])) (fun _ k => st11.trans k) ?_
  obtain ⟨cq12, kq12, q12a, q12b, q12c⟩ := isOf hZ rfl Ey11
  obtain ⟨_, _, ⟨T12, L12, k12, n12⟩, -, X12, ⟨Lc12, hQ12, l12, y12, z12⟩, st12⟩ := X11.virtualBack hx (y := (⟨"com/example/oxbow/oxbow/games/riverdrafter/RiverScore", "total", "()I"⟩ : MethodName)) (z := (⟨"com/example/oxbow/oxbow/games/riverdrafter/RiverScore", "total", "()I"⟩ : MethodName)) hown (mvT hZ (hw _ (List.mem_of_getElem? (i := 22) rfl))) (mvT hZ (hw _ (List.mem_of_getElem? (i := 23) rfl))) (notFace_of_selects (args := #[]) (mvT hZ (hw _ (List.mem_of_getElem? (i := 25) rfl)))) (mvT hZ (hw _ (List.mem_of_getElem? (i := 25) rfl))) (mvT hZ (hw _ (List.mem_of_getElem? (i := 24) rfl))) (by decide) (backOf (W := 0) (own_rm4 l Z a0 hw [] b10 (0 : Int32) (0 : Int32) p3 (0 : Int32) T11.heap n0 Z11 Fy_mills_11 Fy_sawmills_11 Fy_ports_11 Fy_meadows_11) hZ (hw _ (List.mem_of_getElem? (i := 26) rfl)) (hw _ (List.mem_of_getElem? (i := 2) rfl)) (by decide) (by decide)) q12a q12c (g := (mkF m 59 #[.val (.int p1), .val (.int p2), .val (.int p3), .val (.int p4), .val (.int (((p1 + p2) + p3) + p4)), .val (.int (((p1 + (0 : Int32)) + (0 : Int32)) + (0 : Int32))), .val (.int ((((0 : Int32) + p2) + (0 : Int32)) + (0 : Int32))), .unset, .unset, .unset, .unset] [(.ref b10)])) rfl (by rw [hml]; rfl) (Steps.refl _) (argsL := []) (rest := []) (lenOf own_pd2 rfl) rfl (by show 2 * 0 + _ ≤ _; exact Nat.le_of_eq rfl) (hb hby at_59) (fun _ _ => ⟨rfl, rfl, (by decide : 4 + 0 ≤ _), (by decide : 16 + 0 ≤ _)⟩)
  dsimp only [Pt.U, Pt.locs, Pt.cells, Pt.slots] at X12 l12 y12 z12 st12 hQ12
  subst l12 y12 z12
  obtain ⟨rfl, N12q, e12⟩ := hQ12
  have N12 := Fr.app N11 N12q
  refine own_go (T12.setTop (mkF m 62 #[.val (.int p1), .val (.int p2), .val (.int p3), .val (.int p4), .val (.int (((p1 + p2) + p3) + p4)), .val (.int (((p1 + (0 : Int32)) + (0 : Int32)) + (0 : Int32))), .val (.int ((((0 : Int32) + p2) + (0 : Int32)) + (0 : Int32))), .unset, .unset, .unset, .unset] [(.int ((((0 : Int32) + (0 : Int32)) + p3) + (0 : Int32)))])) (fun _ k => st12.trans k) ?_
  refine own_go (T12.setTop (mkF m 64 #[.val (.int p1), .val (.int p2), .val (.int p3), .val (.int p4), .val (.int (((p1 + p2) + p3) + p4)), .val (.int (((p1 + (0 : Int32)) + (0 : Int32)) + (0 : Int32))), .val (.int ((((0 : Int32) + p2) + (0 : Int32)) + (0 : Int32))), .val (.int ((((0 : Int32) + (0 : Int32)) + p3) + (0 : Int32))), .unset, .unset, .unset] [])) (fun _ k => XS.istore X12.here hx rfl (hb hby at_62) rfl (l' := #[.val (.int p1), .val (.int p2), .val (.int p3), .val (.int p4), .val (.int (((p1 + p2) + p3) + p4)), .val (.int (((p1 + (0 : Int32)) + (0 : Int32)) + (0 : Int32))), .val (.int ((((0 : Int32) + p2) + (0 : Int32)) + (0 : Int32))), .val (.int ((((0 : Int32) + (0 : Int32)) + p3) + (0 : Int32))), .unset, .unset, .unset]) rfl k) ?_
  obtain ⟨T13, h13, X13, e13, E13, A13, D13, -, st13⟩ := newO X12 hx hZ hown (hw _ (List.mem_of_getElem? (i := 0) rfl)) (hw _ (List.mem_of_getElem? (i := 1) rfl)) (hw _ (List.mem_of_getElem? (i := 2) rfl)) e12 (g := (mkF m 64 #[.val (.int p1), .val (.int p2), .val (.int p3), .val (.int p4), .val (.int (((p1 + p2) + p3) + p4)), .val (.int (((p1 + (0 : Int32)) + (0 : Int32)) + (0 : Int32))), .val (.int ((((0 : Int32) + p2) + (0 : Int32)) + (0 : Int32))), .val (.int ((((0 : Int32) + (0 : Int32)) + p3) + (0 : Int32))), .unset, .unset, .unset] [])) rfl (hb hby at_64) (by decide) (by decide)
  obtain ⟨b13, g13⟩ : ∃ z, z = T11.heap.size := ⟨_, rfl⟩
  rw [← g13] at A13 D13 st13
  have F_mills_b13 : Fld Z h13 b13 "com/example/oxbow/oxbow/games/riverdrafter/RiverScore" "mills" "I" (.int (0 : Int32)) := D13 (Or.inr (hw _ (List.mem_of_getElem? (i := 15) rfl))) (ty := .int) (by decide)
  have F_sawmills_b13 : Fld Z h13 b13 "com/example/oxbow/oxbow/games/riverdrafter/RiverScore" "sawmills" "I" (.int (0 : Int32)) := D13 (Or.inr (hw _ (List.mem_of_getElem? (i := 17) rfl))) (ty := .int) (by decide)
  have F_ports_b13 : Fld Z h13 b13 "com/example/oxbow/oxbow/games/riverdrafter/RiverScore" "ports" "I" (.int (0 : Int32)) := D13 (Or.inr (hw _ (List.mem_of_getElem? (i := 19) rfl))) (ty := .int) (by decide)
  have F_meadows_b13 : Fld Z h13 b13 "com/example/oxbow/oxbow/games/riverdrafter/RiverScore" "meadows" "I" (.int (0 : Int32)) := D13 (Or.inr (hw _ (List.mem_of_getElem? (i := 21) rfl))) (ty := .int) (by decide)
  have g_b13 : n0 ≤ b13 := Nat.le_trans Z11 (Nat.le_of_eq g13.symm)
  have Z13 : n0 ≤ h13.size := Nat.le_trans Z11 E13.1
  refine own_go (T13.setTop (mkF m 67 #[.val (.int p1), .val (.int p2), .val (.int p3), .val (.int p4), .val (.int (((p1 + p2) + p3) + p4)), .val (.int (((p1 + (0 : Int32)) + (0 : Int32)) + (0 : Int32))), .val (.int ((((0 : Int32) + p2) + (0 : Int32)) + (0 : Int32))), .val (.int ((((0 : Int32) + (0 : Int32)) + p3) + (0 : Int32))), .unset, .unset, .unset] [(.ref b13)])) (fun _ k => st13 _ k) ?_
  refine own_go (T13.setTop (mkF m 68 #[.val (.int p1), .val (.int p2), .val (.int p3), .val (.int p4), .val (.int (((p1 + p2) + p3) + p4)), .val (.int (((p1 + (0 : Int32)) + (0 : Int32)) + (0 : Int32))), .val (.int ((((0 : Int32) + p2) + (0 : Int32)) + (0 : Int32))), .val (.int ((((0 : Int32) + (0 : Int32)) + p3) + (0 : Int32))), .unset, .unset, .unset] [(.ref b13), (.ref b13)])) (fun _ k => XS.dup X13.here hx rfl (hb hby at_67) rfl rfl k) ?_
  refine own_go (T13.setTop (mkF m 69 #[.val (.int p1), .val (.int p2), .val (.int p3), .val (.int p4), .val (.int (((p1 + p2) + p3) + p4)), .val (.int (((p1 + (0 : Int32)) + (0 : Int32)) + (0 : Int32))), .val (.int ((((0 : Int32) + p2) + (0 : Int32)) + (0 : Int32))), .val (.int ((((0 : Int32) + (0 : Int32)) + p3) + (0 : Int32))), .unset, .unset, .unset] [(.int (0 : Int32)), (.ref b13), (.ref b13)])) (fun _ k => XS.iconst X13.here hx rfl (hb hby at_68) k) ?_
  refine own_go (T13.setTop (mkF m 70 #[.val (.int p1), .val (.int p2), .val (.int p3), .val (.int p4), .val (.int (((p1 + p2) + p3) + p4)), .val (.int (((p1 + (0 : Int32)) + (0 : Int32)) + (0 : Int32))), .val (.int ((((0 : Int32) + p2) + (0 : Int32)) + (0 : Int32))), .val (.int ((((0 : Int32) + (0 : Int32)) + p3) + (0 : Int32))), .unset, .unset, .unset] [(.int (0 : Int32)), (.int (0 : Int32)), (.ref b13), (.ref b13)])) (fun _ k => XS.iconst X13.here hx rfl (hb hby at_69) k) ?_
  refine own_go (T13.setTop (mkF m 71 #[.val (.int p1), .val (.int p2), .val (.int p3), .val (.int p4), .val (.int (((p1 + p2) + p3) + p4)), .val (.int (((p1 + (0 : Int32)) + (0 : Int32)) + (0 : Int32))), .val (.int ((((0 : Int32) + p2) + (0 : Int32)) + (0 : Int32))), .val (.int ((((0 : Int32) + (0 : Int32)) + p3) + (0 : Int32))), .unset, .unset, .unset] [(.int (0 : Int32)), (.int (0 : Int32)), (.int (0 : Int32)), (.ref b13), (.ref b13)])) (fun _ k => XS.iconst X13.here hx rfl (hb hby at_70) k) ?_
  refine own_go (T13.setTop (mkF m 72 #[.val (.int p1), .val (.int p2), .val (.int p3), .val (.int p4), .val (.int (((p1 + p2) + p3) + p4)), .val (.int (((p1 + (0 : Int32)) + (0 : Int32)) + (0 : Int32))), .val (.int ((((0 : Int32) + p2) + (0 : Int32)) + (0 : Int32))), .val (.int ((((0 : Int32) + (0 : Int32)) + p3) + (0 : Int32))), .unset, .unset, .unset] [(.int p4), (.int (0 : Int32)), (.int (0 : Int32)), (.int (0 : Int32)), (.ref b13), (.ref b13)])) (fun _ k => XS.iloadN X13.here hx rfl (hb hby at_71) rfl k) ?_
  obtain ⟨_, _, ⟨T14, L14, k14, n14⟩, -, X14, ⟨Lc14, hQ14, l14, y14, z14⟩, st14⟩ := X13.specialBack hx (y := (⟨"com/example/oxbow/oxbow/games/riverdrafter/RiverScore", "<init>", "(IIII)V"⟩ : MethodName)) rfl hown (mvT hZ (hw _ (List.mem_of_getElem? (i := 3) rfl))) (mvT hZ (hw _ (List.mem_of_getElem? (i := 4) rfl))) (mvT hZ (hw _ (List.mem_of_getElem? (i := 5) rfl))) (by decide) (backOf (W := 1) (own_rm1 l Z a0 hw [] b13 (0 : Int32) (0 : Int32) (0 : Int32) p4 (.int (0 : Int32)) (.int (0 : Int32)) (.int (0 : Int32)) (.int (0 : Int32)) h13 n0 Z13 A13 g_b13 F_mills_b13 F_sawmills_b13 F_ports_b13 F_meadows_b13) hZ (hw _ (List.mem_of_getElem? (i := 5) rfl)) (hw _ (List.mem_of_getElem? (i := 2) rfl)) (by decide) (by decide)) (g := (mkF m 72 #[.val (.int p1), .val (.int p2), .val (.int p3), .val (.int p4), .val (.int (((p1 + p2) + p3) + p4)), .val (.int (((p1 + (0 : Int32)) + (0 : Int32)) + (0 : Int32))), .val (.int ((((0 : Int32) + p2) + (0 : Int32)) + (0 : Int32))), .val (.int ((((0 : Int32) + (0 : Int32)) + p3) + (0 : Int32))), .unset, .unset, .unset] [(.int p4), (.int (0 : Int32)), (.int (0 : Int32)), (.int (0 : Int32)), (.ref b13), (.ref b13)])) rfl (by rw [hml]; rfl) (Steps.refl _) (a := b13) (argsL := [(.int (0 : Int32)), (.int (0 : Int32)), (.int (0 : Int32)), (.int p4)]) (rest := [(.ref b13)]) (lenOf own_pd1 rfl) rfl (by show 2 * 0 + _ ≤ _; exact Nat.le_of_eq rfl) (hb hby at_72) (fun _ _ => ⟨rfl, e13, (by decide : 5 + 0 ≤ _), (by decide : 20 + 0 ≤ _)⟩)
  dsimp only [Pt.U, Pt.locs, Pt.cells, Pt.slots] at X14 l14 y14 z14 st14 hQ14
  subst l14 y14 z14
  obtain ⟨rfl, N14q, Ky14, Ey14, Fy_mills_14, Fy_sawmills_14, Fy_ports_14, Fy_meadows_14⟩ := hQ14
  have N14 := Fr.app N12 N14q
  have Z14 : n0 ≤ T14.heap.size := Nat.le_trans Z13 Ky14.1
  refine own_go (T14.setTop (mkF m 75 #[.val (.int p1), .val (.int p2), .val (.int p3), .val (.int p4), .val (.int (((p1 + p2) + p3) + p4)), .val (.int (((p1 + (0 : Int32)) + (0 : Int32)) + (0 : Int32))), .val (.int ((((0 : Int32) + p2) + (0 : Int32)) + (0 : Int32))), .val (.int ((((0 : Int32) + (0 : Int32)) + p3) + (0 : Int32))), .unset, .unset, .unset] [(.ref b13)])) (fun _ k => st14.trans k) ?_
  obtain ⟨cq15, kq15, q15a, q15b, q15c⟩ := isOf hZ rfl Ey14
  obtain ⟨_, _, ⟨T15, L15, k15, n15⟩, -, X15, ⟨Lc15, hQ15, l15, y15, z15⟩, st15⟩ := X14.virtualBack hx (y := (⟨"com/example/oxbow/oxbow/games/riverdrafter/RiverScore", "total", "()I"⟩ : MethodName)) (z := (⟨"com/example/oxbow/oxbow/games/riverdrafter/RiverScore", "total", "()I"⟩ : MethodName)) hown (mvT hZ (hw _ (List.mem_of_getElem? (i := 22) rfl))) (mvT hZ (hw _ (List.mem_of_getElem? (i := 23) rfl))) (notFace_of_selects (args := #[]) (mvT hZ (hw _ (List.mem_of_getElem? (i := 25) rfl)))) (mvT hZ (hw _ (List.mem_of_getElem? (i := 25) rfl))) (mvT hZ (hw _ (List.mem_of_getElem? (i := 24) rfl))) (by decide) (backOf (W := 0) (own_rm4 l Z a0 hw [] b13 (0 : Int32) (0 : Int32) (0 : Int32) p4 T14.heap n0 Z14 Fy_mills_14 Fy_sawmills_14 Fy_ports_14 Fy_meadows_14) hZ (hw _ (List.mem_of_getElem? (i := 26) rfl)) (hw _ (List.mem_of_getElem? (i := 2) rfl)) (by decide) (by decide)) q15a q15c (g := (mkF m 75 #[.val (.int p1), .val (.int p2), .val (.int p3), .val (.int p4), .val (.int (((p1 + p2) + p3) + p4)), .val (.int (((p1 + (0 : Int32)) + (0 : Int32)) + (0 : Int32))), .val (.int ((((0 : Int32) + p2) + (0 : Int32)) + (0 : Int32))), .val (.int ((((0 : Int32) + (0 : Int32)) + p3) + (0 : Int32))), .unset, .unset, .unset] [(.ref b13)])) rfl (by rw [hml]; rfl) (Steps.refl _) (argsL := []) (rest := []) (lenOf own_pd2 rfl) rfl (by show 2 * 0 + _ ≤ _; exact Nat.le_of_eq rfl) (hb hby at_75) (fun _ _ => ⟨rfl, rfl, (by decide : 5 + 0 ≤ _), (by decide : 20 + 0 ≤ _)⟩)
  dsimp only [Pt.U, Pt.locs, Pt.cells, Pt.slots] at X15 l15 y15 z15 st15 hQ15
  subst l15 y15 z15
  obtain ⟨rfl, N15q, e15⟩ := hQ15
  have N15 := Fr.app N14 N15q
  refine own_go (T15.setTop (mkF m 78 #[.val (.int p1), .val (.int p2), .val (.int p3), .val (.int p4), .val (.int (((p1 + p2) + p3) + p4)), .val (.int (((p1 + (0 : Int32)) + (0 : Int32)) + (0 : Int32))), .val (.int ((((0 : Int32) + p2) + (0 : Int32)) + (0 : Int32))), .val (.int ((((0 : Int32) + (0 : Int32)) + p3) + (0 : Int32))), .unset, .unset, .unset] [(.int ((((0 : Int32) + (0 : Int32)) + (0 : Int32)) + p4))])) (fun _ k => st15.trans k) ?_
  refine own_go (T15.setTop (mkF m 80 #[.val (.int p1), .val (.int p2), .val (.int p3), .val (.int p4), .val (.int (((p1 + p2) + p3) + p4)), .val (.int (((p1 + (0 : Int32)) + (0 : Int32)) + (0 : Int32))), .val (.int ((((0 : Int32) + p2) + (0 : Int32)) + (0 : Int32))), .val (.int ((((0 : Int32) + (0 : Int32)) + p3) + (0 : Int32))), .val (.int ((((0 : Int32) + (0 : Int32)) + (0 : Int32)) + p4)), .unset, .unset] [])) (fun _ k => XS.istore X15.here hx rfl (hb hby at_78) rfl (l' := #[.val (.int p1), .val (.int p2), .val (.int p3), .val (.int p4), .val (.int (((p1 + p2) + p3) + p4)), .val (.int (((p1 + (0 : Int32)) + (0 : Int32)) + (0 : Int32))), .val (.int ((((0 : Int32) + p2) + (0 : Int32)) + (0 : Int32))), .val (.int ((((0 : Int32) + (0 : Int32)) + p3) + (0 : Int32))), .val (.int ((((0 : Int32) + (0 : Int32)) + (0 : Int32)) + p4)), .unset, .unset]) rfl k) ?_
  refine own_go (T15.setTop (mkF m 82 #[.val (.int p1), .val (.int p2), .val (.int p3), .val (.int p4), .val (.int (((p1 + p2) + p3) + p4)), .val (.int (((p1 + (0 : Int32)) + (0 : Int32)) + (0 : Int32))), .val (.int ((((0 : Int32) + p2) + (0 : Int32)) + (0 : Int32))), .val (.int ((((0 : Int32) + (0 : Int32)) + p3) + (0 : Int32))), .val (.int ((((0 : Int32) + (0 : Int32)) + (0 : Int32)) + p4)), .unset, .unset] [(.int (((p1 + (0 : Int32)) + (0 : Int32)) + (0 : Int32)))])) (fun _ k => XS.iload X15.here hx rfl (hb hby at_80) rfl k) ?_
  refine own_go (T15.setTop (mkF m 83 #[.val (.int p1), .val (.int p2), .val (.int p3), .val (.int p4), .val (.int (((p1 + p2) + p3) + p4)), .val (.int (((p1 + (0 : Int32)) + (0 : Int32)) + (0 : Int32))), .val (.int ((((0 : Int32) + p2) + (0 : Int32)) + (0 : Int32))), .val (.int ((((0 : Int32) + (0 : Int32)) + p3) + (0 : Int32))), .val (.int ((((0 : Int32) + (0 : Int32)) + (0 : Int32)) + p4)), .unset, .unset] [(.int p1), (.int (((p1 + (0 : Int32)) + (0 : Int32)) + (0 : Int32)))])) (fun _ k => XS.iloadN X15.here hx rfl (hb hby at_82) rfl k) ?_
  by_cases hc83 : (((p1 + (0 : Int32)) + (0 : Int32)) + (0 : Int32)) = p1
  · have hz83 : (((((p1 + (0 : Int32)) + (0 : Int32)) + (0 : Int32))).toInt = (p1).toInt) := own_zeq hc83 rfl rfl
    refine own_go (T15.setTop (mkF m 86 #[.val (.int p1), .val (.int p2), .val (.int p3), .val (.int p4), .val (.int (((p1 + p2) + p3) + p4)), .val (.int (((p1 + (0 : Int32)) + (0 : Int32)) + (0 : Int32))), .val (.int ((((0 : Int32) + p2) + (0 : Int32)) + (0 : Int32))), .val (.int ((((0 : Int32) + (0 : Int32)) + p3) + (0 : Int32))), .val (.int ((((0 : Int32) + (0 : Int32)) + (0 : Int32)) + p4)), .unset, .unset] [])) (fun _ k => XS.icmpNo X15.here hx rfl (hb hby at_83) rfl (teq hc83).2 k) ?_
    refine own_go (T15.setTop (mkF m 88 #[.val (.int p1), .val (.int p2), .val (.int p3), .val (.int p4), .val (.int (((p1 + p2) + p3) + p4)), .val (.int (((p1 + (0 : Int32)) + (0 : Int32)) + (0 : Int32))), .val (.int ((((0 : Int32) + p2) + (0 : Int32)) + (0 : Int32))), .val (.int ((((0 : Int32) + (0 : Int32)) + p3) + (0 : Int32))), .val (.int ((((0 : Int32) + (0 : Int32)) + (0 : Int32)) + p4)), .unset, .unset] [(.int ((((0 : Int32) + p2) + (0 : Int32)) + (0 : Int32)))])) (fun _ k => XS.iload X15.here hx rfl (hb hby at_86) rfl k) ?_
    refine own_go (T15.setTop (mkF m 89 #[.val (.int p1), .val (.int p2), .val (.int p3), .val (.int p4), .val (.int (((p1 + p2) + p3) + p4)), .val (.int (((p1 + (0 : Int32)) + (0 : Int32)) + (0 : Int32))), .val (.int ((((0 : Int32) + p2) + (0 : Int32)) + (0 : Int32))), .val (.int ((((0 : Int32) + (0 : Int32)) + p3) + (0 : Int32))), .val (.int ((((0 : Int32) + (0 : Int32)) + (0 : Int32)) + p4)), .unset, .unset] [(.int p2), (.int ((((0 : Int32) + p2) + (0 : Int32)) + (0 : Int32)))])) (fun _ k => XS.iloadN X15.here hx rfl (hb hby at_88) rfl k) ?_
    by_cases hc89 : ((((0 : Int32) + p2) + (0 : Int32)) + (0 : Int32)) = p2
    · have hz89 : ((((((0 : Int32) + p2) + (0 : Int32)) + (0 : Int32))).toInt = (p2).toInt) := own_zeq hc89 rfl rfl
      refine own_go (T15.setTop (mkF m 92 #[.val (.int p1), .val (.int p2), .val (.int p3), .val (.int p4), .val (.int (((p1 + p2) + p3) + p4)), .val (.int (((p1 + (0 : Int32)) + (0 : Int32)) + (0 : Int32))), .val (.int ((((0 : Int32) + p2) + (0 : Int32)) + (0 : Int32))), .val (.int ((((0 : Int32) + (0 : Int32)) + p3) + (0 : Int32))), .val (.int ((((0 : Int32) + (0 : Int32)) + (0 : Int32)) + p4)), .unset, .unset] [])) (fun _ k => XS.icmpNo X15.here hx rfl (hb hby at_89) rfl (teq hc89).2 k) ?_
      refine own_go (T15.setTop (mkF m 94 #[.val (.int p1), .val (.int p2), .val (.int p3), .val (.int p4), .val (.int (((p1 + p2) + p3) + p4)), .val (.int (((p1 + (0 : Int32)) + (0 : Int32)) + (0 : Int32))), .val (.int ((((0 : Int32) + p2) + (0 : Int32)) + (0 : Int32))), .val (.int ((((0 : Int32) + (0 : Int32)) + p3) + (0 : Int32))), .val (.int ((((0 : Int32) + (0 : Int32)) + (0 : Int32)) + p4)), .unset, .unset] [(.int ((((0 : Int32) + (0 : Int32)) + p3) + (0 : Int32)))])) (fun _ k => XS.iload X15.here hx rfl (hb hby at_92) rfl k) ?_
      refine own_go (T15.setTop (mkF m 95 #[.val (.int p1), .val (.int p2), .val (.int p3), .val (.int p4), .val (.int (((p1 + p2) + p3) + p4)), .val (.int (((p1 + (0 : Int32)) + (0 : Int32)) + (0 : Int32))), .val (.int ((((0 : Int32) + p2) + (0 : Int32)) + (0 : Int32))), .val (.int ((((0 : Int32) + (0 : Int32)) + p3) + (0 : Int32))), .val (.int ((((0 : Int32) + (0 : Int32)) + (0 : Int32)) + p4)), .unset, .unset] [(.int p3), (.int ((((0 : Int32) + (0 : Int32)) + p3) + (0 : Int32)))])) (fun _ k => XS.iloadN X15.here hx rfl (hb hby at_94) rfl k) ?_
      by_cases hc95 : ((((0 : Int32) + (0 : Int32)) + p3) + (0 : Int32)) = p3
      · have hz95 : ((((((0 : Int32) + (0 : Int32)) + p3) + (0 : Int32))).toInt = (p3).toInt) := own_zeq hc95 rfl rfl
        refine own_go (T15.setTop (mkF m 98 #[.val (.int p1), .val (.int p2), .val (.int p3), .val (.int p4), .val (.int (((p1 + p2) + p3) + p4)), .val (.int (((p1 + (0 : Int32)) + (0 : Int32)) + (0 : Int32))), .val (.int ((((0 : Int32) + p2) + (0 : Int32)) + (0 : Int32))), .val (.int ((((0 : Int32) + (0 : Int32)) + p3) + (0 : Int32))), .val (.int ((((0 : Int32) + (0 : Int32)) + (0 : Int32)) + p4)), .unset, .unset] [])) (fun _ k => XS.icmpNo X15.here hx rfl (hb hby at_95) rfl (teq hc95).2 k) ?_
        refine own_go (T15.setTop (mkF m 100 #[.val (.int p1), .val (.int p2), .val (.int p3), .val (.int p4), .val (.int (((p1 + p2) + p3) + p4)), .val (.int (((p1 + (0 : Int32)) + (0 : Int32)) + (0 : Int32))), .val (.int ((((0 : Int32) + p2) + (0 : Int32)) + (0 : Int32))), .val (.int ((((0 : Int32) + (0 : Int32)) + p3) + (0 : Int32))), .val (.int ((((0 : Int32) + (0 : Int32)) + (0 : Int32)) + p4)), .unset, .unset] [(.int ((((0 : Int32) + (0 : Int32)) + (0 : Int32)) + p4))])) (fun _ k => XS.iload X15.here hx rfl (hb hby at_98) rfl k) ?_
        refine own_go (T15.setTop (mkF m 101 #[.val (.int p1), .val (.int p2), .val (.int p3), .val (.int p4), .val (.int (((p1 + p2) + p3) + p4)), .val (.int (((p1 + (0 : Int32)) + (0 : Int32)) + (0 : Int32))), .val (.int ((((0 : Int32) + p2) + (0 : Int32)) + (0 : Int32))), .val (.int ((((0 : Int32) + (0 : Int32)) + p3) + (0 : Int32))), .val (.int ((((0 : Int32) + (0 : Int32)) + (0 : Int32)) + p4)), .unset, .unset] [(.int p4), (.int ((((0 : Int32) + (0 : Int32)) + (0 : Int32)) + p4))])) (fun _ k => XS.iloadN X15.here hx rfl (hb hby at_100) rfl k) ?_
        by_cases hc101 : ((((0 : Int32) + (0 : Int32)) + (0 : Int32)) + p4) = p4
        · have hz101 : ((((((0 : Int32) + (0 : Int32)) + (0 : Int32)) + p4)).toInt = (p4).toInt) := own_zeq hc101 rfl rfl
          refine own_go (T15.setTop (mkF m 104 #[.val (.int p1), .val (.int p2), .val (.int p3), .val (.int p4), .val (.int (((p1 + p2) + p3) + p4)), .val (.int (((p1 + (0 : Int32)) + (0 : Int32)) + (0 : Int32))), .val (.int ((((0 : Int32) + p2) + (0 : Int32)) + (0 : Int32))), .val (.int ((((0 : Int32) + (0 : Int32)) + p3) + (0 : Int32))), .val (.int ((((0 : Int32) + (0 : Int32)) + (0 : Int32)) + p4)), .unset, .unset] [])) (fun _ k => XS.icmpNo X15.here hx rfl (hb hby at_101) rfl (teq hc101).2 k) ?_
          refine own_go (T15.setTop (mkF m 105 #[.val (.int p1), .val (.int p2), .val (.int p3), .val (.int p4), .val (.int (((p1 + p2) + p3) + p4)), .val (.int (((p1 + (0 : Int32)) + (0 : Int32)) + (0 : Int32))), .val (.int ((((0 : Int32) + p2) + (0 : Int32)) + (0 : Int32))), .val (.int ((((0 : Int32) + (0 : Int32)) + p3) + (0 : Int32))), .val (.int ((((0 : Int32) + (0 : Int32)) + (0 : Int32)) + p4)), .unset, .unset] [(.int (1 : Int32))])) (fun _ k => XS.iconst X15.here hx rfl (hb hby at_104) k) ?_
          refine own_go (T15.setTop (mkF m 109 #[.val (.int p1), .val (.int p2), .val (.int p3), .val (.int p4), .val (.int (((p1 + p2) + p3) + p4)), .val (.int (((p1 + (0 : Int32)) + (0 : Int32)) + (0 : Int32))), .val (.int ((((0 : Int32) + p2) + (0 : Int32)) + (0 : Int32))), .val (.int ((((0 : Int32) + (0 : Int32)) + p3) + (0 : Int32))), .val (.int ((((0 : Int32) + (0 : Int32)) + (0 : Int32)) + p4)), .unset, .unset] [(.int (1 : Int32))])) (fun _ k => XS.goto X15.here hx rfl (pc0 := 105) (pc' := 109) rfl (hb hby at_105) (by decide) (by decide) k) ?_
          refine own_go (T15.setTop (mkF m 111 #[.val (.int p1), .val (.int p2), .val (.int p3), .val (.int p4), .val (.int (((p1 + p2) + p3) + p4)), .val (.int (((p1 + (0 : Int32)) + (0 : Int32)) + (0 : Int32))), .val (.int ((((0 : Int32) + p2) + (0 : Int32)) + (0 : Int32))), .val (.int ((((0 : Int32) + (0 : Int32)) + p3) + (0 : Int32))), .val (.int ((((0 : Int32) + (0 : Int32)) + (0 : Int32)) + p4)), .val (.int (1 : Int32)), .unset] [])) (fun _ k => XS.istore X15.here hx rfl (hb hby at_109) rfl (l' := #[.val (.int p1), .val (.int p2), .val (.int p3), .val (.int p4), .val (.int (((p1 + p2) + p3) + p4)), .val (.int (((p1 + (0 : Int32)) + (0 : Int32)) + (0 : Int32))), .val (.int ((((0 : Int32) + p2) + (0 : Int32)) + (0 : Int32))), .val (.int ((((0 : Int32) + (0 : Int32)) + p3) + (0 : Int32))), .val (.int ((((0 : Int32) + (0 : Int32)) + (0 : Int32)) + p4)), .val (.int (1 : Int32)), .unset]) rfl k) ?_
          refine own_go (T15.setTop (mkF m 113 #[.val (.int p1), .val (.int p2), .val (.int p3), .val (.int p4), .val (.int (((p1 + p2) + p3) + p4)), .val (.int (((p1 + (0 : Int32)) + (0 : Int32)) + (0 : Int32))), .val (.int ((((0 : Int32) + p2) + (0 : Int32)) + (0 : Int32))), .val (.int ((((0 : Int32) + (0 : Int32)) + p3) + (0 : Int32))), .val (.int ((((0 : Int32) + (0 : Int32)) + (0 : Int32)) + p4)), .val (.int (1 : Int32)), .unset] [(.int (((p1 + p2) + p3) + p4))])) (fun _ k => XS.iload X15.here hx rfl (hb hby at_111) rfl k) ?_
          refine own_go (T15.setTop (mkF m 115 #[.val (.int p1), .val (.int p2), .val (.int p3), .val (.int p4), .val (.int (((p1 + p2) + p3) + p4)), .val (.int (((p1 + (0 : Int32)) + (0 : Int32)) + (0 : Int32))), .val (.int ((((0 : Int32) + p2) + (0 : Int32)) + (0 : Int32))), .val (.int ((((0 : Int32) + (0 : Int32)) + p3) + (0 : Int32))), .val (.int ((((0 : Int32) + (0 : Int32)) + (0 : Int32)) + p4)), .val (.int (1 : Int32)), .unset] [(.int (((p1 + (0 : Int32)) + (0 : Int32)) + (0 : Int32))), (.int (((p1 + p2) + p3) + p4))])) (fun _ k => XS.iload X15.here hx rfl (hb hby at_113) rfl k) ?_
          refine own_go (T15.setTop (mkF m 117 #[.val (.int p1), .val (.int p2), .val (.int p3), .val (.int p4), .val (.int (((p1 + p2) + p3) + p4)), .val (.int (((p1 + (0 : Int32)) + (0 : Int32)) + (0 : Int32))), .val (.int ((((0 : Int32) + p2) + (0 : Int32)) + (0 : Int32))), .val (.int ((((0 : Int32) + (0 : Int32)) + p3) + (0 : Int32))), .val (.int ((((0 : Int32) + (0 : Int32)) + (0 : Int32)) + p4)), .val (.int (1 : Int32)), .unset] [(.int ((((0 : Int32) + p2) + (0 : Int32)) + (0 : Int32))), (.int (((p1 + (0 : Int32)) + (0 : Int32)) + (0 : Int32))), (.int (((p1 + p2) + p3) + p4))])) (fun _ k => XS.iload X15.here hx rfl (hb hby at_115) rfl k) ?_
          refine own_go (T15.setTop (mkF m 118 #[.val (.int p1), .val (.int p2), .val (.int p3), .val (.int p4), .val (.int (((p1 + p2) + p3) + p4)), .val (.int (((p1 + (0 : Int32)) + (0 : Int32)) + (0 : Int32))), .val (.int ((((0 : Int32) + p2) + (0 : Int32)) + (0 : Int32))), .val (.int ((((0 : Int32) + (0 : Int32)) + p3) + (0 : Int32))), .val (.int ((((0 : Int32) + (0 : Int32)) + (0 : Int32)) + p4)), .val (.int (1 : Int32)), .unset] [(.int ((((p1 + (0 : Int32)) + (0 : Int32)) + (0 : Int32)) + ((((0 : Int32) + p2) + (0 : Int32)) + (0 : Int32)))), (.int (((p1 + p2) + p3) + p4))])) (fun _ k => XS.iadd X15.here hx rfl (hb hby at_117) rfl k) ?_
          refine own_go (T15.setTop (mkF m 120 #[.val (.int p1), .val (.int p2), .val (.int p3), .val (.int p4), .val (.int (((p1 + p2) + p3) + p4)), .val (.int (((p1 + (0 : Int32)) + (0 : Int32)) + (0 : Int32))), .val (.int ((((0 : Int32) + p2) + (0 : Int32)) + (0 : Int32))), .val (.int ((((0 : Int32) + (0 : Int32)) + p3) + (0 : Int32))), .val (.int ((((0 : Int32) + (0 : Int32)) + (0 : Int32)) + p4)), .val (.int (1 : Int32)), .unset] [(.int ((((0 : Int32) + (0 : Int32)) + p3) + (0 : Int32))), (.int ((((p1 + (0 : Int32)) + (0 : Int32)) + (0 : Int32)) + ((((0 : Int32) + p2) + (0 : Int32)) + (0 : Int32)))), (.int (((p1 + p2) + p3) + p4))])) (fun _ k => XS.iload X15.here hx rfl (hb hby at_118) rfl k) ?_
          refine own_go (T15.setTop (mkF m 121 #[.val (.int p1), .val (.int p2), .val (.int p3), .val (.int p4), .val (.int (((p1 + p2) + p3) + p4)), .val (.int (((p1 + (0 : Int32)) + (0 : Int32)) + (0 : Int32))), .val (.int ((((0 : Int32) + p2) + (0 : Int32)) + (0 : Int32))), .val (.int ((((0 : Int32) + (0 : Int32)) + p3) + (0 : Int32))), .val (.int ((((0 : Int32) + (0 : Int32)) + (0 : Int32)) + p4)), .val (.int (1 : Int32)), .unset] [(.int (((((p1 + (0 : Int32)) + (0 : Int32)) + (0 : Int32)) + ((((0 : Int32) + p2) + (0 : Int32)) + (0 : Int32))) + ((((0 : Int32) + (0 : Int32)) + p3) + (0 : Int32)))), (.int (((p1 + p2) + p3) + p4))])) (fun _ k => XS.iadd X15.here hx rfl (hb hby at_120) rfl k) ?_
          refine own_go (T15.setTop (mkF m 123 #[.val (.int p1), .val (.int p2), .val (.int p3), .val (.int p4), .val (.int (((p1 + p2) + p3) + p4)), .val (.int (((p1 + (0 : Int32)) + (0 : Int32)) + (0 : Int32))), .val (.int ((((0 : Int32) + p2) + (0 : Int32)) + (0 : Int32))), .val (.int ((((0 : Int32) + (0 : Int32)) + p3) + (0 : Int32))), .val (.int ((((0 : Int32) + (0 : Int32)) + (0 : Int32)) + p4)), .val (.int (1 : Int32)), .unset] [(.int ((((0 : Int32) + (0 : Int32)) + (0 : Int32)) + p4)), (.int (((((p1 + (0 : Int32)) + (0 : Int32)) + (0 : Int32)) + ((((0 : Int32) + p2) + (0 : Int32)) + (0 : Int32))) + ((((0 : Int32) + (0 : Int32)) + p3) + (0 : Int32)))), (.int (((p1 + p2) + p3) + p4))])) (fun _ k => XS.iload X15.here hx rfl (hb hby at_121) rfl k) ?_
          refine own_go (T15.setTop (mkF m 124 #[.val (.int p1), .val (.int p2), .val (.int p3), .val (.int p4), .val (.int (((p1 + p2) + p3) + p4)), .val (.int (((p1 + (0 : Int32)) + (0 : Int32)) + (0 : Int32))), .val (.int ((((0 : Int32) + p2) + (0 : Int32)) + (0 : Int32))), .val (.int ((((0 : Int32) + (0 : Int32)) + p3) + (0 : Int32))), .val (.int ((((0 : Int32) + (0 : Int32)) + (0 : Int32)) + p4)), .val (.int (1 : Int32)), .unset] [(.int ((((((p1 + (0 : Int32)) + (0 : Int32)) + (0 : Int32)) + ((((0 : Int32) + p2) + (0 : Int32)) + (0 : Int32))) + ((((0 : Int32) + (0 : Int32)) + p3) + (0 : Int32))) + ((((0 : Int32) + (0 : Int32)) + (0 : Int32)) + p4))), (.int (((p1 + p2) + p3) + p4))])) (fun _ k => XS.iadd X15.here hx rfl (hb hby at_123) rfl k) ?_
          by_cases hc124 : (((p1 + p2) + p3) + p4) = ((((((p1 + (0 : Int32)) + (0 : Int32)) + (0 : Int32)) + ((((0 : Int32) + p2) + (0 : Int32)) + (0 : Int32))) + ((((0 : Int32) + (0 : Int32)) + p3) + (0 : Int32))) + ((((0 : Int32) + (0 : Int32)) + (0 : Int32)) + p4))
          · have hz124 : (((((p1 + p2) + p3) + p4)).toInt = (((((((p1 + (0 : Int32)) + (0 : Int32)) + (0 : Int32)) + ((((0 : Int32) + p2) + (0 : Int32)) + (0 : Int32))) + ((((0 : Int32) + (0 : Int32)) + p3) + (0 : Int32))) + ((((0 : Int32) + (0 : Int32)) + (0 : Int32)) + p4))).toInt) := own_zeq hc124 rfl rfl
            refine own_go (T15.setTop (mkF m 127 #[.val (.int p1), .val (.int p2), .val (.int p3), .val (.int p4), .val (.int (((p1 + p2) + p3) + p4)), .val (.int (((p1 + (0 : Int32)) + (0 : Int32)) + (0 : Int32))), .val (.int ((((0 : Int32) + p2) + (0 : Int32)) + (0 : Int32))), .val (.int ((((0 : Int32) + (0 : Int32)) + p3) + (0 : Int32))), .val (.int ((((0 : Int32) + (0 : Int32)) + (0 : Int32)) + p4)), .val (.int (1 : Int32)), .unset] [])) (fun _ k => XS.icmpNo X15.here hx rfl (hb hby at_124) rfl (teq hc124).2 k) ?_
            refine own_go (T15.setTop (mkF m 128 #[.val (.int p1), .val (.int p2), .val (.int p3), .val (.int p4), .val (.int (((p1 + p2) + p3) + p4)), .val (.int (((p1 + (0 : Int32)) + (0 : Int32)) + (0 : Int32))), .val (.int ((((0 : Int32) + p2) + (0 : Int32)) + (0 : Int32))), .val (.int ((((0 : Int32) + (0 : Int32)) + p3) + (0 : Int32))), .val (.int ((((0 : Int32) + (0 : Int32)) + (0 : Int32)) + p4)), .val (.int (1 : Int32)), .unset] [(.int (1 : Int32))])) (fun _ k => XS.iconst X15.here hx rfl (hb hby at_127) k) ?_
            refine own_go (T15.setTop (mkF m 132 #[.val (.int p1), .val (.int p2), .val (.int p3), .val (.int p4), .val (.int (((p1 + p2) + p3) + p4)), .val (.int (((p1 + (0 : Int32)) + (0 : Int32)) + (0 : Int32))), .val (.int ((((0 : Int32) + p2) + (0 : Int32)) + (0 : Int32))), .val (.int ((((0 : Int32) + (0 : Int32)) + p3) + (0 : Int32))), .val (.int ((((0 : Int32) + (0 : Int32)) + (0 : Int32)) + p4)), .val (.int (1 : Int32)), .unset] [(.int (1 : Int32))])) (fun _ k => XS.goto X15.here hx rfl (pc0 := 128) (pc' := 132) rfl (hb hby at_128) (by decide) (by decide) k) ?_
            refine own_go (T15.setTop (mkF m 134 #[.val (.int p1), .val (.int p2), .val (.int p3), .val (.int p4), .val (.int (((p1 + p2) + p3) + p4)), .val (.int (((p1 + (0 : Int32)) + (0 : Int32)) + (0 : Int32))), .val (.int ((((0 : Int32) + p2) + (0 : Int32)) + (0 : Int32))), .val (.int ((((0 : Int32) + (0 : Int32)) + p3) + (0 : Int32))), .val (.int ((((0 : Int32) + (0 : Int32)) + (0 : Int32)) + p4)), .val (.int (1 : Int32)), .val (.int (1 : Int32))] [])) (fun _ k => XS.istore X15.here hx rfl (hb hby at_132) rfl (l' := #[.val (.int p1), .val (.int p2), .val (.int p3), .val (.int p4), .val (.int (((p1 + p2) + p3) + p4)), .val (.int (((p1 + (0 : Int32)) + (0 : Int32)) + (0 : Int32))), .val (.int ((((0 : Int32) + p2) + (0 : Int32)) + (0 : Int32))), .val (.int ((((0 : Int32) + (0 : Int32)) + p3) + (0 : Int32))), .val (.int ((((0 : Int32) + (0 : Int32)) + (0 : Int32)) + p4)), .val (.int (1 : Int32)), .val (.int (1 : Int32))]) rfl k) ?_
            refine own_go (T15.setTop (mkF m 136 #[.val (.int p1), .val (.int p2), .val (.int p3), .val (.int p4), .val (.int (((p1 + p2) + p3) + p4)), .val (.int (((p1 + (0 : Int32)) + (0 : Int32)) + (0 : Int32))), .val (.int ((((0 : Int32) + p2) + (0 : Int32)) + (0 : Int32))), .val (.int ((((0 : Int32) + (0 : Int32)) + p3) + (0 : Int32))), .val (.int ((((0 : Int32) + (0 : Int32)) + (0 : Int32)) + p4)), .val (.int (1 : Int32)), .val (.int (1 : Int32))] [(.int (1 : Int32))])) (fun _ k => XS.iload X15.here hx rfl (hb hby at_134) rfl k) ?_
            refine own_go (T15.setTop (mkF m 139 #[.val (.int p1), .val (.int p2), .val (.int p3), .val (.int p4), .val (.int (((p1 + p2) + p3) + p4)), .val (.int (((p1 + (0 : Int32)) + (0 : Int32)) + (0 : Int32))), .val (.int ((((0 : Int32) + p2) + (0 : Int32)) + (0 : Int32))), .val (.int ((((0 : Int32) + (0 : Int32)) + p3) + (0 : Int32))), .val (.int ((((0 : Int32) + (0 : Int32)) + (0 : Int32)) + p4)), .val (.int (1 : Int32)), .val (.int (1 : Int32))] [])) (fun _ k => XS.ifNo X15.here hx rfl (hb hby at_136) rfl ((if0 _ _).trans (feq (by decide : ¬ ((1 : Int32) = (0 : Int32)))).1) k) ?_
            refine own_go (T15.setTop (mkF m 141 #[.val (.int p1), .val (.int p2), .val (.int p3), .val (.int p4), .val (.int (((p1 + p2) + p3) + p4)), .val (.int (((p1 + (0 : Int32)) + (0 : Int32)) + (0 : Int32))), .val (.int ((((0 : Int32) + p2) + (0 : Int32)) + (0 : Int32))), .val (.int ((((0 : Int32) + (0 : Int32)) + p3) + (0 : Int32))), .val (.int ((((0 : Int32) + (0 : Int32)) + (0 : Int32)) + p4)), .val (.int (1 : Int32)), .val (.int (1 : Int32))] [(.int (1 : Int32))])) (fun _ k => XS.iload X15.here hx rfl (hb hby at_139) rfl k) ?_
            refine own_go (T15.setTop (mkF m 144 #[.val (.int p1), .val (.int p2), .val (.int p3), .val (.int p4), .val (.int (((p1 + p2) + p3) + p4)), .val (.int (((p1 + (0 : Int32)) + (0 : Int32)) + (0 : Int32))), .val (.int ((((0 : Int32) + p2) + (0 : Int32)) + (0 : Int32))), .val (.int ((((0 : Int32) + (0 : Int32)) + p3) + (0 : Int32))), .val (.int ((((0 : Int32) + (0 : Int32)) + (0 : Int32)) + p4)), .val (.int (1 : Int32)), .val (.int (1 : Int32))] [])) (fun _ k => XS.ifNo X15.here hx rfl (hb hby at_141) rfl ((if0 _ _).trans (feq (by decide : ¬ ((1 : Int32) = (0 : Int32)))).1) k) ?_
            refine own_go (T15.setTop (mkF m 145 #[.val (.int p1), .val (.int p2), .val (.int p3), .val (.int p4), .val (.int (((p1 + p2) + p3) + p4)), .val (.int (((p1 + (0 : Int32)) + (0 : Int32)) + (0 : Int32))), .val (.int ((((0 : Int32) + p2) + (0 : Int32)) + (0 : Int32))), .val (.int ((((0 : Int32) + (0 : Int32)) + p3) + (0 : Int32))), .val (.int ((((0 : Int32) + (0 : Int32)) + (0 : Int32)) + p4)), .val (.int (1 : Int32)), .val (.int (1 : Int32))] [(.int (1 : Int32))])) (fun _ k => XS.iconst X15.here hx rfl (hb hby at_144) k) ?_
            refine own_go (T15.setTop (mkF m 149 #[.val (.int p1), .val (.int p2), .val (.int p3), .val (.int p4), .val (.int (((p1 + p2) + p3) + p4)), .val (.int (((p1 + (0 : Int32)) + (0 : Int32)) + (0 : Int32))), .val (.int ((((0 : Int32) + p2) + (0 : Int32)) + (0 : Int32))), .val (.int ((((0 : Int32) + (0 : Int32)) + p3) + (0 : Int32))), .val (.int ((((0 : Int32) + (0 : Int32)) + (0 : Int32)) + p4)), .val (.int (1 : Int32)), .val (.int (1 : Int32))] [(.int (1 : Int32))])) (fun _ k => XS.goto X15.here hx rfl (pc0 := 145) (pc' := 149) rfl (hb hby at_145) (by decide) (by decide) k) ?_
            refine own_ret X15 (BodyLoose.notSynchronized Bd) (some (.int (1 : Int32))) (fun h => by rw [Bd.returns] at h; cases h) (fun fs hr => retN X15 hx (t := .boolean) Bd.returns (by simp) (hb hby at_149) hr) (by decide) (by decide) ?_
            exact ⟨rfl, N15⟩
          · have hz124 : ¬ (((((p1 + p2) + p3) + p4)).toInt = (((((((p1 + (0 : Int32)) + (0 : Int32)) + (0 : Int32)) + ((((0 : Int32) + p2) + (0 : Int32)) + (0 : Int32))) + ((((0 : Int32) + (0 : Int32)) + p3) + (0 : Int32))) + ((((0 : Int32) + (0 : Int32)) + (0 : Int32)) + p4))).toInt) := own_zneq hc124 rfl rfl
            exact absurd (by simp) hc124
        · have hz101 : ¬ ((((((0 : Int32) + (0 : Int32)) + (0 : Int32)) + p4)).toInt = (p4).toInt) := own_zneq hc101 rfl rfl
          exact absurd (by simp) hc101
      · have hz95 : ¬ ((((((0 : Int32) + (0 : Int32)) + p3) + (0 : Int32))).toInt = (p3).toInt) := own_zneq hc95 rfl rfl
        exact absurd (by simp) hc95
    · have hz89 : ¬ ((((((0 : Int32) + p2) + (0 : Int32)) + (0 : Int32))).toInt = (p2).toInt) := own_zneq hc89 rfl rfl
      exact absurd (by simp) hc89
  · have hz83 : ¬ (((((p1 + (0 : Int32)) + (0 : Int32)) + (0 : Int32))).toInt = (p1).toInt) := own_zneq hc83 rfl rfl
    exact absurd (by simp) hc83
set_option maxRecDepth 65536 in
set_option maxHeartbeats 40000000 in
theorem own_comes {Post : Tables → Env → Array Value → State → Outcome → State → Prop} (hpost : ∀ tb e args s v u, (limb_1_1.after args s (.returned v) u = true ∧ limb_1_2.after args s (.returned v) u = true ∧ True) → FrameEnd s (.returned v) u (Jvm.fieldLocs frame_1_writes args s ++ Jvm.arrayLocs frame_1_arrays args s ++ Jvm.staticLocs frame_1_statics s) 24 128 → Post tb e args s (.returned v) u) :
    ArmFor flags0 classFile x code maxLocals ret World_1 tables_1 room_1 Calls_1 rest_1 Pre_1 Post := by
  intro l hfl _ _ p e ha hc hk s m args below hf hA hF happ hP
  obtain ⟨hcalls, hrest, hpre⟩ := hP
  obtain ⟨-, -, -, hnamed, -, -, -, hat⟩ := (Spec.applies_iff hf).mp happ
  obtain ⟨hg, hn⟩ := and_e (Cond.before_iff.mp (show (Jvm.Cond.and given_1 narrow_1).before args s = true from hpre))
  obtain ⟨hq0, hr0⟩ := and_e hg
  obtain ⟨hq1, hr1⟩ := and_e hr0
  obtain ⟨hq2, hr2⟩ := and_e hr1
  obtain ⟨hq3, hr3⟩ := and_e hr2
  obtain ⟨w0, w1, w2, w3, rfl⟩ : ∃ w0 w1 w2 w3 : Value, args = #[w0, w1, w2, w3] := by
    have hs : args.size = 4 := by simpa [Cond.value, given_1] using hq0
    obtain ⟨L⟩ := args
    match L, hs with
    | [w0, w1, w2, w3], _ => exact ⟨w0, w1, w2, w3, rfl⟩
  have hw := fun d (hd : d ∈ tables_1) => atoms_spec (ws := Jvm.Cond.code x code maxLocals ret :: tables_1) hat d (List.mem_cons_of_mem _ hd)
  have hfit : Fit s := fun {y c} hc i hi => by
    obtain ⟨ha, rfl⟩ := Array.getElem?_eq_some_iff.mp hc
    have q := List.all_eq_true.mp ((Array.all_eq_true_iff_forall_mem.mp hF) _ (Array.getElem_mem ha)) i (List.mem_range.mpr hi)
    simpa [Array.getElem?_eq_getElem hi] using q
  obtain ⟨i0, ei0⟩ := is_v hq1
  obtain rfl : w0 = (.int i0) := Option.some.inj ei0
  obtain ⟨i1, ei1⟩ := is_v hq2
  obtain rfl : w1 = (.int i1) := Option.some.inj ei1
  obtain ⟨i2, ei2⟩ := is_v hq3
  obtain rfl : w2 = (.int i2) := Option.some.inj ei2
  obtain ⟨i3, ei3⟩ := is_v hr3
  obtain rfl : w3 = (.int i3) := Option.some.inj ei3
  obtain ⟨n, o, h1, h2, h3, _, L, rfl, ⟨rfl, N⟩, hq⟩ := own_rm0 l s _ hw tables_1 i0 i1 i2 i3 s.heap s.heap.size (Nat.le_refl _) p e ha hc hk s m _ below hf ((Spec.applies_iff_loose hf).mp happ).1 ⟨rfl, State.Warmed39.refl s, rfl⟩ trivial
  refine ⟨n, _, h1, h2, h3, hpost _ _ _ _ _ _ ⟨Cond.after_iff.mpr rfl, Cond.after_iff.mpr (eq_i res_at (Term.int_eval (1)) rfl), trivial⟩ ⟨hq.1, hq.2.1, (hq.2.2.sift fun y hy => Or.inr (N y hy)).mono (by decide) (by decide)⟩⟩
theorem main_1_1 : Claimed_1_1 := own_comes fun _ _ _ _ _ _ h hF => ⟨h.1, hF⟩
theorem main_1_2 : Claimed_1_2 := own_comes fun _ _ _ _ _ _ h hF => ⟨h.2.1, hF⟩
end Jvm.Pilot.@@N@@
namespace Jvm.Pilot.@@N@@
open Jvm Jvm.ClassFile Sem Op Lib Jvm.Free Jvm.Stand Jvm.Pilot.@@N@@.Jvm.D
/-! MADE BY PROGRAM (witnessworld.py) out of the Statement's table words and the real class files: 10 classes; the members and pool entries that the words name. The judged class is class 1, her method 1. -/
namespace start1
open Jvm.ClassFile
def u (s : String) : CpInfo := .utf8 (stringToUtf16 s)
/-- a pool by its gaps: so many unusable entries, then the entry; so many at the end -/
def gap : Nat → List CpInfo → List CpInfo
  | 0, r => r
  | n + 1, r => .unusable :: gap n r
def poolList (es : List (Nat × CpInfo)) (last : Nat) : List CpInfo := es.foldr (fun e r => gap e.1 (e.2 :: r)) (gap last [])
def pool (es : List (Nat × CpInfo)) (last : Nat) : Array CpInfo := ⟨poolList es last⟩
def fileOf (pool : Array CpInfo) (this : Nat) (attrs : Array Attribute := #[]) (ms : Array MethodInfo := #[]) (fl : Nat := 33) (sup : Nat := 0) (ifs : Array Nat := #[]) (fds : Array FieldInfo := #[]) : ClassFile where
  minorVersion := 0
  majorVersion := 65
  constantPool := pool
  accessFlags := fl
  thisClass := this
  superClass := sup
  interfaces := ifs
  fields := fds
  methods := ms
  attributes := attrs
def plain (name : String) (sup : Option ClassId) : Class where
  name := name
  kind := .ordinary
  loader := none
  accessFlags := 33
  super := sup
  interfaces := #[]
  cf := none
  fields := #[]
  methods := #[]
  instanceTypes := #[]
  staticTypes := #[]
  resolved := #[]
  callSites := []
  init := .initialized
  statics := none
  mirror := none

def pool0 : Array CpInfo := pool [(5, u "<init>"), (0, u "()V"), (1, .class_ 10), (1, u "java/lang/Object")] 113

def k0c0 : Code := { maxStack := 0, maxLocals := 1, code := object_method_1_code, exceptionTable := #[], attributes := #[] }
def k0m0 : Method := { name := "<init>", desc := "()V", sig := { parameters := [], returnType := none }, accessFlags := 1, code := some k0c0 }
/-- java/lang/Object -/
def k0 : Class := { plain "java/lang/Object" none with
  accessFlags := 33
  interfaces := #[]
  cf := some (fileOf pool0 8 #[] #[{ accessFlags := 1, nameIndex := 5, descriptorIndex := 6, attributes := #[] }] 33 0 #[] #[])
  fields := #[]
  methods := #[k0m0]
  instanceTypes := #[]
  staticTypes := #[]
  resolved := Array.replicate 124 none
  statics := none }

def pool1 : Array CpInfo := pool [(2, .class_ 4), (1, u "java/lang/Object"), (0, u "<init>"), (0, u "()V"), (0, .class_ 8), (0, u "com/example/oxbow/oxbow/games/riverdrafter/RiverScore"), (0, .methodref 7 10), (0, .nameAndType 5 11), (0, u "(IIII)V"), (0, .methodref 7 13), (0, .nameAndType 14 15), (0, u "total"), (0, u "()I"), (0, .class_ 17), (0, u "com/example/oxbow/oxbow/games/riverdrafter/RiverScoreTotalPinLaw"), (2, u "law"), (0, u "(IIII)Z")] 3

def k1m0 : Method := { name := "<init>", desc := "()V", sig := { parameters := [], returnType := none }, accessFlags := 1, code := none }
def k1c1 : Code := { maxStack := 6, maxLocals := 11, code := code, exceptionTable := #[], attributes := #[] }
def k1m1 : Method := { name := "law", desc := "(IIII)Z", sig := { parameters := [.int, .int, .int, .int], returnType := some .boolean }, accessFlags := 9, code := some k1c1 }
/-- com/example/oxbow/oxbow/games/riverdrafter/RiverScoreTotalPinLaw -/
def k1 : Class := { plain "com/example/oxbow/oxbow/games/riverdrafter/RiverScoreTotalPinLaw" (some 0) with
  accessFlags := 49
  interfaces := #[]
  cf := some (fileOf pool1 16 #[] #[{ accessFlags := 1, nameIndex := 5, descriptorIndex := 6, attributes := #[] }, { accessFlags := 9, nameIndex := 20, descriptorIndex := 21, attributes := #[] }] 49 2 #[] #[])
  fields := #[]
  methods := #[k1m0, k1m1]
  instanceTypes := #[]
  staticTypes := #[]
  resolved := Array.replicate 25 none
  statics := none }

def pool2 : Array CpInfo := pool [(1, .methodref 2 3), (0, .class_ 4), (0, .nameAndType 5 6), (0, u "java/lang/Object"), (0, u "<init>"), (0, u "()V"), (0, .class_ 8), (0, u "java/lang/Record")] 13

def k2c0 : Code := { maxStack := 1, maxLocals := 1, code := jdk_30_method_1_code, exceptionTable := #[], attributes := #[] }
def k2m0 : Method := { name := "<init>", desc := "()V", sig := { parameters := [], returnType := none }, accessFlags := 4, code := some k2c0 }
/-- java/lang/Record -/
def k2 : Class := { plain "java/lang/Record" (some 0) with
  accessFlags := 1057
  interfaces := #[]
  cf := some (fileOf pool2 7 #[] #[{ accessFlags := 4, nameIndex := 5, descriptorIndex := 6, attributes := #[] }] 1057 2 #[] #[])
  fields := #[]
  methods := #[k2m0]
  instanceTypes := #[]
  staticTypes := #[]
  resolved := Array.replicate 22 none
  statics := none }

def pool3 : Array CpInfo := pool [(1, .methodref 2 3), (0, .class_ 4), (0, .nameAndType 5 6), (0, u "java/lang/Record"), (0, u "<init>"), (0, u "()V"), (0, .fieldref 8 9), (0, .class_ 10), (0, .nameAndType 11 12), (0, u "com/example/oxbow/oxbow/games/riverdrafter/RiverScore"), (0, u "mills"), (0, u "I"), (0, .fieldref 8 14), (0, .nameAndType 15 12), (0, u "sawmills"), (0, .fieldref 8 17), (0, .nameAndType 18 12), (0, u "ports"), (0, .fieldref 8 20), (0, .nameAndType 21 12), (0, u "meadows"), (20, u "(IIII)V"), (2, u "total"), (0, u "()I"), (100, .class_ 149), (1, u "com/example/oxbow/oxbow/games/riverdrafter/RiverScore$Bridge"), (94, u "MEADOW"), (0, u "Ljava/util/Map;"), (61, u "PER_ROUTE_TILE")] 89

def k3c0 : Code := { maxStack := 2, maxLocals := 5, code := prog_48_method_1_code, exceptionTable := #[], attributes := #[] }
def k3m0 : Method := { name := "<init>", desc := "(IIII)V", sig := { parameters := [.int, .int, .int, .int], returnType := none }, accessFlags := 1, code := some k3c0 }
def k3c1 : Code := { maxStack := 2, maxLocals := 1, code := prog_48_method_3_code, exceptionTable := #[], attributes := #[] }
def k3m1 : Method := { name := "total", desc := "()I", sig := { parameters := [], returnType := some .int }, accessFlags := 1, code := some k3c1 }
/-- com/example/oxbow/oxbow/games/riverdrafter/RiverScore -/
def k3 : Class := { plain "com/example/oxbow/oxbow/games/riverdrafter/RiverScore" (some 2) with
  accessFlags := 49
  interfaces := #[]
  cf := some (fileOf pool3 8 #[.nestMembers #[147]] #[{ accessFlags := 1, nameIndex := 5, descriptorIndex := 42, attributes := #[] }, { accessFlags := 1, nameIndex := 45, descriptorIndex := 46, attributes := #[] }] 49 2 #[] #[{ accessFlags := 18, nameIndex := 11, descriptorIndex := 12, attributes := #[] }, { accessFlags := 18, nameIndex := 15, descriptorIndex := 12, attributes := #[] }, { accessFlags := 18, nameIndex := 18, descriptorIndex := 12, attributes := #[] }, { accessFlags := 18, nameIndex := 21, descriptorIndex := 12, attributes := #[] }, { accessFlags := 26, nameIndex := 307, descriptorIndex := 12, attributes := #[] }, { accessFlags := 26, nameIndex := 244, descriptorIndex := 245, attributes := #[] }])
  fields := #[{ name := "mills", type := .int, accessFlags := 18, slot := 0, constantValue := 0 }, { name := "sawmills", type := .int, accessFlags := 18, slot := 1, constantValue := 0 }, { name := "ports", type := .int, accessFlags := 18, slot := 2, constantValue := 0 }, { name := "meadows", type := .int, accessFlags := 18, slot := 3, constantValue := 0 }, { name := "PER_ROUTE_TILE", type := .int, accessFlags := 26, slot := 0, constantValue := 0 }, { name := "MEADOW", type := (.object "java/util/Map"), accessFlags := 26, slot := 1, constantValue := 0 }]
  methods := #[k3m0, k3m1]
  instanceTypes := #[.int, .int, .int, .int]
  staticTypes := #[.int, (.object "java/util/Map")]
  resolved := Array.replicate 397 none
  statics := none }

def pool4 : Array CpInfo := pool [(1, u "java/lang/Cloneable"), (0, .class_ 1), (0, u "java/lang/Object"), (0, .class_ 3)] 3

/-- java/lang/Cloneable -/
def k4 : Class := { plain "java/lang/Cloneable" (some 0) with
  accessFlags := 1537
  interfaces := #[]
  cf := some (fileOf pool4 2 #[] #[] 1537 4 #[] #[])
  fields := #[]
  methods := #[]
  instanceTypes := #[]
  staticTypes := #[]
  resolved := Array.replicate 8 none
  statics := none }

def pool5 : Array CpInfo := pool [(1, u "java/io/Serializable"), (0, .class_ 1), (0, u "java/lang/Object"), (0, .class_ 3)] 3

/-- java/io/Serializable -/
def k5 : Class := { plain "java/io/Serializable" (some 0) with
  accessFlags := 1537
  interfaces := #[]
  cf := some (fileOf pool5 2 #[] #[] 1537 4 #[] #[])
  fields := #[]
  methods := #[]
  instanceTypes := #[]
  staticTypes := #[]
  resolved := Array.replicate 8 none
  statics := none }

/-- the primitive byte -/
def k6 : Class := { plain "byte" none with kind := .primitive 'B', accessFlags := 0x411 }
/-- [B -/
def k7 : Class := { plain "[B" (some 0) with kind := .array 6 .byte, interfaces := #[4, 5], accessFlags := 1041 }

/-- the primitive int -/
def k8 : Class := { plain "int" none with kind := .primitive 'I', accessFlags := 0x411 }
/-- [I -/
def k9 : Class := { plain "[I" (some 0) with kind := .array 8 .int, interfaces := #[4, 5], accessFlags := 1041 }

def heap : Heap := #[]
def classes : Array Class := #[k0, k1, k2, k3, k4, k5, k6, k7, k8, k9]
def interned : List (Array UInt16 × Addr) := []
def slotsUsed : Nat := 0
def theMethod : MethodId := ⟨1, 1⟩
def args0 : Array Value := #[.int 1, .int 2, .int 3, .int 4]
def aboutOver (below : List Frame) : State where
  vm := { classes := classes, interned := interned.toArray }
  heap := heap
  slotsUsed := slotsUsed
  threads := #[{ frames := .invoking theMethod args0 :: below }]
def below0 : List Frame := [.native { method := ⟨0, 0⟩, args := #[] }]
def about1 : State := aboutOver below0
def p0 : Program := .bare "" "" ""
def e0 : Env := launch0.env 0 0 0
theorem w_frames : about1.frames = Frame.invoking theMethod args0 :: below0 := rfl
set_option maxRecDepth 65536 in
theorem w_args : argsFit about1.vm theMethod args0 = true := by decide +kernel
set_option maxRecDepth 65536 in
theorem w_heap : heapFits about1 = true := by decide +kernel
set_option maxRecDepth 65536 in
theorem w_runnable : about1.curStatus? = some .runnable := by decide +kernel
set_option maxRecDepth 65536 in
theorem w_alone : about1.alone = true := by decide +kernel
set_option maxRecDepth 65536 in
theorem w_named : about1.methodNamed? x = some theMethod := by decide +kernel
set_option maxRecDepth 65536 in
theorem w_hears : about1.hears theMethod below0 = true := by decide +kernel
set_option maxRecDepth 65536 in
theorem w_ripe : about1.ripe theMethod args0 below0 = true := by decide +kernel
theorem w_running : about1.status = .running := rfl
set_option maxRecDepth 65536 in
theorem w_room : about1.hasRoom e0.platform room_1 = true :=
  launch0.hasRoom_least _ room_1 (by decide +kernel) (by decide +kernel) (by decide +kernel) (by decide +kernel) (by decide +kernel) (by decide +kernel)
theorem allAtoms_all (ts : List Jvm.Cond) (a : Array Jvm.Value) (st : Jvm.State) : (allAtoms ts).before a st = ts.all (fun c => c.before a st) := by
  induction ts with
  | nil => rfl
  | cons c t ih =>
    show (Jvm.Cond.and c (allAtoms t)).before a st = _
    rw [Jvm.Cond.before_and, ih, List.all_cons]
def words1 : List Jvm.Cond := Jvm.Cond.code x code maxLocals ret :: tables_1
/-- a 'code' word, met by the world's own term for the bytes: nothing is compared byte by byte -/
theorem code_word {y : MethodName} {bytes : ByteArray} {mx : Nat} {rt : Option FieldType} {a : Array Value} {s : State} {m : MethodId} {meth : Method} {c : Code} (h1 : s.methodNamed? y = some m) (h2 : s.vm.method? m = some meth) (h3 : meth.code = some c) (h4 : c.code = bytes)
    (h5 : (c.maxLocals == mx && c.exceptionTable.isEmpty && decide (c.maxStack ≤ mostOperands) && decide (meth.sig.returnType = rt) && !meth.locks && decide (parseMethodDescriptor y.desc = some meth.sig)) = true) : (Jvm.Cond.code y bytes mx rt).before a s = true := by
  simp only [Bool.and_eq_true, beq_iff_eq, Bool.not_eq_true', decide_eq_true_eq] at h5
  obtain ⟨⟨⟨⟨⟨g1, g2⟩, g3⟩, g4⟩, g5⟩, g6⟩ := h5
  simp [Cond.before, Cond.holds, Cond.value, h1, h2, h3, h4, g1, g2, g3, g4, g5, g6]
def isCode : Jvm.Cond → Bool
  | .code _ _ _ _ => true
  | _ => false
theorem all_split {L : List Jvm.Cond} {P : Jvm.Cond → Bool} (h1 : L.all (fun c => isCode c || P c) = true) (h2 : ∀ c ∈ L.filter isCode, P c = true) : L.all P = true := by
  refine List.all_eq_true.mpr fun c hc => ?_
  have h := List.all_eq_true.mp h1 c hc
  rcases Bool.eq_false_or_eq_true (isCode c) with hi | hi
  · exact h2 c (List.mem_filter.mpr ⟨hc, hi⟩)
  · simpa [hi] using h
set_option maxRecDepth 65536 in
theorem w_c0 : (Jvm.Cond.code x code maxLocals ret).before args0 about1 = true := code_word (m := ⟨1, 1⟩) (meth := k1m1) (c := k1c1) (by decide +kernel) rfl rfl rfl (by decide +kernel)
set_option maxRecDepth 65536 in
theorem w_c1 : (Jvm.Cond.code ({ cls := "com/example/oxbow/oxbow/games/riverdrafter/RiverScore", name := "<init>", desc := "(IIII)V" } : Jvm.MethodName) prog_48_method_1_code (5 : Nat) (Option.none : Option Jvm.ClassFile.FieldType)).before args0 about1 = true := code_word (m := ⟨3, 0⟩) (meth := k3m0) (c := k3c0) (by decide +kernel) rfl rfl rfl (by decide +kernel)
set_option maxRecDepth 65536 in
theorem w_c2 : (Jvm.Cond.code ({ cls := "java/lang/Record", name := "<init>", desc := "()V" } : Jvm.MethodName) jdk_30_method_1_code (1 : Nat) (Option.none : Option Jvm.ClassFile.FieldType)).before args0 about1 = true := code_word (m := ⟨2, 0⟩) (meth := k2m0) (c := k2c0) (by decide +kernel) rfl rfl rfl (by decide +kernel)
set_option maxRecDepth 65536 in
theorem w_c3 : (Jvm.Cond.code ({ cls := "java/lang/Object", name := "<init>", desc := "()V" } : Jvm.MethodName) object_method_1_code (1 : Nat) (Option.none : Option Jvm.ClassFile.FieldType)).before args0 about1 = true := code_word (m := ⟨0, 0⟩) (meth := k0m0) (c := k0c0) (by decide +kernel) rfl rfl rfl (by decide +kernel)
set_option maxRecDepth 65536 in
theorem w_c4 : (Jvm.Cond.code ({ cls := "com/example/oxbow/oxbow/games/riverdrafter/RiverScore", name := "total", desc := "()I" } : Jvm.MethodName) prog_48_method_3_code (1 : Nat) (Option.some Jvm.ClassFile.FieldType.int)).before args0 about1 = true := code_word (m := ⟨3, 1⟩) (meth := k3m1) (c := k3c1) (by decide +kernel) rfl rfl rfl (by decide +kernel)
def codes1 : List Jvm.Cond := [Jvm.Cond.code x code maxLocals ret, Jvm.Cond.code ({ cls := "com/example/oxbow/oxbow/games/riverdrafter/RiverScore", name := "<init>", desc := "(IIII)V" } : Jvm.MethodName) prog_48_method_1_code (5 : Nat) (Option.none : Option Jvm.ClassFile.FieldType), Jvm.Cond.code ({ cls := "java/lang/Record", name := "<init>", desc := "()V" } : Jvm.MethodName) jdk_30_method_1_code (1 : Nat) (Option.none : Option Jvm.ClassFile.FieldType), Jvm.Cond.code ({ cls := "java/lang/Object", name := "<init>", desc := "()V" } : Jvm.MethodName) object_method_1_code (1 : Nat) (Option.none : Option Jvm.ClassFile.FieldType), Jvm.Cond.code ({ cls := "com/example/oxbow/oxbow/games/riverdrafter/RiverScore", name := "total", desc := "()I" } : Jvm.MethodName) prog_48_method_3_code (1 : Nat) (Option.some Jvm.ClassFile.FieldType.int)]
set_option maxRecDepth 65536 in
theorem codes_eq : words1.filter isCode = codes1 := rfl
theorem w_codes : ∀ c ∈ words1.filter isCode, c.before args0 about1 = true := by
  rw [codes_eq]
  intro c hc
  simp only [codes1, List.mem_cons, List.not_mem_nil, or_false] at hc
  rcases hc with rfl | rfl | rfl | rfl | rfl
  · exact w_c0
  · exact w_c1
  · exact w_c2
  · exact w_c3
  · exact w_c4
set_option maxRecDepth 65536 in
theorem w_t1 : (words1.take 24).all (fun c => isCode c || c.before args0 about1) = true := by decide +kernel
set_option maxRecDepth 65536 in
theorem w_t2 : (words1.drop 24).all (fun c => isCode c || c.before args0 about1) = true := by decide +kernel
theorem w_tables : (allAtoms (Jvm.Cond.code x code maxLocals ret :: tables_1)).before args0 about1 = true := by
  rw [allAtoms_all]
  show words1.all (fun c => c.before args0 about1) = true
  refine all_split ?_ w_codes
  rw [← List.take_append_drop 24 words1, List.all_append, w_t1, w_t2]
  rfl
set_option maxRecDepth 65536 in
theorem w_case : (Jvm.Cond.and given_1 narrow_1).before args0 about1 = true := by decide +kernel
theorem w_applies : (headSpec (Jvm.Cond.code x code maxLocals ret :: tables_1) room_1).applies x e0.platform about1 = true :=
  (Spec.applies_iff w_frames).mpr ⟨w_running, w_runnable, w_alone, w_named, w_hears, w_ripe, w_room, w_tables⟩
theorem atStart : AtStart classFile x code maxLocals ret World_1 tables_1 room_1 Calls_1 rest_1 Pre_1 launch0 p0 e0 about1 theMethod args0 below0 :=
  ⟨lists_1, trivial, launch0.admits_env _ _ _, launch0.least_env, fairChoices_fair.cas, fairChoices_fair.clock, w_frames, w_args, w_heap, w_applies, trivial, trivial, w_case⟩
end start1
theorem witness_1 : WitnessClaimed_1 := ⟨start1.p0, start1.e0, start1.about1, start1.theMethod, start1.args0, start1.below0, start1.atStart⟩
end Jvm.Pilot.@@N@@
