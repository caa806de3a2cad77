import JvmDerived
import JvmDerived.Pilot.@@N@@Statement
import JvmDerived.Pilot.@@N@@Code
set_option linter.unusedVariables false
set_option linter.unusedSimpArgs false
namespace Jvm.RoadKit
open Sem ClassFile Op Lib Jvm.Stand Jvm.Free Jvm.LawKit
section New
variable {p : Program} {l : Launch} {e : Env} {R : Room} {s : State} {m : MethodId} {args : Array Value} {below : List Frame} {meth : Method} {c : Code} {T : State} {locs : List Loc} {cells slots k n : Nat} {Q : Option Value → Heap → List Loc → Prop}
theorem retI (X : Stand p l e R s m args below meth c T locs cells slots) (hx : p.tables.exec = Jvm.exec) {pc : Nat} {Ls : Array Slot} {z : Int32} {rest : List Value} (hret : meth.sig.returnType = some .int) (hd : decode c.code pc = .ok (.ireturn, 1)) {fs : List Frame}
    (hl : ∀ (f : JFrame) (acts : List Action), f.method = m → f.locked = none → f.entered = [] → (doReturn e (T.setTop f) acts (some (.int z))).1 = T.setFrames fs) : Steps p.tables e below (T.setTop (mkF m pc Ls (.int z :: rest))) (T.setFrames fs) := by
  have hm' : T.vm.method? m = some meth := X.method'
  have hn : narrow .int (.int z) = .int z := rfl
  show Steps p.tables e below (T.setTop { method := m, pc := pc, locals := Ls, stack := _ :: rest, locked := none }) _
  jvm_step X.here [X.here.top, hx, hd, hm', hret, hn]
  first | (intro acts; rw [hl _ acts rfl rfl rfl]) | rw [hl _ _ rfl rfl rfl]
  exact Steps.refl _
/-- from S0 the run comes to a return that leaves what Q says -/
def own_Fin (p : Program) (e : Env) (below : List Frame) (s : State) (Q : Option Value → Heap → List Loc → Prop) (k n : Nat) (S0 : State) : Prop :=
  ∃ s₂ o, Steps p.tables e below S0 s₂ ∧ s₂.status = .running ∧ Ended s₂ below o ∧ ∃ v L, o = .returned v ∧ Q v s₂.heap L ∧ FrameEnd s o s₂ L k n
theorem own_go {S0 : State} (S1 : State) (h : ∀ t, Steps p.tables e below S1 t → Steps p.tables e below S0 t) (q : own_Fin p e below s Q k n S1) : own_Fin p e below s Q k n S0 := by
  obtain ⟨s₂, o, h1, h2⟩ := q
  exact ⟨s₂, o, h _ h1, h2⟩
theorem own_ret (X : Stand p l e R s m args below meth c T locs cells slots) (hlocks : meth.locks = false) (v : Option Value) (hv : meth.sig.returnType = none → v = none) {g : JFrame}
    (hs : ∀ fs, (∀ (f : JFrame) (acts : List Action), f.method = m → f.locked = none → f.entered = [] → (doReturn e (T.setTop f) acts v).1 = T.setFrames fs) → Steps p.tables e below (T.setTop g) (T.setFrames fs))
    (hk : cells ≤ k) (hn : slots ≤ n) (hQ : Q v T.heap locs) : own_Fin p e below s Q k n (T.setTop g) := by
  obtain ⟨fs, hr, hrun, hended, hW, hsame⟩ := X.leave (v := v) hv hlocks
  exact ⟨_, _, hs fs hr, hrun, hended, _, _, rfl, hQ, ⟨_, rfl⟩, hW, hsame.mono hk hn⟩
theorem own_zlt {x y : Int32} {a b : Int} (h : x < y) (hx : x.toInt = a) (hy : y.toInt = b) : a < b := by rw [← hx, ← hy]; exact Int32.lt_iff_toInt_lt.mp h
theorem own_znlt {x y : Int32} {a b : Int} (h : ¬ x < y) (hx : x.toInt = a) (hy : y.toInt = b) : ¬ a < b := by rw [← hx, ← hy]; exact fun q => h (Int32.lt_iff_toInt_lt.mpr q)
theorem own_zeq {x y : Int32} {a b : Int} (h : x = y) (hx : x.toInt = a) (hy : y.toInt = b) : a = b := by rw [← hx, ← hy, h]
theorem own_zneq {x y : Int32} {a b : Int} (h : ¬ x = y) (hx : x.toInt = a) (hy : y.toInt = b) : ¬ a = b := by rw [← hx, ← hy]; exact fun q => h (Int32.toInt_inj.mp q)
theorem own_zLlt {x y : Int64} {a b : Int} (h : x < y) (hx : x.toInt = a) (hy : y.toInt = b) : a < b := by rw [← hx, ← hy]; exact Int64.lt_iff_toInt_lt.mp h
theorem own_zLnlt {x y : Int64} {a b : Int} (h : ¬ x < y) (hx : x.toInt = a) (hy : y.toInt = b) : ¬ a < b := by rw [← hx, ← hy]; exact fun q => h (Int64.lt_iff_toInt_lt.mpr q)
theorem own_zLeq {x y : Int64} {a b : Int} (h : x = y) (hx : x.toInt = a) (hy : y.toInt = b) : a = b := by rw [← hx, ← hy, h]
theorem own_zLneq {x y : Int64} {a b : Int} (h : ¬ x = y) (hx : x.toInt = a) (hy : y.toInt = b) : ¬ a = b := by rw [← hx, ← hy]; exact fun q => h (Int64.toInt_inj.mp q)
end New
end Jvm.RoadKit
namespace Jvm.Pilot.@@N@@
open Jvm Jvm.ClassFile Sem Op Lib Jvm.Free Jvm.Stand Jvm.LawKit Jvm.RoadKit Bundle Jvm.Pilot.@@N@@.Jvm.D
theorem own_pd0 : parseMethodDescriptor "(C)Z" = some ⟨[.char], some .boolean⟩ := by decide +kernel

theorem own_nat (q : Int32) (n k : Nat) (h0 : (n : Int) ≤ q.toInt) (h1 : q.toInt < n + k) (hb : n + k < 2147483648) : ∃ i : Fin k, q = Int32.ofNat (n + i.val) ∧ q.toInt = ((n + i.val : Nat) : Int) := by
  have e : (Int32.ofNat q.toInt.toNat).toInt = q.toInt.toNat := Int32.toInt_ofNat_small (by omega)
  refine ⟨⟨q.toInt.toNat - n, by omega⟩, ?_, ?_⟩
  · have w : n + (q.toInt.toNat - n) = q.toInt.toNat := by omega
    show q = Int32.ofNat (n + (q.toInt.toNat - n))
    rw [w]; apply Int32.toInt_inj.mp; rw [e]; omega
  · show q.toInt = ((n + (q.toInt.toNat - n) : Nat) : Int); omega
theorem own_low (q : Int32) (h : 0 ≤ q.toInt ∧ q.toInt < 64) : ((((287948969894477824 : Int64).toUInt64 >>> (q &&& 0x3f).toInt64.toUInt64).toInt64) &&& (1 : Int64)) = 0 ↔ ¬ ((97 ≤ q.toInt ∧ q.toInt ≤ 122) ∨ (65 ≤ q.toInt ∧ q.toInt ≤ 90) ∨ (48 ≤ q.toInt ∧ q.toInt ≤ 57) ∨ q.toInt = 95 ∨ q.toInt = 36 ∨ 127 < q.toInt) := by
  obtain ⟨i, e1, e2⟩ := own_nat q 0 64 (by omega) (by omega) (by decide)
  rw [e2, e1]
  have : ∀ i : Fin 64, ((((287948969894477824 : Int64).toUInt64 >>> (Int32.ofNat (0 + i.val) &&& 0x3f).toInt64.toUInt64).toInt64) &&& (1 : Int64)) = 0 ↔ ¬ ((97 ≤ ((0 + i.val : Nat) : Int) ∧ ((0 + i.val : Nat) : Int) ≤ 122) ∨ (65 ≤ ((0 + i.val : Nat) : Int) ∧ ((0 + i.val : Nat) : Int) ≤ 90) ∨ (48 ≤ ((0 + i.val : Nat) : Int) ∧ ((0 + i.val : Nat) : Int) ≤ 57) ∨ ((0 + i.val : Nat) : Int) = 95 ∨ ((0 + i.val : Nat) : Int) = 36 ∨ 127 < ((0 + i.val : Nat) : Int)) := by decide +kernel
  exact this i
theorem own_high (q : Int32) (h : 64 ≤ q.toInt ∧ q.toInt < 128) : ((((576460745995190270 : Int64).toUInt64 >>> ((q - (64 : Int32)) &&& 0x3f).toInt64.toUInt64).toInt64) &&& (1 : Int64)) = 0 ↔ ¬ ((97 ≤ q.toInt ∧ q.toInt ≤ 122) ∨ (65 ≤ q.toInt ∧ q.toInt ≤ 90) ∨ (48 ≤ q.toInt ∧ q.toInt ≤ 57) ∨ q.toInt = 95 ∨ q.toInt = 36 ∨ 127 < q.toInt) := by
  obtain ⟨i, e1, e2⟩ := own_nat q 64 64 (by omega) (by omega) (by decide)
  rw [e2, e1]
  have : ∀ i : Fin 64, ((((576460745995190270 : Int64).toUInt64 >>> ((Int32.ofNat (64 + i.val) - (64 : Int32)) &&& 0x3f).toInt64.toUInt64).toInt64) &&& (1 : Int64)) = 0 ↔ ¬ ((97 ≤ ((64 + i.val : Nat) : Int) ∧ ((64 + i.val : Nat) : Int) ≤ 122) ∨ (65 ≤ ((64 + i.val : Nat) : Int) ∧ ((64 + i.val : Nat) : Int) ≤ 90) ∨ (48 ≤ ((64 + i.val : Nat) : Int) ∧ ((64 + i.val : Nat) : Int) ≤ 57) ∨ ((64 + i.val : Nat) : Int) = 95 ∨ ((64 + i.val : Nat) : Int) = 36 ∨ 127 < ((64 + i.val : Nat) : Int)) := by decide +kernel
  exact this i

theorem d1_0 : decode prog_94_method_6_code 0 = .ok (.iload_n 0, 1) := by decide +kernel
theorem d1_1 : decode prog_94_method_6_code 1 = .ok (.bipush 97, 2) := by decide +kernel
theorem d1_3 : decode prog_94_method_6_code 3 = .ok (.if_icmp .lt 9, 3) := by decide +kernel
theorem d1_6 : decode prog_94_method_6_code 6 = .ok (.iload_n 0, 1) := by decide +kernel
theorem d1_7 : decode prog_94_method_6_code 7 = .ok (.bipush 122, 2) := by decide +kernel
theorem d1_9 : decode prog_94_method_6_code 9 = .ok (.if_icmp .le 45, 3) := by decide +kernel
theorem d1_12 : decode prog_94_method_6_code 12 = .ok (.iload_n 0, 1) := by decide +kernel
theorem d1_13 : decode prog_94_method_6_code 13 = .ok (.bipush 65, 2) := by decide +kernel
theorem d1_15 : decode prog_94_method_6_code 15 = .ok (.if_icmp .lt 9, 3) := by decide +kernel
theorem d1_18 : decode prog_94_method_6_code 18 = .ok (.iload_n 0, 1) := by decide +kernel
theorem d1_19 : decode prog_94_method_6_code 19 = .ok (.bipush 90, 2) := by decide +kernel
theorem d1_21 : decode prog_94_method_6_code 21 = .ok (.if_icmp .le 33, 3) := by decide +kernel
theorem d1_24 : decode prog_94_method_6_code 24 = .ok (.iload_n 0, 1) := by decide +kernel
theorem d1_25 : decode prog_94_method_6_code 25 = .ok (.bipush 48, 2) := by decide +kernel
theorem d1_27 : decode prog_94_method_6_code 27 = .ok (.if_icmp .lt 9, 3) := by decide +kernel
theorem d1_30 : decode prog_94_method_6_code 30 = .ok (.iload_n 0, 1) := by decide +kernel
theorem d1_31 : decode prog_94_method_6_code 31 = .ok (.bipush 57, 2) := by decide +kernel
theorem d1_33 : decode prog_94_method_6_code 33 = .ok (.if_icmp .le 21, 3) := by decide +kernel
theorem d1_36 : decode prog_94_method_6_code 36 = .ok (.iload_n 0, 1) := by decide +kernel
theorem d1_37 : decode prog_94_method_6_code 37 = .ok (.bipush 95, 2) := by decide +kernel
theorem d1_39 : decode prog_94_method_6_code 39 = .ok (.if_icmp .eq 15, 3) := by decide +kernel
theorem d1_42 : decode prog_94_method_6_code 42 = .ok (.iload_n 0, 1) := by decide +kernel
theorem d1_43 : decode prog_94_method_6_code 43 = .ok (.bipush 36, 2) := by decide +kernel
theorem d1_45 : decode prog_94_method_6_code 45 = .ok (.if_icmp .eq 9, 3) := by decide +kernel
theorem d1_48 : decode prog_94_method_6_code 48 = .ok (.iload_n 0, 1) := by decide +kernel
theorem d1_49 : decode prog_94_method_6_code 49 = .ok (.bipush 127, 2) := by decide +kernel
theorem d1_51 : decode prog_94_method_6_code 51 = .ok (.if_icmp .le 7, 3) := by decide +kernel
theorem d1_54 : decode prog_94_method_6_code 54 = .ok (.iconst 1, 1) := by decide +kernel
theorem d1_55 : decode prog_94_method_6_code 55 = .ok (.goto 4, 3) := by decide +kernel
theorem d1_58 : decode prog_94_method_6_code 58 = .ok (.iconst 0, 1) := by decide +kernel
theorem d1_59 : decode prog_94_method_6_code 59 = .ok (.ireturn, 1) := by decide +kernel
theorem own_pn1 : plainName "com/example/cutover/cutover/gateway/SqlText" = true := by first | (simp [plainName, overriddenIn]; done) | decide +kernel
theorem own_ef1 (m : MethodId) (p1 : Int32) : entryFrame m #[(.int p1)] 1 = (mkF m 0 #[.val (.int p1)] []) := by first | (simp [entryFrame, mkF, argsToLocals, Value.category]; done) | rfl
def own_Q1 (Z : State) (p1 : Int32)  (h0 : Heap) (n0 : Nat) (v : Option Value) (h : Heap) (L : List Loc) : Prop := ∃ b : Int32, v = some (.int b) ∧ Fr n0 L ∧ h = h0 ∧ ((b = 1 ∧ ((97 ≤ p1.toInt ∧ p1.toInt ≤ 122) ∨ (65 ≤ p1.toInt ∧ p1.toInt ≤ 90) ∨ (48 ≤ p1.toInt ∧ p1.toInt ≤ 57) ∨ p1.toInt = 95 ∨ p1.toInt = 36 ∨ 127 < p1.toInt)) ∨ (b = 0 ∧ ¬ ((97 ≤ p1.toInt ∧ p1.toInt ≤ 122) ∨ (65 ≤ p1.toInt ∧ p1.toInt ≤ 90) ∨ (48 ≤ p1.toInt ∧ p1.toInt ≤ 57) ∨ p1.toInt = 95 ∨ p1.toInt = 36 ∨ 127 < p1.toInt)))
set_option maxRecDepth 65536 in
set_option maxHeartbeats 40000000 in
theorem own_rm1 (l : Launch) (Z : State) (a0 : Array Value) (hw : ∀ d ∈ tables_1, d.before a0 Z = true) (ws : List Jvm.Cond) (p1 : Int32)  (h0 : Heap) (n0 : Nat) (Z0 : n0 ≤ h0.size) :
    MetFree l (⟨"com/example/cutover/cutover/gateway/SqlText", "identifier", "(C)Z"⟩ : MethodName) (head1 (Jvm.Cond.code (⟨"com/example/cutover/cutover/gateway/SqlText", "identifier", "(C)Z"⟩ : MethodName) prog_94_method_6_code 1 (some .boolean) :: ws) ({ frames := 0, cells := 0, slots := 0, locals := 0 } : Room)) (fun a U => a = #[(.int p1)] ∧ Z.Warmed39 U.vm ∧ U.heap = h0) (fun _ _ _ _ _ => True) (fun _ U o U' => ∃ v L, o = .returned v ∧ own_Q1 Z p1 h0 n0 v U'.heap L ∧ FrameEnd U o U' L ({ frames := 0, cells := 0, slots := 0, locals := 0 } : Room).cells ({ frames := 0, cells := 0, slots := 0, locals := 0 } : Room).slots) := by
  refine MetFree.of_bodySF (plainFor_of_name own_pn1) hisR ?_
  intro p e s m args below meth c s₁ Bd hml0 hP hK
  obtain ⟨rfl, hZ, hh⟩ := hP
  have hx := Bd.exec
  have hby := Bd.bytes
  have hml : c.maxLocals = 1 := hml0
  have hown : s.vm.findClass "com/example/cutover/cutover/gateway/SqlText" = some m.cls := findClass_of_methodNamed Bd.named
  have hnm := (name_of_methodNamed Bd.named Bd.method).1
  have X0 : Stand p l e ({ frames := 0, cells := 0, slots := 0, locals := 0 } : Room) s m #[(.int p1)] below meth c s₁ [] 0 0 := Stand.of_body Bd
  have e0 : s₁.heap = h0 := by rw [← hh, Bd.state]; rfl
  have N0 := Fr.nil n0
  have J54 : ∀ (T : State) (lc : List Loc) (X : Stand p l e ({ frames := 0, cells := 0, slots := 0, locals := 0 } : Room) s m #[(.int p1)] below meth c T lc 0 0) (eT : T.heap = h0) (N : Fr n0 lc) (f54 : ((97 ≤ p1.toInt ∧ p1.toInt ≤ 122) ∨ (65 ≤ p1.toInt ∧ p1.toInt ≤ 90) ∨ (48 ≤ p1.toInt ∧ p1.toInt ≤ 57) ∨ p1.toInt = 95 ∨ p1.toInt = 36 ∨ 127 < p1.toInt)), own_Fin p e below s (own_Q1 Z p1 h0 n0) ({ frames := 0, cells := 0, slots := 0, locals := 0 } : Room).cells ({ frames := 0, cells := 0, slots := 0, locals := 0 } : Room).slots (T.setTop (mkF m 54 #[.val (.int p1)] [])) := by
    intro T lc X eT N  f54
    refine own_go (T.setTop (mkF m 55 #[.val (.int p1)] [(.int (1 : Int32))])) (fun _ k => XS.iconst X.here hx rfl (hb hby d1_54) k) ?_
    refine own_go (T.setTop (mkF m 59 #[.val (.int p1)] [(.int (1 : Int32))])) (fun _ k => XS.goto X.here hx rfl (pc0 := 55) (pc' := 59) rfl (hb hby d1_55) (by decide) (by decide) k) ?_
    refine own_ret X (BodyLoose.notSynchronized Bd) (some (.int (1 : Int32))) (fun h => by rw [Bd.returns] at h; cases h) (fun fs hr => retN X hx (t := .boolean) Bd.returns (by simp) (hb hby d1_59) hr) (by decide) (by decide) ?_
    exact ⟨_, rfl, N, eT, Or.inl ⟨rfl, f54⟩⟩
  have J58 : ∀ (T : State) (lc : List Loc) (X : Stand p l e ({ frames := 0, cells := 0, slots := 0, locals := 0 } : Room) s m #[(.int p1)] below meth c T lc 0 0) (eT : T.heap = h0) (N : Fr n0 lc) (f58 : ¬ ((97 ≤ p1.toInt ∧ p1.toInt ≤ 122) ∨ (65 ≤ p1.toInt ∧ p1.toInt ≤ 90) ∨ (48 ≤ p1.toInt ∧ p1.toInt ≤ 57) ∨ p1.toInt = 95 ∨ p1.toInt = 36 ∨ 127 < p1.toInt)), own_Fin p e below s (own_Q1 Z p1 h0 n0) ({ frames := 0, cells := 0, slots := 0, locals := 0 } : Room).cells ({ frames := 0, cells := 0, slots := 0, locals := 0 } : Room).slots (T.setTop (mkF m 58 #[.val (.int p1)] [])) := by
    intro T lc X eT N  f58
    refine own_go (T.setTop (mkF m 59 #[.val (.int p1)] [(.int (0 : Int32))])) (fun _ k => XS.iconst X.here hx rfl (hb hby d1_58) k) ?_
    refine own_ret X (BodyLoose.notSynchronized Bd) (some (.int (0 : Int32))) (fun h => by rw [Bd.returns] at h; cases h) (fun fs hr => retN X hx (t := .boolean) Bd.returns (by simp) (hb hby d1_59) hr) (by decide) (by decide) ?_
    exact ⟨_, rfl, N, eT, Or.inr ⟨rfl, f58⟩⟩
  have J36 : ∀ (T : State) (lc : List Loc) (X : Stand p l e ({ frames := 0, cells := 0, slots := 0, locals := 0 } : Room) s m #[(.int p1)] below meth c T lc 0 0) (eT : T.heap = h0) (N : Fr n0 lc) (f36 : ¬ (97 ≤ p1.toInt ∧ p1.toInt ≤ 122) ∧ ¬ (65 ≤ p1.toInt ∧ p1.toInt ≤ 90) ∧ ¬ (48 ≤ p1.toInt ∧ p1.toInt ≤ 57)), own_Fin p e below s (own_Q1 Z p1 h0 n0) ({ frames := 0, cells := 0, slots := 0, locals := 0 } : Room).cells ({ frames := 0, cells := 0, slots := 0, locals := 0 } : Room).slots (T.setTop (mkF m 36 #[.val (.int p1)] [])) := by
    intro T lc X eT N  f36
    refine own_go (T.setTop (mkF m 37 #[.val (.int p1)] [(.int p1)])) (fun _ k => XS.iloadN X.here hx rfl (hb hby d1_36) rfl k) ?_
    refine own_go (T.setTop (mkF m 39 #[.val (.int p1)] [(.int (95 : Int32)), (.int p1)])) (fun _ k => XS.bipush X.here hx rfl (hb hby d1_37) k) ?_
    by_cases hc39 : p1 = (95 : Int32)
    · have hz39 : ((p1).toInt = 95) := own_zeq hc39 rfl rfl
      refine own_go (T.setTop (mkF m 54 #[.val (.int p1)] [])) (fun _ k => XS.icmpYes X.here hx rfl (pc0 := 39) (pc' := 54) rfl (hb hby d1_39) rfl (teq hc39).1 (by decide) (by decide) k) ?_
      refine J54 _ _ X eT N ?_
      omega
    · have hz39 : ¬ ((p1).toInt = 95) := own_zneq hc39 rfl rfl
      refine own_go (T.setTop (mkF m 42 #[.val (.int p1)] [])) (fun _ k => XS.icmpNo X.here hx rfl (hb hby d1_39) rfl (feq hc39).1 k) ?_
      refine own_go (T.setTop (mkF m 43 #[.val (.int p1)] [(.int p1)])) (fun _ k => XS.iloadN X.here hx rfl (hb hby d1_42) rfl k) ?_
      refine own_go (T.setTop (mkF m 45 #[.val (.int p1)] [(.int (36 : Int32)), (.int p1)])) (fun _ k => XS.bipush X.here hx rfl (hb hby d1_43) k) ?_
      by_cases hc45 : p1 = (36 : Int32)
      · have hz45 : ((p1).toInt = 36) := own_zeq hc45 rfl rfl
        refine own_go (T.setTop (mkF m 54 #[.val (.int p1)] [])) (fun _ k => XS.icmpYes X.here hx rfl (pc0 := 45) (pc' := 54) rfl (hb hby d1_45) rfl (teq hc45).1 (by decide) (by decide) k) ?_
        refine J54 _ _ X eT N ?_
        omega
      · have hz45 : ¬ ((p1).toInt = 36) := own_zneq hc45 rfl rfl
        refine own_go (T.setTop (mkF m 48 #[.val (.int p1)] [])) (fun _ k => XS.icmpNo X.here hx rfl (hb hby d1_45) rfl (feq hc45).1 k) ?_
        refine own_go (T.setTop (mkF m 49 #[.val (.int p1)] [(.int p1)])) (fun _ k => XS.iloadN X.here hx rfl (hb hby d1_48) rfl k) ?_
        refine own_go (T.setTop (mkF m 51 #[.val (.int p1)] [(.int (127 : Int32)), (.int p1)])) (fun _ k => XS.bipush X.here hx rfl (hb hby d1_49) k) ?_
        by_cases hc51 : (127 : Int32) < p1
        · have hz51 : (127 < (p1).toInt) := own_zlt hc51 rfl rfl
          refine own_go (T.setTop (mkF m 54 #[.val (.int p1)] [])) (fun _ k => XS.icmpNo X.here hx rfl (hb hby d1_51) rfl (tlt hc51).2.2.2 k) ?_
          refine J54 _ _ X eT N ?_
          omega
        · have hz51 : ¬ (127 < (p1).toInt) := own_znlt hc51 rfl rfl
          refine own_go (T.setTop (mkF m 58 #[.val (.int p1)] [])) (fun _ k => XS.icmpYes X.here hx rfl (pc0 := 51) (pc' := 58) rfl (hb hby d1_51) rfl (flt hc51).2.2.2 (by decide) (by decide) k) ?_
          refine J58 _ _ X eT N ?_
          omega
  have J24 : ∀ (T : State) (lc : List Loc) (X : Stand p l e ({ frames := 0, cells := 0, slots := 0, locals := 0 } : Room) s m #[(.int p1)] below meth c T lc 0 0) (eT : T.heap = h0) (N : Fr n0 lc) (f24 : ¬ (97 ≤ p1.toInt ∧ p1.toInt ≤ 122) ∧ ¬ (65 ≤ p1.toInt ∧ p1.toInt ≤ 90)), own_Fin p e below s (own_Q1 Z p1 h0 n0) ({ frames := 0, cells := 0, slots := 0, locals := 0 } : Room).cells ({ frames := 0, cells := 0, slots := 0, locals := 0 } : Room).slots (T.setTop (mkF m 24 #[.val (.int p1)] [])) := by
    intro T lc X eT N  f24
    refine own_go (T.setTop (mkF m 25 #[.val (.int p1)] [(.int p1)])) (fun _ k => XS.iloadN X.here hx rfl (hb hby d1_24) rfl k) ?_
    refine own_go (T.setTop (mkF m 27 #[.val (.int p1)] [(.int (48 : Int32)), (.int p1)])) (fun _ k => XS.bipush X.here hx rfl (hb hby d1_25) k) ?_
    by_cases hc27 : p1 < (48 : Int32)
    · have hz27 : ((p1).toInt < 48) := own_zlt hc27 rfl rfl
      refine own_go (T.setTop (mkF m 36 #[.val (.int p1)] [])) (fun _ k => XS.icmpYes X.here hx rfl (pc0 := 27) (pc' := 36) rfl (hb hby d1_27) rfl (tlt hc27).1 (by decide) (by decide) k) ?_
      refine J36 _ _ X eT N ?_
      omega
    · have hz27 : ¬ ((p1).toInt < 48) := own_znlt hc27 rfl rfl
      refine own_go (T.setTop (mkF m 30 #[.val (.int p1)] [])) (fun _ k => XS.icmpNo X.here hx rfl (hb hby d1_27) rfl (flt hc27).1 k) ?_
      refine own_go (T.setTop (mkF m 31 #[.val (.int p1)] [(.int p1)])) (fun _ k => XS.iloadN X.here hx rfl (hb hby d1_30) rfl k) ?_
      refine own_go (T.setTop (mkF m 33 #[.val (.int p1)] [(.int (57 : Int32)), (.int p1)])) (fun _ k => XS.bipush X.here hx rfl (hb hby d1_31) k) ?_
      by_cases hc33 : (57 : Int32) < p1
      · have hz33 : (57 < (p1).toInt) := own_zlt hc33 rfl rfl
        refine own_go (T.setTop (mkF m 36 #[.val (.int p1)] [])) (fun _ k => XS.icmpNo X.here hx rfl (hb hby d1_33) rfl (tlt hc33).2.2.2 k) ?_
        refine J36 _ _ X eT N ?_
        omega
      · have hz33 : ¬ (57 < (p1).toInt) := own_znlt hc33 rfl rfl
        refine own_go (T.setTop (mkF m 54 #[.val (.int p1)] [])) (fun _ k => XS.icmpYes X.here hx rfl (pc0 := 33) (pc' := 54) rfl (hb hby d1_33) rfl (flt hc33).2.2.2 (by decide) (by decide) k) ?_
        refine J54 _ _ X eT N ?_
        omega
  have J12 : ∀ (T : State) (lc : List Loc) (X : Stand p l e ({ frames := 0, cells := 0, slots := 0, locals := 0 } : Room) s m #[(.int p1)] below meth c T lc 0 0) (eT : T.heap = h0) (N : Fr n0 lc) (f12 : ¬ (97 ≤ p1.toInt ∧ p1.toInt ≤ 122)), own_Fin p e below s (own_Q1 Z p1 h0 n0) ({ frames := 0, cells := 0, slots := 0, locals := 0 } : Room).cells ({ frames := 0, cells := 0, slots := 0, locals := 0 } : Room).slots (T.setTop (mkF m 12 #[.val (.int p1)] [])) := by
    intro T lc X eT N  f12
    refine own_go (T.setTop (mkF m 13 #[.val (.int p1)] [(.int p1)])) (fun _ k => XS.iloadN X.here hx rfl (hb hby d1_12) rfl k) ?_
    refine own_go (T.setTop (mkF m 15 #[.val (.int p1)] [(.int (65 : Int32)), (.int p1)])) (fun _ k => XS.bipush X.here hx rfl (hb hby d1_13) k) ?_
    by_cases hc15 : p1 < (65 : Int32)
    · have hz15 : ((p1).toInt < 65) := own_zlt hc15 rfl rfl
      refine own_go (T.setTop (mkF m 24 #[.val (.int p1)] [])) (fun _ k => XS.icmpYes X.here hx rfl (pc0 := 15) (pc' := 24) rfl (hb hby d1_15) rfl (tlt hc15).1 (by decide) (by decide) k) ?_
      refine J24 _ _ X eT N ?_
      omega
    · have hz15 : ¬ ((p1).toInt < 65) := own_znlt hc15 rfl rfl
      refine own_go (T.setTop (mkF m 18 #[.val (.int p1)] [])) (fun _ k => XS.icmpNo X.here hx rfl (hb hby d1_15) rfl (flt hc15).1 k) ?_
      refine own_go (T.setTop (mkF m 19 #[.val (.int p1)] [(.int p1)])) (fun _ k => XS.iloadN X.here hx rfl (hb hby d1_18) rfl k) ?_
      refine own_go (T.setTop (mkF m 21 #[.val (.int p1)] [(.int (90 : Int32)), (.int p1)])) (fun _ k => XS.bipush X.here hx rfl (hb hby d1_19) k) ?_
      by_cases hc21 : (90 : Int32) < p1
      · have hz21 : (90 < (p1).toInt) := own_zlt hc21 rfl rfl
        refine own_go (T.setTop (mkF m 24 #[.val (.int p1)] [])) (fun _ k => XS.icmpNo X.here hx rfl (hb hby d1_21) rfl (tlt hc21).2.2.2 k) ?_
        refine J24 _ _ X eT N ?_
        omega
      · have hz21 : ¬ (90 < (p1).toInt) := own_znlt hc21 rfl rfl
        refine own_go (T.setTop (mkF m 54 #[.val (.int p1)] [])) (fun _ k => XS.icmpYes X.here hx rfl (pc0 := 21) (pc' := 54) rfl (hb hby d1_21) rfl (flt hc21).2.2.2 (by decide) (by decide) k) ?_
        refine J54 _ _ X eT N ?_
        omega
  show own_Fin p e below s (own_Q1 Z p1 h0 n0) ({ frames := 0, cells := 0, slots := 0, locals := 0 } : Room).cells ({ frames := 0, cells := 0, slots := 0, locals := 0 } : Room).slots (s₁.setTop (entryFrame m #[(.int p1)] 1))
  refine own_go (s₁.setTop (mkF m 0 #[.val (.int p1)] [])) (fun t k => castTop (own_ef1 m p1) k) ?_
  refine own_go (s₁.setTop (mkF m 1 #[.val (.int p1)] [(.int p1)])) (fun _ k => XS.iloadN X0.here hx rfl (hb hby d1_0) rfl k) ?_
  refine own_go (s₁.setTop (mkF m 3 #[.val (.int p1)] [(.int (97 : Int32)), (.int p1)])) (fun _ k => XS.bipush X0.here hx rfl (hb hby d1_1) k) ?_
  by_cases hc3 : p1 < (97 : Int32)
  · have hz3 : ((p1).toInt < 97) := own_zlt hc3 rfl rfl
    refine own_go (s₁.setTop (mkF m 12 #[.val (.int p1)] [])) (fun _ k => XS.icmpYes X0.here hx rfl (pc0 := 3) (pc' := 12) rfl (hb hby d1_3) rfl (tlt hc3).1 (by decide) (by decide) k) ?_
    refine J12 _ _ X0 e0 N0 ?_
    omega
  · have hz3 : ¬ ((p1).toInt < 97) := own_znlt hc3 rfl rfl
    refine own_go (s₁.setTop (mkF m 6 #[.val (.int p1)] [])) (fun _ k => XS.icmpNo X0.here hx rfl (hb hby d1_3) rfl (flt hc3).1 k) ?_
    refine own_go (s₁.setTop (mkF m 7 #[.val (.int p1)] [(.int p1)])) (fun _ k => XS.iloadN X0.here hx rfl (hb hby d1_6) rfl k) ?_
    refine own_go (s₁.setTop (mkF m 9 #[.val (.int p1)] [(.int (122 : Int32)), (.int p1)])) (fun _ k => XS.bipush X0.here hx rfl (hb hby d1_7) k) ?_
    by_cases hc9 : (122 : Int32) < p1
    · have hz9 : (122 < (p1).toInt) := own_zlt hc9 rfl rfl
      refine own_go (s₁.setTop (mkF m 12 #[.val (.int p1)] [])) (fun _ k => XS.icmpNo X0.here hx rfl (hb hby d1_9) rfl (tlt hc9).2.2.2 k) ?_
      refine J12 _ _ X0 e0 N0 ?_
      omega
    · have hz9 : ¬ (122 < (p1).toInt) := own_znlt hc9 rfl rfl
      refine own_go (s₁.setTop (mkF m 54 #[.val (.int p1)] [])) (fun _ k => XS.icmpYes X0.here hx rfl (pc0 := 9) (pc' := 54) rfl (hb hby d1_9) rfl (flt hc9).2.2.2 (by decide) (by decide) k) ?_
      refine J54 _ _ X0 e0 N0 ?_
      omega
theorem d2_0 : decode method_2_code 0 = .ok (.ldc2_w 7, 3) := by decide +kernel
theorem d2_3 : decode method_2_code 3 = .ok (.lstore_n 1, 1) := by decide +kernel
theorem d2_4 : decode method_2_code 4 = .ok (.ldc2_w 9, 3) := by decide +kernel
theorem d2_7 : decode method_2_code 7 = .ok (.lstore_n 3, 1) := by decide +kernel
theorem d2_8 : decode method_2_code 8 = .ok (.iload_n 0, 1) := by decide +kernel
theorem d2_9 : decode method_2_code 9 = .ok (.bipush 127, 2) := by decide +kernel
theorem d2_11 : decode method_2_code 11 = .ok (.if_icmp .le 9, 3) := by decide +kernel
theorem d2_14 : decode method_2_code 14 = .ok (.iconst 1, 1) := by decide +kernel
theorem d2_15 : decode method_2_code 15 = .ok (.istore 5, 2) := by decide +kernel
theorem d2_17 : decode method_2_code 17 = .ok (.goto 49, 3) := by decide +kernel
theorem d2_20 : decode method_2_code 20 = .ok (.iload_n 0, 1) := by decide +kernel
theorem d2_21 : decode method_2_code 21 = .ok (.bipush 64, 2) := by decide +kernel
theorem d2_23 : decode method_2_code 23 = .ok (.if_icmp .ge 23, 3) := by decide +kernel
theorem d2_26 : decode method_2_code 26 = .ok (.lload_n 1, 1) := by decide +kernel
theorem d2_27 : decode method_2_code 27 = .ok (.iload_n 0, 1) := by decide +kernel
theorem d2_28 : decode method_2_code 28 = .ok (.lushr, 1) := by decide +kernel
theorem d2_29 : decode method_2_code 29 = .ok (.lconst 1, 1) := by decide +kernel
theorem d2_30 : decode method_2_code 30 = .ok (.land, 1) := by decide +kernel
theorem d2_31 : decode method_2_code 31 = .ok (.lconst 0, 1) := by decide +kernel
theorem d2_32 : decode method_2_code 32 = .ok (.lcmp, 1) := by decide +kernel
theorem d2_33 : decode method_2_code 33 = .ok (.ifCond .eq 7, 3) := by decide +kernel
theorem d2_36 : decode method_2_code 36 = .ok (.iconst 1, 1) := by decide +kernel
theorem d2_37 : decode method_2_code 37 = .ok (.goto 4, 3) := by decide +kernel
theorem d2_40 : decode method_2_code 40 = .ok (.iconst 0, 1) := by decide +kernel
theorem d2_41 : decode method_2_code 41 = .ok (.istore 5, 2) := by decide +kernel
theorem d2_43 : decode method_2_code 43 = .ok (.goto 23, 3) := by decide +kernel
theorem d2_46 : decode method_2_code 46 = .ok (.lload_n 3, 1) := by decide +kernel
theorem d2_47 : decode method_2_code 47 = .ok (.iload_n 0, 1) := by decide +kernel
theorem d2_48 : decode method_2_code 48 = .ok (.bipush 64, 2) := by decide +kernel
theorem d2_50 : decode method_2_code 50 = .ok (.isub, 1) := by decide +kernel
theorem d2_51 : decode method_2_code 51 = .ok (.lushr, 1) := by decide +kernel
theorem d2_52 : decode method_2_code 52 = .ok (.lconst 1, 1) := by decide +kernel
theorem d2_53 : decode method_2_code 53 = .ok (.land, 1) := by decide +kernel
theorem d2_54 : decode method_2_code 54 = .ok (.lconst 0, 1) := by decide +kernel
theorem d2_55 : decode method_2_code 55 = .ok (.lcmp, 1) := by decide +kernel
theorem d2_56 : decode method_2_code 56 = .ok (.ifCond .eq 7, 3) := by decide +kernel
theorem d2_59 : decode method_2_code 59 = .ok (.iconst 1, 1) := by decide +kernel
theorem d2_60 : decode method_2_code 60 = .ok (.goto 4, 3) := by decide +kernel
theorem d2_63 : decode method_2_code 63 = .ok (.iconst 0, 1) := by decide +kernel
theorem d2_64 : decode method_2_code 64 = .ok (.istore 5, 2) := by decide +kernel
theorem d2_66 : decode method_2_code 66 = .ok (.iload 5, 2) := by decide +kernel
theorem d2_68 : decode method_2_code 68 = .ok (.ireturn, 1) := by decide +kernel
theorem own_pn2 : plainName "com/example/cutover/cutover/gateway/SqlTextIdentifierPinLaw" = true := by first | (simp [plainName, overriddenIn]; done) | decide +kernel
theorem own_ef2 (m : MethodId) (p1 : Int32) : entryFrame m #[(.int p1)] 6 = (mkF m 0 #[.val (.int p1), .unset, .unset, .unset, .unset, .unset] []) := by first | (simp [entryFrame, mkF, argsToLocals, Value.category]; done) | rfl
def own_Q2 (Z : State) (p1 : Int32)  (h0 : Heap) (n0 : Nat) (v : Option Value) (h : Heap) (L : List Loc) : Prop := ∃ b : Int32, v = some (.int b) ∧ Fr n0 L ∧ h = h0 ∧ ((b = 1 ∧ ((97 ≤ p1.toInt ∧ p1.toInt ≤ 122) ∨ (65 ≤ p1.toInt ∧ p1.toInt ≤ 90) ∨ (48 ≤ p1.toInt ∧ p1.toInt ≤ 57) ∨ p1.toInt = 95 ∨ p1.toInt = 36 ∨ 127 < p1.toInt)) ∨ (b = 0 ∧ ¬ ((97 ≤ p1.toInt ∧ p1.toInt ≤ 122) ∨ (65 ≤ p1.toInt ∧ p1.toInt ≤ 90) ∨ (48 ≤ p1.toInt ∧ p1.toInt ≤ 57) ∨ p1.toInt = 95 ∨ p1.toInt = 36 ∨ 127 < p1.toInt)))
set_option maxRecDepth 65536 in
set_option maxHeartbeats 40000000 in
theorem own_rm2 (l : Launch) (Z : State) (a0 : Array Value) (hw : ∀ d ∈ tables_1, d.before a0 Z = true) (ws : List Jvm.Cond) (p1 : Int32)  (h0 : Heap) (n0 : Nat) (Z0 : n0 ≤ h0.size) (hp : 0 ≤ p1.toInt ∧ p1.toInt < 65536) :
    MetFree l (⟨"com/example/cutover/cutover/gateway/SqlTextIdentifierPinLaw", "expected", "(C)Z"⟩ : MethodName) (head1 (Jvm.Cond.code (⟨"com/example/cutover/cutover/gateway/SqlTextIdentifierPinLaw", "expected", "(C)Z"⟩ : MethodName) method_2_code 6 (some .boolean) :: ws) ({ frames := 0, cells := 0, slots := 0, locals := 0 } : Room)) (fun a U => a = #[(.int p1)] ∧ Z.Warmed39 U.vm ∧ U.heap = h0) (fun _ _ _ _ _ => True) (fun _ U o U' => ∃ v L, o = .returned v ∧ own_Q2 Z p1 h0 n0 v U'.heap L ∧ FrameEnd U o U' L ({ frames := 0, cells := 0, slots := 0, locals := 0 } : Room).cells ({ frames := 0, cells := 0, slots := 0, locals := 0 } : Room).slots) := by
  refine MetFree.of_bodySF (plainFor_of_name own_pn2) hisR ?_
  intro p e s m args below meth c s₁ Bd hml0 hP hK
  obtain ⟨rfl, hZ, hh⟩ := hP
  have hx := Bd.exec
  have hby := Bd.bytes
  have hml : c.maxLocals = 6 := hml0
  have hown : s.vm.findClass "com/example/cutover/cutover/gateway/SqlTextIdentifierPinLaw" = some m.cls := findClass_of_methodNamed Bd.named
  have hnm := (name_of_methodNamed Bd.named Bd.method).1
  have X0 : Stand p l e ({ frames := 0, cells := 0, slots := 0, locals := 0 } : Room) s m #[(.int p1)] below meth c s₁ [] 0 0 := Stand.of_body Bd
  have e0 : s₁.heap = h0 := by rw [← hh, Bd.state]; rfl
  have N0 := Fr.nil n0
  have J66 : ∀ (T : State) (lc : List Loc) (X : Stand p l e ({ frames := 0, cells := 0, slots := 0, locals := 0 } : Room) s m #[(.int p1)] below meth c T lc 0 0) (eT : T.heap = h0) (N : Fr n0 lc) (b : Int32) (f66 : (b = 1 ∧ ((97 ≤ p1.toInt ∧ p1.toInt ≤ 122) ∨ (65 ≤ p1.toInt ∧ p1.toInt ≤ 90) ∨ (48 ≤ p1.toInt ∧ p1.toInt ≤ 57) ∨ p1.toInt = 95 ∨ p1.toInt = 36 ∨ 127 < p1.toInt)) ∨ (b = 0 ∧ ¬ ((97 ≤ p1.toInt ∧ p1.toInt ≤ 122) ∨ (65 ≤ p1.toInt ∧ p1.toInt ≤ 90) ∨ (48 ≤ p1.toInt ∧ p1.toInt ≤ 57) ∨ p1.toInt = 95 ∨ p1.toInt = 36 ∨ 127 < p1.toInt))), own_Fin p e below s (own_Q2 Z p1 h0 n0) ({ frames := 0, cells := 0, slots := 0, locals := 0 } : Room).cells ({ frames := 0, cells := 0, slots := 0, locals := 0 } : Room).slots (T.setTop (mkF m 66 #[.val (.int p1), .val (.long (287948969894477824 : Int64)), .second, .val (.long (576460745995190270 : Int64)), .second, .val (.int b)] [])) := by
    intro T lc X eT N b f66
    refine own_go (T.setTop (mkF m 68 #[.val (.int p1), .val (.long (287948969894477824 : Int64)), .second, .val (.long (576460745995190270 : Int64)), .second, .val (.int b)] [(.int b)])) (fun _ k => XS.iload X.here hx rfl (hb hby d2_66) rfl k) ?_
    refine own_ret X (BodyLoose.notSynchronized Bd) (some (.int (nar .boolean b))) (fun h => by rw [Bd.returns] at h; cases h) (fun fs hr => retN X hx (t := .boolean) Bd.returns (by simp) (hb hby d2_68) hr) (by decide) (by decide) ?_
    refine ⟨_, rfl, N, eT, ?_⟩
    rcases f66 with ⟨rfl, f⟩ | ⟨rfl, f⟩
    · exact Or.inl ⟨rfl, f⟩
    · exact Or.inr ⟨rfl, f⟩
  show own_Fin p e below s (own_Q2 Z p1 h0 n0) ({ frames := 0, cells := 0, slots := 0, locals := 0 } : Room).cells ({ frames := 0, cells := 0, slots := 0, locals := 0 } : Room).slots (s₁.setTop (entryFrame m #[(.int p1)] 6))
  refine own_go (s₁.setTop (mkF m 0 #[.val (.int p1), .unset, .unset, .unset, .unset, .unset] [])) (fun t k => castTop (own_ef2 m p1) k) ?_
  refine own_go (s₁.setTop (mkF m 3 #[.val (.int p1), .unset, .unset, .unset, .unset, .unset] [(.long (287948969894477824 : Int64))])) (fun _ k => X0.ldc2Long hx hown (mvT hZ (hw _ (List.mem_of_getElem? (i := 8) rfl))) (g := (mkF m 0 #[.val (.int p1), .unset, .unset, .unset, .unset, .unset] [])) rfl (hb hby d2_0) _ k) ?_
  refine own_go (s₁.setTop (mkF m 4 #[.val (.int p1), .val (.long (287948969894477824 : Int64)), .second, .unset, .unset, .unset] [])) (fun _ k => XS.lstoreN X0.here hx rfl (hb hby d2_3) rfl (l' := #[.val (.int p1), .val (.long (287948969894477824 : Int64)), .second, .unset, .unset, .unset]) rfl k) ?_
  refine own_go (s₁.setTop (mkF m 7 #[.val (.int p1), .val (.long (287948969894477824 : Int64)), .second, .unset, .unset, .unset] [(.long (576460745995190270 : Int64))])) (fun _ k => X0.ldc2Long hx hown (mvT hZ (hw _ (List.mem_of_getElem? (i := 9) rfl))) (g := (mkF m 4 #[.val (.int p1), .val (.long (287948969894477824 : Int64)), .second, .unset, .unset, .unset] [])) rfl (hb hby d2_4) _ k) ?_
  refine own_go (s₁.setTop (mkF m 8 #[.val (.int p1), .val (.long (287948969894477824 : Int64)), .second, .val (.long (576460745995190270 : Int64)), .second, .unset] [])) (fun _ k => XS.lstoreN X0.here hx rfl (hb hby d2_7) rfl (l' := #[.val (.int p1), .val (.long (287948969894477824 : Int64)), .second, .val (.long (576460745995190270 : Int64)), .second, .unset]) rfl k) ?_
  refine own_go (s₁.setTop (mkF m 9 #[.val (.int p1), .val (.long (287948969894477824 : Int64)), .second, .val (.long (576460745995190270 : Int64)), .second, .unset] [(.int p1)])) (fun _ k => XS.iloadN X0.here hx rfl (hb hby d2_8) rfl k) ?_
  refine own_go (s₁.setTop (mkF m 11 #[.val (.int p1), .val (.long (287948969894477824 : Int64)), .second, .val (.long (576460745995190270 : Int64)), .second, .unset] [(.int (127 : Int32)), (.int p1)])) (fun _ k => XS.bipush X0.here hx rfl (hb hby d2_9) k) ?_
  by_cases hc11 : (127 : Int32) < p1
  · have hz11 : (127 < (p1).toInt) := own_zlt hc11 rfl rfl
    refine own_go (s₁.setTop (mkF m 14 #[.val (.int p1), .val (.long (287948969894477824 : Int64)), .second, .val (.long (576460745995190270 : Int64)), .second, .unset] [])) (fun _ k => XS.icmpNo X0.here hx rfl (hb hby d2_11) rfl (tlt hc11).2.2.2 k) ?_
    refine own_go (s₁.setTop (mkF m 15 #[.val (.int p1), .val (.long (287948969894477824 : Int64)), .second, .val (.long (576460745995190270 : Int64)), .second, .unset] [(.int (1 : Int32))])) (fun _ k => XS.iconst X0.here hx rfl (hb hby d2_14) k) ?_
    refine own_go (s₁.setTop (mkF m 17 #[.val (.int p1), .val (.long (287948969894477824 : Int64)), .second, .val (.long (576460745995190270 : Int64)), .second, .val (.int (1 : Int32))] [])) (fun _ k => XS.istore X0.here hx rfl (hb hby d2_15) rfl (l' := #[.val (.int p1), .val (.long (287948969894477824 : Int64)), .second, .val (.long (576460745995190270 : Int64)), .second, .val (.int (1 : Int32))]) rfl k) ?_
    refine own_go (s₁.setTop (mkF m 66 #[.val (.int p1), .val (.long (287948969894477824 : Int64)), .second, .val (.long (576460745995190270 : Int64)), .second, .val (.int (1 : Int32))] [])) (fun _ k => XS.goto X0.here hx rfl (pc0 := 17) (pc' := 66) rfl (hb hby d2_17) (by decide) (by decide) k) ?_
    refine J66 _ _ X0 e0 N0 _ ?_
    first | exact Or.inl ⟨rfl, by omega⟩ | exact Or.inr ⟨rfl, (own_low p1 (by omega)).mp hc33⟩ | exact Or.inl ⟨rfl, Classical.byContradiction fun q => hc33 ((own_low p1 (by omega)).mpr q)⟩ | exact Or.inr ⟨rfl, (own_high p1 (by omega)).mp hc56⟩ | exact Or.inl ⟨rfl, Classical.byContradiction fun q => hc56 ((own_high p1 (by omega)).mpr q)⟩
  · have hz11 : ¬ (127 < (p1).toInt) := own_znlt hc11 rfl rfl
    refine own_go (s₁.setTop (mkF m 20 #[.val (.int p1), .val (.long (287948969894477824 : Int64)), .second, .val (.long (576460745995190270 : Int64)), .second, .unset] [])) (fun _ k => XS.icmpYes X0.here hx rfl (pc0 := 11) (pc' := 20) rfl (hb hby d2_11) rfl (flt hc11).2.2.2 (by decide) (by decide) k) ?_
    refine own_go (s₁.setTop (mkF m 21 #[.val (.int p1), .val (.long (287948969894477824 : Int64)), .second, .val (.long (576460745995190270 : Int64)), .second, .unset] [(.int p1)])) (fun _ k => XS.iloadN X0.here hx rfl (hb hby d2_20) rfl k) ?_
    refine own_go (s₁.setTop (mkF m 23 #[.val (.int p1), .val (.long (287948969894477824 : Int64)), .second, .val (.long (576460745995190270 : Int64)), .second, .unset] [(.int (64 : Int32)), (.int p1)])) (fun _ k => XS.bipush X0.here hx rfl (hb hby d2_21) k) ?_
    by_cases hc23 : p1 < (64 : Int32)
    · have hz23 : ((p1).toInt < 64) := own_zlt hc23 rfl rfl
      refine own_go (s₁.setTop (mkF m 26 #[.val (.int p1), .val (.long (287948969894477824 : Int64)), .second, .val (.long (576460745995190270 : Int64)), .second, .unset] [])) (fun _ k => XS.icmpNo X0.here hx rfl (hb hby d2_23) rfl (tlt hc23).2.1 k) ?_
      refine own_go (s₁.setTop (mkF m 27 #[.val (.int p1), .val (.long (287948969894477824 : Int64)), .second, .val (.long (576460745995190270 : Int64)), .second, .unset] [(.long (287948969894477824 : Int64))])) (fun _ k => XS.lloadN X0.here hx rfl (hb hby d2_26) rfl k) ?_
      refine own_go (s₁.setTop (mkF m 28 #[.val (.int p1), .val (.long (287948969894477824 : Int64)), .second, .val (.long (576460745995190270 : Int64)), .second, .unset] [(.int p1), (.long (287948969894477824 : Int64))])) (fun _ k => XS.iloadN X0.here hx rfl (hb hby d2_27) rfl k) ?_
      refine own_go (s₁.setTop (mkF m 29 #[.val (.int p1), .val (.long (287948969894477824 : Int64)), .second, .val (.long (576460745995190270 : Int64)), .second, .unset] [(.long (((287948969894477824 : Int64).toUInt64 >>> (p1 &&& 0x3f).toInt64.toUInt64).toInt64))])) (fun _ k => XS.lushr X0.here hx rfl (hb hby d2_28) rfl k) ?_
      refine own_go (s₁.setTop (mkF m 30 #[.val (.int p1), .val (.long (287948969894477824 : Int64)), .second, .val (.long (576460745995190270 : Int64)), .second, .unset] [(.long (1 : Int64)), (.long (((287948969894477824 : Int64).toUInt64 >>> (p1 &&& 0x3f).toInt64.toUInt64).toInt64))])) (fun _ k => XS.lconst X0.here hx rfl (hb hby d2_29) k) ?_
      refine own_go (s₁.setTop (mkF m 31 #[.val (.int p1), .val (.long (287948969894477824 : Int64)), .second, .val (.long (576460745995190270 : Int64)), .second, .unset] [(.long ((((287948969894477824 : Int64).toUInt64 >>> (p1 &&& 0x3f).toInt64.toUInt64).toInt64) &&& (1 : Int64)))])) (fun _ k => XS.land X0.here hx rfl (hb hby d2_30) rfl k) ?_
      refine own_go (s₁.setTop (mkF m 32 #[.val (.int p1), .val (.long (287948969894477824 : Int64)), .second, .val (.long (576460745995190270 : Int64)), .second, .unset] [(.long (0 : Int64)), (.long ((((287948969894477824 : Int64).toUInt64 >>> (p1 &&& 0x3f).toInt64.toUInt64).toInt64) &&& (1 : Int64)))])) (fun _ k => XS.lconst X0.here hx rfl (hb hby d2_31) k) ?_
      refine own_go (s₁.setTop (mkF m 33 #[.val (.int p1), .val (.long (287948969894477824 : Int64)), .second, .val (.long (576460745995190270 : Int64)), .second, .unset] [(.int (lcmpW ((((287948969894477824 : Int64).toUInt64 >>> (p1 &&& 0x3f).toInt64.toUInt64).toInt64) &&& (1 : Int64)) (0 : Int64)))])) (fun _ k => XS.lcmp X0.here hx rfl (hb hby d2_32) rfl k) ?_
      by_cases hc33 : ((((287948969894477824 : Int64).toUInt64 >>> (p1 &&& 0x3f).toInt64.toUInt64).toInt64) &&& (1 : Int64)) = (0 : Int64)
      · have hz33 : ((((((287948969894477824 : Int64).toUInt64 >>> (p1 &&& 0x3f).toInt64.toUInt64).toInt64) &&& (1 : Int64))).toInt = 0) := own_zLeq hc33 rfl rfl
        refine own_go (s₁.setTop (mkF m 40 #[.val (.int p1), .val (.long (287948969894477824 : Int64)), .second, .val (.long (576460745995190270 : Int64)), .second, .unset] [])) (fun _ k => XS.ifYes X0.here hx rfl (pc0 := 33) (pc' := 40) rfl (hb hby d2_33) rfl ((if0 _ _).trans (teq ((lw_eq ((((287948969894477824 : Int64).toUInt64 >>> (p1 &&& 0x3f).toInt64.toUInt64).toInt64) &&& (1 : Int64)) (0 : Int64)).mpr hc33)).1) (by decide) (by decide) k) ?_
        refine own_go (s₁.setTop (mkF m 41 #[.val (.int p1), .val (.long (287948969894477824 : Int64)), .second, .val (.long (576460745995190270 : Int64)), .second, .unset] [(.int (0 : Int32))])) (fun _ k => XS.iconst X0.here hx rfl (hb hby d2_40) k) ?_
        refine own_go (s₁.setTop (mkF m 43 #[.val (.int p1), .val (.long (287948969894477824 : Int64)), .second, .val (.long (576460745995190270 : Int64)), .second, .val (.int (0 : Int32))] [])) (fun _ k => XS.istore X0.here hx rfl (hb hby d2_41) rfl (l' := #[.val (.int p1), .val (.long (287948969894477824 : Int64)), .second, .val (.long (576460745995190270 : Int64)), .second, .val (.int (0 : Int32))]) rfl k) ?_
        refine own_go (s₁.setTop (mkF m 66 #[.val (.int p1), .val (.long (287948969894477824 : Int64)), .second, .val (.long (576460745995190270 : Int64)), .second, .val (.int (0 : Int32))] [])) (fun _ k => XS.goto X0.here hx rfl (pc0 := 43) (pc' := 66) rfl (hb hby d2_43) (by decide) (by decide) k) ?_
        refine J66 _ _ X0 e0 N0 _ ?_
        first | exact Or.inl ⟨rfl, by omega⟩ | exact Or.inr ⟨rfl, (own_low p1 (by omega)).mp hc33⟩ | exact Or.inl ⟨rfl, Classical.byContradiction fun q => hc33 ((own_low p1 (by omega)).mpr q)⟩ | exact Or.inr ⟨rfl, (own_high p1 (by omega)).mp hc56⟩ | exact Or.inl ⟨rfl, Classical.byContradiction fun q => hc56 ((own_high p1 (by omega)).mpr q)⟩
      · have hz33 : ¬ ((((((287948969894477824 : Int64).toUInt64 >>> (p1 &&& 0x3f).toInt64.toUInt64).toInt64) &&& (1 : Int64))).toInt = 0) := own_zLneq hc33 rfl rfl
        refine own_go (s₁.setTop (mkF m 36 #[.val (.int p1), .val (.long (287948969894477824 : Int64)), .second, .val (.long (576460745995190270 : Int64)), .second, .unset] [])) (fun _ k => XS.ifNo X0.here hx rfl (hb hby d2_33) rfl ((if0 _ _).trans (feq (fun q => hc33 ((lw_eq ((((287948969894477824 : Int64).toUInt64 >>> (p1 &&& 0x3f).toInt64.toUInt64).toInt64) &&& (1 : Int64)) (0 : Int64)).mp q))).1) k) ?_
        refine own_go (s₁.setTop (mkF m 37 #[.val (.int p1), .val (.long (287948969894477824 : Int64)), .second, .val (.long (576460745995190270 : Int64)), .second, .unset] [(.int (1 : Int32))])) (fun _ k => XS.iconst X0.here hx rfl (hb hby d2_36) k) ?_
        refine own_go (s₁.setTop (mkF m 41 #[.val (.int p1), .val (.long (287948969894477824 : Int64)), .second, .val (.long (576460745995190270 : Int64)), .second, .unset] [(.int (1 : Int32))])) (fun _ k => XS.goto X0.here hx rfl (pc0 := 37) (pc' := 41) rfl (hb hby d2_37) (by decide) (by decide) k) ?_
        refine own_go (s₁.setTop (mkF m 43 #[.val (.int p1), .val (.long (287948969894477824 : Int64)), .second, .val (.long (576460745995190270 : Int64)), .second, .val (.int (1 : Int32))] [])) (fun _ k => XS.istore X0.here hx rfl (hb hby d2_41) rfl (l' := #[.val (.int p1), .val (.long (287948969894477824 : Int64)), .second, .val (.long (576460745995190270 : Int64)), .second, .val (.int (1 : Int32))]) rfl k) ?_
        refine own_go (s₁.setTop (mkF m 66 #[.val (.int p1), .val (.long (287948969894477824 : Int64)), .second, .val (.long (576460745995190270 : Int64)), .second, .val (.int (1 : Int32))] [])) (fun _ k => XS.goto X0.here hx rfl (pc0 := 43) (pc' := 66) rfl (hb hby d2_43) (by decide) (by decide) k) ?_
        refine J66 _ _ X0 e0 N0 _ ?_
        first | exact Or.inl ⟨rfl, by omega⟩ | exact Or.inr ⟨rfl, (own_low p1 (by omega)).mp hc33⟩ | exact Or.inl ⟨rfl, Classical.byContradiction fun q => hc33 ((own_low p1 (by omega)).mpr q)⟩ | exact Or.inr ⟨rfl, (own_high p1 (by omega)).mp hc56⟩ | exact Or.inl ⟨rfl, Classical.byContradiction fun q => hc56 ((own_high p1 (by omega)).mpr q)⟩
    · have hz23 : ¬ ((p1).toInt < 64) := own_znlt hc23 rfl rfl
      refine own_go (s₁.setTop (mkF m 46 #[.val (.int p1), .val (.long (287948969894477824 : Int64)), .second, .val (.long (576460745995190270 : Int64)), .second, .unset] [])) (fun _ k => XS.icmpYes X0.here hx rfl (pc0 := 23) (pc' := 46) rfl (hb hby d2_23) rfl (flt hc23).2.1 (by decide) (by decide) k) ?_
      refine own_go (s₁.setTop (mkF m 47 #[.val (.int p1), .val (.long (287948969894477824 : Int64)), .second, .val (.long (576460745995190270 : Int64)), .second, .unset] [(.long (576460745995190270 : Int64))])) (fun _ k => XS.lloadN X0.here hx rfl (hb hby d2_46) rfl k) ?_
      refine own_go (s₁.setTop (mkF m 48 #[.val (.int p1), .val (.long (287948969894477824 : Int64)), .second, .val (.long (576460745995190270 : Int64)), .second, .unset] [(.int p1), (.long (576460745995190270 : Int64))])) (fun _ k => XS.iloadN X0.here hx rfl (hb hby d2_47) rfl k) ?_
      refine own_go (s₁.setTop (mkF m 50 #[.val (.int p1), .val (.long (287948969894477824 : Int64)), .second, .val (.long (576460745995190270 : Int64)), .second, .unset] [(.int (64 : Int32)), (.int p1), (.long (576460745995190270 : Int64))])) (fun _ k => XS.bipush X0.here hx rfl (hb hby d2_48) k) ?_
      refine own_go (s₁.setTop (mkF m 51 #[.val (.int p1), .val (.long (287948969894477824 : Int64)), .second, .val (.long (576460745995190270 : Int64)), .second, .unset] [(.int (p1 - (64 : Int32))), (.long (576460745995190270 : Int64))])) (fun _ k => XS.isub X0.here hx rfl (hb hby d2_50) rfl k) ?_
      refine own_go (s₁.setTop (mkF m 52 #[.val (.int p1), .val (.long (287948969894477824 : Int64)), .second, .val (.long (576460745995190270 : Int64)), .second, .unset] [(.long (((576460745995190270 : Int64).toUInt64 >>> ((p1 - (64 : Int32)) &&& 0x3f).toInt64.toUInt64).toInt64))])) (fun _ k => XS.lushr X0.here hx rfl (hb hby d2_51) rfl k) ?_
      refine own_go (s₁.setTop (mkF m 53 #[.val (.int p1), .val (.long (287948969894477824 : Int64)), .second, .val (.long (576460745995190270 : Int64)), .second, .unset] [(.long (1 : Int64)), (.long (((576460745995190270 : Int64).toUInt64 >>> ((p1 - (64 : Int32)) &&& 0x3f).toInt64.toUInt64).toInt64))])) (fun _ k => XS.lconst X0.here hx rfl (hb hby d2_52) k) ?_
      refine own_go (s₁.setTop (mkF m 54 #[.val (.int p1), .val (.long (287948969894477824 : Int64)), .second, .val (.long (576460745995190270 : Int64)), .second, .unset] [(.long ((((576460745995190270 : Int64).toUInt64 >>> ((p1 - (64 : Int32)) &&& 0x3f).toInt64.toUInt64).toInt64) &&& (1 : Int64)))])) (fun _ k => XS.land X0.here hx rfl (hb hby d2_53) rfl k) ?_
      refine own_go (s₁.setTop (mkF m 55 #[.val (.int p1), .val (.long (287948969894477824 : Int64)), .second, .val (.long (576460745995190270 : Int64)), .second, .unset] [(.long (0 : Int64)), (.long ((((576460745995190270 : Int64).toUInt64 >>> ((p1 - (64 : Int32)) &&& 0x3f).toInt64.toUInt64).toInt64) &&& (1 : Int64)))])) (fun _ k => XS.lconst X0.here hx rfl (hb hby d2_54) k) ?_
      refine own_go (s₁.setTop (mkF m 56 #[.val (.int p1), .val (.long (287948969894477824 : Int64)), .second, .val (.long (576460745995190270 : Int64)), .second, .unset] [(.int (lcmpW ((((576460745995190270 : Int64).toUInt64 >>> ((p1 - (64 : Int32)) &&& 0x3f).toInt64.toUInt64).toInt64) &&& (1 : Int64)) (0 : Int64)))])) (fun _ k => XS.lcmp X0.here hx rfl (hb hby d2_55) rfl k) ?_
      by_cases hc56 : ((((576460745995190270 : Int64).toUInt64 >>> ((p1 - (64 : Int32)) &&& 0x3f).toInt64.toUInt64).toInt64) &&& (1 : Int64)) = (0 : Int64)
      · have hz56 : ((((((576460745995190270 : Int64).toUInt64 >>> ((p1 - (64 : Int32)) &&& 0x3f).toInt64.toUInt64).toInt64) &&& (1 : Int64))).toInt = 0) := own_zLeq hc56 rfl rfl
        refine own_go (s₁.setTop (mkF m 63 #[.val (.int p1), .val (.long (287948969894477824 : Int64)), .second, .val (.long (576460745995190270 : Int64)), .second, .unset] [])) (fun _ k => XS.ifYes X0.here hx rfl (pc0 := 56) (pc' := 63) rfl (hb hby d2_56) rfl ((if0 _ _).trans (teq ((lw_eq ((((576460745995190270 : Int64).toUInt64 >>> ((p1 - (64 : Int32)) &&& 0x3f).toInt64.toUInt64).toInt64) &&& (1 : Int64)) (0 : Int64)).mpr hc56)).1) (by decide) (by decide) k) ?_
        refine own_go (s₁.setTop (mkF m 64 #[.val (.int p1), .val (.long (287948969894477824 : Int64)), .second, .val (.long (576460745995190270 : Int64)), .second, .unset] [(.int (0 : Int32))])) (fun _ k => XS.iconst X0.here hx rfl (hb hby d2_63) k) ?_
        refine own_go (s₁.setTop (mkF m 66 #[.val (.int p1), .val (.long (287948969894477824 : Int64)), .second, .val (.long (576460745995190270 : Int64)), .second, .val (.int (0 : Int32))] [])) (fun _ k => XS.istore X0.here hx rfl (hb hby d2_64) rfl (l' := #[.val (.int p1), .val (.long (287948969894477824 : Int64)), .second, .val (.long (576460745995190270 : Int64)), .second, .val (.int (0 : Int32))]) rfl k) ?_
        refine J66 _ _ X0 e0 N0 _ ?_
        first | exact Or.inl ⟨rfl, by omega⟩ | exact Or.inr ⟨rfl, (own_low p1 (by omega)).mp hc33⟩ | exact Or.inl ⟨rfl, Classical.byContradiction fun q => hc33 ((own_low p1 (by omega)).mpr q)⟩ | exact Or.inr ⟨rfl, (own_high p1 (by omega)).mp hc56⟩ | exact Or.inl ⟨rfl, Classical.byContradiction fun q => hc56 ((own_high p1 (by omega)).mpr q)⟩
      · have hz56 : ¬ ((((((576460745995190270 : Int64).toUInt64 >>> ((p1 - (64 : Int32)) &&& 0x3f).toInt64.toUInt64).toInt64) &&& (1 : Int64))).toInt = 0) := own_zLneq hc56 rfl rfl
        refine own_go (s₁.setTop (mkF m 59 #[.val (.int p1), .val (.long (287948969894477824 : Int64)), .second, .val (.long (576460745995190270 : Int64)), .second, .unset] [])) (fun _ k => XS.ifNo X0.here hx rfl (hb hby d2_56) rfl ((if0 _ _).trans (feq (fun q => hc56 ((lw_eq ((((576460745995190270 : Int64).toUInt64 >>> ((p1 - (64 : Int32)) &&& 0x3f).toInt64.toUInt64).toInt64) &&& (1 : Int64)) (0 : Int64)).mp q))).1) k) ?_
        refine own_go (s₁.setTop (mkF m 60 #[.val (.int p1), .val (.long (287948969894477824 : Int64)), .second, .val (.long (576460745995190270 : Int64)), .second, .unset] [(.int (1 : Int32))])) (fun _ k => XS.iconst X0.here hx rfl (hb hby d2_59) k) ?_
        refine own_go (s₁.setTop (mkF m 64 #[.val (.int p1), .val (.long (287948969894477824 : Int64)), .second, .val (.long (576460745995190270 : Int64)), .second, .unset] [(.int (1 : Int32))])) (fun _ k => XS.goto X0.here hx rfl (pc0 := 60) (pc' := 64) rfl (hb hby d2_60) (by decide) (by decide) k) ?_
        refine own_go (s₁.setTop (mkF m 66 #[.val (.int p1), .val (.long (287948969894477824 : Int64)), .second, .val (.long (576460745995190270 : Int64)), .second, .val (.int (1 : Int32))] [])) (fun _ k => XS.istore X0.here hx rfl (hb hby d2_64) rfl (l' := #[.val (.int p1), .val (.long (287948969894477824 : Int64)), .second, .val (.long (576460745995190270 : Int64)), .second, .val (.int (1 : Int32))]) rfl k) ?_
        refine J66 _ _ X0 e0 N0 _ ?_
        first | exact Or.inl ⟨rfl, by omega⟩ | exact Or.inr ⟨rfl, (own_low p1 (by omega)).mp hc33⟩ | exact Or.inl ⟨rfl, Classical.byContradiction fun q => hc33 ((own_low p1 (by omega)).mpr q)⟩ | exact Or.inr ⟨rfl, (own_high p1 (by omega)).mp hc56⟩ | exact Or.inl ⟨rfl, Classical.byContradiction fun q => hc56 ((own_high p1 (by omega)).mpr q)⟩
theorem own_pn0 : plainName "com/example/cutover/cutover/gateway/SqlTextIdentifierPinLaw" = true := by first | (simp [plainName, overriddenIn]; done) | decide +kernel
theorem own_ef0 (m : MethodId) (p1 : Int32) : entryFrame m #[(.int p1)] maxLocals = (mkF m 0 #[.val (.int p1), .unset] []) := by first | (simp [entryFrame, mkF, argsToLocals, Value.category, maxLocals]; done) | rfl
def own_Q0 (Z : State) (p1 : Int32)  (h0 : Heap) (n0 : Nat) (v : Option Value) (h : Heap) (L : List Loc) : Prop := v = some (.int (1 : Int32)) ∧ Fr n0 L
set_option maxRecDepth 65536 in
set_option maxHeartbeats 40000000 in
theorem own_rm0 (l : Launch) (Z : State) (a0 : Array Value) (hw : ∀ d ∈ tables_1, d.before a0 Z = true) (ws : List Jvm.Cond) (p1 : Int32)  (h0 : Heap) (n0 : Nat) (Z0 : n0 ≤ h0.size) :
    MetFree l x (head1 (Jvm.Cond.code x code maxLocals ret :: ws) room_1) (fun a U => a = #[(.int p1)] ∧ Z.Warmed39 U.vm ∧ U.heap = h0) (fun _ _ _ _ _ => True) (fun _ U o U' => ∃ v L, o = .returned v ∧ own_Q0 Z p1 h0 n0 v U'.heap L ∧ FrameEnd U o U' L room_1.cells room_1.slots) := by
  refine MetFree.of_bodySF (plainFor_of_name own_pn0) hisR ?_
  intro p e s m args below meth c s₁ Bd hml0 hP hK
  obtain ⟨rfl, hZ, hh⟩ := hP
  have hx := Bd.exec
  have hby := Bd.bytes
  have hml : c.maxLocals = 2 := hml0
  have hown : s.vm.findClass "com/example/cutover/cutover/gateway/SqlTextIdentifierPinLaw" = some m.cls := findClass_of_methodNamed Bd.named
  have hnm := (name_of_methodNamed Bd.named Bd.method).1
  have X0 : Stand p l e room_1 s m #[(.int p1)] below meth c s₁ [] 0 0 := Stand.of_body Bd
  have e0 : s₁.heap = h0 := by rw [← hh, Bd.state]; rfl
  have N0 := Fr.nil n0
  show own_Fin p e below s (own_Q0 Z p1 h0 n0) room_1.cells room_1.slots (s₁.setTop (entryFrame m #[(.int p1)] maxLocals))
  refine own_go (s₁.setTop (mkF m 0 #[.val (.int p1), .unset] [])) (fun t k => castTop (own_ef0 m p1) k) ?_
  refine own_go (s₁.setTop (mkF m 1 #[.val (.int p1), .unset] [(.int p1)])) (fun _ k => XS.iloadN X0.here hx rfl (hb hby at_0) rfl k) ?_
  refine own_go (s₁.setTop (mkF m 2 #[.val (.int p1), .unset] [(.int (p1.toUInt32.toUInt16.toUInt32.toInt32))])) (fun _ k => XS.i2c X0.here hx rfl (hb hby at_1) rfl k) ?_
  refine own_go (s₁.setTop (mkF m 3 #[.val (.int p1), .val (.int (p1.toUInt32.toUInt16.toUInt32.toInt32))] [])) (fun _ k => XS.istoreN X0.here hx rfl (hb hby at_2) rfl (l' := #[.val (.int p1), .val (.int (p1.toUInt32.toUInt16.toUInt32.toInt32))]) rfl k) ?_
  refine own_go (s₁.setTop (mkF m 4 #[.val (.int p1), .val (.int (p1.toUInt32.toUInt16.toUInt32.toInt32))] [(.int (p1.toUInt32.toUInt16.toUInt32.toInt32))])) (fun _ k => XS.iloadN X0.here hx rfl (hb hby at_3) rfl k) ?_
  obtain ⟨_, _, ⟨T1, L1, k1, n1⟩, -, X1, ⟨Lc1, hQ1, l1, y1, z1⟩, st1⟩ := Jvm.LawKit.callS X0 hx (y := (⟨"com/example/cutover/cutover/gateway/SqlText", "identifier", "(C)Z"⟩ : MethodName)) hown (mvT hZ (hw _ (List.mem_of_getElem? (i := 0) rfl))) (mvT hZ (hw _ (List.mem_of_getElem? (i := 1) rfl))) (mvT hZ (hw _ (List.mem_of_getElem? (i := 2) rfl))) (mvT hZ (hw _ (List.mem_of_getElem? (i := 3) rfl))) (by decide) (backOf (W := 0) (own_rm1 l Z a0 hw [] (p1.toUInt32.toUInt16.toUInt32.toInt32) h0 n0 Z0) hZ (hw _ (List.mem_of_getElem? (i := 3) rfl)) (hw _ (List.mem_of_getElem? (i := 2) rfl)) (by decide) (by decide)) (g := (mkF m 4 #[.val (.int p1), .val (.int (p1.toUInt32.toUInt16.toUInt32.toInt32))] [(.int (p1.toUInt32.toUInt16.toUInt32.toInt32))])) rfl (by rw [hml]; rfl) (argsL := [(.int (p1.toUInt32.toUInt16.toUInt32.toInt32))]) (rest := []) (lenOf own_pd0 rfl) rfl (by show 2 * 0 + _ ≤ _; exact Nat.le_of_eq rfl) (hb hby at_4) (fun _ _ => ⟨rfl, e0, (by decide : 0 + 0 ≤ _), (by decide : 0 + 0 ≤ _)⟩)
  dsimp only [Pt.U, Pt.locs, Pt.cells, Pt.slots] at X1 l1 y1 z1 st1 hQ1
  subst l1 y1 z1
  obtain ⟨b1, rfl, N1q, e1, B1⟩ := hQ1
  have N1 := Fr.app N0 N1q
  refine own_go (T1.setTop (mkF m 7 #[.val (.int p1), .val (.int (p1.toUInt32.toUInt16.toUInt32.toInt32))] [(.int b1)])) (fun _ k => st1 _ k) ?_
  refine own_go (T1.setTop (mkF m 8 #[.val (.int p1), .val (.int (p1.toUInt32.toUInt16.toUInt32.toInt32))] [(.int (p1.toUInt32.toUInt16.toUInt32.toInt32)), (.int b1)])) (fun _ k => XS.iloadN X1.here hx rfl (hb hby at_7) rfl k) ?_
  obtain ⟨_, _, ⟨T2, L2, k2, n2⟩, -, X2, ⟨Lc2, hQ2, l2, y2, z2⟩, st2⟩ := Jvm.LawKit.callS X1 hx (y := (⟨"com/example/cutover/cutover/gateway/SqlTextIdentifierPinLaw", "expected", "(C)Z"⟩ : MethodName)) hown (mvT hZ (hw _ (List.mem_of_getElem? (i := 4) rfl))) (mvT hZ (hw _ (List.mem_of_getElem? (i := 5) rfl))) (mvT hZ (hw _ (List.mem_of_getElem? (i := 6) rfl))) (mvT hZ (hw _ (List.mem_of_getElem? (i := 7) rfl))) (by decide) (backOf (W := 1) (own_rm2 l Z a0 hw [] (p1.toUInt32.toUInt16.toUInt32.toInt32) h0 n0 Z0 (c_i2c p1).2) hZ (hw _ (List.mem_of_getElem? (i := 7) rfl)) (hw _ (List.mem_of_getElem? (i := 6) rfl)) (by decide) (by decide)) (g := (mkF m 8 #[.val (.int p1), .val (.int (p1.toUInt32.toUInt16.toUInt32.toInt32))] [(.int (p1.toUInt32.toUInt16.toUInt32.toInt32)), (.int b1)])) rfl (by rw [hml]; rfl) (argsL := [(.int (p1.toUInt32.toUInt16.toUInt32.toInt32))]) (rest := [(.int b1)]) (lenOf own_pd0 rfl) rfl (by show 2 * 0 + _ ≤ _; exact Nat.le_of_eq rfl) (hb hby at_8) (fun _ _ => ⟨rfl, e1, (by decide : 0 + 0 ≤ _), (by decide : 0 + 0 ≤ _)⟩)
  dsimp only [Pt.U, Pt.locs, Pt.cells, Pt.slots] at X2 l2 y2 z2 st2 hQ2
  subst l2 y2 z2
  obtain ⟨b2, rfl, N2q, e2, B2⟩ := hQ2
  have N2 := Fr.app N1 N2q
  refine own_go (T2.setTop (mkF m 11 #[.val (.int p1), .val (.int (p1.toUInt32.toUInt16.toUInt32.toInt32))] [(.int b2), (.int b1)])) (fun _ k => st2 _ k) ?_
  by_cases hc11 : b1 = b2
  · have hz11 : ((b1).toInt = (b2).toInt) := own_zeq hc11 rfl rfl
    refine own_go (T2.setTop (mkF m 14 #[.val (.int p1), .val (.int (p1.toUInt32.toUInt16.toUInt32.toInt32))] [])) (fun _ k => XS.icmpNo X2.here hx rfl (hb hby at_11) rfl (teq hc11).2 k) ?_
    refine own_go (T2.setTop (mkF m 15 #[.val (.int p1), .val (.int (p1.toUInt32.toUInt16.toUInt32.toInt32))] [(.int (1 : Int32))])) (fun _ k => XS.iconst X2.here hx rfl (hb hby at_14) k) ?_
    refine own_go (T2.setTop (mkF m 19 #[.val (.int p1), .val (.int (p1.toUInt32.toUInt16.toUInt32.toInt32))] [(.int (1 : Int32))])) (fun _ k => XS.goto X2.here hx rfl (pc0 := 15) (pc' := 19) rfl (hb hby at_15) (by decide) (by decide) k) ?_
    refine own_ret X2 (BodyLoose.notSynchronized Bd) (some (.int (1 : Int32))) (fun h => by rw [Bd.returns] at h; cases h) (fun fs hr => retN X2 hx (t := .boolean) Bd.returns (by simp) (hb hby at_19) hr) (by decide) (by decide) ?_
    exact ⟨rfl, N2⟩
  · have hz11 : ¬ ((b1).toInt = (b2).toInt) := own_zneq hc11 rfl rfl
    exact absurd (by rcases B1 with ⟨rfl, f⟩ | ⟨rfl, f⟩ <;> rcases B2 with ⟨rfl, g⟩ | ⟨rfl, g⟩ <;> first | rfl | exact absurd f g | exact absurd g f) hc11
set_option maxRecDepth 65536 in
set_option maxHeartbeats 40000000 in
theorem own_comes {Post : Tables → Env → Array Value → State → Outcome → State → Prop} (hpost : ∀ tb e args s v u, (limb_1_1.after args s (.returned v) u = true ∧ limb_1_2.after args s (.returned v) u = true ∧ True) → FrameEnd s (.returned v) u (Jvm.fieldLocs frame_1_writes args s ++ Jvm.arrayLocs frame_1_arrays args s ++ Jvm.staticLocs frame_1_statics s) 0 0 → Post tb e args s (.returned v) u) :
    ArmFor flags0 classFile x code maxLocals ret World_1 tables_1 room_1 Calls_1 rest_1 Pre_1 Post := by
  intro l hfl _ _ p e ha hc hk s m args below hf hA hF happ hP
  obtain ⟨hcalls, hrest, hpre⟩ := hP
  obtain ⟨-, -, -, hnamed, -, -, -, hat⟩ := (Spec.applies_iff hf).mp happ
  obtain ⟨hg, hn⟩ := and_e (Cond.before_iff.mp (show (Jvm.Cond.and given_1 narrow_1).before args s = true from hpre))
  obtain ⟨hq0, hr0⟩ := and_e hg
  obtain ⟨w0, rfl⟩ : ∃ w0 : Value, args = #[w0] := by
    have hs : args.size = 1 := by simpa [Cond.value, given_1] using hq0
    obtain ⟨L⟩ := args
    match L, hs with
    | [w0], _ => exact ⟨w0, rfl⟩
  have hw := fun d (hd : d ∈ tables_1) => atoms_spec (ws := Jvm.Cond.code x code maxLocals ret :: tables_1) hat d (List.mem_cons_of_mem _ hd)
  have hfit : Fit s := fun {y c} hc i hi => by
    obtain ⟨ha, rfl⟩ := Array.getElem?_eq_some_iff.mp hc
    have q := List.all_eq_true.mp ((Array.all_eq_true_iff_forall_mem.mp hF) _ (Array.getElem_mem ha)) i (List.mem_range.mpr hi)
    simpa [Array.getElem?_eq_getElem hi] using q
  obtain ⟨i0, ei0⟩ := is_v hr0
  obtain rfl : w0 = (.int i0) := Option.some.inj ei0
  obtain ⟨n, o, h1, h2, h3, _, L, rfl, ⟨rfl, N⟩, hq⟩ := own_rm0 l s _ hw tables_1 i0 s.heap s.heap.size (Nat.le_refl _) p e ha hc hk s m _ below hf ((Spec.applies_iff_loose hf).mp happ).1 ⟨rfl, State.Warmed39.refl s, rfl⟩ trivial
  refine ⟨n, _, h1, h2, h3, hpost _ _ _ _ _ _ ⟨Cond.after_iff.mpr rfl, Cond.after_iff.mpr (eq_i res_at (Term.int_eval (1)) rfl), trivial⟩ ⟨hq.1, hq.2.1, (hq.2.2.sift fun y hy => Or.inr (N y hy)).mono (by decide) (by decide)⟩⟩
theorem main_1_1 : Claimed_1_1 := own_comes fun _ _ _ _ _ _ h hF => ⟨h.1, hF⟩
theorem main_1_2 : Claimed_1_2 := own_comes fun _ _ _ _ _ _ h hF => ⟨h.2.1, hF⟩
end Jvm.Pilot.@@N@@
namespace Jvm.Pilot.@@N@@
open Jvm Jvm.ClassFile Sem Op Lib Jvm.Free Jvm.Stand Jvm.Pilot.@@N@@.Jvm.D
/-! MADE BY PROGRAM (witnessworld.py) out of the Statement's table words and the real class files: 9 classes; the members and pool entries that the words name. The judged class is class 1, her method 2. -/
namespace start1
open Jvm.ClassFile
def u (s : String) : CpInfo := .utf8 (stringToUtf16 s)
/-- a pool by its gaps: so many unusable entries, then the entry; so many at the end -/
def gap : Nat → List CpInfo → List CpInfo
  | 0, r => r
  | n + 1, r => .unusable :: gap n r
def poolList (es : List (Nat × CpInfo)) (last : Nat) : List CpInfo := es.foldr (fun e r => gap e.1 (e.2 :: r)) (gap last [])
def pool (es : List (Nat × CpInfo)) (last : Nat) : Array CpInfo := ⟨poolList es last⟩
def fileOf (pool : Array CpInfo) (this : Nat) (attrs : Array Attribute := #[]) (ms : Array MethodInfo := #[]) (fl : Nat := 33) (sup : Nat := 0) (ifs : Array Nat := #[]) (fds : Array FieldInfo := #[]) : ClassFile where
  minorVersion := 0
  majorVersion := 65
  constantPool := pool
  accessFlags := fl
  thisClass := this
  superClass := sup
  interfaces := ifs
  fields := fds
  methods := ms
  attributes := attrs
def plain (name : String) (sup : Option ClassId) : Class where
  name := name
  kind := .ordinary
  loader := none
  accessFlags := 33
  super := sup
  interfaces := #[]
  cf := none
  fields := #[]
  methods := #[]
  instanceTypes := #[]
  staticTypes := #[]
  resolved := #[]
  callSites := []
  init := .initialized
  statics := none
  mirror := none

def pool0 : Array CpInfo := pool [(5, u "<init>"), (0, u "()V"), (1, .class_ 10), (1, u "java/lang/Object")] 113

def k0m0 : Method := { name := "<init>", desc := "()V", sig := { parameters := [], returnType := none }, accessFlags := 1, code := none }
/-- java/lang/Object -/
def k0 : Class := { plain "java/lang/Object" none with
  accessFlags := 33
  interfaces := #[]
  cf := some (fileOf pool0 8 #[] #[{ accessFlags := 1, nameIndex := 5, descriptorIndex := 6, attributes := #[] }] 33 0 #[] #[])
  fields := #[]
  methods := #[k0m0]
  instanceTypes := #[]
  staticTypes := #[]
  resolved := Array.replicate 124 none
  statics := none }

def pool1 : Array CpInfo := pool [(2, .class_ 4), (1, u "java/lang/Object"), (0, u "<init>"), (0, u "()V"), (0, .long 287948969894477824), (1, .long 576460745995190270), (1, .methodref 12 13), (0, .class_ 14), (0, .nameAndType 15 16), (0, u "com/example/cutover/cutover/gateway/SqlText"), (0, u "identifier"), (0, u "(C)Z"), (0, .methodref 18 19), (0, .class_ 20), (0, .nameAndType 21 16), (0, u "com/example/cutover/cutover/gateway/SqlTextIdentifierPinLaw"), (0, u "expected"), (3, u "law"), (0, u "(I)Z")] 2

def k1m0 : Method := { name := "<init>", desc := "()V", sig := { parameters := [], returnType := none }, accessFlags := 2, code := none }
def k1c1 : Code := { maxStack := 4, maxLocals := 6, code := method_2_code, exceptionTable := #[], attributes := #[] }
def k1m1 : Method := { name := "expected", desc := "(C)Z", sig := { parameters := [.char], returnType := some .boolean }, accessFlags := 10, code := some k1c1 }
def k1c2 : Code := { maxStack := 2, maxLocals := 2, code := code, exceptionTable := #[], attributes := #[] }
def k1m2 : Method := { name := "law", desc := "(I)Z", sig := { parameters := [.int], returnType := some .boolean }, accessFlags := 9, code := some k1c2 }
/-- com/example/cutover/cutover/gateway/SqlTextIdentifierPinLaw -/
def k1 : Class := { plain "com/example/cutover/cutover/gateway/SqlTextIdentifierPinLaw" (some 0) with
  accessFlags := 49
  interfaces := #[]
  cf := some (fileOf pool1 18 #[] #[{ accessFlags := 2, nameIndex := 5, descriptorIndex := 6, attributes := #[] }, { accessFlags := 10, nameIndex := 21, descriptorIndex := 16, attributes := #[] }, { accessFlags := 9, nameIndex := 25, descriptorIndex := 26, attributes := #[] }] 49 2 #[] #[])
  fields := #[]
  methods := #[k1m0, k1m1, k1m2]
  instanceTypes := #[]
  staticTypes := #[]
  resolved := Array.replicate 29 none
  statics := none }

def pool2 : Array CpInfo := pool [(2, .class_ 4), (1, u "java/lang/Object"), (0, u "<init>"), (0, u "()V"), (15, u "(C)Z"), (22, .class_ 47), (1, u "com/example/cutover/cutover/gateway/SqlText"), (10, u "identifier")] 61

def k2m0 : Method := { name := "<init>", desc := "()V", sig := { parameters := [], returnType := none }, accessFlags := 2, code := none }
def k2c1 : Code := { maxStack := 2, maxLocals := 1, code := prog_94_method_6_code, exceptionTable := #[], attributes := #[] }
def k2m1 : Method := { name := "identifier", desc := "(C)Z", sig := { parameters := [.char], returnType := some .boolean }, accessFlags := 8, code := some k2c1 }
/-- com/example/cutover/cutover/gateway/SqlText -/
def k2 : Class := { plain "com/example/cutover/cutover/gateway/SqlText" (some 0) with
  accessFlags := 48
  interfaces := #[]
  cf := some (fileOf pool2 45 #[] #[{ accessFlags := 2, nameIndex := 5, descriptorIndex := 6, attributes := #[] }, { accessFlags := 8, nameIndex := 58, descriptorIndex := 22, attributes := #[] }] 48 2 #[] #[])
  fields := #[]
  methods := #[k2m0, k2m1]
  instanceTypes := #[]
  staticTypes := #[]
  resolved := Array.replicate 120 none
  statics := none }

def pool3 : Array CpInfo := pool [(1, u "java/lang/Cloneable"), (0, .class_ 1), (0, u "java/lang/Object"), (0, .class_ 3)] 3

/-- java/lang/Cloneable -/
def k3 : Class := { plain "java/lang/Cloneable" (some 0) with
  accessFlags := 1537
  interfaces := #[]
  cf := some (fileOf pool3 2 #[] #[] 1537 4 #[] #[])
  fields := #[]
  methods := #[]
  instanceTypes := #[]
  staticTypes := #[]
  resolved := Array.replicate 8 none
  statics := none }

def pool4 : Array CpInfo := pool [(1, u "java/io/Serializable"), (0, .class_ 1), (0, u "java/lang/Object"), (0, .class_ 3)] 3

/-- java/io/Serializable -/
def k4 : Class := { plain "java/io/Serializable" (some 0) with
  accessFlags := 1537
  interfaces := #[]
  cf := some (fileOf pool4 2 #[] #[] 1537 4 #[] #[])
  fields := #[]
  methods := #[]
  instanceTypes := #[]
  staticTypes := #[]
  resolved := Array.replicate 8 none
  statics := none }

/-- the primitive byte -/
def k5 : Class := { plain "byte" none with kind := .primitive 'B', accessFlags := 0x411 }
/-- [B -/
def k6 : Class := { plain "[B" (some 0) with kind := .array 5 .byte, interfaces := #[3, 4], accessFlags := 1041 }

/-- the primitive int -/
def k7 : Class := { plain "int" none with kind := .primitive 'I', accessFlags := 0x411 }
/-- [I -/
def k8 : Class := { plain "[I" (some 0) with kind := .array 7 .int, interfaces := #[3, 4], accessFlags := 1041 }

def heap : Heap := #[]
def classes : Array Class := #[k0, k1, k2, k3, k4, k5, k6, k7, k8]
def interned : List (Array UInt16 × Addr) := []
def slotsUsed : Nat := 0
def theMethod : MethodId := ⟨1, 2⟩
def args0 : Array Value := #[.int 65]
def aboutOver (below : List Frame) : State where
  vm := { classes := classes, interned := interned.toArray }
  heap := heap
  slotsUsed := slotsUsed
  threads := #[{ frames := .invoking theMethod args0 :: below }]
def below0 : List Frame := [.native { method := ⟨0, 0⟩, args := #[] }]
def about1 : State := aboutOver below0
def p0 : Program := .bare "" "" ""
def e0 : Env := launch0.env 0 0 0
theorem w_frames : about1.frames = Frame.invoking theMethod args0 :: below0 := rfl
set_option maxRecDepth 65536 in
theorem w_args : argsFit about1.vm theMethod args0 = true := by decide +kernel
set_option maxRecDepth 65536 in
theorem w_heap : heapFits about1 = true := by decide +kernel
set_option maxRecDepth 65536 in
theorem w_runnable : about1.curStatus? = some .runnable := by decide +kernel
set_option maxRecDepth 65536 in
theorem w_alone : about1.alone = true := by decide +kernel
set_option maxRecDepth 65536 in
theorem w_named : about1.methodNamed? x = some theMethod := by decide +kernel
set_option maxRecDepth 65536 in
theorem w_hears : about1.hears theMethod below0 = true := by decide +kernel
set_option maxRecDepth 65536 in
theorem w_ripe : about1.ripe theMethod args0 below0 = true := by decide +kernel
theorem w_running : about1.status = .running := rfl
set_option maxRecDepth 65536 in
theorem w_room : about1.hasRoom e0.platform room_1 = true :=
  launch0.hasRoom_least _ room_1 (by decide +kernel) (by decide +kernel) (by decide +kernel) (by decide +kernel) (by decide +kernel) (by decide +kernel)
theorem allAtoms_all (ts : List Jvm.Cond) (a : Array Jvm.Value) (st : Jvm.State) : (allAtoms ts).before a st = ts.all (fun c => c.before a st) := by
  induction ts with
  | nil => rfl
  | cons c t ih =>
    show (Jvm.Cond.and c (allAtoms t)).before a st = _
    rw [Jvm.Cond.before_and, ih, List.all_cons]
def words1 : List Jvm.Cond := Jvm.Cond.code x code maxLocals ret :: tables_1
/-- a 'code' word, met by the world's own term for the bytes: nothing is compared byte by byte -/
theorem code_word {y : MethodName} {bytes : ByteArray} {mx : Nat} {rt : Option FieldType} {a : Array Value} {s : State} {m : MethodId} {meth : Method} {c : Code} (h1 : s.methodNamed? y = some m) (h2 : s.vm.method? m = some meth) (h3 : meth.code = some c) (h4 : c.code = bytes)
    (h5 : (c.maxLocals == mx && c.exceptionTable.isEmpty && decide (c.maxStack ≤ mostOperands) && decide (meth.sig.returnType = rt) && !meth.locks && decide (parseMethodDescriptor y.desc = some meth.sig)) = true) : (Jvm.Cond.code y bytes mx rt).before a s = true := by
  simp only [Bool.and_eq_true, beq_iff_eq, Bool.not_eq_true', decide_eq_true_eq] at h5
  obtain ⟨⟨⟨⟨⟨g1, g2⟩, g3⟩, g4⟩, g5⟩, g6⟩ := h5
  simp [Cond.before, Cond.holds, Cond.value, h1, h2, h3, h4, g1, g2, g3, g4, g5, g6]
def isCode : Jvm.Cond → Bool
  | .code _ _ _ _ => true
  | _ => false
theorem all_split {L : List Jvm.Cond} {P : Jvm.Cond → Bool} (h1 : L.all (fun c => isCode c || P c) = true) (h2 : ∀ c ∈ L.filter isCode, P c = true) : L.all P = true := by
  refine List.all_eq_true.mpr fun c hc => ?_
  have h := List.all_eq_true.mp h1 c hc
  rcases Bool.eq_false_or_eq_true (isCode c) with hi | hi
  · exact h2 c (List.mem_filter.mpr ⟨hc, hi⟩)
  · simpa [hi] using h
set_option maxRecDepth 65536 in
theorem w_c0 : (Jvm.Cond.code x code maxLocals ret).before args0 about1 = true := code_word (m := ⟨1, 2⟩) (meth := k1m2) (c := k1c2) (by decide +kernel) rfl rfl rfl (by decide +kernel)
set_option maxRecDepth 65536 in
theorem w_c1 : (Jvm.Cond.code ({ cls := "com/example/cutover/cutover/gateway/SqlText", name := "identifier", desc := "(C)Z" } : Jvm.MethodName) prog_94_method_6_code (1 : Nat) (Option.some Jvm.ClassFile.FieldType.boolean)).before args0 about1 = true := code_word (m := ⟨2, 1⟩) (meth := k2m1) (c := k2c1) (by decide +kernel) rfl rfl rfl (by decide +kernel)
set_option maxRecDepth 65536 in
theorem w_c2 : (Jvm.Cond.code ({ cls := "com/example/cutover/cutover/gateway/SqlTextIdentifierPinLaw", name := "expected", desc := "(C)Z" } : Jvm.MethodName) method_2_code (6 : Nat) (Option.some Jvm.ClassFile.FieldType.boolean)).before args0 about1 = true := code_word (m := ⟨1, 1⟩) (meth := k1m1) (c := k1c1) (by decide +kernel) rfl rfl rfl (by decide +kernel)
def codes1 : List Jvm.Cond := [Jvm.Cond.code x code maxLocals ret, Jvm.Cond.code ({ cls := "com/example/cutover/cutover/gateway/SqlText", name := "identifier", desc := "(C)Z" } : Jvm.MethodName) prog_94_method_6_code (1 : Nat) (Option.some Jvm.ClassFile.FieldType.boolean), Jvm.Cond.code ({ cls := "com/example/cutover/cutover/gateway/SqlTextIdentifierPinLaw", name := "expected", desc := "(C)Z" } : Jvm.MethodName) method_2_code (6 : Nat) (Option.some Jvm.ClassFile.FieldType.boolean)]
set_option maxRecDepth 65536 in
theorem codes_eq : words1.filter isCode = codes1 := rfl
theorem w_codes : ∀ c ∈ words1.filter isCode, c.before args0 about1 = true := by
  rw [codes_eq]
  intro c hc
  simp only [codes1, List.mem_cons, List.not_mem_nil, or_false] at hc
  rcases hc with rfl | rfl | rfl
  · exact w_c0
  · exact w_c1
  · exact w_c2
set_option maxRecDepth 65536 in
theorem w_t1 : words1.all (fun c => isCode c || c.before args0 about1) = true := by decide +kernel
theorem w_tables : (allAtoms (Jvm.Cond.code x code maxLocals ret :: tables_1)).before args0 about1 = true := by
  rw [allAtoms_all]
  show words1.all (fun c => c.before args0 about1) = true
  refine all_split ?_ w_codes
  rw [w_t1]
set_option maxRecDepth 65536 in
theorem w_case : (Jvm.Cond.and given_1 narrow_1).before args0 about1 = true := by decide +kernel
theorem w_applies : (headSpec (Jvm.Cond.code x code maxLocals ret :: tables_1) room_1).applies x e0.platform about1 = true :=
  (Spec.applies_iff w_frames).mpr ⟨w_running, w_runnable, w_alone, w_named, w_hears, w_ripe, w_room, w_tables⟩
theorem atStart : AtStart classFile x code maxLocals ret World_1 tables_1 room_1 Calls_1 rest_1 Pre_1 launch0 p0 e0 about1 theMethod args0 below0 :=
  ⟨lists_1, trivial, launch0.admits_env _ _ _, launch0.least_env, fairChoices_fair.cas, fairChoices_fair.clock, w_frames, w_args, w_heap, w_applies, trivial, trivial, w_case⟩
end start1
theorem witness_1 : WitnessClaimed_1 := ⟨start1.p0, start1.e0, start1.about1, start1.theMethod, start1.args0, start1.below0, start1.atStart⟩
end Jvm.Pilot.@@N@@
