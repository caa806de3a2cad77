import JvmDerived
import JvmDerived.Pilot.@@N@@Statement
import JvmDerived.Pilot.@@N@@Code
set_option linter.unusedVariables false
set_option linter.unusedSimpArgs false
namespace Jvm.RoadKit
open Sem ClassFile Op Lib Jvm.Stand Jvm.Free Jvm.LawKit
section New
variable {p : Program} {l : Launch} {e : Env} {R : Room} {s : State} {m : MethodId} {args : Array Value} {below : List Frame} {meth : Method} {c : Code} {T : State} {locs : List Loc} {cells slots k n : Nat} {Q : Option Value → Heap → List Loc → Prop}
theorem retI (X : Stand p l e R s m args below meth c T locs cells slots) (hx : p.tables.exec = Jvm.exec) {pc : Nat} {Ls : Array Slot} {z : Int32} {rest : List Value} (hret : meth.sig.returnType = some .int) (hd : decode c.code pc = .ok (.ireturn, 1)) {fs : List Frame}
    (hl : ∀ (f : JFrame) (acts : List Action), f.method = m → f.locked = none → f.entered = [] → (doReturn e (T.setTop f) acts (some (.int z))).1 = T.setFrames fs) : Steps p.tables e below (T.setTop (mkF m pc Ls (.int z :: rest))) (T.setFrames fs) := by
  have hm' : T.vm.method? m = some meth := X.method'
  have hn : narrow .int (.int z) = .int z := rfl
  show Steps p.tables e below (T.setTop { method := m, pc := pc, locals := Ls, stack := _ :: rest, locked := none }) _
  jvm_step X.here [X.here.top, hx, hd, hm', hret, hn]
  first | (intro acts; rw [hl _ acts rfl rfl rfl]) | rw [hl _ _ rfl rfl rfl]
  exact Steps.refl _
/-- from S0 the run comes to a return that leaves what Q says -/
def own_Fin (p : Program) (e : Env) (below : List Frame) (s : State) (Q : Option Value → Heap → List Loc → Prop) (k n : Nat) (S0 : State) : Prop :=
  ∃ s₂ o, Steps p.tables e below S0 s₂ ∧ s₂.status = .running ∧ Ended s₂ below o ∧ ∃ v L, o = .returned v ∧ Q v s₂.heap L ∧ FrameEnd s o s₂ L k n
theorem own_go {S0 : State} (S1 : State) (h : ∀ t, Steps p.tables e below S1 t → Steps p.tables e below S0 t) (q : own_Fin p e below s Q k n S1) : own_Fin p e below s Q k n S0 := by
  obtain ⟨s₂, o, h1, h2⟩ := q
  exact ⟨s₂, o, h _ h1, h2⟩
theorem own_ret (X : Stand p l e R s m args below meth c T locs cells slots) (hlocks : meth.locks = false) (v : Option Value) (hv : meth.sig.returnType = none → v = none) {g : JFrame}
    (hs : ∀ fs, (∀ (f : JFrame) (acts : List Action), f.method = m → f.locked = none → f.entered = [] → (doReturn e (T.setTop f) acts v).1 = T.setFrames fs) → Steps p.tables e below (T.setTop g) (T.setFrames fs))
    (hk : cells ≤ k) (hn : slots ≤ n) (hQ : Q v T.heap locs) : own_Fin p e below s Q k n (T.setTop g) := by
  obtain ⟨fs, hr, hrun, hended, hW, hsame⟩ := X.leave (v := v) hv hlocks
  exact ⟨_, _, hs fs hr, hrun, hended, _, _, rfl, hQ, ⟨_, rfl⟩, hW, hsame.mono hk hn⟩
theorem own_zlt {x y : Int32} {a b : Int} (h : x < y) (hx : x.toInt = a) (hy : y.toInt = b) : a < b := by rw [← hx, ← hy]; exact Int32.lt_iff_toInt_lt.mp h
theorem own_znlt {x y : Int32} {a b : Int} (h : ¬ x < y) (hx : x.toInt = a) (hy : y.toInt = b) : ¬ a < b := by rw [← hx, ← hy]; exact fun q => h (Int32.lt_iff_toInt_lt.mpr q)
theorem own_zeq {x y : Int32} {a b : Int} (h : x = y) (hx : x.toInt = a) (hy : y.toInt = b) : a = b := by rw [← hx, ← hy, h]
theorem own_zneq {x y : Int32} {a b : Int} (h : ¬ x = y) (hx : x.toInt = a) (hy : y.toInt = b) : ¬ a = b := by rw [← hx, ← hy]; exact fun q => h (Int32.toInt_inj.mp q)
theorem own_zLlt {x y : Int64} {a b : Int} (h : x < y) (hx : x.toInt = a) (hy : y.toInt = b) : a < b := by rw [← hx, ← hy]; exact Int64.lt_iff_toInt_lt.mp h
theorem own_zLnlt {x y : Int64} {a b : Int} (h : ¬ x < y) (hx : x.toInt = a) (hy : y.toInt = b) : ¬ a < b := by rw [← hx, ← hy]; exact fun q => h (Int64.lt_iff_toInt_lt.mpr q)
theorem own_zLeq {x y : Int64} {a b : Int} (h : x = y) (hx : x.toInt = a) (hy : y.toInt = b) : a = b := by rw [← hx, ← hy, h]
theorem own_zLneq {x y : Int64} {a b : Int} (h : ¬ x = y) (hx : x.toInt = a) (hy : y.toInt = b) : ¬ a = b := by rw [← hx, ← hy]; exact fun q => h (Int64.toInt_inj.mp q)
end New
end Jvm.RoadKit
namespace Jvm.Pilot.@@N@@
open Jvm Jvm.ClassFile Sem Op Lib Jvm.Free Jvm.Stand Jvm.LawKit Jvm.RoadKit Bundle Jvm.Pilot.@@N@@.Jvm.D
theorem own_pd0 : parseMethodDescriptor "(C)Z" = some ⟨[.char], some .boolean⟩ := by decide +kernel

theorem own_or32 (n : Nat) : (n ||| 32 = n ∧ 32 ≤ n % 64) ∨ (n ||| 32 = n + 32 ∧ n % 64 < 32) := by
  have hr : n % 64 < 64 := Nat.mod_lt _ (by decide)
  have h1 : n = 2 ^ 6 * (n / 64) ||| n % 64 := by
    rw [← Nat.two_pow_add_eq_or_of_lt (i := 6) hr]; omega
  have h2 : ∀ r : Fin 64, (r.val ||| 32 = r.val ∧ 32 ≤ r.val) ∨ (r.val ||| 32 = r.val + 32 ∧ r.val < 32) := by decide +kernel
  have h3 : n ||| 32 = 2 ^ 6 * (n / 64) ||| (n % 64 ||| 32) := by
    conv => lhs; rw [h1]
    rw [Nat.or_assoc]
  have h4 := h2 ⟨n % 64, hr⟩
  dsimp only at h4
  have h5 : n % 64 ||| 32 < 64 := by omega
  rw [← Nat.two_pow_add_eq_or_of_lt (i := 6) h5] at h3
  omega
theorem own_or (c : Int32) (h0 : 0 ≤ c.toInt) (h1 : c.toInt < 65536) : ((c ||| 32).toInt = c.toInt ∧ 32 ≤ c.toInt % 64) ∨ ((c ||| 32).toInt = c.toInt + 32 ∧ c.toInt % 64 < 32) := by
  have e1 : (c ||| 32).toBitVec.toNat = c.toBitVec.toNat ||| 32 := by
    show (c.toBitVec ||| (32 : Int32).toBitVec).toNat = _
    rw [BitVec.toNat_or]; rfl
  have q1 : c.toBitVec.toInt = c.toInt := rfl
  have q2 : (c ||| 32).toBitVec.toInt = (c ||| 32).toInt := rfl
  have l1 := c.toBitVec.isLt
  have l2 := (c ||| 32).toBitVec.isLt
  have e2 := own_or32 c.toBitVec.toNat
  rw [BitVec.toInt_eq_toNat_cond] at q1 q2
  generalize (c ||| 32).toBitVec.toNat = a at *
  generalize c.toBitVec.toNat = b at *
  split at q1 <;> split at q2 <;> omega
theorem own_sub (x y : Int32) (b : Int) (hy : y.toInt = b) (h : -2147483648 ≤ x.toInt - b ∧ x.toInt - b < 2147483648) : (x - y).toInt = x.toInt - b := by
  have h1 := c_isub x y; have h2 := rng32 (x - y)
  rw [hy] at h1; omega

theorem d1_0 : decode prog_37_method_5_code 0 = .ok (.iload_n 0, 1) := by decide +kernel
theorem d1_1 : decode prog_37_method_5_code 1 = .ok (.bipush 97, 2) := by decide +kernel
theorem d1_3 : decode prog_37_method_5_code 3 = .ok (.if_icmp .lt 9, 3) := by decide +kernel
theorem d1_6 : decode prog_37_method_5_code 6 = .ok (.iload_n 0, 1) := by decide +kernel
theorem d1_7 : decode prog_37_method_5_code 7 = .ok (.bipush 122, 2) := by decide +kernel
theorem d1_9 : decode prog_37_method_5_code 9 = .ok (.if_icmp .le 27, 3) := by decide +kernel
theorem d1_12 : decode prog_37_method_5_code 12 = .ok (.iload_n 0, 1) := by decide +kernel
theorem d1_13 : decode prog_37_method_5_code 13 = .ok (.bipush 65, 2) := by decide +kernel
theorem d1_15 : decode prog_37_method_5_code 15 = .ok (.if_icmp .lt 9, 3) := by decide +kernel
theorem d1_18 : decode prog_37_method_5_code 18 = .ok (.iload_n 0, 1) := by decide +kernel
theorem d1_19 : decode prog_37_method_5_code 19 = .ok (.bipush 90, 2) := by decide +kernel
theorem d1_21 : decode prog_37_method_5_code 21 = .ok (.if_icmp .le 15, 3) := by decide +kernel
theorem d1_24 : decode prog_37_method_5_code 24 = .ok (.iload_n 0, 1) := by decide +kernel
theorem d1_25 : decode prog_37_method_5_code 25 = .ok (.bipush 48, 2) := by decide +kernel
theorem d1_27 : decode prog_37_method_5_code 27 = .ok (.if_icmp .lt 13, 3) := by decide +kernel
theorem d1_30 : decode prog_37_method_5_code 30 = .ok (.iload_n 0, 1) := by decide +kernel
theorem d1_31 : decode prog_37_method_5_code 31 = .ok (.bipush 57, 2) := by decide +kernel
theorem d1_33 : decode prog_37_method_5_code 33 = .ok (.if_icmp .gt 7, 3) := by decide +kernel
theorem d1_36 : decode prog_37_method_5_code 36 = .ok (.iconst 1, 1) := by decide +kernel
theorem d1_37 : decode prog_37_method_5_code 37 = .ok (.goto 4, 3) := by decide +kernel
theorem d1_40 : decode prog_37_method_5_code 40 = .ok (.iconst 0, 1) := by decide +kernel
theorem d1_41 : decode prog_37_method_5_code 41 = .ok (.ireturn, 1) := by decide +kernel
theorem own_pn1 : plainName "com/example/bentwire/bentwire/tracker/Peer" = true := by first | (simp [plainName, overriddenIn]; done) | decide +kernel
theorem own_ef1 (m : MethodId) (p1 : Int32) : entryFrame m #[(.int p1)] 1 = (mkF m 0 #[.val (.int p1)] []) := by first | (simp [entryFrame, mkF, argsToLocals, Value.category]; done) | rfl
def own_Q1 (Z : State) (p1 : Int32)  (h0 : Heap) (n0 : Nat) (v : Option Value) (h : Heap) (L : List Loc) : Prop := ∃ b : Int32, v = some (.int b) ∧ Fr n0 L ∧ h = h0 ∧ ((b = 1 ∧ ((97 ≤ p1.toInt ∧ p1.toInt ≤ 122) ∨ (65 ≤ p1.toInt ∧ p1.toInt ≤ 90) ∨ (48 ≤ p1.toInt ∧ p1.toInt ≤ 57))) ∨ (b = 0 ∧ ¬ ((97 ≤ p1.toInt ∧ p1.toInt ≤ 122) ∨ (65 ≤ p1.toInt ∧ p1.toInt ≤ 90) ∨ (48 ≤ p1.toInt ∧ p1.toInt ≤ 57))))
set_option maxRecDepth 65536 in
set_option maxHeartbeats 40000000 in
theorem own_rm1 (l : Launch) (Z : State) (a0 : Array Value) (hw : ∀ d ∈ tables_1, d.before a0 Z = true) (ws : List Jvm.Cond) (p1 : Int32)  (h0 : Heap) (n0 : Nat) (Z0 : n0 ≤ h0.size) :
    MetFree l (⟨"com/example/bentwire/bentwire/tracker/Peer", "isAsciiLetterOrDigit", "(C)Z"⟩ : MethodName) (head1 (Jvm.Cond.code (⟨"com/example/bentwire/bentwire/tracker/Peer", "isAsciiLetterOrDigit", "(C)Z"⟩ : MethodName) prog_37_method_5_code 1 (some .boolean) :: ws) ({ frames := 0, cells := 0, slots := 0, locals := 0 } : Room)) (fun a U => a = #[(.int p1)] ∧ Z.Warmed39 U.vm ∧ U.heap = h0) (fun _ _ _ _ _ => True) (fun _ U o U' => ∃ v L, o = .returned v ∧ own_Q1 Z p1 h0 n0 v U'.heap L ∧ FrameEnd U o U' L ({ frames := 0, cells := 0, slots := 0, locals := 0 } : Room).cells ({ frames := 0, cells := 0, slots := 0, locals := 0 } : Room).slots) := by
  refine MetFree.of_bodySF (plainFor_of_name own_pn1) hisR ?_
  intro p e s m args below meth c s₁ Bd hml0 hP hK
  obtain ⟨rfl, hZ, hh⟩ := hP
  have hx := Bd.exec
  have hby := Bd.bytes
  have hml : c.maxLocals = 1 := hml0
  have hown : s.vm.findClass "com/example/bentwire/bentwire/tracker/Peer" = some m.cls := findClass_of_methodNamed Bd.named
  have hnm := (name_of_methodNamed Bd.named Bd.method).1
  have X0 : Stand p l e ({ frames := 0, cells := 0, slots := 0, locals := 0 } : Room) s m #[(.int p1)] below meth c s₁ [] 0 0 := Stand.of_body Bd
  have e0 : s₁.heap = h0 := by rw [← hh, Bd.state]; rfl
  have N0 := Fr.nil n0
  have J36 : ∀ (T : State) (lc : List Loc) (X : Stand p l e ({ frames := 0, cells := 0, slots := 0, locals := 0 } : Room) s m #[(.int p1)] below meth c T lc 0 0) (eT : T.heap = h0) (N : Fr n0 lc) (f36 : ((97 ≤ p1.toInt ∧ p1.toInt ≤ 122) ∨ (65 ≤ p1.toInt ∧ p1.toInt ≤ 90) ∨ (48 ≤ p1.toInt ∧ p1.toInt ≤ 57))), own_Fin p e below s (own_Q1 Z p1 h0 n0) ({ frames := 0, cells := 0, slots := 0, locals := 0 } : Room).cells ({ frames := 0, cells := 0, slots := 0, locals := 0 } : Room).slots (T.setTop (mkF m 36 #[.val (.int p1)] [])) := by
    intro T lc X eT N  f36
    refine own_go (T.setTop (mkF m 37 #[.val (.int p1)] [(.int (1 : Int32))])) (fun _ k => XS.iconst X.here hx rfl (hb hby d1_36) k) ?_
    refine own_go (T.setTop (mkF m 41 #[.val (.int p1)] [(.int (1 : Int32))])) (fun _ k => XS.goto X.here hx rfl (pc0 := 37) (pc' := 41) rfl (hb hby d1_37) (by decide) (by decide) k) ?_
    refine own_ret X (BodyLoose.notSynchronized Bd) (some (.int (1 : Int32))) (fun h => by rw [Bd.returns] at h; cases h) (fun fs hr => retN X hx (t := .boolean) Bd.returns (by simp) (hb hby d1_41) hr) (by decide) (by decide) ?_
    exact ⟨_, rfl, N, eT, Or.inl ⟨rfl, f36⟩⟩
  have J40 : ∀ (T : State) (lc : List Loc) (X : Stand p l e ({ frames := 0, cells := 0, slots := 0, locals := 0 } : Room) s m #[(.int p1)] below meth c T lc 0 0) (eT : T.heap = h0) (N : Fr n0 lc) (f40 : ¬ ((97 ≤ p1.toInt ∧ p1.toInt ≤ 122) ∨ (65 ≤ p1.toInt ∧ p1.toInt ≤ 90) ∨ (48 ≤ p1.toInt ∧ p1.toInt ≤ 57))), own_Fin p e below s (own_Q1 Z p1 h0 n0) ({ frames := 0, cells := 0, slots := 0, locals := 0 } : Room).cells ({ frames := 0, cells := 0, slots := 0, locals := 0 } : Room).slots (T.setTop (mkF m 40 #[.val (.int p1)] [])) := by
    intro T lc X eT N  f40
    refine own_go (T.setTop (mkF m 41 #[.val (.int p1)] [(.int (0 : Int32))])) (fun _ k => XS.iconst X.here hx rfl (hb hby d1_40) k) ?_
    refine own_ret X (BodyLoose.notSynchronized Bd) (some (.int (0 : Int32))) (fun h => by rw [Bd.returns] at h; cases h) (fun fs hr => retN X hx (t := .boolean) Bd.returns (by simp) (hb hby d1_41) hr) (by decide) (by decide) ?_
    exact ⟨_, rfl, N, eT, Or.inr ⟨rfl, f40⟩⟩
  have J24 : ∀ (T : State) (lc : List Loc) (X : Stand p l e ({ frames := 0, cells := 0, slots := 0, locals := 0 } : Room) s m #[(.int p1)] below meth c T lc 0 0) (eT : T.heap = h0) (N : Fr n0 lc) (f24 : ¬ (97 ≤ p1.toInt ∧ p1.toInt ≤ 122) ∧ ¬ (65 ≤ p1.toInt ∧ p1.toInt ≤ 90)), own_Fin p e below s (own_Q1 Z p1 h0 n0) ({ frames := 0, cells := 0, slots := 0, locals := 0 } : Room).cells ({ frames := 0, cells := 0, slots := 0, locals := 0 } : Room).slots (T.setTop (mkF m 24 #[.val (.int p1)] [])) := by
    intro T lc X eT N  f24
    refine own_go (T.setTop (mkF m 25 #[.val (.int p1)] [(.int p1)])) (fun _ k => XS.iloadN X.here hx rfl (hb hby d1_24) rfl k) ?_
    refine own_go (T.setTop (mkF m 27 #[.val (.int p1)] [(.int (48 : Int32)), (.int p1)])) (fun _ k => XS.bipush X.here hx rfl (hb hby d1_25) k) ?_
    by_cases hc27 : p1 < (48 : Int32)
    · have hz27 : ((p1).toInt < 48) := own_zlt hc27 rfl rfl
      refine own_go (T.setTop (mkF m 40 #[.val (.int p1)] [])) (fun _ k => XS.icmpYes X.here hx rfl (pc0 := 27) (pc' := 40) rfl (hb hby d1_27) rfl (tlt hc27).1 (by decide) (by decide) k) ?_
      refine J40 _ _ X eT N ?_
      omega
    · have hz27 : ¬ ((p1).toInt < 48) := own_znlt hc27 rfl rfl
      refine own_go (T.setTop (mkF m 30 #[.val (.int p1)] [])) (fun _ k => XS.icmpNo X.here hx rfl (hb hby d1_27) rfl (flt hc27).1 k) ?_
      refine own_go (T.setTop (mkF m 31 #[.val (.int p1)] [(.int p1)])) (fun _ k => XS.iloadN X.here hx rfl (hb hby d1_30) rfl k) ?_
      refine own_go (T.setTop (mkF m 33 #[.val (.int p1)] [(.int (57 : Int32)), (.int p1)])) (fun _ k => XS.bipush X.here hx rfl (hb hby d1_31) k) ?_
      by_cases hc33 : (57 : Int32) < p1
      · have hz33 : (57 < (p1).toInt) := own_zlt hc33 rfl rfl
        refine own_go (T.setTop (mkF m 40 #[.val (.int p1)] [])) (fun _ k => XS.icmpYes X.here hx rfl (pc0 := 33) (pc' := 40) rfl (hb hby d1_33) rfl (tlt hc33).2.2.1 (by decide) (by decide) k) ?_
        refine J40 _ _ X eT N ?_
        omega
      · have hz33 : ¬ (57 < (p1).toInt) := own_znlt hc33 rfl rfl
        refine own_go (T.setTop (mkF m 36 #[.val (.int p1)] [])) (fun _ k => XS.icmpNo X.here hx rfl (hb hby d1_33) rfl (flt hc33).2.2.1 k) ?_
        refine J36 _ _ X eT N ?_
        omega
  have J12 : ∀ (T : State) (lc : List Loc) (X : Stand p l e ({ frames := 0, cells := 0, slots := 0, locals := 0 } : Room) s m #[(.int p1)] below meth c T lc 0 0) (eT : T.heap = h0) (N : Fr n0 lc) (f12 : ¬ (97 ≤ p1.toInt ∧ p1.toInt ≤ 122)), own_Fin p e below s (own_Q1 Z p1 h0 n0) ({ frames := 0, cells := 0, slots := 0, locals := 0 } : Room).cells ({ frames := 0, cells := 0, slots := 0, locals := 0 } : Room).slots (T.setTop (mkF m 12 #[.val (.int p1)] [])) := by
    intro T lc X eT N  f12
    refine own_go (T.setTop (mkF m 13 #[.val (.int p1)] [(.int p1)])) (fun _ k => XS.iloadN X.here hx rfl (hb hby d1_12) rfl k) ?_
    refine own_go (T.setTop (mkF m 15 #[.val (.int p1)] [(.int (65 : Int32)), (.int p1)])) (fun _ k => XS.bipush X.here hx rfl (hb hby d1_13) k) ?_
    by_cases hc15 : p1 < (65 : Int32)
    · have hz15 : ((p1).toInt < 65) := own_zlt hc15 rfl rfl
      refine own_go (T.setTop (mkF m 24 #[.val (.int p1)] [])) (fun _ k => XS.icmpYes X.here hx rfl (pc0 := 15) (pc' := 24) rfl (hb hby d1_15) rfl (tlt hc15).1 (by decide) (by decide) k) ?_
      refine J24 _ _ X eT N ?_
      omega
    · have hz15 : ¬ ((p1).toInt < 65) := own_znlt hc15 rfl rfl
      refine own_go (T.setTop (mkF m 18 #[.val (.int p1)] [])) (fun _ k => XS.icmpNo X.here hx rfl (hb hby d1_15) rfl (flt hc15).1 k) ?_
      refine own_go (T.setTop (mkF m 19 #[.val (.int p1)] [(.int p1)])) (fun _ k => XS.iloadN X.here hx rfl (hb hby d1_18) rfl k) ?_
      refine own_go (T.setTop (mkF m 21 #[.val (.int p1)] [(.int (90 : Int32)), (.int p1)])) (fun _ k => XS.bipush X.here hx rfl (hb hby d1_19) k) ?_
      by_cases hc21 : (90 : Int32) < p1
      · have hz21 : (90 < (p1).toInt) := own_zlt hc21 rfl rfl
        refine own_go (T.setTop (mkF m 24 #[.val (.int p1)] [])) (fun _ k => XS.icmpNo X.here hx rfl (hb hby d1_21) rfl (tlt hc21).2.2.2 k) ?_
        refine J24 _ _ X eT N ?_
        omega
      · have hz21 : ¬ (90 < (p1).toInt) := own_znlt hc21 rfl rfl
        refine own_go (T.setTop (mkF m 36 #[.val (.int p1)] [])) (fun _ k => XS.icmpYes X.here hx rfl (pc0 := 21) (pc' := 36) rfl (hb hby d1_21) rfl (flt hc21).2.2.2 (by decide) (by decide) k) ?_
        refine J36 _ _ X eT N ?_
        omega
  show own_Fin p e below s (own_Q1 Z p1 h0 n0) ({ frames := 0, cells := 0, slots := 0, locals := 0 } : Room).cells ({ frames := 0, cells := 0, slots := 0, locals := 0 } : Room).slots (s₁.setTop (entryFrame m #[(.int p1)] 1))
  refine own_go (s₁.setTop (mkF m 0 #[.val (.int p1)] [])) (fun t k => castTop (own_ef1 m p1) k) ?_
  refine own_go (s₁.setTop (mkF m 1 #[.val (.int p1)] [(.int p1)])) (fun _ k => XS.iloadN X0.here hx rfl (hb hby d1_0) rfl k) ?_
  refine own_go (s₁.setTop (mkF m 3 #[.val (.int p1)] [(.int (97 : Int32)), (.int p1)])) (fun _ k => XS.bipush X0.here hx rfl (hb hby d1_1) k) ?_
  by_cases hc3 : p1 < (97 : Int32)
  · have hz3 : ((p1).toInt < 97) := own_zlt hc3 rfl rfl
    refine own_go (s₁.setTop (mkF m 12 #[.val (.int p1)] [])) (fun _ k => XS.icmpYes X0.here hx rfl (pc0 := 3) (pc' := 12) rfl (hb hby d1_3) rfl (tlt hc3).1 (by decide) (by decide) k) ?_
    refine J12 _ _ X0 e0 N0 ?_
    omega
  · have hz3 : ¬ ((p1).toInt < 97) := own_znlt hc3 rfl rfl
    refine own_go (s₁.setTop (mkF m 6 #[.val (.int p1)] [])) (fun _ k => XS.icmpNo X0.here hx rfl (hb hby d1_3) rfl (flt hc3).1 k) ?_
    refine own_go (s₁.setTop (mkF m 7 #[.val (.int p1)] [(.int p1)])) (fun _ k => XS.iloadN X0.here hx rfl (hb hby d1_6) rfl k) ?_
    refine own_go (s₁.setTop (mkF m 9 #[.val (.int p1)] [(.int (122 : Int32)), (.int p1)])) (fun _ k => XS.bipush X0.here hx rfl (hb hby d1_7) k) ?_
    by_cases hc9 : (122 : Int32) < p1
    · have hz9 : (122 < (p1).toInt) := own_zlt hc9 rfl rfl
      refine own_go (s₁.setTop (mkF m 12 #[.val (.int p1)] [])) (fun _ k => XS.icmpNo X0.here hx rfl (hb hby d1_9) rfl (tlt hc9).2.2.2 k) ?_
      refine J12 _ _ X0 e0 N0 ?_
      omega
    · have hz9 : ¬ (122 < (p1).toInt) := own_znlt hc9 rfl rfl
      refine own_go (s₁.setTop (mkF m 36 #[.val (.int p1)] [])) (fun _ k => XS.icmpYes X0.here hx rfl (pc0 := 9) (pc' := 36) rfl (hb hby d1_9) rfl (flt hc9).2.2.2 (by decide) (by decide) k) ?_
      refine J36 _ _ X0 e0 N0 ?_
      omega
theorem own_pn0 : plainName "com/example/bentwire/bentwire/tracker/PeerIsAsciiLetterOrDigitPinLaw" = true := by first | (simp [plainName, overriddenIn]; done) | decide +kernel
theorem own_ef0 (m : MethodId) (p1 : Int32) : entryFrame m #[(.int p1)] maxLocals = (mkF m 0 #[.val (.int p1), .unset, .unset, .unset, .unset] []) := by first | (simp [entryFrame, mkF, argsToLocals, Value.category, maxLocals]; done) | rfl
def own_Q0 (Z : State) (p1 : Int32)  (h0 : Heap) (n0 : Nat) (v : Option Value) (h : Heap) (L : List Loc) : Prop := v = some (.int (1 : Int32)) ∧ Fr n0 L
set_option maxRecDepth 65536 in
set_option maxHeartbeats 40000000 in
theorem own_rm0 (l : Launch) (Z : State) (a0 : Array Value) (hw : ∀ d ∈ tables_1, d.before a0 Z = true) (ws : List Jvm.Cond) (p1 : Int32)  (h0 : Heap) (n0 : Nat) (Z0 : n0 ≤ h0.size) :
    MetFree l x (head1 (Jvm.Cond.code x code maxLocals ret :: ws) room_1) (fun a U => a = #[(.int p1)] ∧ Z.Warmed39 U.vm ∧ U.heap = h0) (fun _ _ _ _ _ => True) (fun _ U o U' => ∃ v L, o = .returned v ∧ own_Q0 Z p1 h0 n0 v U'.heap L ∧ FrameEnd U o U' L room_1.cells room_1.slots) := by
  refine MetFree.of_bodySF (plainFor_of_name own_pn0) hisR ?_
  intro p e s m args below meth c s₁ Bd hml0 hP hK
  obtain ⟨rfl, hZ, hh⟩ := hP
  have hx := Bd.exec
  have hby := Bd.bytes
  have hml : c.maxLocals = 5 := hml0
  have hown : s.vm.findClass "com/example/bentwire/bentwire/tracker/PeerIsAsciiLetterOrDigitPinLaw" = some m.cls := findClass_of_methodNamed Bd.named
  have hnm := (name_of_methodNamed Bd.named Bd.method).1
  have X0 : Stand p l e room_1 s m #[(.int p1)] below meth c s₁ [] 0 0 := Stand.of_body Bd
  have e0 : s₁.heap = h0 := by rw [← hh, Bd.state]; rfl
  have N0 := Fr.nil n0
  have c1 := c_i2c p1
  have c2 := own_or (p1.toUInt32.toUInt16.toUInt32.toInt32) c1.2.1 c1.2.2
  have c3 : (((p1.toUInt32.toUInt16.toUInt32.toInt32) ||| (32 : Int32)) - (97 : Int32)).toInt = ((p1.toUInt32.toUInt16.toUInt32.toInt32) ||| (32 : Int32)).toInt - 97 := own_sub _ _ 97 rfl (by omega)
  have c4 : ((p1.toUInt32.toUInt16.toUInt32.toInt32) - (48 : Int32)).toInt = (p1.toUInt32.toUInt16.toUInt32.toInt32).toInt - 48 := own_sub _ _ 48 rfl (by omega)
  have J41 : ∀ (T : State) (lc : List Loc) (X : Stand p l e room_1 s m #[(.int p1)] below meth c T lc 0 0) (eT : T.heap = h0) (N : Fr n0 lc) (b : Int32) (f41 : (b = 1 ∧ ((0 ≤ (((p1.toUInt32.toUInt16.toUInt32.toInt32) ||| (32 : Int32)) - (97 : Int32)).toInt ∧ (((p1.toUInt32.toUInt16.toUInt32.toInt32) ||| (32 : Int32)) - (97 : Int32)).toInt < 26) ∨ (0 ≤ ((p1.toUInt32.toUInt16.toUInt32.toInt32) - (48 : Int32)).toInt ∧ ((p1.toUInt32.toUInt16.toUInt32.toInt32) - (48 : Int32)).toInt < 10))) ∨ (b = 0 ∧ ¬ ((0 ≤ (((p1.toUInt32.toUInt16.toUInt32.toInt32) ||| (32 : Int32)) - (97 : Int32)).toInt ∧ (((p1.toUInt32.toUInt16.toUInt32.toInt32) ||| (32 : Int32)) - (97 : Int32)).toInt < 26) ∨ (0 ≤ ((p1.toUInt32.toUInt16.toUInt32.toInt32) - (48 : Int32)).toInt ∧ ((p1.toUInt32.toUInt16.toUInt32.toInt32) - (48 : Int32)).toInt < 10)))), own_Fin p e below s (own_Q0 Z p1 h0 n0) room_1.cells room_1.slots (T.setTop (mkF m 41 #[.val (.int p1), .val (.int (p1.toUInt32.toUInt16.toUInt32.toInt32)), .val (.int (((p1.toUInt32.toUInt16.toUInt32.toInt32) ||| (32 : Int32)) - (97 : Int32))), .val (.int ((p1.toUInt32.toUInt16.toUInt32.toInt32) - (48 : Int32))), .unset] [(.int b)])) := by
    intro T lc X eT N b f41
    refine own_go (T.setTop (mkF m 43 #[.val (.int p1), .val (.int (p1.toUInt32.toUInt16.toUInt32.toInt32)), .val (.int (((p1.toUInt32.toUInt16.toUInt32.toInt32) ||| (32 : Int32)) - (97 : Int32))), .val (.int ((p1.toUInt32.toUInt16.toUInt32.toInt32) - (48 : Int32))), .val (.int b)] [])) (fun _ k => XS.istore X.here hx rfl (hb hby at_41) rfl (l' := #[.val (.int p1), .val (.int (p1.toUInt32.toUInt16.toUInt32.toInt32)), .val (.int (((p1.toUInt32.toUInt16.toUInt32.toInt32) ||| (32 : Int32)) - (97 : Int32))), .val (.int ((p1.toUInt32.toUInt16.toUInt32.toInt32) - (48 : Int32))), .val (.int b)]) rfl k) ?_
    refine own_go (T.setTop (mkF m 44 #[.val (.int p1), .val (.int (p1.toUInt32.toUInt16.toUInt32.toInt32)), .val (.int (((p1.toUInt32.toUInt16.toUInt32.toInt32) ||| (32 : Int32)) - (97 : Int32))), .val (.int ((p1.toUInt32.toUInt16.toUInt32.toInt32) - (48 : Int32))), .val (.int b)] [(.int (p1.toUInt32.toUInt16.toUInt32.toInt32))])) (fun _ k => XS.iloadN X.here hx rfl (hb hby at_43) rfl k) ?_
    obtain ⟨_, _, ⟨T1, L1, k1, n1⟩, -, X1, ⟨Lc1, hQ1, l1, y1, z1⟩, st1⟩ := Jvm.LawKit.callS X hx (y := (⟨"com/example/bentwire/bentwire/tracker/Peer", "isAsciiLetterOrDigit", "(C)Z"⟩ : MethodName)) hown (mvT hZ (hw _ (List.mem_of_getElem? (i := 0) rfl))) (mvT hZ (hw _ (List.mem_of_getElem? (i := 1) rfl))) (mvT hZ (hw _ (List.mem_of_getElem? (i := 2) rfl))) (mvT hZ (hw _ (List.mem_of_getElem? (i := 3) rfl))) (by decide) (backOf (W := 0) (own_rm1 l Z a0 hw [] (p1.toUInt32.toUInt16.toUInt32.toInt32) h0 n0 Z0) hZ (hw _ (List.mem_of_getElem? (i := 3) rfl)) (hw _ (List.mem_of_getElem? (i := 2) rfl)) (by decide) (by decide)) (g := (mkF m 44 #[.val (.int p1), .val (.int (p1.toUInt32.toUInt16.toUInt32.toInt32)), .val (.int (((p1.toUInt32.toUInt16.toUInt32.toInt32) ||| (32 : Int32)) - (97 : Int32))), .val (.int ((p1.toUInt32.toUInt16.toUInt32.toInt32) - (48 : Int32))), .val (.int b)] [(.int (p1.toUInt32.toUInt16.toUInt32.toInt32))])) rfl (by rw [hml]; rfl) (argsL := [(.int (p1.toUInt32.toUInt16.toUInt32.toInt32))]) (rest := []) (lenOf own_pd0 rfl) rfl (by show 2 * 0 + _ ≤ _; exact Nat.le_of_eq rfl) (hb hby at_44) (fun _ _ => ⟨rfl, eT, (by decide : 0 + 0 ≤ _), (by decide : 0 + 0 ≤ _)⟩)
    dsimp only [Pt.U, Pt.locs, Pt.cells, Pt.slots] at X1 l1 y1 z1 st1 hQ1
    subst l1 y1 z1
    obtain ⟨b1, rfl, N1q, e1, B1⟩ := hQ1
    have N1 := Fr.app N N1q
    refine own_go (T1.setTop (mkF m 47 #[.val (.int p1), .val (.int (p1.toUInt32.toUInt16.toUInt32.toInt32)), .val (.int (((p1.toUInt32.toUInt16.toUInt32.toInt32) ||| (32 : Int32)) - (97 : Int32))), .val (.int ((p1.toUInt32.toUInt16.toUInt32.toInt32) - (48 : Int32))), .val (.int b)] [(.int b1)])) (fun _ k => st1 _ k) ?_
    refine own_go (T1.setTop (mkF m 49 #[.val (.int p1), .val (.int (p1.toUInt32.toUInt16.toUInt32.toInt32)), .val (.int (((p1.toUInt32.toUInt16.toUInt32.toInt32) ||| (32 : Int32)) - (97 : Int32))), .val (.int ((p1.toUInt32.toUInt16.toUInt32.toInt32) - (48 : Int32))), .val (.int b)] [(.int b), (.int b1)])) (fun _ k => XS.iload X1.here hx rfl (hb hby at_47) rfl k) ?_
    by_cases hc49 : b1 = b
    · have hz49 : ((b1).toInt = (b).toInt) := own_zeq hc49 rfl rfl
      refine own_go (T1.setTop (mkF m 52 #[.val (.int p1), .val (.int (p1.toUInt32.toUInt16.toUInt32.toInt32)), .val (.int (((p1.toUInt32.toUInt16.toUInt32.toInt32) ||| (32 : Int32)) - (97 : Int32))), .val (.int ((p1.toUInt32.toUInt16.toUInt32.toInt32) - (48 : Int32))), .val (.int b)] [])) (fun _ k => XS.icmpNo X1.here hx rfl (hb hby at_49) rfl (teq hc49).2 k) ?_
      refine own_go (T1.setTop (mkF m 53 #[.val (.int p1), .val (.int (p1.toUInt32.toUInt16.toUInt32.toInt32)), .val (.int (((p1.toUInt32.toUInt16.toUInt32.toInt32) ||| (32 : Int32)) - (97 : Int32))), .val (.int ((p1.toUInt32.toUInt16.toUInt32.toInt32) - (48 : Int32))), .val (.int b)] [(.int (1 : Int32))])) (fun _ k => XS.iconst X1.here hx rfl (hb hby at_52) k) ?_
      refine own_go (T1.setTop (mkF m 57 #[.val (.int p1), .val (.int (p1.toUInt32.toUInt16.toUInt32.toInt32)), .val (.int (((p1.toUInt32.toUInt16.toUInt32.toInt32) ||| (32 : Int32)) - (97 : Int32))), .val (.int ((p1.toUInt32.toUInt16.toUInt32.toInt32) - (48 : Int32))), .val (.int b)] [(.int (1 : Int32))])) (fun _ k => XS.goto X1.here hx rfl (pc0 := 53) (pc' := 57) rfl (hb hby at_53) (by decide) (by decide) k) ?_
      refine own_ret X1 (BodyLoose.notSynchronized Bd) (some (.int (1 : Int32))) (fun h => by rw [Bd.returns] at h; cases h) (fun fs hr => retN X1 hx (t := .boolean) Bd.returns (by simp) (hb hby at_57) hr) (by decide) (by decide) ?_
      exact ⟨rfl, N1⟩
    · have hz49 : ¬ ((b1).toInt = (b).toInt) := own_zneq hc49 rfl rfl
      exact absurd (by rcases f41 with ⟨rfl, f⟩ | ⟨rfl, f⟩ <;> rcases B1 with ⟨rfl, g⟩ | ⟨rfl, g⟩ <;> first | rfl | (exfalso; omega)) hc49
  have J36 : ∀ (T : State) (lc : List Loc) (X : Stand p l e room_1 s m #[(.int p1)] below meth c T lc 0 0) (eT : T.heap = h0) (N : Fr n0 lc) (f36 : ((0 ≤ (((p1.toUInt32.toUInt16.toUInt32.toInt32) ||| (32 : Int32)) - (97 : Int32)).toInt ∧ (((p1.toUInt32.toUInt16.toUInt32.toInt32) ||| (32 : Int32)) - (97 : Int32)).toInt < 26) ∨ (0 ≤ ((p1.toUInt32.toUInt16.toUInt32.toInt32) - (48 : Int32)).toInt ∧ ((p1.toUInt32.toUInt16.toUInt32.toInt32) - (48 : Int32)).toInt < 10))), own_Fin p e below s (own_Q0 Z p1 h0 n0) room_1.cells room_1.slots (T.setTop (mkF m 36 #[.val (.int p1), .val (.int (p1.toUInt32.toUInt16.toUInt32.toInt32)), .val (.int (((p1.toUInt32.toUInt16.toUInt32.toInt32) ||| (32 : Int32)) - (97 : Int32))), .val (.int ((p1.toUInt32.toUInt16.toUInt32.toInt32) - (48 : Int32))), .unset] [])) := by
    intro T lc X eT N  f36
    refine own_go (T.setTop (mkF m 37 #[.val (.int p1), .val (.int (p1.toUInt32.toUInt16.toUInt32.toInt32)), .val (.int (((p1.toUInt32.toUInt16.toUInt32.toInt32) ||| (32 : Int32)) - (97 : Int32))), .val (.int ((p1.toUInt32.toUInt16.toUInt32.toInt32) - (48 : Int32))), .unset] [(.int (1 : Int32))])) (fun _ k => XS.iconst X.here hx rfl (hb hby at_36) k) ?_
    refine own_go (T.setTop (mkF m 41 #[.val (.int p1), .val (.int (p1.toUInt32.toUInt16.toUInt32.toInt32)), .val (.int (((p1.toUInt32.toUInt16.toUInt32.toInt32) ||| (32 : Int32)) - (97 : Int32))), .val (.int ((p1.toUInt32.toUInt16.toUInt32.toInt32) - (48 : Int32))), .unset] [(.int (1 : Int32))])) (fun _ k => XS.goto X.here hx rfl (pc0 := 37) (pc' := 41) rfl (hb hby at_37) (by decide) (by decide) k) ?_
    refine J41 _ _ X eT N _ ?_
    first | exact Or.inl ⟨rfl, f36⟩ | exact Or.inr ⟨rfl, f40⟩
  have J40 : ∀ (T : State) (lc : List Loc) (X : Stand p l e room_1 s m #[(.int p1)] below meth c T lc 0 0) (eT : T.heap = h0) (N : Fr n0 lc) (f40 : ¬ ((0 ≤ (((p1.toUInt32.toUInt16.toUInt32.toInt32) ||| (32 : Int32)) - (97 : Int32)).toInt ∧ (((p1.toUInt32.toUInt16.toUInt32.toInt32) ||| (32 : Int32)) - (97 : Int32)).toInt < 26) ∨ (0 ≤ ((p1.toUInt32.toUInt16.toUInt32.toInt32) - (48 : Int32)).toInt ∧ ((p1.toUInt32.toUInt16.toUInt32.toInt32) - (48 : Int32)).toInt < 10))), own_Fin p e below s (own_Q0 Z p1 h0 n0) room_1.cells room_1.slots (T.setTop (mkF m 40 #[.val (.int p1), .val (.int (p1.toUInt32.toUInt16.toUInt32.toInt32)), .val (.int (((p1.toUInt32.toUInt16.toUInt32.toInt32) ||| (32 : Int32)) - (97 : Int32))), .val (.int ((p1.toUInt32.toUInt16.toUInt32.toInt32) - (48 : Int32))), .unset] [])) := by
    intro T lc X eT N  f40
    refine own_go (T.setTop (mkF m 41 #[.val (.int p1), .val (.int (p1.toUInt32.toUInt16.toUInt32.toInt32)), .val (.int (((p1.toUInt32.toUInt16.toUInt32.toInt32) ||| (32 : Int32)) - (97 : Int32))), .val (.int ((p1.toUInt32.toUInt16.toUInt32.toInt32) - (48 : Int32))), .unset] [(.int (0 : Int32))])) (fun _ k => XS.iconst X.here hx rfl (hb hby at_40) k) ?_
    refine J41 _ _ X eT N _ ?_
    first | exact Or.inl ⟨rfl, f36⟩ | exact Or.inr ⟨rfl, f40⟩
  have J26 : ∀ (T : State) (lc : List Loc) (X : Stand p l e room_1 s m #[(.int p1)] below meth c T lc 0 0) (eT : T.heap = h0) (N : Fr n0 lc) (f26 : ¬ (0 ≤ (((p1.toUInt32.toUInt16.toUInt32.toInt32) ||| (32 : Int32)) - (97 : Int32)).toInt ∧ (((p1.toUInt32.toUInt16.toUInt32.toInt32) ||| (32 : Int32)) - (97 : Int32)).toInt < 26)), own_Fin p e below s (own_Q0 Z p1 h0 n0) room_1.cells room_1.slots (T.setTop (mkF m 26 #[.val (.int p1), .val (.int (p1.toUInt32.toUInt16.toUInt32.toInt32)), .val (.int (((p1.toUInt32.toUInt16.toUInt32.toInt32) ||| (32 : Int32)) - (97 : Int32))), .val (.int ((p1.toUInt32.toUInt16.toUInt32.toInt32) - (48 : Int32))), .unset] [])) := by
    intro T lc X eT N  f26
    refine own_go (T.setTop (mkF m 27 #[.val (.int p1), .val (.int (p1.toUInt32.toUInt16.toUInt32.toInt32)), .val (.int (((p1.toUInt32.toUInt16.toUInt32.toInt32) ||| (32 : Int32)) - (97 : Int32))), .val (.int ((p1.toUInt32.toUInt16.toUInt32.toInt32) - (48 : Int32))), .unset] [(.int ((p1.toUInt32.toUInt16.toUInt32.toInt32) - (48 : Int32)))])) (fun _ k => XS.iloadN X.here hx rfl (hb hby at_26) rfl k) ?_
    by_cases hc27 : ((p1.toUInt32.toUInt16.toUInt32.toInt32) - (48 : Int32)) < (0 : Int32)
    · have hz27 : ((((p1.toUInt32.toUInt16.toUInt32.toInt32) - (48 : Int32))).toInt < 0) := own_zlt hc27 rfl rfl
      refine own_go (T.setTop (mkF m 40 #[.val (.int p1), .val (.int (p1.toUInt32.toUInt16.toUInt32.toInt32)), .val (.int (((p1.toUInt32.toUInt16.toUInt32.toInt32) ||| (32 : Int32)) - (97 : Int32))), .val (.int ((p1.toUInt32.toUInt16.toUInt32.toInt32) - (48 : Int32))), .unset] [])) (fun _ k => XS.ifYes X.here hx rfl (pc0 := 27) (pc' := 40) rfl (hb hby at_27) rfl ((if0 _ _).trans (tlt hc27).1) (by decide) (by decide) k) ?_
      refine J40 _ _ X eT N ?_
      omega
    · have hz27 : ¬ ((((p1.toUInt32.toUInt16.toUInt32.toInt32) - (48 : Int32))).toInt < 0) := own_znlt hc27 rfl rfl
      refine own_go (T.setTop (mkF m 30 #[.val (.int p1), .val (.int (p1.toUInt32.toUInt16.toUInt32.toInt32)), .val (.int (((p1.toUInt32.toUInt16.toUInt32.toInt32) ||| (32 : Int32)) - (97 : Int32))), .val (.int ((p1.toUInt32.toUInt16.toUInt32.toInt32) - (48 : Int32))), .unset] [])) (fun _ k => XS.ifNo X.here hx rfl (hb hby at_27) rfl ((if0 _ _).trans (flt hc27).1) k) ?_
      refine own_go (T.setTop (mkF m 31 #[.val (.int p1), .val (.int (p1.toUInt32.toUInt16.toUInt32.toInt32)), .val (.int (((p1.toUInt32.toUInt16.toUInt32.toInt32) ||| (32 : Int32)) - (97 : Int32))), .val (.int ((p1.toUInt32.toUInt16.toUInt32.toInt32) - (48 : Int32))), .unset] [(.int ((p1.toUInt32.toUInt16.toUInt32.toInt32) - (48 : Int32)))])) (fun _ k => XS.iloadN X.here hx rfl (hb hby at_30) rfl k) ?_
      refine own_go (T.setTop (mkF m 33 #[.val (.int p1), .val (.int (p1.toUInt32.toUInt16.toUInt32.toInt32)), .val (.int (((p1.toUInt32.toUInt16.toUInt32.toInt32) ||| (32 : Int32)) - (97 : Int32))), .val (.int ((p1.toUInt32.toUInt16.toUInt32.toInt32) - (48 : Int32))), .unset] [(.int (10 : Int32)), (.int ((p1.toUInt32.toUInt16.toUInt32.toInt32) - (48 : Int32)))])) (fun _ k => XS.bipush X.here hx rfl (hb hby at_31) k) ?_
      by_cases hc33 : ((p1.toUInt32.toUInt16.toUInt32.toInt32) - (48 : Int32)) < (10 : Int32)
      · have hz33 : ((((p1.toUInt32.toUInt16.toUInt32.toInt32) - (48 : Int32))).toInt < 10) := own_zlt hc33 rfl rfl
        refine own_go (T.setTop (mkF m 36 #[.val (.int p1), .val (.int (p1.toUInt32.toUInt16.toUInt32.toInt32)), .val (.int (((p1.toUInt32.toUInt16.toUInt32.toInt32) ||| (32 : Int32)) - (97 : Int32))), .val (.int ((p1.toUInt32.toUInt16.toUInt32.toInt32) - (48 : Int32))), .unset] [])) (fun _ k => XS.icmpNo X.here hx rfl (hb hby at_33) rfl (tlt hc33).2.1 k) ?_
        refine J36 _ _ X eT N ?_
        omega
      · have hz33 : ¬ ((((p1.toUInt32.toUInt16.toUInt32.toInt32) - (48 : Int32))).toInt < 10) := own_znlt hc33 rfl rfl
        refine own_go (T.setTop (mkF m 40 #[.val (.int p1), .val (.int (p1.toUInt32.toUInt16.toUInt32.toInt32)), .val (.int (((p1.toUInt32.toUInt16.toUInt32.toInt32) ||| (32 : Int32)) - (97 : Int32))), .val (.int ((p1.toUInt32.toUInt16.toUInt32.toInt32) - (48 : Int32))), .unset] [])) (fun _ k => XS.icmpYes X.here hx rfl (pc0 := 33) (pc' := 40) rfl (hb hby at_33) rfl (flt hc33).2.1 (by decide) (by decide) k) ?_
        refine J40 _ _ X eT N ?_
        omega
  show own_Fin p e below s (own_Q0 Z p1 h0 n0) room_1.cells room_1.slots (s₁.setTop (entryFrame m #[(.int p1)] maxLocals))
  refine own_go (s₁.setTop (mkF m 0 #[.val (.int p1), .unset, .unset, .unset, .unset] [])) (fun t k => castTop (own_ef0 m p1) k) ?_
  refine own_go (s₁.setTop (mkF m 1 #[.val (.int p1), .unset, .unset, .unset, .unset] [(.int p1)])) (fun _ k => XS.iloadN X0.here hx rfl (hb hby at_0) rfl k) ?_
  refine own_go (s₁.setTop (mkF m 2 #[.val (.int p1), .unset, .unset, .unset, .unset] [(.int (p1.toUInt32.toUInt16.toUInt32.toInt32))])) (fun _ k => XS.i2c X0.here hx rfl (hb hby at_1) rfl k) ?_
  refine own_go (s₁.setTop (mkF m 3 #[.val (.int p1), .val (.int (p1.toUInt32.toUInt16.toUInt32.toInt32)), .unset, .unset, .unset] [])) (fun _ k => XS.istoreN X0.here hx rfl (hb hby at_2) rfl (l' := #[.val (.int p1), .val (.int (p1.toUInt32.toUInt16.toUInt32.toInt32)), .unset, .unset, .unset]) rfl k) ?_
  refine own_go (s₁.setTop (mkF m 4 #[.val (.int p1), .val (.int (p1.toUInt32.toUInt16.toUInt32.toInt32)), .unset, .unset, .unset] [(.int (p1.toUInt32.toUInt16.toUInt32.toInt32))])) (fun _ k => XS.iloadN X0.here hx rfl (hb hby at_3) rfl k) ?_
  refine own_go (s₁.setTop (mkF m 6 #[.val (.int p1), .val (.int (p1.toUInt32.toUInt16.toUInt32.toInt32)), .unset, .unset, .unset] [(.int (32 : Int32)), (.int (p1.toUInt32.toUInt16.toUInt32.toInt32))])) (fun _ k => XS.bipush X0.here hx rfl (hb hby at_4) k) ?_
  refine own_go (s₁.setTop (mkF m 7 #[.val (.int p1), .val (.int (p1.toUInt32.toUInt16.toUInt32.toInt32)), .unset, .unset, .unset] [(.int ((p1.toUInt32.toUInt16.toUInt32.toInt32) ||| (32 : Int32)))])) (fun _ k => XS.ior X0.here hx rfl (hb hby at_6) rfl k) ?_
  refine own_go (s₁.setTop (mkF m 9 #[.val (.int p1), .val (.int (p1.toUInt32.toUInt16.toUInt32.toInt32)), .unset, .unset, .unset] [(.int (97 : Int32)), (.int ((p1.toUInt32.toUInt16.toUInt32.toInt32) ||| (32 : Int32)))])) (fun _ k => XS.bipush X0.here hx rfl (hb hby at_7) k) ?_
  refine own_go (s₁.setTop (mkF m 10 #[.val (.int p1), .val (.int (p1.toUInt32.toUInt16.toUInt32.toInt32)), .unset, .unset, .unset] [(.int (((p1.toUInt32.toUInt16.toUInt32.toInt32) ||| (32 : Int32)) - (97 : Int32)))])) (fun _ k => XS.isub X0.here hx rfl (hb hby at_9) rfl k) ?_
  refine own_go (s₁.setTop (mkF m 11 #[.val (.int p1), .val (.int (p1.toUInt32.toUInt16.toUInt32.toInt32)), .val (.int (((p1.toUInt32.toUInt16.toUInt32.toInt32) ||| (32 : Int32)) - (97 : Int32))), .unset, .unset] [])) (fun _ k => XS.istoreN X0.here hx rfl (hb hby at_10) rfl (l' := #[.val (.int p1), .val (.int (p1.toUInt32.toUInt16.toUInt32.toInt32)), .val (.int (((p1.toUInt32.toUInt16.toUInt32.toInt32) ||| (32 : Int32)) - (97 : Int32))), .unset, .unset]) rfl k) ?_
  refine own_go (s₁.setTop (mkF m 12 #[.val (.int p1), .val (.int (p1.toUInt32.toUInt16.toUInt32.toInt32)), .val (.int (((p1.toUInt32.toUInt16.toUInt32.toInt32) ||| (32 : Int32)) - (97 : Int32))), .unset, .unset] [(.int (p1.toUInt32.toUInt16.toUInt32.toInt32))])) (fun _ k => XS.iloadN X0.here hx rfl (hb hby at_11) rfl k) ?_
  refine own_go (s₁.setTop (mkF m 14 #[.val (.int p1), .val (.int (p1.toUInt32.toUInt16.toUInt32.toInt32)), .val (.int (((p1.toUInt32.toUInt16.toUInt32.toInt32) ||| (32 : Int32)) - (97 : Int32))), .unset, .unset] [(.int (48 : Int32)), (.int (p1.toUInt32.toUInt16.toUInt32.toInt32))])) (fun _ k => XS.bipush X0.here hx rfl (hb hby at_12) k) ?_
  refine own_go (s₁.setTop (mkF m 15 #[.val (.int p1), .val (.int (p1.toUInt32.toUInt16.toUInt32.toInt32)), .val (.int (((p1.toUInt32.toUInt16.toUInt32.toInt32) ||| (32 : Int32)) - (97 : Int32))), .unset, .unset] [(.int ((p1.toUInt32.toUInt16.toUInt32.toInt32) - (48 : Int32)))])) (fun _ k => XS.isub X0.here hx rfl (hb hby at_14) rfl k) ?_
  refine own_go (s₁.setTop (mkF m 16 #[.val (.int p1), .val (.int (p1.toUInt32.toUInt16.toUInt32.toInt32)), .val (.int (((p1.toUInt32.toUInt16.toUInt32.toInt32) ||| (32 : Int32)) - (97 : Int32))), .val (.int ((p1.toUInt32.toUInt16.toUInt32.toInt32) - (48 : Int32))), .unset] [])) (fun _ k => XS.istoreN X0.here hx rfl (hb hby at_15) rfl (l' := #[.val (.int p1), .val (.int (p1.toUInt32.toUInt16.toUInt32.toInt32)), .val (.int (((p1.toUInt32.toUInt16.toUInt32.toInt32) ||| (32 : Int32)) - (97 : Int32))), .val (.int ((p1.toUInt32.toUInt16.toUInt32.toInt32) - (48 : Int32))), .unset]) rfl k) ?_
  refine own_go (s₁.setTop (mkF m 17 #[.val (.int p1), .val (.int (p1.toUInt32.toUInt16.toUInt32.toInt32)), .val (.int (((p1.toUInt32.toUInt16.toUInt32.toInt32) ||| (32 : Int32)) - (97 : Int32))), .val (.int ((p1.toUInt32.toUInt16.toUInt32.toInt32) - (48 : Int32))), .unset] [(.int (((p1.toUInt32.toUInt16.toUInt32.toInt32) ||| (32 : Int32)) - (97 : Int32)))])) (fun _ k => XS.iloadN X0.here hx rfl (hb hby at_16) rfl k) ?_
  by_cases hc17 : (((p1.toUInt32.toUInt16.toUInt32.toInt32) ||| (32 : Int32)) - (97 : Int32)) < (0 : Int32)
  · have hz17 : (((((p1.toUInt32.toUInt16.toUInt32.toInt32) ||| (32 : Int32)) - (97 : Int32))).toInt < 0) := own_zlt hc17 rfl rfl
    refine own_go (s₁.setTop (mkF m 26 #[.val (.int p1), .val (.int (p1.toUInt32.toUInt16.toUInt32.toInt32)), .val (.int (((p1.toUInt32.toUInt16.toUInt32.toInt32) ||| (32 : Int32)) - (97 : Int32))), .val (.int ((p1.toUInt32.toUInt16.toUInt32.toInt32) - (48 : Int32))), .unset] [])) (fun _ k => XS.ifYes X0.here hx rfl (pc0 := 17) (pc' := 26) rfl (hb hby at_17) rfl ((if0 _ _).trans (tlt hc17).1) (by decide) (by decide) k) ?_
    refine J26 _ _ X0 e0 N0 ?_
    omega
  · have hz17 : ¬ (((((p1.toUInt32.toUInt16.toUInt32.toInt32) ||| (32 : Int32)) - (97 : Int32))).toInt < 0) := own_znlt hc17 rfl rfl
    refine own_go (s₁.setTop (mkF m 20 #[.val (.int p1), .val (.int (p1.toUInt32.toUInt16.toUInt32.toInt32)), .val (.int (((p1.toUInt32.toUInt16.toUInt32.toInt32) ||| (32 : Int32)) - (97 : Int32))), .val (.int ((p1.toUInt32.toUInt16.toUInt32.toInt32) - (48 : Int32))), .unset] [])) (fun _ k => XS.ifNo X0.here hx rfl (hb hby at_17) rfl ((if0 _ _).trans (flt hc17).1) k) ?_
    refine own_go (s₁.setTop (mkF m 21 #[.val (.int p1), .val (.int (p1.toUInt32.toUInt16.toUInt32.toInt32)), .val (.int (((p1.toUInt32.toUInt16.toUInt32.toInt32) ||| (32 : Int32)) - (97 : Int32))), .val (.int ((p1.toUInt32.toUInt16.toUInt32.toInt32) - (48 : Int32))), .unset] [(.int (((p1.toUInt32.toUInt16.toUInt32.toInt32) ||| (32 : Int32)) - (97 : Int32)))])) (fun _ k => XS.iloadN X0.here hx rfl (hb hby at_20) rfl k) ?_
    refine own_go (s₁.setTop (mkF m 23 #[.val (.int p1), .val (.int (p1.toUInt32.toUInt16.toUInt32.toInt32)), .val (.int (((p1.toUInt32.toUInt16.toUInt32.toInt32) ||| (32 : Int32)) - (97 : Int32))), .val (.int ((p1.toUInt32.toUInt16.toUInt32.toInt32) - (48 : Int32))), .unset] [(.int (26 : Int32)), (.int (((p1.toUInt32.toUInt16.toUInt32.toInt32) ||| (32 : Int32)) - (97 : Int32)))])) (fun _ k => XS.bipush X0.here hx rfl (hb hby at_21) k) ?_
    by_cases hc23 : (((p1.toUInt32.toUInt16.toUInt32.toInt32) ||| (32 : Int32)) - (97 : Int32)) < (26 : Int32)
    · have hz23 : (((((p1.toUInt32.toUInt16.toUInt32.toInt32) ||| (32 : Int32)) - (97 : Int32))).toInt < 26) := own_zlt hc23 rfl rfl
      refine own_go (s₁.setTop (mkF m 36 #[.val (.int p1), .val (.int (p1.toUInt32.toUInt16.toUInt32.toInt32)), .val (.int (((p1.toUInt32.toUInt16.toUInt32.toInt32) ||| (32 : Int32)) - (97 : Int32))), .val (.int ((p1.toUInt32.toUInt16.toUInt32.toInt32) - (48 : Int32))), .unset] [])) (fun _ k => XS.icmpYes X0.here hx rfl (pc0 := 23) (pc' := 36) rfl (hb hby at_23) rfl (tlt hc23).1 (by decide) (by decide) k) ?_
      refine J36 _ _ X0 e0 N0 ?_
      omega
    · have hz23 : ¬ (((((p1.toUInt32.toUInt16.toUInt32.toInt32) ||| (32 : Int32)) - (97 : Int32))).toInt < 26) := own_znlt hc23 rfl rfl
      refine own_go (s₁.setTop (mkF m 26 #[.val (.int p1), .val (.int (p1.toUInt32.toUInt16.toUInt32.toInt32)), .val (.int (((p1.toUInt32.toUInt16.toUInt32.toInt32) ||| (32 : Int32)) - (97 : Int32))), .val (.int ((p1.toUInt32.toUInt16.toUInt32.toInt32) - (48 : Int32))), .unset] [])) (fun _ k => XS.icmpNo X0.here hx rfl (hb hby at_23) rfl (flt hc23).1 k) ?_
      refine J26 _ _ X0 e0 N0 ?_
      omega
set_option maxRecDepth 65536 in
set_option maxHeartbeats 40000000 in
theorem own_comes {Post : Tables → Env → Array Value → State → Outcome → State → Prop} (hpost : ∀ tb e args s v u, (limb_1_1.after args s (.returned v) u = true ∧ limb_1_2.after args s (.returned v) u = true ∧ True) → FrameEnd s (.returned v) u (Jvm.fieldLocs frame_1_writes args s ++ Jvm.arrayLocs frame_1_arrays args s ++ Jvm.staticLocs frame_1_statics s) 0 0 → Post tb e args s (.returned v) u) :
    ArmFor flags0 classFile x code maxLocals ret World_1 tables_1 room_1 Calls_1 rest_1 Pre_1 Post := by
  intro l hfl _ _ p e ha hc hk s m args below hf hA hF happ hP
  obtain ⟨hcalls, hrest, hpre⟩ := hP
  obtain ⟨-, -, -, hnamed, -, -, -, hat⟩ := (Spec.applies_iff hf).mp happ
  obtain ⟨hg, hn⟩ := and_e (Cond.before_iff.mp (show (Jvm.Cond.and given_1 narrow_1).before args s = true from hpre))
  obtain ⟨hq0, hr0⟩ := and_e hg
  obtain ⟨w0, rfl⟩ : ∃ w0 : Value, args = #[w0] := by
    have hs : args.size = 1 := by simpa [Cond.value, given_1] using hq0
    obtain ⟨L⟩ := args
    match L, hs with
    | [w0], _ => exact ⟨w0, rfl⟩
  have hw := fun d (hd : d ∈ tables_1) => atoms_spec (ws := Jvm.Cond.code x code maxLocals ret :: tables_1) hat d (List.mem_cons_of_mem _ hd)
  have hfit : Fit s := fun {y c} hc i hi => by
    obtain ⟨ha, rfl⟩ := Array.getElem?_eq_some_iff.mp hc
    have q := List.all_eq_true.mp ((Array.all_eq_true_iff_forall_mem.mp hF) _ (Array.getElem_mem ha)) i (List.mem_range.mpr hi)
    simpa [Array.getElem?_eq_getElem hi] using q
  obtain ⟨i0, ei0⟩ := is_v hr0
  obtain rfl : w0 = (.int i0) := Option.some.inj ei0
  obtain ⟨n, o, h1, h2, h3, _, L, rfl, ⟨rfl, N⟩, hq⟩ := own_rm0 l s _ hw tables_1 i0 s.heap s.heap.size (Nat.le_refl _) p e ha hc hk s m _ below hf ((Spec.applies_iff_loose hf).mp happ).1 ⟨rfl, State.Warmed39.refl s, rfl⟩ trivial
  refine ⟨n, _, h1, h2, h3, hpost _ _ _ _ _ _ ⟨Cond.after_iff.mpr rfl, Cond.after_iff.mpr (eq_i res_at (Term.int_eval (1)) rfl), trivial⟩ ⟨hq.1, hq.2.1, (hq.2.2.sift fun y hy => Or.inr (N y hy)).mono (by decide) (by decide)⟩⟩
theorem main_1_1 : Claimed_1_1 := own_comes fun _ _ _ _ _ _ h hF => ⟨h.1, hF⟩
theorem main_1_2 : Claimed_1_2 := own_comes fun _ _ _ _ _ _ h hF => ⟨h.2.1, hF⟩
end Jvm.Pilot.@@N@@
namespace Jvm.Pilot.@@N@@
open Jvm Jvm.ClassFile Sem Op Lib Jvm.Free Jvm.Stand Jvm.Pilot.@@N@@.Jvm.D
/-! MADE BY PROGRAM (witnessworld.py) out of the Statement's table words and the real class files: 9 classes; the members and pool entries that the words name. The judged class is class 1, her method 1. -/
namespace start1
open Jvm.ClassFile
def u (s : String) : CpInfo := .utf8 (stringToUtf16 s)
/-- a pool by its gaps: so many unusable entries, then the entry; so many at the end -/
def gap : Nat → List CpInfo → List CpInfo
  | 0, r => r
  | n + 1, r => .unusable :: gap n r
def poolList (es : List (Nat × CpInfo)) (last : Nat) : List CpInfo := es.foldr (fun e r => gap e.1 (e.2 :: r)) (gap last [])
def pool (es : List (Nat × CpInfo)) (last : Nat) : Array CpInfo := ⟨poolList es last⟩
def fileOf (pool : Array CpInfo) (this : Nat) (attrs : Array Attribute := #[]) (ms : Array MethodInfo := #[]) (fl : Nat := 33) (sup : Nat := 0) (ifs : Array Nat := #[]) (fds : Array FieldInfo := #[]) : ClassFile where
  minorVersion := 0
  majorVersion := 65
  constantPool := pool
  accessFlags := fl
  thisClass := this
  superClass := sup
  interfaces := ifs
  fields := fds
  methods := ms
  attributes := attrs
def plain (name : String) (sup : Option ClassId) : Class where
  name := name
  kind := .ordinary
  loader := none
  accessFlags := 33
  super := sup
  interfaces := #[]
  cf := none
  fields := #[]
  methods := #[]
  instanceTypes := #[]
  staticTypes := #[]
  resolved := #[]
  callSites := []
  init := .initialized
  statics := none
  mirror := none

def pool0 : Array CpInfo := pool [(5, u "<init>"), (0, u "()V"), (1, .class_ 10), (1, u "java/lang/Object")] 113

def k0m0 : Method := { name := "<init>", desc := "()V", sig := { parameters := [], returnType := none }, accessFlags := 1, code := none }
/-- java/lang/Object -/
def k0 : Class := { plain "java/lang/Object" none with
  accessFlags := 33
  interfaces := #[]
  cf := some (fileOf pool0 8 #[] #[{ accessFlags := 1, nameIndex := 5, descriptorIndex := 6, attributes := #[] }] 33 0 #[] #[])
  fields := #[]
  methods := #[k0m0]
  instanceTypes := #[]
  staticTypes := #[]
  resolved := Array.replicate 124 none
  statics := none }

def pool1 : Array CpInfo := pool [(2, .class_ 4), (1, u "java/lang/Object"), (0, u "<init>"), (0, u "()V"), (0, .methodref 8 9), (0, .class_ 10), (0, .nameAndType 11 12), (0, u "com/example/bentwire/bentwire/tracker/Peer"), (0, u "isAsciiLetterOrDigit"), (0, u "(C)Z"), (0, .class_ 14), (0, u "com/example/bentwire/bentwire/tracker/PeerIsAsciiLetterOrDigitPinLaw"), (2, u "law"), (0, u "(I)Z")] 3

def k1m0 : Method := { name := "<init>", desc := "()V", sig := { parameters := [], returnType := none }, accessFlags := 1, code := none }
def k1c1 : Code := { maxStack := 2, maxLocals := 5, code := code, exceptionTable := #[], attributes := #[] }
def k1m1 : Method := { name := "law", desc := "(I)Z", sig := { parameters := [.int], returnType := some .boolean }, accessFlags := 9, code := some k1c1 }
/-- com/example/bentwire/bentwire/tracker/PeerIsAsciiLetterOrDigitPinLaw -/
def k1 : Class := { plain "com/example/bentwire/bentwire/tracker/PeerIsAsciiLetterOrDigitPinLaw" (some 0) with
  accessFlags := 49
  interfaces := #[]
  cf := some (fileOf pool1 13 #[] #[{ accessFlags := 1, nameIndex := 5, descriptorIndex := 6, attributes := #[] }, { accessFlags := 9, nameIndex := 17, descriptorIndex := 18, attributes := #[] }] 49 2 #[] #[])
  fields := #[]
  methods := #[k1m0, k1m1]
  instanceTypes := #[]
  staticTypes := #[]
  resolved := Array.replicate 22 none
  statics := none }

def pool2 : Array CpInfo := pool [(2, .class_ 4), (1, u "java/lang/Object"), (3, .class_ 10), (1, u "com/example/bentwire/bentwire/tracker/Peer"), (0, u "host"), (0, u "Ljava/lang/String;"), (2, u "port"), (0, u "I"), (2, u "peerId"), (0, u "[B"), (32, u "MAX_PORT"), (10, u "isAsciiLetterOrDigit"), (0, u "(C)Z")] 37

def k2c0 : Code := { maxStack := 2, maxLocals := 1, code := prog_37_method_5_code, exceptionTable := #[], attributes := #[] }
def k2m0 : Method := { name := "isAsciiLetterOrDigit", desc := "(C)Z", sig := { parameters := [.char], returnType := some .boolean }, accessFlags := 8, code := some k2c0 }
/-- com/example/bentwire/bentwire/tracker/Peer -/
def k2 : Class := { plain "com/example/bentwire/bentwire/tracker/Peer" (some 0) with
  accessFlags := 49
  interfaces := #[]
  cf := some (fileOf pool2 8 #[] #[{ accessFlags := 8, nameIndex := 64, descriptorIndex := 65, attributes := #[] }] 49 2 #[] #[{ accessFlags := 24, nameIndex := 53, descriptorIndex := 16, attributes := #[] }, { accessFlags := 18, nameIndex := 11, descriptorIndex := 12, attributes := #[] }, { accessFlags := 18, nameIndex := 15, descriptorIndex := 16, attributes := #[] }, { accessFlags := 18, nameIndex := 19, descriptorIndex := 20, attributes := #[] }])
  fields := #[{ name := "MAX_PORT", type := .int, accessFlags := 24, slot := 0, constantValue := 0 }, { name := "host", type := (.object "java/lang/String"), accessFlags := 18, slot := 0, constantValue := 0 }, { name := "port", type := .int, accessFlags := 18, slot := 1, constantValue := 0 }, { name := "peerId", type := (.array .byte), accessFlags := 18, slot := 2, constantValue := 0 }]
  methods := #[k2m0]
  instanceTypes := #[(.object "java/lang/String"), .int, (.array .byte)]
  staticTypes := #[.int]
  resolved := Array.replicate 103 none
  statics := none }

def pool3 : Array CpInfo := pool [(1, u "java/lang/Cloneable"), (0, .class_ 1), (0, u "java/lang/Object"), (0, .class_ 3)] 3

/-- java/lang/Cloneable -/
def k3 : Class := { plain "java/lang/Cloneable" (some 0) with
  accessFlags := 1537
  interfaces := #[]
  cf := some (fileOf pool3 2 #[] #[] 1537 4 #[] #[])
  fields := #[]
  methods := #[]
  instanceTypes := #[]
  staticTypes := #[]
  resolved := Array.replicate 8 none
  statics := none }

def pool4 : Array CpInfo := pool [(1, u "java/io/Serializable"), (0, .class_ 1), (0, u "java/lang/Object"), (0, .class_ 3)] 3

/-- java/io/Serializable -/
def k4 : Class := { plain "java/io/Serializable" (some 0) with
  accessFlags := 1537
  interfaces := #[]
  cf := some (fileOf pool4 2 #[] #[] 1537 4 #[] #[])
  fields := #[]
  methods := #[]
  instanceTypes := #[]
  staticTypes := #[]
  resolved := Array.replicate 8 none
  statics := none }

/-- the primitive byte -/
def k5 : Class := { plain "byte" none with kind := .primitive 'B', accessFlags := 0x411 }
/-- [B -/
def k6 : Class := { plain "[B" (some 0) with kind := .array 5 .byte, interfaces := #[3, 4], accessFlags := 1041 }

/-- the primitive int -/
def k7 : Class := { plain "int" none with kind := .primitive 'I', accessFlags := 0x411 }
/-- [I -/
def k8 : Class := { plain "[I" (some 0) with kind := .array 7 .int, interfaces := #[3, 4], accessFlags := 1041 }

def heap : Heap := #[]
def classes : Array Class := #[k0, k1, k2, k3, k4, k5, k6, k7, k8]
def interned : List (Array UInt16 × Addr) := []
def slotsUsed : Nat := 0
def theMethod : MethodId := ⟨1, 1⟩
def args0 : Array Value := #[.int 5]
def aboutOver (below : List Frame) : State where
  vm := { classes := classes, interned := interned.toArray }
  heap := heap
  slotsUsed := slotsUsed
  threads := #[{ frames := .invoking theMethod args0 :: below }]
def below0 : List Frame := [.native { method := ⟨0, 0⟩, args := #[] }]
def about1 : State := aboutOver below0
def p0 : Program := .bare "" "" ""
def e0 : Env := launch0.env 0 0 0
theorem w_frames : about1.frames = Frame.invoking theMethod args0 :: below0 := rfl
set_option maxRecDepth 65536 in
theorem w_args : argsFit about1.vm theMethod args0 = true := by decide +kernel
set_option maxRecDepth 65536 in
theorem w_heap : heapFits about1 = true := by decide +kernel
set_option maxRecDepth 65536 in
theorem w_runnable : about1.curStatus? = some .runnable := by decide +kernel
set_option maxRecDepth 65536 in
theorem w_alone : about1.alone = true := by decide +kernel
set_option maxRecDepth 65536 in
theorem w_named : about1.methodNamed? x = some theMethod := by decide +kernel
set_option maxRecDepth 65536 in
theorem w_hears : about1.hears theMethod below0 = true := by decide +kernel
set_option maxRecDepth 65536 in
theorem w_ripe : about1.ripe theMethod args0 below0 = true := by decide +kernel
theorem w_running : about1.status = .running := rfl
set_option maxRecDepth 65536 in
theorem w_room : about1.hasRoom e0.platform room_1 = true :=
  launch0.hasRoom_least _ room_1 (by decide +kernel) (by decide +kernel) (by decide +kernel) (by decide +kernel) (by decide +kernel) (by decide +kernel)
theorem allAtoms_all (ts : List Jvm.Cond) (a : Array Jvm.Value) (st : Jvm.State) : (allAtoms ts).before a st = ts.all (fun c => c.before a st) := by
  induction ts with
  | nil => rfl
  | cons c t ih =>
    show (Jvm.Cond.and c (allAtoms t)).before a st = _
    rw [Jvm.Cond.before_and, ih, List.all_cons]
def words1 : List Jvm.Cond := Jvm.Cond.code x code maxLocals ret :: tables_1
/-- a 'code' word, met by the world's own term for the bytes: nothing is compared byte by byte -/
theorem code_word {y : MethodName} {bytes : ByteArray} {mx : Nat} {rt : Option FieldType} {a : Array Value} {s : State} {m : MethodId} {meth : Method} {c : Code} (h1 : s.methodNamed? y = some m) (h2 : s.vm.method? m = some meth) (h3 : meth.code = some c) (h4 : c.code = bytes)
    (h5 : (c.maxLocals == mx && c.exceptionTable.isEmpty && decide (c.maxStack ≤ mostOperands) && decide (meth.sig.returnType = rt) && !meth.locks && decide (parseMethodDescriptor y.desc = some meth.sig)) = true) : (Jvm.Cond.code y bytes mx rt).before a s = true := by
  simp only [Bool.and_eq_true, beq_iff_eq, Bool.not_eq_true', decide_eq_true_eq] at h5
  obtain ⟨⟨⟨⟨⟨g1, g2⟩, g3⟩, g4⟩, g5⟩, g6⟩ := h5
  simp [Cond.before, Cond.holds, Cond.value, h1, h2, h3, h4, g1, g2, g3, g4, g5, g6]
def isCode : Jvm.Cond → Bool
  | .code _ _ _ _ => true
  | _ => false
theorem all_split {L : List Jvm.Cond} {P : Jvm.Cond → Bool} (h1 : L.all (fun c => isCode c || P c) = true) (h2 : ∀ c ∈ L.filter isCode, P c = true) : L.all P = true := by
  refine List.all_eq_true.mpr fun c hc => ?_
  have h := List.all_eq_true.mp h1 c hc
  rcases Bool.eq_false_or_eq_true (isCode c) with hi | hi
  · exact h2 c (List.mem_filter.mpr ⟨hc, hi⟩)
  · simpa [hi] using h
set_option maxRecDepth 65536 in
theorem w_c0 : (Jvm.Cond.code x code maxLocals ret).before args0 about1 = true := code_word (m := ⟨1, 1⟩) (meth := k1m1) (c := k1c1) (by decide +kernel) rfl rfl rfl (by decide +kernel)
set_option maxRecDepth 65536 in
theorem w_c1 : (Jvm.Cond.code ({ cls := "com/example/bentwire/bentwire/tracker/Peer", name := "isAsciiLetterOrDigit", desc := "(C)Z" } : Jvm.MethodName) prog_37_method_5_code (1 : Nat) (Option.some Jvm.ClassFile.FieldType.boolean)).before args0 about1 = true := code_word (m := ⟨2, 0⟩) (meth := k2m0) (c := k2c0) (by decide +kernel) rfl rfl rfl (by decide +kernel)
def codes1 : List Jvm.Cond := [Jvm.Cond.code x code maxLocals ret, Jvm.Cond.code ({ cls := "com/example/bentwire/bentwire/tracker/Peer", name := "isAsciiLetterOrDigit", desc := "(C)Z" } : Jvm.MethodName) prog_37_method_5_code (1 : Nat) (Option.some Jvm.ClassFile.FieldType.boolean)]
set_option maxRecDepth 65536 in
theorem codes_eq : words1.filter isCode = codes1 := rfl
theorem w_codes : ∀ c ∈ words1.filter isCode, c.before args0 about1 = true := by
  rw [codes_eq]
  intro c hc
  simp only [codes1, List.mem_cons, List.not_mem_nil, or_false] at hc
  rcases hc with rfl | rfl
  · exact w_c0
  · exact w_c1
set_option maxRecDepth 65536 in
theorem w_t1 : words1.all (fun c => isCode c || c.before args0 about1) = true := by decide +kernel
theorem w_tables : (allAtoms (Jvm.Cond.code x code maxLocals ret :: tables_1)).before args0 about1 = true := by
  rw [allAtoms_all]
  show words1.all (fun c => c.before args0 about1) = true
  refine all_split ?_ w_codes
  rw [w_t1]
set_option maxRecDepth 65536 in
theorem w_case : (Jvm.Cond.and given_1 narrow_1).before args0 about1 = true := by decide +kernel
theorem w_applies : (headSpec (Jvm.Cond.code x code maxLocals ret :: tables_1) room_1).applies x e0.platform about1 = true :=
  (Spec.applies_iff w_frames).mpr ⟨w_running, w_runnable, w_alone, w_named, w_hears, w_ripe, w_room, w_tables⟩
theorem atStart : AtStart classFile x code maxLocals ret World_1 tables_1 room_1 Calls_1 rest_1 Pre_1 launch0 p0 e0 about1 theMethod args0 below0 :=
  ⟨lists_1, trivial, launch0.admits_env _ _ _, launch0.least_env, fairChoices_fair.cas, fairChoices_fair.clock, w_frames, w_args, w_heap, w_applies, trivial, trivial, w_case⟩
end start1
theorem witness_1 : WitnessClaimed_1 := ⟨start1.p0, start1.e0, start1.about1, start1.theMethod, start1.args0, start1.below0, start1.atStart⟩
end Jvm.Pilot.@@N@@
