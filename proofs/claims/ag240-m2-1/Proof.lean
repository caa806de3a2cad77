import JvmDerived
import JvmDerived.Pilot.@@N@@Statement
import JvmDerived.Pilot.@@N@@Code
set_option linter.unusedVariables false
set_option linter.unusedSimpArgs false
namespace Jvm.RoadKit
open Sem ClassFile Op Lib Jvm.Stand Jvm.Free Jvm.LawKit
section New
variable {p : Program} {l : Launch} {e : Env} {R : Room} {s : State} {m : MethodId} {args : Array Value} {below : List Frame} {meth : Method} {c : Code} {T : State} {locs : List Loc} {cells slots k n : Nat} {Q : Option Value → Heap → List Loc → Prop}
theorem retI (X : Stand p l e R s m args below meth c T locs cells slots) (hx : p.tables.exec = Jvm.exec) {pc : Nat} {Ls : Array Slot} {z : Int32} {rest : List Value} (hret : meth.sig.returnType = some .int) (hd : decode c.code pc = .ok (.ireturn, 1)) {fs : List Frame}
    (hl : ∀ (f : JFrame) (acts : List Action), f.method = m → f.locked = none → f.entered = [] → (doReturn e (T.setTop f) acts (some (.int z))).1 = T.setFrames fs) : Steps p.tables e below (T.setTop (mkF m pc Ls (.int z :: rest))) (T.setFrames fs) := by
  have hm' : T.vm.method? m = some meth := X.method'
  have hn : narrow .int (.int z) = .int z := rfl
  show Steps p.tables e below (T.setTop { method := m, pc := pc, locals := Ls, stack := _ :: rest, locked := none }) _
  jvm_step X.here [X.here.top, hx, hd, hm', hret, hn]
  first | (intro acts; rw [hl _ acts rfl rfl rfl]) | rw [hl _ _ rfl rfl rfl]
  exact Steps.refl _
/-- from S0 the run comes to a return that leaves what Q says -/
def own_Fin (p : Program) (e : Env) (below : List Frame) (s : State) (Q : Option Value → Heap → List Loc → Prop) (k n : Nat) (S0 : State) : Prop :=
  ∃ s₂ o, Steps p.tables e below S0 s₂ ∧ s₂.status = .running ∧ Ended s₂ below o ∧ ∃ v L, o = .returned v ∧ Q v s₂.heap L ∧ FrameEnd s o s₂ L k n
theorem own_go {S0 : State} (S1 : State) (h : ∀ t, Steps p.tables e below S1 t → Steps p.tables e below S0 t) (q : own_Fin p e below s Q k n S1) : own_Fin p e below s Q k n S0 := by
  obtain ⟨s₂, o, h1, h2⟩ := q
  exact ⟨s₂, o, h _ h1, h2⟩
theorem own_ret (X : Stand p l e R s m args below meth c T locs cells slots) (hlocks : meth.locks = false) (v : Option Value) (hv : meth.sig.returnType = none → v = none) {g : JFrame}
    (hs : ∀ fs, (∀ (f : JFrame) (acts : List Action), f.method = m → f.locked = none → f.entered = [] → (doReturn e (T.setTop f) acts v).1 = T.setFrames fs) → Steps p.tables e below (T.setTop g) (T.setFrames fs))
    (hk : cells ≤ k) (hn : slots ≤ n) (hQ : Q v T.heap locs) : own_Fin p e below s Q k n (T.setTop g) := by
  obtain ⟨fs, hr, hrun, hended, hW, hsame⟩ := X.leave (v := v) hv hlocks
  exact ⟨_, _, hs fs hr, hrun, hended, _, _, rfl, hQ, ⟨_, rfl⟩, hW, hsame.mono hk hn⟩
theorem own_zlt {x y : Int32} {a b : Int} (h : x < y) (hx : x.toInt = a) (hy : y.toInt = b) : a < b := by rw [← hx, ← hy]; exact Int32.lt_iff_toInt_lt.mp h
theorem own_znlt {x y : Int32} {a b : Int} (h : ¬ x < y) (hx : x.toInt = a) (hy : y.toInt = b) : ¬ a < b := by rw [← hx, ← hy]; exact fun q => h (Int32.lt_iff_toInt_lt.mpr q)
theorem own_zeq {x y : Int32} {a b : Int} (h : x = y) (hx : x.toInt = a) (hy : y.toInt = b) : a = b := by rw [← hx, ← hy, h]
theorem own_zneq {x y : Int32} {a b : Int} (h : ¬ x = y) (hx : x.toInt = a) (hy : y.toInt = b) : ¬ a = b := by rw [← hx, ← hy]; exact fun q => h (Int32.toInt_inj.mp q)
theorem own_zLlt {x y : Int64} {a b : Int} (h : x < y) (hx : x.toInt = a) (hy : y.toInt = b) : a < b := by rw [← hx, ← hy]; exact Int64.lt_iff_toInt_lt.mp h
theorem own_zLnlt {x y : Int64} {a b : Int} (h : ¬ x < y) (hx : x.toInt = a) (hy : y.toInt = b) : ¬ a < b := by rw [← hx, ← hy]; exact fun q => h (Int64.lt_iff_toInt_lt.mpr q)
theorem own_zLeq {x y : Int64} {a b : Int} (h : x = y) (hx : x.toInt = a) (hy : y.toInt = b) : a = b := by rw [← hx, ← hy, h]
theorem own_zLneq {x y : Int64} {a b : Int} (h : ¬ x = y) (hx : x.toInt = a) (hy : y.toInt = b) : ¬ a = b := by rw [← hx, ← hy]; exact fun q => h (Int64.toInt_inj.mp q)
end New
end Jvm.RoadKit
namespace Jvm.Pilot.@@N@@
open Jvm Jvm.ClassFile Sem Op Lib Jvm.Free Jvm.Stand Jvm.LawKit Jvm.RoadKit Bundle Jvm.Pilot.@@N@@.Jvm.D
theorem own_pd0 : parseMethodDescriptor "(I)I" = some ⟨[.int], some .int⟩ := by decide +kernel

theorem own_step (p1 d r : Int32) (kk : Nat) (fi : d.toInt = (kk : Int) ∧ kk ≤ 9 ∧ 0 ≤ r.toInt ∧ p1.toInt = r.toInt * 10 ^ (9 - kk)) (h6 : ¬ d.toInt ≤ 0) (h13 : (r % 10).toInt = 0) :
    (d + (-1 : Int32)).toInt = ((kk - 1 : Nat) : Int) ∧ kk - 1 ≤ 9 ∧ 0 ≤ (r / (10 : Int32)).toInt ∧ p1.toInt = (r / (10 : Int32)).toInt * 10 ^ (9 - (kk - 1)) := by
  obtain ⟨f1, f2, f3, f4⟩ := fi
  have hm := (c_irem r 10 10 rfl).1 f3
  have hd := (c_idiv r 10 10 rfl (by decide)).1 f3
  have ha := c_iadd d (-1); have hr := rng32 (d + (-1 : Int32))
  have hl : (-1 : Int32).toInt = -1 := rfl
  rw [hl] at ha
  refine ⟨by omega, by omega, by omega, ?_⟩
  rw [f4, hd, show 9 - (kk - 1) = (9 - kk) + 1 by omega, Int.pow_succ]
  have e : r.toInt = r.toInt / 10 * 10 := by omega
  generalize (10 : Int) ^ (9 - kk) = P at *
  rw [← Int.mul_assoc, Int.mul_right_comm, ← e]
def own_p (k : Nat) : Int64 := [(1 : Int64), 10, 100, 1000, 10000, 100000, 1000000, 10000000, 100000000, 1000000000].getD k 0
theorem own_pi : ∀ k : Fin 10, (own_p k.val).toInt = 10 ^ k.val ∧ own_p k.val ≠ 0 ∧ own_p k.val ≠ -1 ∧ ((1000000000 : Int64) / own_p k.val).toInt = 10 ^ (9 - k.val) ∧ (1000000000 : Int64) / own_p k.val ≠ 0 := by decide +kernel
def own_vs : List Value := [(.long (1 : Int64)), (.long (10 : Int64)), (.long (100 : Int64)), (.long (1000 : Int64)), (.long (10000 : Int64)), (.long (100000 : Int64)), (.long (1000000 : Int64)), (.long (10000000 : Int64)), (.long (100000000 : Int64)), (.long (1000000000 : Int64))]
theorem own_vs_at : ∀ k : Fin 10, own_vs.getD k.val (.long (0 : Int64)) = .long (own_p k.val) := by
  intro k
  match k with
  | ⟨0, _⟩ => rfl
  | ⟨1, _⟩ => rfl
  | ⟨2, _⟩ => rfl
  | ⟨3, _⟩ => rfl
  | ⟨4, _⟩ => rfl
  | ⟨5, _⟩ => rfl
  | ⟨6, _⟩ => rfl
  | ⟨7, _⟩ => rfl
  | ⟨8, _⟩ => rfl
  | ⟨9, _⟩ => rfl
theorem own_idx (j : Int32) (k : Nat) (h : j.toInt = (k : Int)) : j.toNatClampNeg = k := by rw [Int32.toNatClampNeg, h]; rfl
theorem own_in {c : Cell} (S : c.slots.size = (10 : Int32).toNatClampNeg) (j : Int32) (k : Nat) (h : j.toInt = (k : Int)) (hk : k < 10) : ¬ (j < 0 ∨ c.slots.size ≤ j.toNatClampNeg) := by
  refine inb_of S ⟨fun q => ?_, ?_⟩
  · have q' : j.toInt < 0 := own_zlt q rfl rfl
    omega
  · rw [Int32.lt_iff_toInt_lt, h, show (10 : Int32).toInt = 10 from rfl]; omega
theorem own_at {c : Cell} (H : Has c own_vs (.long (0 : Int64))) (S : c.slots.size = (10 : Int32).toNatClampNeg) (j : Int32) (k : Nat) (h : j.toInt = (k : Int)) (hk : k < 10) : c.slots[j.toNatClampNeg]? = some (.long (own_p k)) := by
  refine H.at (own_in S j k h hk) ?_
  rw [own_idx j k h]; exact own_vs_at ⟨k, hk⟩
theorem own_j (p : Int32) : 0 ≤ ((p &&& (2147483647 : Int32)) % (10 : Int32)).toInt ∧ ((p &&& (2147483647 : Int32)) % (10 : Int32)).toInt < 10 := by
  have h1 := c_mask p 2147483647 31 (by decide) (by decide)
  have h2 := (c_irem (p &&& 2147483647) 10 10 rfl).1 (by omega)
  rw [h2]; omega
theorem own_n (x : Int64) (k : Nat) (hk : k < 10) (hx : 0 ≤ x.toInt) (hx2 : x.toInt < 2147483648) :
    0 ≤ (((x - x / ((1000000000 : Int64) / own_p k) * ((1000000000 : Int64) / own_p k)) * own_p k).toInt32).toInt ∧ (((x - x / ((1000000000 : Int64) / own_p k) * ((1000000000 : Int64) / own_p k)) * own_p k).toInt32).toInt < 1000000000 := by
  obtain ⟨e1, -, -, e4, -⟩ := own_pi ⟨k, hk⟩
  dsimp only at e1 e4
  generalize own_p k = P at *
  generalize (1000000000 : Int64) / P = Q at *
  have m := (c_lrem x Q _ e4).1 hx
  generalize x - x / Q * Q = M at *
  have c1 := c_lmul M P; have c2 := rng64 (M * P); have c3 := c_l2i (M * P); have c4 := rng32 (M * P).toInt32
  rw [e1, m] at c1
  have key : 0 ≤ x.toInt % 10 ^ (9 - k) * 10 ^ k ∧ x.toInt % 10 ^ (9 - k) * 10 ^ k < 1000000000 := by
    have : k = 0 ∨ k = 1 ∨ k = 2 ∨ k = 3 ∨ k = 4 ∨ k = 5 ∨ k = 6 ∨ k = 7 ∨ k = 8 ∨ k = 9 := by omega
    rcases this with rfl | rfl | rfl | rfl | rfl | rfl | rfl | rfl | rfl | rfl <;> (simp only [Nat.reduceSub, Int.reducePow]; omega)
  generalize x.toInt % 10 ^ (9 - k) * 10 ^ k = W at *
  omega
theorem own_x (p : Int32) : 0 ≤ (p.toInt64 &&& (2147483647 : Int64)).toInt ∧ (p.toInt64 &&& (2147483647 : Int64)).toInt < 2147483648 := by
  have h1 := c_maskL p.toInt64 2147483647 31 (by decide) (by decide)
  rw [h1]; omega
theorem own_fin1 (n : Int32) (k : Nat) (R : Int) (hk : k ≤ 9) (hR : 0 ≤ R) (e : n.toInt = R * 10 ^ (9 - k)) : n.toInt64 - n.toInt64 / own_p (9 - k) * own_p (9 - k) = 0 ∧ (n.toInt64 / own_p (9 - k)).toInt = R := by
  obtain ⟨e1, -, e3, -⟩ := own_pi ⟨9 - k, by omega⟩
  dsimp only at e1 e3
  generalize own_p (9 - k) = P at *
  have hp : (0 : Int) < 10 ^ (9 - k) := Int.pow_pos (by decide)
  have h0 : 0 ≤ n.toInt64.toInt := by rw [c_i2l, e]; exact Int.mul_nonneg hR (Int.le_of_lt hp)
  have m := (c_lrem n.toInt64 P _ e1).1 h0
  have d := (c_ldiv n.toInt64 P _ e1 e3).1 h0
  rw [c_i2l, e] at m d
  constructor
  · apply Int64.toInt_inj.mp; rw [m, Int.mul_emod_left]; rfl
  · rw [d, Int.mul_ediv_cancel _ (Int.ne_of_gt hp)]
theorem own_fin2 (w : Int64) (R : Int) (hR : 0 ≤ R) (e : w.toInt = R) (h : ¬ R % 10 = 0) : ¬ w - w / (10 : Int64) * (10 : Int64) = 0 := fun q => by
  have m := (c_lrem w 10 10 rfl).1 (by omega)
  rw [q, e] at m
  exact h (m.symm.trans rfl)

theorem d1_0 : decode prog_184_method_11_code 0 = .ok (.bipush 9, 2) := by decide +kernel
theorem d1_2 : decode prog_184_method_11_code 2 = .ok (.istore_n 1, 1) := by decide +kernel
theorem d1_3 : decode prog_184_method_11_code 3 = .ok (.iload_n 0, 1) := by decide +kernel
theorem d1_4 : decode prog_184_method_11_code 4 = .ok (.istore_n 2, 1) := by decide +kernel
theorem d1_5 : decode prog_184_method_11_code 5 = .ok (.iload_n 1, 1) := by decide +kernel
theorem d1_6 : decode prog_184_method_11_code 6 = .ok (.ifCond .le 21, 3) := by decide +kernel
theorem d1_9 : decode prog_184_method_11_code 9 = .ok (.iload_n 2, 1) := by decide +kernel
theorem d1_10 : decode prog_184_method_11_code 10 = .ok (.bipush 10, 2) := by decide +kernel
theorem d1_12 : decode prog_184_method_11_code 12 = .ok (.irem, 1) := by decide +kernel
theorem d1_13 : decode prog_184_method_11_code 13 = .ok (.ifCond .ne 14, 3) := by decide +kernel
theorem d1_16 : decode prog_184_method_11_code 16 = .ok (.iinc 1 (-1), 3) := by decide +kernel
theorem d1_19 : decode prog_184_method_11_code 19 = .ok (.iload_n 2, 1) := by decide +kernel
theorem d1_20 : decode prog_184_method_11_code 20 = .ok (.bipush 10, 2) := by decide +kernel
theorem d1_22 : decode prog_184_method_11_code 22 = .ok (.idiv, 1) := by decide +kernel
theorem d1_23 : decode prog_184_method_11_code 23 = .ok (.istore_n 2, 1) := by decide +kernel
theorem d1_24 : decode prog_184_method_11_code 24 = .ok (.goto (-19), 3) := by decide +kernel
theorem d1_27 : decode prog_184_method_11_code 27 = .ok (.iload_n 1, 1) := by decide +kernel
theorem d1_28 : decode prog_184_method_11_code 28 = .ok (.ireturn, 1) := by decide +kernel
theorem own_pn1 : plainName "com/example/soundline/soundline/sql/DateTimeText" = true := by first | (simp [plainName, overriddenIn]; done) | decide +kernel
theorem own_ef1 (m : MethodId) (p1 : Int32) : entryFrame m #[(.int p1)] 3 = (mkF m 0 #[.val (.int p1), .unset, .unset] []) := by first | (simp [entryFrame, mkF, argsToLocals, Value.category]; done) | rfl
def own_Q1 (Z : State) (p1 : Int32)  (h0 : Heap) (n0 : Nat) (v : Option Value) (h : Heap) (L : List Loc) : Prop := ∃ (d : Int32) (k : Nat) (R : Int), v = some (.int d) ∧ Fr n0 L ∧ h = h0 ∧ d.toInt = (k : Int) ∧ k ≤ 9 ∧ 0 ≤ R ∧ p1.toInt = R * 10 ^ (9 - k) ∧ (k = 0 ∨ ¬ R % 10 = 0)
set_option maxRecDepth 65536 in
set_option maxHeartbeats 40000000 in
theorem own_rm1 (l : Launch) (Z : State) (a0 : Array Value) (hw : ∀ d ∈ tables_1, d.before a0 Z = true) (ws : List Jvm.Cond) (p1 : Int32)  (h0 : Heap) (n0 : Nat) (Z0 : n0 ≤ h0.size) (hp : 0 ≤ p1.toInt ∧ p1.toInt < 1000000000) :
    MetFree l (⟨"com/example/soundline/soundline/sql/DateTimeText", "fractionDigits", "(I)I"⟩ : MethodName) (head1 (Jvm.Cond.code (⟨"com/example/soundline/soundline/sql/DateTimeText", "fractionDigits", "(I)I"⟩ : MethodName) prog_184_method_11_code 3 (some .int) :: ws) ({ frames := 0, cells := 0, slots := 0, locals := 0 } : Room)) (fun a U => a = #[(.int p1)] ∧ Z.Warmed39 U.vm ∧ U.heap = h0) (fun _ _ _ _ _ => True) (fun _ U o U' => ∃ v L, o = .returned v ∧ own_Q1 Z p1 h0 n0 v U'.heap L ∧ FrameEnd U o U' L ({ frames := 0, cells := 0, slots := 0, locals := 0 } : Room).cells ({ frames := 0, cells := 0, slots := 0, locals := 0 } : Room).slots) := by
  refine MetFree.of_bodySF (plainFor_of_name own_pn1) hisR ?_
  intro p e s m args below meth c s₁ Bd hml0 hP hK
  obtain ⟨rfl, hZ, hh⟩ := hP
  have hx := Bd.exec
  have hby := Bd.bytes
  have hml : c.maxLocals = 3 := hml0
  have hown : s.vm.findClass "com/example/soundline/soundline/sql/DateTimeText" = some m.cls := findClass_of_methodNamed Bd.named
  have hnm := (name_of_methodNamed Bd.named Bd.method).1
  have X0 : Stand p l e ({ frames := 0, cells := 0, slots := 0, locals := 0 } : Room) s m #[(.int p1)] below meth c s₁ [] 0 0 := Stand.of_body Bd
  have e0 : s₁.heap = h0 := by rw [← hh, Bd.state]; rfl
  have N0 := Fr.nil n0
  have J27 : ∀ (T : State) (lc : List Loc) (X : Stand p l e ({ frames := 0, cells := 0, slots := 0, locals := 0 } : Room) s m #[(.int p1)] below meth c T lc 0 0) (eT : T.heap = h0) (N : Fr n0 lc) (d r : Int32) (kk : Nat) (fi : d.toInt = (kk : Int) ∧ kk ≤ 9 ∧ 0 ≤ r.toInt ∧ p1.toInt = r.toInt * 10 ^ (9 - kk)) (ff : kk = 0 ∨ ¬ r.toInt % 10 = 0), own_Fin p e below s (own_Q1 Z p1 h0 n0) ({ frames := 0, cells := 0, slots := 0, locals := 0 } : Room).cells ({ frames := 0, cells := 0, slots := 0, locals := 0 } : Room).slots (T.setTop (mkF m 27 #[.val (.int p1), .val (.int d), .val (.int r)] [])) := by
    intro T lc X eT N d r kk fi ff
    refine own_go (T.setTop (mkF m 28 #[.val (.int p1), .val (.int d), .val (.int r)] [(.int d)])) (fun _ k => XS.iloadN X.here hx rfl (hb hby d1_27) rfl k) ?_
    refine own_ret X (BodyLoose.notSynchronized Bd) (some (.int d)) (fun h => by rw [Bd.returns] at h; cases h) (fun fs hr => retI X hx Bd.returns (hb hby d1_28) hr) (by decide) (by decide) ?_
    exact ⟨d, kk, r.toInt, rfl, N, eT, fi.1, fi.2.1, fi.2.2.1, fi.2.2.2, ff⟩
  have J5 : ∀ (kk : Nat) (T : State) (lc : List Loc) (X : Stand p l e ({ frames := 0, cells := 0, slots := 0, locals := 0 } : Room) s m #[(.int p1)] below meth c T lc 0 0) (eT : T.heap = h0) (N : Fr n0 lc) (d r : Int32) (fi : d.toInt = (kk : Int) ∧ kk ≤ 9 ∧ 0 ≤ r.toInt ∧ p1.toInt = r.toInt * 10 ^ (9 - kk)), own_Fin p e below s (own_Q1 Z p1 h0 n0) ({ frames := 0, cells := 0, slots := 0, locals := 0 } : Room).cells ({ frames := 0, cells := 0, slots := 0, locals := 0 } : Room).slots (T.setTop (mkF m 5 #[.val (.int p1), .val (.int d), .val (.int r)] [])) := by
    intro kk
    induction kk using Nat.strongRecOn with
    | ind kk ih =>
    intro T lc X eT N d r fi
    refine own_go (T.setTop (mkF m 6 #[.val (.int p1), .val (.int d), .val (.int r)] [(.int d)])) (fun _ k => XS.iloadN X.here hx rfl (hb hby d1_5) rfl k) ?_
    by_cases hc6 : (0 : Int32) < d
    · have hz6 : (0 < (d).toInt) := own_zlt hc6 rfl rfl
      refine own_go (T.setTop (mkF m 9 #[.val (.int p1), .val (.int d), .val (.int r)] [])) (fun _ k => XS.ifNo X.here hx rfl (hb hby d1_6) rfl ((if0 _ _).trans (tlt hc6).2.2.2) k) ?_
      refine own_go (T.setTop (mkF m 10 #[.val (.int p1), .val (.int d), .val (.int r)] [(.int r)])) (fun _ k => XS.iloadN X.here hx rfl (hb hby d1_9) rfl k) ?_
      refine own_go (T.setTop (mkF m 12 #[.val (.int p1), .val (.int d), .val (.int r)] [(.int (10 : Int32)), (.int r)])) (fun _ k => XS.bipush X.here hx rfl (hb hby d1_10) k) ?_
      refine own_go (T.setTop (mkF m 13 #[.val (.int p1), .val (.int d), .val (.int r)] [(.int (r % (10 : Int32)))])) (fun _ k => iremM X hx rfl (hb hby d1_12) rfl (by decide) k) ?_
      by_cases hc13 : (r % (10 : Int32)) = (0 : Int32)
      · have hz13 : (((r % (10 : Int32))).toInt = 0) := own_zeq hc13 rfl rfl
        refine own_go (T.setTop (mkF m 16 #[.val (.int p1), .val (.int d), .val (.int r)] [])) (fun _ k => XS.ifNo X.here hx rfl (hb hby d1_13) rfl ((if0 _ _).trans (teq hc13).2) k) ?_
        refine own_go (T.setTop (mkF m 19 #[.val (.int p1), .val (.int (d + (-1 : Int32))), .val (.int r)] [])) (fun _ k => XS.iinc X.here hx rfl (hb hby d1_16) rfl (l' := #[.val (.int p1), .val (.int (d + (-1 : Int32))), .val (.int r)]) rfl k) ?_
        refine own_go (T.setTop (mkF m 20 #[.val (.int p1), .val (.int (d + (-1 : Int32))), .val (.int r)] [(.int r)])) (fun _ k => XS.iloadN X.here hx rfl (hb hby d1_19) rfl k) ?_
        refine own_go (T.setTop (mkF m 22 #[.val (.int p1), .val (.int (d + (-1 : Int32))), .val (.int r)] [(.int (10 : Int32)), (.int r)])) (fun _ k => XS.bipush X.here hx rfl (hb hby d1_20) k) ?_
        refine own_go (T.setTop (mkF m 23 #[.val (.int p1), .val (.int (d + (-1 : Int32))), .val (.int r)] [(.int (r / (10 : Int32)))])) (fun _ k => XS.idiv X.here hx rfl (hb hby d1_22) rfl (by decide) k) ?_
        refine own_go (T.setTop (mkF m 24 #[.val (.int p1), .val (.int (d + (-1 : Int32))), .val (.int (r / (10 : Int32)))] [])) (fun _ k => XS.istoreN X.here hx rfl (hb hby d1_23) rfl (l' := #[.val (.int p1), .val (.int (d + (-1 : Int32))), .val (.int (r / (10 : Int32)))]) rfl k) ?_
        refine own_go (T.setTop (mkF m 5 #[.val (.int p1), .val (.int (d + (-1 : Int32))), .val (.int (r / (10 : Int32)))] [])) (fun _ k => XS.goto X.here hx rfl (pc0 := 24) (pc' := 5) rfl (hb hby d1_24) (by decide) (by decide) k) ?_
        exact ih (kk - 1) (by omega) _ _ X eT N _ _ (own_step p1 d r kk fi (by omega) (by omega))
      · have hz13 : ¬ (((r % (10 : Int32))).toInt = 0) := own_zneq hc13 rfl rfl
        refine own_go (T.setTop (mkF m 27 #[.val (.int p1), .val (.int d), .val (.int r)] [])) (fun _ k => XS.ifYes X.here hx rfl (pc0 := 13) (pc' := 27) rfl (hb hby d1_13) rfl ((if0 _ _).trans (feq hc13).2) (by decide) (by decide) k) ?_
        exact J27 _ _ X eT N _ _ kk fi (by first | exact Or.inl (by omega) | (have hm := (c_irem r 10 10 rfl).1 fi.2.2.1; exact Or.inr (by omega)))
    · have hz6 : ¬ (0 < (d).toInt) := own_znlt hc6 rfl rfl
      refine own_go (T.setTop (mkF m 27 #[.val (.int p1), .val (.int d), .val (.int r)] [])) (fun _ k => XS.ifYes X.here hx rfl (pc0 := 6) (pc' := 27) rfl (hb hby d1_6) rfl ((if0 _ _).trans (flt hc6).2.2.2) (by decide) (by decide) k) ?_
      exact J27 _ _ X eT N _ _ kk fi (by first | exact Or.inl (by omega) | (have hm := (c_irem r 10 10 rfl).1 fi.2.2.1; exact Or.inr (by omega)))
  show own_Fin p e below s (own_Q1 Z p1 h0 n0) ({ frames := 0, cells := 0, slots := 0, locals := 0 } : Room).cells ({ frames := 0, cells := 0, slots := 0, locals := 0 } : Room).slots (s₁.setTop (entryFrame m #[(.int p1)] 3))
  refine own_go (s₁.setTop (mkF m 0 #[.val (.int p1), .unset, .unset] [])) (fun t k => castTop (own_ef1 m p1) k) ?_
  refine own_go (s₁.setTop (mkF m 2 #[.val (.int p1), .unset, .unset] [(.int (9 : Int32))])) (fun _ k => XS.bipush X0.here hx rfl (hb hby d1_0) k) ?_
  refine own_go (s₁.setTop (mkF m 3 #[.val (.int p1), .val (.int (9 : Int32)), .unset] [])) (fun _ k => XS.istoreN X0.here hx rfl (hb hby d1_2) rfl (l' := #[.val (.int p1), .val (.int (9 : Int32)), .unset]) rfl k) ?_
  refine own_go (s₁.setTop (mkF m 4 #[.val (.int p1), .val (.int (9 : Int32)), .unset] [(.int p1)])) (fun _ k => XS.iloadN X0.here hx rfl (hb hby d1_3) rfl k) ?_
  refine own_go (s₁.setTop (mkF m 5 #[.val (.int p1), .val (.int (9 : Int32)), .val (.int p1)] [])) (fun _ k => XS.istoreN X0.here hx rfl (hb hby d1_4) rfl (l' := #[.val (.int p1), .val (.int (9 : Int32)), .val (.int p1)]) rfl k) ?_
  exact J5 9 _ _ X0 e0 N0 _ _ ⟨rfl, Nat.le_refl _, hp.1, by show p1.toInt = p1.toInt * 10 ^ 0; omega⟩
theorem own_pn0 : plainName "com/example/soundline/soundline/sql/DateTimeTextFractionDigitsPinLaw" = true := by first | (simp [plainName, overriddenIn]; done) | decide +kernel
theorem own_ef0 (m : MethodId) (p1 : Int32) (p2 : Int32) : entryFrame m #[(.int p1), (.int p2)] maxLocals = (mkF m 0 #[.val (.int p1), .val (.int p2), .unset, .unset, .unset, .unset, .unset, .unset, .unset, .unset, .unset, .unset] []) := by first | (simp [entryFrame, mkF, argsToLocals, Value.category, maxLocals]; done) | rfl
def own_Q0 (Z : State) (p1 : Int32) (p2 : Int32)  (h0 : Heap) (n0 : Nat) (v : Option Value) (h : Heap) (L : List Loc) : Prop := v = some (.int (1 : Int32)) ∧ Fr n0 L
set_option maxRecDepth 65536 in
set_option maxHeartbeats 40000000 in
theorem own_rm0 (l : Launch) (Z : State) (a0 : Array Value) (hw : ∀ d ∈ tables_1, d.before a0 Z = true) (ws : List Jvm.Cond) (p1 : Int32) (p2 : Int32)  (h0 : Heap) (n0 : Nat) (Z0 : n0 ≤ h0.size) :
    MetFree l x (head1 (Jvm.Cond.code x code maxLocals ret :: ws) room_1) (fun a U => a = #[(.int p1), (.int p2)] ∧ Z.Warmed39 U.vm ∧ U.heap = h0) (fun _ _ _ _ _ => True) (fun _ U o U' => ∃ v L, o = .returned v ∧ own_Q0 Z p1 p2 h0 n0 v U'.heap L ∧ FrameEnd U o U' L room_1.cells room_1.slots) := by
  refine MetFree.of_bodySF (plainFor_of_name own_pn0) hisR ?_
  intro p e s m args below meth c s₁ Bd hml0 hP hK
  obtain ⟨rfl, hZ, hh⟩ := hP
  have hx := Bd.exec
  have hby := Bd.bytes
  have hml : c.maxLocals = 12 := hml0
  have hown : s.vm.findClass "com/example/soundline/soundline/sql/DateTimeTextFractionDigitsPinLaw" = some m.cls := findClass_of_methodNamed Bd.named
  have hnm := (name_of_methodNamed Bd.named Bd.method).1
  have X0 : Stand p l e room_1 s m #[(.int p1), (.int p2)] below meth c s₁ [] 0 0 := Stand.of_body Bd
  have e0 : s₁.heap = h0 := by rw [← hh, Bd.state]; rfl
  have N0 := Fr.nil n0
  show own_Fin p e below s (own_Q0 Z p1 p2 h0 n0) room_1.cells room_1.slots (s₁.setTop (entryFrame m #[(.int p1), (.int p2)] maxLocals))
  refine own_go (s₁.setTop (mkF m 0 #[.val (.int p1), .val (.int p2), .unset, .unset, .unset, .unset, .unset, .unset, .unset, .unset, .unset, .unset] [])) (fun t k => castTop (own_ef0 m p1 p2) k) ?_
  refine own_go (s₁.setTop (mkF m 2 #[.val (.int p1), .val (.int p2), .unset, .unset, .unset, .unset, .unset, .unset, .unset, .unset, .unset, .unset] [(.int (10 : Int32))])) (fun _ k => XS.bipush X0.here hx rfl (hb hby at_0) k) ?_
  obtain ⟨T1, h1, k1, X1, e1, E1, A1, st1⟩ := newP X0 hx hZ (hw _ (List.mem_of_getElem? (i := 0) rfl)) e0 (g := (mkF m 2 #[.val (.int p1), .val (.int p2), .unset, .unset, .unset, .unset, .unset, .unset, .unset, .unset, .unset, .unset] [(.int (10 : Int32))])) rfl (hb hby at_2) rfl (by decide) (cap := 10) (by decide) (by decide) (by decide) (by decide)
  obtain ⟨b1, g1⟩ : ∃ z, z = h0.size := ⟨_, rfl⟩
  rw [← g1] at A1 st1
  have V1 : Arv Z h1 b1 k1 .long (10 : Int32) [(.long (0 : Int64)), (.long (0 : Int64)), (.long (0 : Int64)), (.long (0 : Int64)), (.long (0 : Int64)), (.long (0 : Int64)), (.long (0 : Int64)), (.long (0 : Int64)), (.long (0 : Int64)), (.long (0 : Int64))] (.long (0 : Int64)) := (Arv.new A1 (by decide)).pad (pad_rep [] (.long (0 : Int64)) 10)
  have g_b1 : n0 ≤ b1 := Nat.le_trans Z0 (Nat.le_of_eq g1.symm)
  have Z1 : n0 ≤ h1.size := Nat.le_trans Z0 E1.1
  refine own_go (T1.setTop (mkF m 4 #[.val (.int p1), .val (.int p2), .unset, .unset, .unset, .unset, .unset, .unset, .unset, .unset, .unset, .unset] [(.ref b1)])) (fun _ k => st1 _ k) ?_
  refine own_go (T1.setTop (mkF m 5 #[.val (.int p1), .val (.int p2), .unset, .unset, .unset, .unset, .unset, .unset, .unset, .unset, .unset, .unset] [(.ref b1), (.ref b1)])) (fun _ k => XS.dup X1.here hx rfl (hb hby at_4) rfl rfl k) ?_
  refine own_go (T1.setTop (mkF m 6 #[.val (.int p1), .val (.int p2), .unset, .unset, .unset, .unset, .unset, .unset, .unset, .unset, .unset, .unset] [(.int (0 : Int32)), (.ref b1), (.ref b1)])) (fun _ k => XS.iconst X1.here hx rfl (hb hby at_5) k) ?_
  refine own_go (T1.setTop (mkF m 7 #[.val (.int p1), .val (.int p2), .unset, .unset, .unset, .unset, .unset, .unset, .unset, .unset, .unset, .unset] [(.long (1 : Int64)), (.int (0 : Int32)), (.ref b1), (.ref b1)])) (fun _ k => XS.lconst X1.here hx rfl (hb hby at_6) k) ?_
  obtain ⟨cl2, Ar2, q2, S2, Nn2, H2, G2⟩ := V1
  have hin2 : ¬ ((0 : Int32) < 0 ∨ cl2.slots.size ≤ ((0 : Int32)).toNatClampNeg) := inb_of S2 ⟨by decide, by decide⟩
  obtain ⟨T2, h2, X2, e2, W2, st2⟩ := stJ X1 hx hZ e1 Ar2 (j := (0 : Int32)) hin2 (g := (mkF m 7 #[.val (.int p1), .val (.int p2), .unset, .unset, .unset, .unset, .unset, .unset, .unset, .unset, .unset, .unset] [(.long (1 : Int64)), (.int (0 : Int32)), (.ref b1), (.ref b1)])) rfl rfl (hb hby at_7)
  have V2 : Arv Z h2 b1 k1 .long (10 : Int32) [(.long (1 : Int64)), (.long (0 : Int64)), (.long (0 : Int64)), (.long (0 : Int64)), (.long (0 : Int64)), (.long (0 : Int64)), (.long (0 : Int64)), (.long (0 : Int64)), (.long (0 : Int64)), (.long (0 : Int64))] (.long (0 : Int64)) := Arv.set Ar2 q2 S2 Nn2 H2 G2 rfl W2 0 rfl (Nat.le_of_ble_eq_true rfl)
  have N2 := Fr.snoc X2 N0 g_b1
  have Z2 : n0 ≤ h2.size := Nat.le_trans Z1 (Keep.of_wr W2).1
  refine own_go (T2.setTop (mkF m 8 #[.val (.int p1), .val (.int p2), .unset, .unset, .unset, .unset, .unset, .unset, .unset, .unset, .unset, .unset] [(.ref b1)])) (fun _ k => st2 _ k) ?_
  refine own_go (T2.setTop (mkF m 9 #[.val (.int p1), .val (.int p2), .unset, .unset, .unset, .unset, .unset, .unset, .unset, .unset, .unset, .unset] [(.ref b1), (.ref b1)])) (fun _ k => XS.dup X2.here hx rfl (hb hby at_8) rfl rfl k) ?_
  refine own_go (T2.setTop (mkF m 10 #[.val (.int p1), .val (.int p2), .unset, .unset, .unset, .unset, .unset, .unset, .unset, .unset, .unset, .unset] [(.int (1 : Int32)), (.ref b1), (.ref b1)])) (fun _ k => XS.iconst X2.here hx rfl (hb hby at_9) k) ?_
  refine own_go (T2.setTop (mkF m 13 #[.val (.int p1), .val (.int p2), .unset, .unset, .unset, .unset, .unset, .unset, .unset, .unset, .unset, .unset] [(.long (10 : Int64)), (.int (1 : Int32)), (.ref b1), (.ref b1)])) (fun _ k => X2.ldc2Long hx hown (mvT hZ (hw _ (List.mem_of_getElem? (i := 1) rfl))) (g := (mkF m 10 #[.val (.int p1), .val (.int p2), .unset, .unset, .unset, .unset, .unset, .unset, .unset, .unset, .unset, .unset] [(.int (1 : Int32)), (.ref b1), (.ref b1)])) rfl (hb hby at_10) _ k) ?_
  obtain ⟨cl3, Ar3, q3, S3, Nn3, H3, G3⟩ := V2
  have hin3 : ¬ ((1 : Int32) < 0 ∨ cl3.slots.size ≤ ((1 : Int32)).toNatClampNeg) := inb_of S3 ⟨by decide, by decide⟩
  obtain ⟨T3, h3, X3, e3, W3, st3⟩ := stJ X2 hx hZ e2 Ar3 (j := (1 : Int32)) hin3 (g := (mkF m 13 #[.val (.int p1), .val (.int p2), .unset, .unset, .unset, .unset, .unset, .unset, .unset, .unset, .unset, .unset] [(.long (10 : Int64)), (.int (1 : Int32)), (.ref b1), (.ref b1)])) rfl rfl (hb hby at_13)
  have V3 : Arv Z h3 b1 k1 .long (10 : Int32) [(.long (1 : Int64)), (.long (10 : Int64)), (.long (0 : Int64)), (.long (0 : Int64)), (.long (0 : Int64)), (.long (0 : Int64)), (.long (0 : Int64)), (.long (0 : Int64)), (.long (0 : Int64)), (.long (0 : Int64))] (.long (0 : Int64)) := Arv.set Ar3 q3 S3 Nn3 H3 G3 rfl W3 1 rfl (Nat.le_of_ble_eq_true rfl)
  have N3 := Fr.snoc X3 N2 g_b1
  have Z3 : n0 ≤ h3.size := Nat.le_trans Z2 (Keep.of_wr W3).1
  refine own_go (T3.setTop (mkF m 14 #[.val (.int p1), .val (.int p2), .unset, .unset, .unset, .unset, .unset, .unset, .unset, .unset, .unset, .unset] [(.ref b1)])) (fun _ k => st3 _ k) ?_
  refine own_go (T3.setTop (mkF m 15 #[.val (.int p1), .val (.int p2), .unset, .unset, .unset, .unset, .unset, .unset, .unset, .unset, .unset, .unset] [(.ref b1), (.ref b1)])) (fun _ k => XS.dup X3.here hx rfl (hb hby at_14) rfl rfl k) ?_
  refine own_go (T3.setTop (mkF m 16 #[.val (.int p1), .val (.int p2), .unset, .unset, .unset, .unset, .unset, .unset, .unset, .unset, .unset, .unset] [(.int (2 : Int32)), (.ref b1), (.ref b1)])) (fun _ k => XS.iconst X3.here hx rfl (hb hby at_15) k) ?_
  refine own_go (T3.setTop (mkF m 19 #[.val (.int p1), .val (.int p2), .unset, .unset, .unset, .unset, .unset, .unset, .unset, .unset, .unset, .unset] [(.long (100 : Int64)), (.int (2 : Int32)), (.ref b1), (.ref b1)])) (fun _ k => X3.ldc2Long hx hown (mvT hZ (hw _ (List.mem_of_getElem? (i := 2) rfl))) (g := (mkF m 16 #[.val (.int p1), .val (.int p2), .unset, .unset, .unset, .unset, .unset, .unset, .unset, .unset, .unset, .unset] [(.int (2 : Int32)), (.ref b1), (.ref b1)])) rfl (hb hby at_16) _ k) ?_
  obtain ⟨cl4, Ar4, q4, S4, Nn4, H4, G4⟩ := V3
  have hin4 : ¬ ((2 : Int32) < 0 ∨ cl4.slots.size ≤ ((2 : Int32)).toNatClampNeg) := inb_of S4 ⟨by decide, by decide⟩
  obtain ⟨T4, h4, X4, e4, W4, st4⟩ := stJ X3 hx hZ e3 Ar4 (j := (2 : Int32)) hin4 (g := (mkF m 19 #[.val (.int p1), .val (.int p2), .unset, .unset, .unset, .unset, .unset, .unset, .unset, .unset, .unset, .unset] [(.long (100 : Int64)), (.int (2 : Int32)), (.ref b1), (.ref b1)])) rfl rfl (hb hby at_19)
  have V4 : Arv Z h4 b1 k1 .long (10 : Int32) [(.long (1 : Int64)), (.long (10 : Int64)), (.long (100 : Int64)), (.long (0 : Int64)), (.long (0 : Int64)), (.long (0 : Int64)), (.long (0 : Int64)), (.long (0 : Int64)), (.long (0 : Int64)), (.long (0 : Int64))] (.long (0 : Int64)) := Arv.set Ar4 q4 S4 Nn4 H4 G4 rfl W4 2 rfl (Nat.le_of_ble_eq_true rfl)
  have N4 := Fr.snoc X4 N3 g_b1
  have Z4 : n0 ≤ h4.size := Nat.le_trans Z3 (Keep.of_wr W4).1
  refine own_go (T4.setTop (mkF m 20 #[.val (.int p1), .val (.int p2), .unset, .unset, .unset, .unset, .unset, .unset, .unset, .unset, .unset, .unset] [(.ref b1)])) (fun _ k => st4 _ k) ?_
  refine own_go (T4.setTop (mkF m 21 #[.val (.int p1), .val (.int p2), .unset, .unset, .unset, .unset, .unset, .unset, .unset, .unset, .unset, .unset] [(.ref b1), (.ref b1)])) (fun _ k => XS.dup X4.here hx rfl (hb hby at_20) rfl rfl k) ?_
  refine own_go (T4.setTop (mkF m 22 #[.val (.int p1), .val (.int p2), .unset, .unset, .unset, .unset, .unset, .unset, .unset, .unset, .unset, .unset] [(.int (3 : Int32)), (.ref b1), (.ref b1)])) (fun _ k => XS.iconst X4.here hx rfl (hb hby at_21) k) ?_
  refine own_go (T4.setTop (mkF m 25 #[.val (.int p1), .val (.int p2), .unset, .unset, .unset, .unset, .unset, .unset, .unset, .unset, .unset, .unset] [(.long (1000 : Int64)), (.int (3 : Int32)), (.ref b1), (.ref b1)])) (fun _ k => X4.ldc2Long hx hown (mvT hZ (hw _ (List.mem_of_getElem? (i := 3) rfl))) (g := (mkF m 22 #[.val (.int p1), .val (.int p2), .unset, .unset, .unset, .unset, .unset, .unset, .unset, .unset, .unset, .unset] [(.int (3 : Int32)), (.ref b1), (.ref b1)])) rfl (hb hby at_22) _ k) ?_
  obtain ⟨cl5, Ar5, q5, S5, Nn5, H5, G5⟩ := V4
  have hin5 : ¬ ((3 : Int32) < 0 ∨ cl5.slots.size ≤ ((3 : Int32)).toNatClampNeg) := inb_of S5 ⟨by decide, by decide⟩
  obtain ⟨T5, h5, X5, e5, W5, st5⟩ := stJ X4 hx hZ e4 Ar5 (j := (3 : Int32)) hin5 (g := (mkF m 25 #[.val (.int p1), .val (.int p2), .unset, .unset, .unset, .unset, .unset, .unset, .unset, .unset, .unset, .unset] [(.long (1000 : Int64)), (.int (3 : Int32)), (.ref b1), (.ref b1)])) rfl rfl (hb hby at_25)
  have V5 : Arv Z h5 b1 k1 .long (10 : Int32) [(.long (1 : Int64)), (.long (10 : Int64)), (.long (100 : Int64)), (.long (1000 : Int64)), (.long (0 : Int64)), (.long (0 : Int64)), (.long (0 : Int64)), (.long (0 : Int64)), (.long (0 : Int64)), (.long (0 : Int64))] (.long (0 : Int64)) := Arv.set Ar5 q5 S5 Nn5 H5 G5 rfl W5 3 rfl (Nat.le_of_ble_eq_true rfl)
  have N5 := Fr.snoc X5 N4 g_b1
  have Z5 : n0 ≤ h5.size := Nat.le_trans Z4 (Keep.of_wr W5).1
  refine own_go (T5.setTop (mkF m 26 #[.val (.int p1), .val (.int p2), .unset, .unset, .unset, .unset, .unset, .unset, .unset, .unset, .unset, .unset] [(.ref b1)])) (fun _ k => st5 _ k) ?_
  refine own_go (T5.setTop (mkF m 27 #[.val (.int p1), .val (.int p2), .unset, .unset, .unset, .unset, .unset, .unset, .unset, .unset, .unset, .unset] [(.ref b1), (.ref b1)])) (fun _ k => XS.dup X5.here hx rfl (hb hby at_26) rfl rfl k) ?_
  refine own_go (T5.setTop (mkF m 28 #[.val (.int p1), .val (.int p2), .unset, .unset, .unset, .unset, .unset, .unset, .unset, .unset, .unset, .unset] [(.int (4 : Int32)), (.ref b1), (.ref b1)])) (fun _ k => XS.iconst X5.here hx rfl (hb hby at_27) k) ?_
  refine own_go (T5.setTop (mkF m 31 #[.val (.int p1), .val (.int p2), .unset, .unset, .unset, .unset, .unset, .unset, .unset, .unset, .unset, .unset] [(.long (10000 : Int64)), (.int (4 : Int32)), (.ref b1), (.ref b1)])) (fun _ k => X5.ldc2Long hx hown (mvT hZ (hw _ (List.mem_of_getElem? (i := 4) rfl))) (g := (mkF m 28 #[.val (.int p1), .val (.int p2), .unset, .unset, .unset, .unset, .unset, .unset, .unset, .unset, .unset, .unset] [(.int (4 : Int32)), (.ref b1), (.ref b1)])) rfl (hb hby at_28) _ k) ?_
  obtain ⟨cl6, Ar6, q6, S6, Nn6, H6, G6⟩ := V5
  have hin6 : ¬ ((4 : Int32) < 0 ∨ cl6.slots.size ≤ ((4 : Int32)).toNatClampNeg) := inb_of S6 ⟨by decide, by decide⟩
  obtain ⟨T6, h6, X6, e6, W6, st6⟩ := stJ X5 hx hZ e5 Ar6 (j := (4 : Int32)) hin6 (g := (mkF m 31 #[.val (.int p1), .val (.int p2), .unset, .unset, .unset, .unset, .unset, .unset, .unset, .unset, .unset, .unset] [(.long (10000 : Int64)), (.int (4 : Int32)), (.ref b1), (.ref b1)])) rfl rfl (hb hby at_31)
  have V6 : Arv Z h6 b1 k1 .long (10 : Int32) [(.long (1 : Int64)), (.long (10 : Int64)), (.long (100 : Int64)), (.long (1000 : Int64)), (.long (10000 : Int64)), (.long (0 : Int64)), (.long (0 : Int64)), (.long (0 : Int64)), (.long (0 : Int64)), (.long (0 : Int64))] (.long (0 : Int64)) := Arv.set Ar6 q6 S6 Nn6 H6 G6 rfl W6 4 rfl (Nat.le_of_ble_eq_true rfl)
  have N6 := Fr.snoc X6 N5 g_b1
  have Z6 : n0 ≤ h6.size := Nat.le_trans Z5 (Keep.of_wr W6).1
  refine own_go (T6.setTop (mkF m 32 #[.val (.int p1), .val (.int p2), .unset, .unset, .unset, .unset, .unset, .unset, .unset, .unset, .unset, .unset] [(.ref b1)])) (fun _ k => st6 _ k) ?_
  refine own_go (T6.setTop (mkF m 33 #[.val (.int p1), .val (.int p2), .unset, .unset, .unset, .unset, .unset, .unset, .unset, .unset, .unset, .unset] [(.ref b1), (.ref b1)])) (fun _ k => XS.dup X6.here hx rfl (hb hby at_32) rfl rfl k) ?_
  refine own_go (T6.setTop (mkF m 34 #[.val (.int p1), .val (.int p2), .unset, .unset, .unset, .unset, .unset, .unset, .unset, .unset, .unset, .unset] [(.int (5 : Int32)), (.ref b1), (.ref b1)])) (fun _ k => XS.iconst X6.here hx rfl (hb hby at_33) k) ?_
  refine own_go (T6.setTop (mkF m 37 #[.val (.int p1), .val (.int p2), .unset, .unset, .unset, .unset, .unset, .unset, .unset, .unset, .unset, .unset] [(.long (100000 : Int64)), (.int (5 : Int32)), (.ref b1), (.ref b1)])) (fun _ k => X6.ldc2Long hx hown (mvT hZ (hw _ (List.mem_of_getElem? (i := 5) rfl))) (g := (mkF m 34 #[.val (.int p1), .val (.int p2), .unset, .unset, .unset, .unset, .unset, .unset, .unset, .unset, .unset, .unset] [(.int (5 : Int32)), (.ref b1), (.ref b1)])) rfl (hb hby at_34) _ k) ?_
  obtain ⟨cl7, Ar7, q7, S7, Nn7, H7, G7⟩ := V6
  have hin7 : ¬ ((5 : Int32) < 0 ∨ cl7.slots.size ≤ ((5 : Int32)).toNatClampNeg) := inb_of S7 ⟨by decide, by decide⟩
  obtain ⟨T7, h7, X7, e7, W7, st7⟩ := stJ X6 hx hZ e6 Ar7 (j := (5 : Int32)) hin7 (g := (mkF m 37 #[.val (.int p1), .val (.int p2), .unset, .unset, .unset, .unset, .unset, .unset, .unset, .unset, .unset, .unset] [(.long (100000 : Int64)), (.int (5 : Int32)), (.ref b1), (.ref b1)])) rfl rfl (hb hby at_37)
  have V7 : Arv Z h7 b1 k1 .long (10 : Int32) [(.long (1 : Int64)), (.long (10 : Int64)), (.long (100 : Int64)), (.long (1000 : Int64)), (.long (10000 : Int64)), (.long (100000 : Int64)), (.long (0 : Int64)), (.long (0 : Int64)), (.long (0 : Int64)), (.long (0 : Int64))] (.long (0 : Int64)) := Arv.set Ar7 q7 S7 Nn7 H7 G7 rfl W7 5 rfl (Nat.le_of_ble_eq_true rfl)
  have N7 := Fr.snoc X7 N6 g_b1
  have Z7 : n0 ≤ h7.size := Nat.le_trans Z6 (Keep.of_wr W7).1
  refine own_go (T7.setTop (mkF m 38 #[.val (.int p1), .val (.int p2), .unset, .unset, .unset, .unset, .unset, .unset, .unset, .unset, .unset, .unset] [(.ref b1)])) (fun _ k => st7 _ k) ?_
  refine own_go (T7.setTop (mkF m 39 #[.val (.int p1), .val (.int p2), .unset, .unset, .unset, .unset, .unset, .unset, .unset, .unset, .unset, .unset] [(.ref b1), (.ref b1)])) (fun _ k => XS.dup X7.here hx rfl (hb hby at_38) rfl rfl k) ?_
  refine own_go (T7.setTop (mkF m 41 #[.val (.int p1), .val (.int p2), .unset, .unset, .unset, .unset, .unset, .unset, .unset, .unset, .unset, .unset] [(.int (6 : Int32)), (.ref b1), (.ref b1)])) (fun _ k => XS.bipush X7.here hx rfl (hb hby at_39) k) ?_
  refine own_go (T7.setTop (mkF m 44 #[.val (.int p1), .val (.int p2), .unset, .unset, .unset, .unset, .unset, .unset, .unset, .unset, .unset, .unset] [(.long (1000000 : Int64)), (.int (6 : Int32)), (.ref b1), (.ref b1)])) (fun _ k => X7.ldc2Long hx hown (mvT hZ (hw _ (List.mem_of_getElem? (i := 6) rfl))) (g := (mkF m 41 #[.val (.int p1), .val (.int p2), .unset, .unset, .unset, .unset, .unset, .unset, .unset, .unset, .unset, .unset] [(.int (6 : Int32)), (.ref b1), (.ref b1)])) rfl (hb hby at_41) _ k) ?_
  obtain ⟨cl8, Ar8, q8, S8, Nn8, H8, G8⟩ := V7
  have hin8 : ¬ ((6 : Int32) < 0 ∨ cl8.slots.size ≤ ((6 : Int32)).toNatClampNeg) := inb_of S8 ⟨by decide, by decide⟩
  obtain ⟨T8, h8, X8, e8, W8, st8⟩ := stJ X7 hx hZ e7 Ar8 (j := (6 : Int32)) hin8 (g := (mkF m 44 #[.val (.int p1), .val (.int p2), .unset, .unset, .unset, .unset, .unset, .unset, .unset, .unset, .unset, .unset] [(.long (1000000 : Int64)), (.int (6 : Int32)), (.ref b1), (.ref b1)])) rfl rfl (hb hby at_44)
  have V8 : Arv Z h8 b1 k1 .long (10 : Int32) [(.long (1 : Int64)), (.long (10 : Int64)), (.long (100 : Int64)), (.long (1000 : Int64)), (.long (10000 : Int64)), (.long (100000 : Int64)), (.long (1000000 : Int64)), (.long (0 : Int64)), (.long (0 : Int64)), (.long (0 : Int64))] (.long (0 : Int64)) := Arv.set Ar8 q8 S8 Nn8 H8 G8 rfl W8 6 rfl (Nat.le_of_ble_eq_true rfl)
  have N8 := Fr.snoc X8 N7 g_b1
  have Z8 : n0 ≤ h8.size := Nat.le_trans Z7 (Keep.of_wr W8).1
  refine own_go (T8.setTop (mkF m 45 #[.val (.int p1), .val (.int p2), .unset, .unset, .unset, .unset, .unset, .unset, .unset, .unset, .unset, .unset] [(.ref b1)])) (fun _ k => st8 _ k) ?_
  refine own_go (T8.setTop (mkF m 46 #[.val (.int p1), .val (.int p2), .unset, .unset, .unset, .unset, .unset, .unset, .unset, .unset, .unset, .unset] [(.ref b1), (.ref b1)])) (fun _ k => XS.dup X8.here hx rfl (hb hby at_45) rfl rfl k) ?_
  refine own_go (T8.setTop (mkF m 48 #[.val (.int p1), .val (.int p2), .unset, .unset, .unset, .unset, .unset, .unset, .unset, .unset, .unset, .unset] [(.int (7 : Int32)), (.ref b1), (.ref b1)])) (fun _ k => XS.bipush X8.here hx rfl (hb hby at_46) k) ?_
  refine own_go (T8.setTop (mkF m 51 #[.val (.int p1), .val (.int p2), .unset, .unset, .unset, .unset, .unset, .unset, .unset, .unset, .unset, .unset] [(.long (10000000 : Int64)), (.int (7 : Int32)), (.ref b1), (.ref b1)])) (fun _ k => X8.ldc2Long hx hown (mvT hZ (hw _ (List.mem_of_getElem? (i := 7) rfl))) (g := (mkF m 48 #[.val (.int p1), .val (.int p2), .unset, .unset, .unset, .unset, .unset, .unset, .unset, .unset, .unset, .unset] [(.int (7 : Int32)), (.ref b1), (.ref b1)])) rfl (hb hby at_48) _ k) ?_
  obtain ⟨cl9, Ar9, q9, S9, Nn9, H9, G9⟩ := V8
  have hin9 : ¬ ((7 : Int32) < 0 ∨ cl9.slots.size ≤ ((7 : Int32)).toNatClampNeg) := inb_of S9 ⟨by decide, by decide⟩
  obtain ⟨T9, h9, X9, e9, W9, st9⟩ := stJ X8 hx hZ e8 Ar9 (j := (7 : Int32)) hin9 (g := (mkF m 51 #[.val (.int p1), .val (.int p2), .unset, .unset, .unset, .unset, .unset, .unset, .unset, .unset, .unset, .unset] [(.long (10000000 : Int64)), (.int (7 : Int32)), (.ref b1), (.ref b1)])) rfl rfl (hb hby at_51)
  have V9 : Arv Z h9 b1 k1 .long (10 : Int32) [(.long (1 : Int64)), (.long (10 : Int64)), (.long (100 : Int64)), (.long (1000 : Int64)), (.long (10000 : Int64)), (.long (100000 : Int64)), (.long (1000000 : Int64)), (.long (10000000 : Int64)), (.long (0 : Int64)), (.long (0 : Int64))] (.long (0 : Int64)) := Arv.set Ar9 q9 S9 Nn9 H9 G9 rfl W9 7 rfl (Nat.le_of_ble_eq_true rfl)
  have N9 := Fr.snoc X9 N8 g_b1
  have Z9 : n0 ≤ h9.size := Nat.le_trans Z8 (Keep.of_wr W9).1
  refine own_go (T9.setTop (mkF m 52 #[.val (.int p1), .val (.int p2), .unset, .unset, .unset, .unset, .unset, .unset, .unset, .unset, .unset, .unset] [(.ref b1)])) (fun _ k => st9 _ k) ?_
  refine own_go (T9.setTop (mkF m 53 #[.val (.int p1), .val (.int p2), .unset, .unset, .unset, .unset, .unset, .unset, .unset, .unset, .unset, .unset] [(.ref b1), (.ref b1)])) (fun _ k => XS.dup X9.here hx rfl (hb hby at_52) rfl rfl k) ?_
  refine own_go (T9.setTop (mkF m 55 #[.val (.int p1), .val (.int p2), .unset, .unset, .unset, .unset, .unset, .unset, .unset, .unset, .unset, .unset] [(.int (8 : Int32)), (.ref b1), (.ref b1)])) (fun _ k => XS.bipush X9.here hx rfl (hb hby at_53) k) ?_
  refine own_go (T9.setTop (mkF m 58 #[.val (.int p1), .val (.int p2), .unset, .unset, .unset, .unset, .unset, .unset, .unset, .unset, .unset, .unset] [(.long (100000000 : Int64)), (.int (8 : Int32)), (.ref b1), (.ref b1)])) (fun _ k => X9.ldc2Long hx hown (mvT hZ (hw _ (List.mem_of_getElem? (i := 8) rfl))) (g := (mkF m 55 #[.val (.int p1), .val (.int p2), .unset, .unset, .unset, .unset, .unset, .unset, .unset, .unset, .unset, .unset] [(.int (8 : Int32)), (.ref b1), (.ref b1)])) rfl (hb hby at_55) _ k) ?_
  obtain ⟨cl10, Ar10, q10, S10, Nn10, H10, G10⟩ := V9
  have hin10 : ¬ ((8 : Int32) < 0 ∨ cl10.slots.size ≤ ((8 : Int32)).toNatClampNeg) := inb_of S10 ⟨by decide, by decide⟩
  obtain ⟨T10, h10, X10, e10, W10, st10⟩ := stJ X9 hx hZ e9 Ar10 (j := (8 : Int32)) hin10 (g := (mkF m 58 #[.val (.int p1), .val (.int p2), .unset, .unset, .unset, .unset, .unset, .unset, .unset, .unset, .unset, .unset] [(.long (100000000 : Int64)), (.int (8 : Int32)), (.ref b1), (.ref b1)])) rfl rfl (hb hby at_58)
  have V10 : Arv Z h10 b1 k1 .long (10 : Int32) [(.long (1 : Int64)), (.long (10 : Int64)), (.long (100 : Int64)), (.long (1000 : Int64)), (.long (10000 : Int64)), (.long (100000 : Int64)), (.long (1000000 : Int64)), (.long (10000000 : Int64)), (.long (100000000 : Int64)), (.long (0 : Int64))] (.long (0 : Int64)) := Arv.set Ar10 q10 S10 Nn10 H10 G10 rfl W10 8 rfl (Nat.le_of_ble_eq_true rfl)
  have N10 := Fr.snoc X10 N9 g_b1
  have Z10 : n0 ≤ h10.size := Nat.le_trans Z9 (Keep.of_wr W10).1
  refine own_go (T10.setTop (mkF m 59 #[.val (.int p1), .val (.int p2), .unset, .unset, .unset, .unset, .unset, .unset, .unset, .unset, .unset, .unset] [(.ref b1)])) (fun _ k => st10 _ k) ?_
  refine own_go (T10.setTop (mkF m 60 #[.val (.int p1), .val (.int p2), .unset, .unset, .unset, .unset, .unset, .unset, .unset, .unset, .unset, .unset] [(.ref b1), (.ref b1)])) (fun _ k => XS.dup X10.here hx rfl (hb hby at_59) rfl rfl k) ?_
  refine own_go (T10.setTop (mkF m 62 #[.val (.int p1), .val (.int p2), .unset, .unset, .unset, .unset, .unset, .unset, .unset, .unset, .unset, .unset] [(.int (9 : Int32)), (.ref b1), (.ref b1)])) (fun _ k => XS.bipush X10.here hx rfl (hb hby at_60) k) ?_
  refine own_go (T10.setTop (mkF m 65 #[.val (.int p1), .val (.int p2), .unset, .unset, .unset, .unset, .unset, .unset, .unset, .unset, .unset, .unset] [(.long (1000000000 : Int64)), (.int (9 : Int32)), (.ref b1), (.ref b1)])) (fun _ k => X10.ldc2Long hx hown (mvT hZ (hw _ (List.mem_of_getElem? (i := 9) rfl))) (g := (mkF m 62 #[.val (.int p1), .val (.int p2), .unset, .unset, .unset, .unset, .unset, .unset, .unset, .unset, .unset, .unset] [(.int (9 : Int32)), (.ref b1), (.ref b1)])) rfl (hb hby at_62) _ k) ?_
  obtain ⟨cl11, Ar11, q11, S11, Nn11, H11, G11⟩ := V10
  have hin11 : ¬ ((9 : Int32) < 0 ∨ cl11.slots.size ≤ ((9 : Int32)).toNatClampNeg) := inb_of S11 ⟨by decide, by decide⟩
  obtain ⟨T11, h11, X11, e11, W11, st11⟩ := stJ X10 hx hZ e10 Ar11 (j := (9 : Int32)) hin11 (g := (mkF m 65 #[.val (.int p1), .val (.int p2), .unset, .unset, .unset, .unset, .unset, .unset, .unset, .unset, .unset, .unset] [(.long (1000000000 : Int64)), (.int (9 : Int32)), (.ref b1), (.ref b1)])) rfl rfl (hb hby at_65)
  have V11 : Arv Z h11 b1 k1 .long (10 : Int32) [(.long (1 : Int64)), (.long (10 : Int64)), (.long (100 : Int64)), (.long (1000 : Int64)), (.long (10000 : Int64)), (.long (100000 : Int64)), (.long (1000000 : Int64)), (.long (10000000 : Int64)), (.long (100000000 : Int64)), (.long (1000000000 : Int64))] (.long (0 : Int64)) := Arv.set Ar11 q11 S11 Nn11 H11 G11 rfl W11 9 rfl (Nat.le_of_ble_eq_true rfl)
  have N11 := Fr.snoc X11 N10 g_b1
  have Z11 : n0 ≤ h11.size := Nat.le_trans Z10 (Keep.of_wr W11).1
  refine own_go (T11.setTop (mkF m 66 #[.val (.int p1), .val (.int p2), .unset, .unset, .unset, .unset, .unset, .unset, .unset, .unset, .unset, .unset] [(.ref b1)])) (fun _ k => st11 _ k) ?_
  refine own_go (T11.setTop (mkF m 67 #[.val (.int p1), .val (.int p2), .val (.ref b1), .unset, .unset, .unset, .unset, .unset, .unset, .unset, .unset, .unset] [])) (fun _ k => XS.astoreN X11.here hx rfl (hb hby at_66) rfl rfl (l' := #[.val (.int p1), .val (.int p2), .val (.ref b1), .unset, .unset, .unset, .unset, .unset, .unset, .unset, .unset, .unset]) rfl k) ?_
  refine own_go (T11.setTop (mkF m 68 #[.val (.int p1), .val (.int p2), .val (.ref b1), .unset, .unset, .unset, .unset, .unset, .unset, .unset, .unset, .unset] [(.int p2)])) (fun _ k => XS.iloadN X11.here hx rfl (hb hby at_67) rfl k) ?_
  refine own_go (T11.setTop (mkF m 70 #[.val (.int p1), .val (.int p2), .val (.ref b1), .unset, .unset, .unset, .unset, .unset, .unset, .unset, .unset, .unset] [(.int (2147483647 : Int32)), (.int p2)])) (fun _ k => X11.ldcInt hx hown (mvT hZ (hw _ (List.mem_of_getElem? (i := 10) rfl))) (g := (mkF m 68 #[.val (.int p1), .val (.int p2), .val (.ref b1), .unset, .unset, .unset, .unset, .unset, .unset, .unset, .unset, .unset] [(.int p2)])) rfl (hb hby at_68) _ k) ?_
  refine own_go (T11.setTop (mkF m 71 #[.val (.int p1), .val (.int p2), .val (.ref b1), .unset, .unset, .unset, .unset, .unset, .unset, .unset, .unset, .unset] [(.int (p2 &&& (2147483647 : Int32)))])) (fun _ k => XS.iand X11.here hx rfl (hb hby at_70) rfl k) ?_
  refine own_go (T11.setTop (mkF m 73 #[.val (.int p1), .val (.int p2), .val (.ref b1), .unset, .unset, .unset, .unset, .unset, .unset, .unset, .unset, .unset] [(.int (10 : Int32)), (.int (p2 &&& (2147483647 : Int32)))])) (fun _ k => XS.bipush X11.here hx rfl (hb hby at_71) k) ?_
  refine own_go (T11.setTop (mkF m 74 #[.val (.int p1), .val (.int p2), .val (.ref b1), .unset, .unset, .unset, .unset, .unset, .unset, .unset, .unset, .unset] [(.int ((p2 &&& (2147483647 : Int32)) % (10 : Int32)))])) (fun _ k => iremM X11 hx rfl (hb hby at_73) rfl (by decide) k) ?_
  refine own_go (T11.setTop (mkF m 75 #[.val (.int p1), .val (.int p2), .val (.ref b1), .val (.int ((p2 &&& (2147483647 : Int32)) % (10 : Int32))), .unset, .unset, .unset, .unset, .unset, .unset, .unset, .unset] [])) (fun _ k => XS.istoreN X11.here hx rfl (hb hby at_74) rfl (l' := #[.val (.int p1), .val (.int p2), .val (.ref b1), .val (.int ((p2 &&& (2147483647 : Int32)) % (10 : Int32))), .unset, .unset, .unset, .unset, .unset, .unset, .unset, .unset]) rfl k) ?_
  refine own_go (T11.setTop (mkF m 76 #[.val (.int p1), .val (.int p2), .val (.ref b1), .val (.int ((p2 &&& (2147483647 : Int32)) % (10 : Int32))), .unset, .unset, .unset, .unset, .unset, .unset, .unset, .unset] [(.ref b1)])) (fun _ k => XS.aloadN X11.here hx rfl (hb hby at_75) rfl rfl k) ?_
  refine own_go (T11.setTop (mkF m 77 #[.val (.int p1), .val (.int p2), .val (.ref b1), .val (.int ((p2 &&& (2147483647 : Int32)) % (10 : Int32))), .unset, .unset, .unset, .unset, .unset, .unset, .unset, .unset] [(.int ((p2 &&& (2147483647 : Int32)) % (10 : Int32))), (.ref b1)])) (fun _ k => XS.iloadN X11.here hx rfl (hb hby at_76) rfl k) ?_
  obtain ⟨cl, Ar, -, Sz, -, Hs, -⟩ := V11
  have hj := own_j p2
  obtain ⟨k1, ek1⟩ : ∃ k : Nat, ((p2 &&& (2147483647 : Int32)) % (10 : Int32)).toInt = (k : Int) := ⟨((p2 &&& (2147483647 : Int32)) % (10 : Int32)).toInt.toNat, by omega⟩
  have hk1 : k1 < 10 := by omega
  refine own_go (T11.setTop (mkF m 78 #[.val (.int p1), .val (.int p2), .val (.ref b1), .val (.int ((p2 &&& (2147483647 : Int32)) % (10 : Int32))), .unset, .unset, .unset, .unset, .unset, .unset, .unset, .unset] [(.long (own_p k1))])) (fun _ k => X11.laload hx (j := ((p2 &&& (2147483647 : Int32)) % (10 : Int32))) (v := (.long (own_p k1))) (by rw [e11]; exact Ar.1) (State.isArrayOf_alike hZ.alike Ar.2.1) Ar.2.2 (own_in Sz ((p2 &&& (2147483647 : Int32)) % (10 : Int32)) k1 ek1 hk1) (own_at Hs Sz ((p2 &&& (2147483647 : Int32)) % (10 : Int32)) k1 ek1 hk1) (g := (mkF m 77 #[.val (.int p1), .val (.int p2), .val (.ref b1), .val (.int ((p2 &&& (2147483647 : Int32)) % (10 : Int32))), .unset, .unset, .unset, .unset, .unset, .unset, .unset, .unset] [(.int ((p2 &&& (2147483647 : Int32)) % (10 : Int32))), (.ref b1)])) rfl rfl (hb hby at_77) _ k) ?_
  refine own_go (T11.setTop (mkF m 80 #[.val (.int p1), .val (.int p2), .val (.ref b1), .val (.int ((p2 &&& (2147483647 : Int32)) % (10 : Int32))), .val (.long (own_p k1)), .second, .unset, .unset, .unset, .unset, .unset, .unset] [])) (fun _ k => XS.lstore X11.here hx rfl (hb hby at_78) rfl (l' := #[.val (.int p1), .val (.int p2), .val (.ref b1), .val (.int ((p2 &&& (2147483647 : Int32)) % (10 : Int32))), .val (.long (own_p k1)), .second, .unset, .unset, .unset, .unset, .unset, .unset]) rfl k) ?_
  refine own_go (T11.setTop (mkF m 81 #[.val (.int p1), .val (.int p2), .val (.ref b1), .val (.int ((p2 &&& (2147483647 : Int32)) % (10 : Int32))), .val (.long (own_p k1)), .second, .unset, .unset, .unset, .unset, .unset, .unset] [(.int p1)])) (fun _ k => XS.iloadN X11.here hx rfl (hb hby at_80) rfl k) ?_
  refine own_go (T11.setTop (mkF m 82 #[.val (.int p1), .val (.int p2), .val (.ref b1), .val (.int ((p2 &&& (2147483647 : Int32)) % (10 : Int32))), .val (.long (own_p k1)), .second, .unset, .unset, .unset, .unset, .unset, .unset] [(.long (p1.toInt64))])) (fun _ k => XS.i2l X11.here hx rfl (hb hby at_81) rfl k) ?_
  refine own_go (T11.setTop (mkF m 85 #[.val (.int p1), .val (.int p2), .val (.ref b1), .val (.int ((p2 &&& (2147483647 : Int32)) % (10 : Int32))), .val (.long (own_p k1)), .second, .unset, .unset, .unset, .unset, .unset, .unset] [(.long (2147483647 : Int64)), (.long (p1.toInt64))])) (fun _ k => X11.ldc2Long hx hown (mvT hZ (hw _ (List.mem_of_getElem? (i := 11) rfl))) (g := (mkF m 82 #[.val (.int p1), .val (.int p2), .val (.ref b1), .val (.int ((p2 &&& (2147483647 : Int32)) % (10 : Int32))), .val (.long (own_p k1)), .second, .unset, .unset, .unset, .unset, .unset, .unset] [(.long (p1.toInt64))])) rfl (hb hby at_82) _ k) ?_
  refine own_go (T11.setTop (mkF m 86 #[.val (.int p1), .val (.int p2), .val (.ref b1), .val (.int ((p2 &&& (2147483647 : Int32)) % (10 : Int32))), .val (.long (own_p k1)), .second, .unset, .unset, .unset, .unset, .unset, .unset] [(.long ((p1.toInt64) &&& (2147483647 : Int64)))])) (fun _ k => XS.land X11.here hx rfl (hb hby at_85) rfl k) ?_
  refine own_go (T11.setTop (mkF m 89 #[.val (.int p1), .val (.int p2), .val (.ref b1), .val (.int ((p2 &&& (2147483647 : Int32)) % (10 : Int32))), .val (.long (own_p k1)), .second, .unset, .unset, .unset, .unset, .unset, .unset] [(.long (1000000000 : Int64)), (.long ((p1.toInt64) &&& (2147483647 : Int64)))])) (fun _ k => X11.ldc2Long hx hown (mvT hZ (hw _ (List.mem_of_getElem? (i := 9) rfl))) (g := (mkF m 86 #[.val (.int p1), .val (.int p2), .val (.ref b1), .val (.int ((p2 &&& (2147483647 : Int32)) % (10 : Int32))), .val (.long (own_p k1)), .second, .unset, .unset, .unset, .unset, .unset, .unset] [(.long ((p1.toInt64) &&& (2147483647 : Int64)))])) rfl (hb hby at_86) _ k) ?_
  refine own_go (T11.setTop (mkF m 91 #[.val (.int p1), .val (.int p2), .val (.ref b1), .val (.int ((p2 &&& (2147483647 : Int32)) % (10 : Int32))), .val (.long (own_p k1)), .second, .unset, .unset, .unset, .unset, .unset, .unset] [(.long (own_p k1)), (.long (1000000000 : Int64)), (.long ((p1.toInt64) &&& (2147483647 : Int64)))])) (fun _ k => XS.lload X11.here hx rfl (hb hby at_89) rfl k) ?_
  refine own_go (T11.setTop (mkF m 92 #[.val (.int p1), .val (.int p2), .val (.ref b1), .val (.int ((p2 &&& (2147483647 : Int32)) % (10 : Int32))), .val (.long (own_p k1)), .second, .unset, .unset, .unset, .unset, .unset, .unset] [(.long ((1000000000 : Int64) / (own_p k1))), (.long ((p1.toInt64) &&& (2147483647 : Int64)))])) (fun _ k => XS.ldiv X11.here hx rfl (hb hby at_91) rfl (own_pi ⟨k1, hk1⟩).2.1 k) ?_
  refine own_go (T11.setTop (mkF m 93 #[.val (.int p1), .val (.int p2), .val (.ref b1), .val (.int ((p2 &&& (2147483647 : Int32)) % (10 : Int32))), .val (.long (own_p k1)), .second, .unset, .unset, .unset, .unset, .unset, .unset] [(.long (((p1.toInt64) &&& (2147483647 : Int64)) - ((p1.toInt64) &&& (2147483647 : Int64)) / ((1000000000 : Int64) / (own_p k1)) * ((1000000000 : Int64) / (own_p k1))))])) (fun _ k => XS.lrem X11.here hx rfl (hb hby at_92) rfl (own_pi ⟨k1, hk1⟩).2.2.2.2 k) ?_
  refine own_go (T11.setTop (mkF m 95 #[.val (.int p1), .val (.int p2), .val (.ref b1), .val (.int ((p2 &&& (2147483647 : Int32)) % (10 : Int32))), .val (.long (own_p k1)), .second, .unset, .unset, .unset, .unset, .unset, .unset] [(.long (own_p k1)), (.long (((p1.toInt64) &&& (2147483647 : Int64)) - ((p1.toInt64) &&& (2147483647 : Int64)) / ((1000000000 : Int64) / (own_p k1)) * ((1000000000 : Int64) / (own_p k1))))])) (fun _ k => XS.lload X11.here hx rfl (hb hby at_93) rfl k) ?_
  refine own_go (T11.setTop (mkF m 96 #[.val (.int p1), .val (.int p2), .val (.ref b1), .val (.int ((p2 &&& (2147483647 : Int32)) % (10 : Int32))), .val (.long (own_p k1)), .second, .unset, .unset, .unset, .unset, .unset, .unset] [(.long ((((p1.toInt64) &&& (2147483647 : Int64)) - ((p1.toInt64) &&& (2147483647 : Int64)) / ((1000000000 : Int64) / (own_p k1)) * ((1000000000 : Int64) / (own_p k1))) * (own_p k1)))])) (fun _ k => XS.lmul X11.here hx rfl (hb hby at_95) rfl k) ?_
  refine own_go (T11.setTop (mkF m 97 #[.val (.int p1), .val (.int p2), .val (.ref b1), .val (.int ((p2 &&& (2147483647 : Int32)) % (10 : Int32))), .val (.long (own_p k1)), .second, .unset, .unset, .unset, .unset, .unset, .unset] [(.int (((((p1.toInt64) &&& (2147483647 : Int64)) - ((p1.toInt64) &&& (2147483647 : Int64)) / ((1000000000 : Int64) / (own_p k1)) * ((1000000000 : Int64) / (own_p k1))) * (own_p k1)).toInt32))])) (fun _ k => XS.l2i X11.here hx rfl (hb hby at_96) rfl k) ?_
  refine own_go (T11.setTop (mkF m 99 #[.val (.int p1), .val (.int p2), .val (.ref b1), .val (.int ((p2 &&& (2147483647 : Int32)) % (10 : Int32))), .val (.long (own_p k1)), .second, .val (.int (((((p1.toInt64) &&& (2147483647 : Int64)) - ((p1.toInt64) &&& (2147483647 : Int64)) / ((1000000000 : Int64) / (own_p k1)) * ((1000000000 : Int64) / (own_p k1))) * (own_p k1)).toInt32)), .unset, .unset, .unset, .unset, .unset] [])) (fun _ k => XS.istore X11.here hx rfl (hb hby at_97) rfl (l' := #[.val (.int p1), .val (.int p2), .val (.ref b1), .val (.int ((p2 &&& (2147483647 : Int32)) % (10 : Int32))), .val (.long (own_p k1)), .second, .val (.int (((((p1.toInt64) &&& (2147483647 : Int64)) - ((p1.toInt64) &&& (2147483647 : Int64)) / ((1000000000 : Int64) / (own_p k1)) * ((1000000000 : Int64) / (own_p k1))) * (own_p k1)).toInt32)), .unset, .unset, .unset, .unset, .unset]) rfl k) ?_
  refine own_go (T11.setTop (mkF m 101 #[.val (.int p1), .val (.int p2), .val (.ref b1), .val (.int ((p2 &&& (2147483647 : Int32)) % (10 : Int32))), .val (.long (own_p k1)), .second, .val (.int (((((p1.toInt64) &&& (2147483647 : Int64)) - ((p1.toInt64) &&& (2147483647 : Int64)) / ((1000000000 : Int64) / (own_p k1)) * ((1000000000 : Int64) / (own_p k1))) * (own_p k1)).toInt32)), .unset, .unset, .unset, .unset, .unset] [(.int (((((p1.toInt64) &&& (2147483647 : Int64)) - ((p1.toInt64) &&& (2147483647 : Int64)) / ((1000000000 : Int64) / (own_p k1)) * ((1000000000 : Int64) / (own_p k1))) * (own_p k1)).toInt32))])) (fun _ k => XS.iload X11.here hx rfl (hb hby at_99) rfl k) ?_
  obtain ⟨_, _, ⟨T12, L12, k12, n12⟩, -, X12, ⟨Lc12, hQ12, l12, y12, z12⟩, st12⟩ := Jvm.LawKit.callS X11 hx (y := (⟨"com/example/soundline/soundline/sql/DateTimeText", "fractionDigits", "(I)I"⟩ : MethodName)) hown (mvT hZ (hw _ (List.mem_of_getElem? (i := 12) rfl))) (mvT hZ (hw _ (List.mem_of_getElem? (i := 13) rfl))) (mvT hZ (hw _ (List.mem_of_getElem? (i := 14) rfl))) (mvT hZ (hw _ (List.mem_of_getElem? (i := 15) rfl))) (by decide) (backOf (W := 0) (own_rm1 l Z a0 hw [] (((((p1.toInt64) &&& (2147483647 : Int64)) - ((p1.toInt64) &&& (2147483647 : Int64)) / ((1000000000 : Int64) / (own_p k1)) * ((1000000000 : Int64) / (own_p k1))) * (own_p k1)).toInt32) h11 n0 Z11 (own_n _ k1 hk1 (own_x p1).1 (own_x p1).2)) hZ (hw _ (List.mem_of_getElem? (i := 15) rfl)) (hw _ (List.mem_of_getElem? (i := 14) rfl)) (by decide) (by decide)) (g := (mkF m 101 #[.val (.int p1), .val (.int p2), .val (.ref b1), .val (.int ((p2 &&& (2147483647 : Int32)) % (10 : Int32))), .val (.long (own_p k1)), .second, .val (.int (((((p1.toInt64) &&& (2147483647 : Int64)) - ((p1.toInt64) &&& (2147483647 : Int64)) / ((1000000000 : Int64) / (own_p k1)) * ((1000000000 : Int64) / (own_p k1))) * (own_p k1)).toInt32)), .unset, .unset, .unset, .unset, .unset] [(.int (((((p1.toInt64) &&& (2147483647 : Int64)) - ((p1.toInt64) &&& (2147483647 : Int64)) / ((1000000000 : Int64) / (own_p k1)) * ((1000000000 : Int64) / (own_p k1))) * (own_p k1)).toInt32))])) rfl (by rw [hml]; rfl) (argsL := [(.int (((((p1.toInt64) &&& (2147483647 : Int64)) - ((p1.toInt64) &&& (2147483647 : Int64)) / ((1000000000 : Int64) / (own_p k1)) * ((1000000000 : Int64) / (own_p k1))) * (own_p k1)).toInt32))]) (rest := []) (lenOf own_pd0 rfl) rfl (by show 2 * 0 + _ ≤ _; exact Nat.le_of_eq rfl) (hb hby at_101) (fun _ _ => ⟨rfl, e11, (by decide : 1 + 0 ≤ _), (by decide : 10 + 0 ≤ _)⟩)
  dsimp only [Pt.U, Pt.locs, Pt.cells, Pt.slots] at X12 l12 y12 z12 st12 hQ12
  subst l12 y12 z12
  obtain ⟨d1, k2, R2, rfl, N12q, e12, B1, B2, B3, B4, B5⟩ := hQ12
  have N12 := Fr.app N11 N12q
  obtain ⟨B6, B7⟩ := own_fin1 _ k2 R2 B2 B3 B4
  refine own_go (T12.setTop (mkF m 104 #[.val (.int p1), .val (.int p2), .val (.ref b1), .val (.int ((p2 &&& (2147483647 : Int32)) % (10 : Int32))), .val (.long (own_p k1)), .second, .val (.int (((((p1.toInt64) &&& (2147483647 : Int64)) - ((p1.toInt64) &&& (2147483647 : Int64)) / ((1000000000 : Int64) / (own_p k1)) * ((1000000000 : Int64) / (own_p k1))) * (own_p k1)).toInt32)), .unset, .unset, .unset, .unset, .unset] [(.int d1)])) (fun _ k => st12 _ k) ?_
  refine own_go (T12.setTop (mkF m 106 #[.val (.int p1), .val (.int p2), .val (.ref b1), .val (.int ((p2 &&& (2147483647 : Int32)) % (10 : Int32))), .val (.long (own_p k1)), .second, .val (.int (((((p1.toInt64) &&& (2147483647 : Int64)) - ((p1.toInt64) &&& (2147483647 : Int64)) / ((1000000000 : Int64) / (own_p k1)) * ((1000000000 : Int64) / (own_p k1))) * (own_p k1)).toInt32)), .val (.int d1), .unset, .unset, .unset, .unset] [])) (fun _ k => XS.istore X12.here hx rfl (hb hby at_104) rfl (l' := #[.val (.int p1), .val (.int p2), .val (.ref b1), .val (.int ((p2 &&& (2147483647 : Int32)) % (10 : Int32))), .val (.long (own_p k1)), .second, .val (.int (((((p1.toInt64) &&& (2147483647 : Int64)) - ((p1.toInt64) &&& (2147483647 : Int64)) / ((1000000000 : Int64) / (own_p k1)) * ((1000000000 : Int64) / (own_p k1))) * (own_p k1)).toInt32)), .val (.int d1), .unset, .unset, .unset, .unset]) rfl k) ?_
  refine own_go (T12.setTop (mkF m 108 #[.val (.int p1), .val (.int p2), .val (.ref b1), .val (.int ((p2 &&& (2147483647 : Int32)) % (10 : Int32))), .val (.long (own_p k1)), .second, .val (.int (((((p1.toInt64) &&& (2147483647 : Int64)) - ((p1.toInt64) &&& (2147483647 : Int64)) / ((1000000000 : Int64) / (own_p k1)) * ((1000000000 : Int64) / (own_p k1))) * (own_p k1)).toInt32)), .val (.int d1), .unset, .unset, .unset, .unset] [(.int d1)])) (fun _ k => XS.iload X12.here hx rfl (hb hby at_106) rfl k) ?_
  by_cases hc108 : d1 < (0 : Int32)
  · have hz108 : ((d1).toInt < 0) := own_zlt hc108 rfl rfl
    exfalso; omega
  · have hz108 : ¬ ((d1).toInt < 0) := own_znlt hc108 rfl rfl
    refine own_go (T12.setTop (mkF m 111 #[.val (.int p1), .val (.int p2), .val (.ref b1), .val (.int ((p2 &&& (2147483647 : Int32)) % (10 : Int32))), .val (.long (own_p k1)), .second, .val (.int (((((p1.toInt64) &&& (2147483647 : Int64)) - ((p1.toInt64) &&& (2147483647 : Int64)) / ((1000000000 : Int64) / (own_p k1)) * ((1000000000 : Int64) / (own_p k1))) * (own_p k1)).toInt32)), .val (.int d1), .unset, .unset, .unset, .unset] [])) (fun _ k => XS.ifNo X12.here hx rfl (hb hby at_108) rfl ((if0 _ _).trans (flt hc108).1) k) ?_
    refine own_go (T12.setTop (mkF m 113 #[.val (.int p1), .val (.int p2), .val (.ref b1), .val (.int ((p2 &&& (2147483647 : Int32)) % (10 : Int32))), .val (.long (own_p k1)), .second, .val (.int (((((p1.toInt64) &&& (2147483647 : Int64)) - ((p1.toInt64) &&& (2147483647 : Int64)) / ((1000000000 : Int64) / (own_p k1)) * ((1000000000 : Int64) / (own_p k1))) * (own_p k1)).toInt32)), .val (.int d1), .unset, .unset, .unset, .unset] [(.int d1)])) (fun _ k => XS.iload X12.here hx rfl (hb hby at_111) rfl k) ?_
    refine own_go (T12.setTop (mkF m 115 #[.val (.int p1), .val (.int p2), .val (.ref b1), .val (.int ((p2 &&& (2147483647 : Int32)) % (10 : Int32))), .val (.long (own_p k1)), .second, .val (.int (((((p1.toInt64) &&& (2147483647 : Int64)) - ((p1.toInt64) &&& (2147483647 : Int64)) / ((1000000000 : Int64) / (own_p k1)) * ((1000000000 : Int64) / (own_p k1))) * (own_p k1)).toInt32)), .val (.int d1), .unset, .unset, .unset, .unset] [(.int (9 : Int32)), (.int d1)])) (fun _ k => XS.bipush X12.here hx rfl (hb hby at_113) k) ?_
    by_cases hc115 : (9 : Int32) < d1
    · have hz115 : (9 < (d1).toInt) := own_zlt hc115 rfl rfl
      exfalso; omega
    · have hz115 : ¬ (9 < (d1).toInt) := own_znlt hc115 rfl rfl
      refine own_go (T12.setTop (mkF m 120 #[.val (.int p1), .val (.int p2), .val (.ref b1), .val (.int ((p2 &&& (2147483647 : Int32)) % (10 : Int32))), .val (.long (own_p k1)), .second, .val (.int (((((p1.toInt64) &&& (2147483647 : Int64)) - ((p1.toInt64) &&& (2147483647 : Int64)) / ((1000000000 : Int64) / (own_p k1)) * ((1000000000 : Int64) / (own_p k1))) * (own_p k1)).toInt32)), .val (.int d1), .unset, .unset, .unset, .unset] [])) (fun _ k => XS.icmpYes X12.here hx rfl (pc0 := 115) (pc' := 120) rfl (hb hby at_115) rfl (flt hc115).2.2.2 (by decide) (by decide) k) ?_
      refine own_go (T12.setTop (mkF m 121 #[.val (.int p1), .val (.int p2), .val (.ref b1), .val (.int ((p2 &&& (2147483647 : Int32)) % (10 : Int32))), .val (.long (own_p k1)), .second, .val (.int (((((p1.toInt64) &&& (2147483647 : Int64)) - ((p1.toInt64) &&& (2147483647 : Int64)) / ((1000000000 : Int64) / (own_p k1)) * ((1000000000 : Int64) / (own_p k1))) * (own_p k1)).toInt32)), .val (.int d1), .unset, .unset, .unset, .unset] [(.ref b1)])) (fun _ k => XS.aloadN X12.here hx rfl (hb hby at_120) rfl rfl k) ?_
      refine own_go (T12.setTop (mkF m 123 #[.val (.int p1), .val (.int p2), .val (.ref b1), .val (.int ((p2 &&& (2147483647 : Int32)) % (10 : Int32))), .val (.long (own_p k1)), .second, .val (.int (((((p1.toInt64) &&& (2147483647 : Int64)) - ((p1.toInt64) &&& (2147483647 : Int64)) / ((1000000000 : Int64) / (own_p k1)) * ((1000000000 : Int64) / (own_p k1))) * (own_p k1)).toInt32)), .val (.int d1), .unset, .unset, .unset, .unset] [(.int (9 : Int32)), (.ref b1)])) (fun _ k => XS.bipush X12.here hx rfl (hb hby at_121) k) ?_
      refine own_go (T12.setTop (mkF m 125 #[.val (.int p1), .val (.int p2), .val (.ref b1), .val (.int ((p2 &&& (2147483647 : Int32)) % (10 : Int32))), .val (.long (own_p k1)), .second, .val (.int (((((p1.toInt64) &&& (2147483647 : Int64)) - ((p1.toInt64) &&& (2147483647 : Int64)) / ((1000000000 : Int64) / (own_p k1)) * ((1000000000 : Int64) / (own_p k1))) * (own_p k1)).toInt32)), .val (.int d1), .unset, .unset, .unset, .unset] [(.int d1), (.int (9 : Int32)), (.ref b1)])) (fun _ k => XS.iload X12.here hx rfl (hb hby at_123) rfl k) ?_
      refine own_go (T12.setTop (mkF m 126 #[.val (.int p1), .val (.int p2), .val (.ref b1), .val (.int ((p2 &&& (2147483647 : Int32)) % (10 : Int32))), .val (.long (own_p k1)), .second, .val (.int (((((p1.toInt64) &&& (2147483647 : Int64)) - ((p1.toInt64) &&& (2147483647 : Int64)) / ((1000000000 : Int64) / (own_p k1)) * ((1000000000 : Int64) / (own_p k1))) * (own_p k1)).toInt32)), .val (.int d1), .unset, .unset, .unset, .unset] [(.int ((9 : Int32) - d1)), (.ref b1)])) (fun _ k => XS.isub X12.here hx rfl (hb hby at_125) rfl k) ?_
      have ek2 : ((9 : Int32) - d1).toInt = ((9 - k2 : Nat) : Int) := by have a1 := c_isub 9 d1; have a2 := rng32 ((9 : Int32) - d1); have a3 : (9 : Int32).toInt = 9 := rfl; rw [a3] at a1; omega
      refine own_go (T12.setTop (mkF m 127 #[.val (.int p1), .val (.int p2), .val (.ref b1), .val (.int ((p2 &&& (2147483647 : Int32)) % (10 : Int32))), .val (.long (own_p k1)), .second, .val (.int (((((p1.toInt64) &&& (2147483647 : Int64)) - ((p1.toInt64) &&& (2147483647 : Int64)) / ((1000000000 : Int64) / (own_p k1)) * ((1000000000 : Int64) / (own_p k1))) * (own_p k1)).toInt32)), .val (.int d1), .unset, .unset, .unset, .unset] [(.long (own_p (9 - k2)))])) (fun _ k => X12.laload hx (j := ((9 : Int32) - d1)) (v := (.long (own_p (9 - k2)))) (by rw [e12]; exact Ar.1) (State.isArrayOf_alike hZ.alike Ar.2.1) Ar.2.2 (own_in Sz ((9 : Int32) - d1) (9 - k2) ek2 (by omega)) (own_at Hs Sz ((9 : Int32) - d1) (9 - k2) ek2 (by omega)) (g := (mkF m 126 #[.val (.int p1), .val (.int p2), .val (.ref b1), .val (.int ((p2 &&& (2147483647 : Int32)) % (10 : Int32))), .val (.long (own_p k1)), .second, .val (.int (((((p1.toInt64) &&& (2147483647 : Int64)) - ((p1.toInt64) &&& (2147483647 : Int64)) / ((1000000000 : Int64) / (own_p k1)) * ((1000000000 : Int64) / (own_p k1))) * (own_p k1)).toInt32)), .val (.int d1), .unset, .unset, .unset, .unset] [(.int ((9 : Int32) - d1)), (.ref b1)])) rfl rfl (hb hby at_126) _ k) ?_
      refine own_go (T12.setTop (mkF m 129 #[.val (.int p1), .val (.int p2), .val (.ref b1), .val (.int ((p2 &&& (2147483647 : Int32)) % (10 : Int32))), .val (.long (own_p k1)), .second, .val (.int (((((p1.toInt64) &&& (2147483647 : Int64)) - ((p1.toInt64) &&& (2147483647 : Int64)) / ((1000000000 : Int64) / (own_p k1)) * ((1000000000 : Int64) / (own_p k1))) * (own_p k1)).toInt32)), .val (.int d1), .val (.long (own_p (9 - k2))), .second, .unset, .unset] [])) (fun _ k => XS.lstore X12.here hx rfl (hb hby at_127) rfl (l' := #[.val (.int p1), .val (.int p2), .val (.ref b1), .val (.int ((p2 &&& (2147483647 : Int32)) % (10 : Int32))), .val (.long (own_p k1)), .second, .val (.int (((((p1.toInt64) &&& (2147483647 : Int64)) - ((p1.toInt64) &&& (2147483647 : Int64)) / ((1000000000 : Int64) / (own_p k1)) * ((1000000000 : Int64) / (own_p k1))) * (own_p k1)).toInt32)), .val (.int d1), .val (.long (own_p (9 - k2))), .second, .unset, .unset]) rfl k) ?_
      refine own_go (T12.setTop (mkF m 131 #[.val (.int p1), .val (.int p2), .val (.ref b1), .val (.int ((p2 &&& (2147483647 : Int32)) % (10 : Int32))), .val (.long (own_p k1)), .second, .val (.int (((((p1.toInt64) &&& (2147483647 : Int64)) - ((p1.toInt64) &&& (2147483647 : Int64)) / ((1000000000 : Int64) / (own_p k1)) * ((1000000000 : Int64) / (own_p k1))) * (own_p k1)).toInt32)), .val (.int d1), .val (.long (own_p (9 - k2))), .second, .unset, .unset] [(.int (((((p1.toInt64) &&& (2147483647 : Int64)) - ((p1.toInt64) &&& (2147483647 : Int64)) / ((1000000000 : Int64) / (own_p k1)) * ((1000000000 : Int64) / (own_p k1))) * (own_p k1)).toInt32))])) (fun _ k => XS.iload X12.here hx rfl (hb hby at_129) rfl k) ?_
      refine own_go (T12.setTop (mkF m 132 #[.val (.int p1), .val (.int p2), .val (.ref b1), .val (.int ((p2 &&& (2147483647 : Int32)) % (10 : Int32))), .val (.long (own_p k1)), .second, .val (.int (((((p1.toInt64) &&& (2147483647 : Int64)) - ((p1.toInt64) &&& (2147483647 : Int64)) / ((1000000000 : Int64) / (own_p k1)) * ((1000000000 : Int64) / (own_p k1))) * (own_p k1)).toInt32)), .val (.int d1), .val (.long (own_p (9 - k2))), .second, .unset, .unset] [(.long ((((((p1.toInt64) &&& (2147483647 : Int64)) - ((p1.toInt64) &&& (2147483647 : Int64)) / ((1000000000 : Int64) / (own_p k1)) * ((1000000000 : Int64) / (own_p k1))) * (own_p k1)).toInt32).toInt64))])) (fun _ k => XS.i2l X12.here hx rfl (hb hby at_131) rfl k) ?_
      refine own_go (T12.setTop (mkF m 134 #[.val (.int p1), .val (.int p2), .val (.ref b1), .val (.int ((p2 &&& (2147483647 : Int32)) % (10 : Int32))), .val (.long (own_p k1)), .second, .val (.int (((((p1.toInt64) &&& (2147483647 : Int64)) - ((p1.toInt64) &&& (2147483647 : Int64)) / ((1000000000 : Int64) / (own_p k1)) * ((1000000000 : Int64) / (own_p k1))) * (own_p k1)).toInt32)), .val (.int d1), .val (.long (own_p (9 - k2))), .second, .val (.long ((((((p1.toInt64) &&& (2147483647 : Int64)) - ((p1.toInt64) &&& (2147483647 : Int64)) / ((1000000000 : Int64) / (own_p k1)) * ((1000000000 : Int64) / (own_p k1))) * (own_p k1)).toInt32).toInt64)), .second] [])) (fun _ k => XS.lstore X12.here hx rfl (hb hby at_132) rfl (l' := #[.val (.int p1), .val (.int p2), .val (.ref b1), .val (.int ((p2 &&& (2147483647 : Int32)) % (10 : Int32))), .val (.long (own_p k1)), .second, .val (.int (((((p1.toInt64) &&& (2147483647 : Int64)) - ((p1.toInt64) &&& (2147483647 : Int64)) / ((1000000000 : Int64) / (own_p k1)) * ((1000000000 : Int64) / (own_p k1))) * (own_p k1)).toInt32)), .val (.int d1), .val (.long (own_p (9 - k2))), .second, .val (.long ((((((p1.toInt64) &&& (2147483647 : Int64)) - ((p1.toInt64) &&& (2147483647 : Int64)) / ((1000000000 : Int64) / (own_p k1)) * ((1000000000 : Int64) / (own_p k1))) * (own_p k1)).toInt32).toInt64)), .second]) rfl k) ?_
      refine own_go (T12.setTop (mkF m 136 #[.val (.int p1), .val (.int p2), .val (.ref b1), .val (.int ((p2 &&& (2147483647 : Int32)) % (10 : Int32))), .val (.long (own_p k1)), .second, .val (.int (((((p1.toInt64) &&& (2147483647 : Int64)) - ((p1.toInt64) &&& (2147483647 : Int64)) / ((1000000000 : Int64) / (own_p k1)) * ((1000000000 : Int64) / (own_p k1))) * (own_p k1)).toInt32)), .val (.int d1), .val (.long (own_p (9 - k2))), .second, .val (.long ((((((p1.toInt64) &&& (2147483647 : Int64)) - ((p1.toInt64) &&& (2147483647 : Int64)) / ((1000000000 : Int64) / (own_p k1)) * ((1000000000 : Int64) / (own_p k1))) * (own_p k1)).toInt32).toInt64)), .second] [(.long ((((((p1.toInt64) &&& (2147483647 : Int64)) - ((p1.toInt64) &&& (2147483647 : Int64)) / ((1000000000 : Int64) / (own_p k1)) * ((1000000000 : Int64) / (own_p k1))) * (own_p k1)).toInt32).toInt64))])) (fun _ k => XS.lload X12.here hx rfl (hb hby at_134) rfl k) ?_
      refine own_go (T12.setTop (mkF m 138 #[.val (.int p1), .val (.int p2), .val (.ref b1), .val (.int ((p2 &&& (2147483647 : Int32)) % (10 : Int32))), .val (.long (own_p k1)), .second, .val (.int (((((p1.toInt64) &&& (2147483647 : Int64)) - ((p1.toInt64) &&& (2147483647 : Int64)) / ((1000000000 : Int64) / (own_p k1)) * ((1000000000 : Int64) / (own_p k1))) * (own_p k1)).toInt32)), .val (.int d1), .val (.long (own_p (9 - k2))), .second, .val (.long ((((((p1.toInt64) &&& (2147483647 : Int64)) - ((p1.toInt64) &&& (2147483647 : Int64)) / ((1000000000 : Int64) / (own_p k1)) * ((1000000000 : Int64) / (own_p k1))) * (own_p k1)).toInt32).toInt64)), .second] [(.long (own_p (9 - k2))), (.long ((((((p1.toInt64) &&& (2147483647 : Int64)) - ((p1.toInt64) &&& (2147483647 : Int64)) / ((1000000000 : Int64) / (own_p k1)) * ((1000000000 : Int64) / (own_p k1))) * (own_p k1)).toInt32).toInt64))])) (fun _ k => XS.lload X12.here hx rfl (hb hby at_136) rfl k) ?_
      refine own_go (T12.setTop (mkF m 139 #[.val (.int p1), .val (.int p2), .val (.ref b1), .val (.int ((p2 &&& (2147483647 : Int32)) % (10 : Int32))), .val (.long (own_p k1)), .second, .val (.int (((((p1.toInt64) &&& (2147483647 : Int64)) - ((p1.toInt64) &&& (2147483647 : Int64)) / ((1000000000 : Int64) / (own_p k1)) * ((1000000000 : Int64) / (own_p k1))) * (own_p k1)).toInt32)), .val (.int d1), .val (.long (own_p (9 - k2))), .second, .val (.long ((((((p1.toInt64) &&& (2147483647 : Int64)) - ((p1.toInt64) &&& (2147483647 : Int64)) / ((1000000000 : Int64) / (own_p k1)) * ((1000000000 : Int64) / (own_p k1))) * (own_p k1)).toInt32).toInt64)), .second] [(.long (((((((p1.toInt64) &&& (2147483647 : Int64)) - ((p1.toInt64) &&& (2147483647 : Int64)) / ((1000000000 : Int64) / (own_p k1)) * ((1000000000 : Int64) / (own_p k1))) * (own_p k1)).toInt32).toInt64) - ((((((p1.toInt64) &&& (2147483647 : Int64)) - ((p1.toInt64) &&& (2147483647 : Int64)) / ((1000000000 : Int64) / (own_p k1)) * ((1000000000 : Int64) / (own_p k1))) * (own_p k1)).toInt32).toInt64) / (own_p (9 - k2)) * (own_p (9 - k2))))])) (fun _ k => XS.lrem X12.here hx rfl (hb hby at_138) rfl (own_pi ⟨9 - k2, by omega⟩).2.1 k) ?_
      refine own_go (T12.setTop (mkF m 140 #[.val (.int p1), .val (.int p2), .val (.ref b1), .val (.int ((p2 &&& (2147483647 : Int32)) % (10 : Int32))), .val (.long (own_p k1)), .second, .val (.int (((((p1.toInt64) &&& (2147483647 : Int64)) - ((p1.toInt64) &&& (2147483647 : Int64)) / ((1000000000 : Int64) / (own_p k1)) * ((1000000000 : Int64) / (own_p k1))) * (own_p k1)).toInt32)), .val (.int d1), .val (.long (own_p (9 - k2))), .second, .val (.long ((((((p1.toInt64) &&& (2147483647 : Int64)) - ((p1.toInt64) &&& (2147483647 : Int64)) / ((1000000000 : Int64) / (own_p k1)) * ((1000000000 : Int64) / (own_p k1))) * (own_p k1)).toInt32).toInt64)), .second] [(.long (0 : Int64)), (.long (((((((p1.toInt64) &&& (2147483647 : Int64)) - ((p1.toInt64) &&& (2147483647 : Int64)) / ((1000000000 : Int64) / (own_p k1)) * ((1000000000 : Int64) / (own_p k1))) * (own_p k1)).toInt32).toInt64) - ((((((p1.toInt64) &&& (2147483647 : Int64)) - ((p1.toInt64) &&& (2147483647 : Int64)) / ((1000000000 : Int64) / (own_p k1)) * ((1000000000 : Int64) / (own_p k1))) * (own_p k1)).toInt32).toInt64) / (own_p (9 - k2)) * (own_p (9 - k2))))])) (fun _ k => XS.lconst X12.here hx rfl (hb hby at_139) k) ?_
      refine own_go (T12.setTop (mkF m 141 #[.val (.int p1), .val (.int p2), .val (.ref b1), .val (.int ((p2 &&& (2147483647 : Int32)) % (10 : Int32))), .val (.long (own_p k1)), .second, .val (.int (((((p1.toInt64) &&& (2147483647 : Int64)) - ((p1.toInt64) &&& (2147483647 : Int64)) / ((1000000000 : Int64) / (own_p k1)) * ((1000000000 : Int64) / (own_p k1))) * (own_p k1)).toInt32)), .val (.int d1), .val (.long (own_p (9 - k2))), .second, .val (.long ((((((p1.toInt64) &&& (2147483647 : Int64)) - ((p1.toInt64) &&& (2147483647 : Int64)) / ((1000000000 : Int64) / (own_p k1)) * ((1000000000 : Int64) / (own_p k1))) * (own_p k1)).toInt32).toInt64)), .second] [(.int (lcmpW (((((((p1.toInt64) &&& (2147483647 : Int64)) - ((p1.toInt64) &&& (2147483647 : Int64)) / ((1000000000 : Int64) / (own_p k1)) * ((1000000000 : Int64) / (own_p k1))) * (own_p k1)).toInt32).toInt64) - ((((((p1.toInt64) &&& (2147483647 : Int64)) - ((p1.toInt64) &&& (2147483647 : Int64)) / ((1000000000 : Int64) / (own_p k1)) * ((1000000000 : Int64) / (own_p k1))) * (own_p k1)).toInt32).toInt64) / (own_p (9 - k2)) * (own_p (9 - k2))) (0 : Int64)))])) (fun _ k => XS.lcmp X12.here hx rfl (hb hby at_140) rfl k) ?_
      by_cases hc141 : (((((((p1.toInt64) &&& (2147483647 : Int64)) - ((p1.toInt64) &&& (2147483647 : Int64)) / ((1000000000 : Int64) / (own_p k1)) * ((1000000000 : Int64) / (own_p k1))) * (own_p k1)).toInt32).toInt64) - ((((((p1.toInt64) &&& (2147483647 : Int64)) - ((p1.toInt64) &&& (2147483647 : Int64)) / ((1000000000 : Int64) / (own_p k1)) * ((1000000000 : Int64) / (own_p k1))) * (own_p k1)).toInt32).toInt64) / (own_p (9 - k2)) * (own_p (9 - k2))) = (0 : Int64)
      · have hz141 : (((((((((p1.toInt64) &&& (2147483647 : Int64)) - ((p1.toInt64) &&& (2147483647 : Int64)) / ((1000000000 : Int64) / (own_p k1)) * ((1000000000 : Int64) / (own_p k1))) * (own_p k1)).toInt32).toInt64) - ((((((p1.toInt64) &&& (2147483647 : Int64)) - ((p1.toInt64) &&& (2147483647 : Int64)) / ((1000000000 : Int64) / (own_p k1)) * ((1000000000 : Int64) / (own_p k1))) * (own_p k1)).toInt32).toInt64) / (own_p (9 - k2)) * (own_p (9 - k2)))).toInt = 0) := own_zLeq hc141 rfl rfl
        refine own_go (T12.setTop (mkF m 144 #[.val (.int p1), .val (.int p2), .val (.ref b1), .val (.int ((p2 &&& (2147483647 : Int32)) % (10 : Int32))), .val (.long (own_p k1)), .second, .val (.int (((((p1.toInt64) &&& (2147483647 : Int64)) - ((p1.toInt64) &&& (2147483647 : Int64)) / ((1000000000 : Int64) / (own_p k1)) * ((1000000000 : Int64) / (own_p k1))) * (own_p k1)).toInt32)), .val (.int d1), .val (.long (own_p (9 - k2))), .second, .val (.long ((((((p1.toInt64) &&& (2147483647 : Int64)) - ((p1.toInt64) &&& (2147483647 : Int64)) / ((1000000000 : Int64) / (own_p k1)) * ((1000000000 : Int64) / (own_p k1))) * (own_p k1)).toInt32).toInt64)), .second] [])) (fun _ k => XS.ifNo X12.here hx rfl (hb hby at_141) rfl ((if0 _ _).trans (teq ((lw_eq (((((((p1.toInt64) &&& (2147483647 : Int64)) - ((p1.toInt64) &&& (2147483647 : Int64)) / ((1000000000 : Int64) / (own_p k1)) * ((1000000000 : Int64) / (own_p k1))) * (own_p k1)).toInt32).toInt64) - ((((((p1.toInt64) &&& (2147483647 : Int64)) - ((p1.toInt64) &&& (2147483647 : Int64)) / ((1000000000 : Int64) / (own_p k1)) * ((1000000000 : Int64) / (own_p k1))) * (own_p k1)).toInt32).toInt64) / (own_p (9 - k2)) * (own_p (9 - k2))) (0 : Int64)).mpr hc141)).2) k) ?_
        refine own_go (T12.setTop (mkF m 146 #[.val (.int p1), .val (.int p2), .val (.ref b1), .val (.int ((p2 &&& (2147483647 : Int32)) % (10 : Int32))), .val (.long (own_p k1)), .second, .val (.int (((((p1.toInt64) &&& (2147483647 : Int64)) - ((p1.toInt64) &&& (2147483647 : Int64)) / ((1000000000 : Int64) / (own_p k1)) * ((1000000000 : Int64) / (own_p k1))) * (own_p k1)).toInt32)), .val (.int d1), .val (.long (own_p (9 - k2))), .second, .val (.long ((((((p1.toInt64) &&& (2147483647 : Int64)) - ((p1.toInt64) &&& (2147483647 : Int64)) / ((1000000000 : Int64) / (own_p k1)) * ((1000000000 : Int64) / (own_p k1))) * (own_p k1)).toInt32).toInt64)), .second] [(.int d1)])) (fun _ k => XS.iload X12.here hx rfl (hb hby at_144) rfl k) ?_
        by_cases hc146 : d1 = (0 : Int32)
        · have hz146 : ((d1).toInt = 0) := own_zeq hc146 rfl rfl
          refine own_go (T12.setTop (mkF m 163 #[.val (.int p1), .val (.int p2), .val (.ref b1), .val (.int ((p2 &&& (2147483647 : Int32)) % (10 : Int32))), .val (.long (own_p k1)), .second, .val (.int (((((p1.toInt64) &&& (2147483647 : Int64)) - ((p1.toInt64) &&& (2147483647 : Int64)) / ((1000000000 : Int64) / (own_p k1)) * ((1000000000 : Int64) / (own_p k1))) * (own_p k1)).toInt32)), .val (.int d1), .val (.long (own_p (9 - k2))), .second, .val (.long ((((((p1.toInt64) &&& (2147483647 : Int64)) - ((p1.toInt64) &&& (2147483647 : Int64)) / ((1000000000 : Int64) / (own_p k1)) * ((1000000000 : Int64) / (own_p k1))) * (own_p k1)).toInt32).toInt64)), .second] [])) (fun _ k => XS.ifYes X12.here hx rfl (pc0 := 146) (pc' := 163) rfl (hb hby at_146) rfl ((if0 _ _).trans (teq hc146).1) (by decide) (by decide) k) ?_
          refine own_go (T12.setTop (mkF m 164 #[.val (.int p1), .val (.int p2), .val (.ref b1), .val (.int ((p2 &&& (2147483647 : Int32)) % (10 : Int32))), .val (.long (own_p k1)), .second, .val (.int (((((p1.toInt64) &&& (2147483647 : Int64)) - ((p1.toInt64) &&& (2147483647 : Int64)) / ((1000000000 : Int64) / (own_p k1)) * ((1000000000 : Int64) / (own_p k1))) * (own_p k1)).toInt32)), .val (.int d1), .val (.long (own_p (9 - k2))), .second, .val (.long ((((((p1.toInt64) &&& (2147483647 : Int64)) - ((p1.toInt64) &&& (2147483647 : Int64)) / ((1000000000 : Int64) / (own_p k1)) * ((1000000000 : Int64) / (own_p k1))) * (own_p k1)).toInt32).toInt64)), .second] [(.int (1 : Int32))])) (fun _ k => XS.iconst X12.here hx rfl (hb hby at_163) k) ?_
          refine own_go (T12.setTop (mkF m 168 #[.val (.int p1), .val (.int p2), .val (.ref b1), .val (.int ((p2 &&& (2147483647 : Int32)) % (10 : Int32))), .val (.long (own_p k1)), .second, .val (.int (((((p1.toInt64) &&& (2147483647 : Int64)) - ((p1.toInt64) &&& (2147483647 : Int64)) / ((1000000000 : Int64) / (own_p k1)) * ((1000000000 : Int64) / (own_p k1))) * (own_p k1)).toInt32)), .val (.int d1), .val (.long (own_p (9 - k2))), .second, .val (.long ((((((p1.toInt64) &&& (2147483647 : Int64)) - ((p1.toInt64) &&& (2147483647 : Int64)) / ((1000000000 : Int64) / (own_p k1)) * ((1000000000 : Int64) / (own_p k1))) * (own_p k1)).toInt32).toInt64)), .second] [(.int (1 : Int32))])) (fun _ k => XS.goto X12.here hx rfl (pc0 := 164) (pc' := 168) rfl (hb hby at_164) (by decide) (by decide) k) ?_
          refine own_ret X12 (BodyLoose.notSynchronized Bd) (some (.int (1 : Int32))) (fun h => by rw [Bd.returns] at h; cases h) (fun fs hr => retN X12 hx (t := .boolean) Bd.returns (by simp) (hb hby at_168) hr) (by decide) (by decide) ?_
          exact ⟨rfl, N12⟩
        · have hz146 : ¬ ((d1).toInt = 0) := own_zneq hc146 rfl rfl
          refine own_go (T12.setTop (mkF m 149 #[.val (.int p1), .val (.int p2), .val (.ref b1), .val (.int ((p2 &&& (2147483647 : Int32)) % (10 : Int32))), .val (.long (own_p k1)), .second, .val (.int (((((p1.toInt64) &&& (2147483647 : Int64)) - ((p1.toInt64) &&& (2147483647 : Int64)) / ((1000000000 : Int64) / (own_p k1)) * ((1000000000 : Int64) / (own_p k1))) * (own_p k1)).toInt32)), .val (.int d1), .val (.long (own_p (9 - k2))), .second, .val (.long ((((((p1.toInt64) &&& (2147483647 : Int64)) - ((p1.toInt64) &&& (2147483647 : Int64)) / ((1000000000 : Int64) / (own_p k1)) * ((1000000000 : Int64) / (own_p k1))) * (own_p k1)).toInt32).toInt64)), .second] [])) (fun _ k => XS.ifNo X12.here hx rfl (hb hby at_146) rfl ((if0 _ _).trans (feq hc146).1) k) ?_
          refine own_go (T12.setTop (mkF m 151 #[.val (.int p1), .val (.int p2), .val (.ref b1), .val (.int ((p2 &&& (2147483647 : Int32)) % (10 : Int32))), .val (.long (own_p k1)), .second, .val (.int (((((p1.toInt64) &&& (2147483647 : Int64)) - ((p1.toInt64) &&& (2147483647 : Int64)) / ((1000000000 : Int64) / (own_p k1)) * ((1000000000 : Int64) / (own_p k1))) * (own_p k1)).toInt32)), .val (.int d1), .val (.long (own_p (9 - k2))), .second, .val (.long ((((((p1.toInt64) &&& (2147483647 : Int64)) - ((p1.toInt64) &&& (2147483647 : Int64)) / ((1000000000 : Int64) / (own_p k1)) * ((1000000000 : Int64) / (own_p k1))) * (own_p k1)).toInt32).toInt64)), .second] [(.long ((((((p1.toInt64) &&& (2147483647 : Int64)) - ((p1.toInt64) &&& (2147483647 : Int64)) / ((1000000000 : Int64) / (own_p k1)) * ((1000000000 : Int64) / (own_p k1))) * (own_p k1)).toInt32).toInt64))])) (fun _ k => XS.lload X12.here hx rfl (hb hby at_149) rfl k) ?_
          refine own_go (T12.setTop (mkF m 153 #[.val (.int p1), .val (.int p2), .val (.ref b1), .val (.int ((p2 &&& (2147483647 : Int32)) % (10 : Int32))), .val (.long (own_p k1)), .second, .val (.int (((((p1.toInt64) &&& (2147483647 : Int64)) - ((p1.toInt64) &&& (2147483647 : Int64)) / ((1000000000 : Int64) / (own_p k1)) * ((1000000000 : Int64) / (own_p k1))) * (own_p k1)).toInt32)), .val (.int d1), .val (.long (own_p (9 - k2))), .second, .val (.long ((((((p1.toInt64) &&& (2147483647 : Int64)) - ((p1.toInt64) &&& (2147483647 : Int64)) / ((1000000000 : Int64) / (own_p k1)) * ((1000000000 : Int64) / (own_p k1))) * (own_p k1)).toInt32).toInt64)), .second] [(.long (own_p (9 - k2))), (.long ((((((p1.toInt64) &&& (2147483647 : Int64)) - ((p1.toInt64) &&& (2147483647 : Int64)) / ((1000000000 : Int64) / (own_p k1)) * ((1000000000 : Int64) / (own_p k1))) * (own_p k1)).toInt32).toInt64))])) (fun _ k => XS.lload X12.here hx rfl (hb hby at_151) rfl k) ?_
          refine own_go (T12.setTop (mkF m 154 #[.val (.int p1), .val (.int p2), .val (.ref b1), .val (.int ((p2 &&& (2147483647 : Int32)) % (10 : Int32))), .val (.long (own_p k1)), .second, .val (.int (((((p1.toInt64) &&& (2147483647 : Int64)) - ((p1.toInt64) &&& (2147483647 : Int64)) / ((1000000000 : Int64) / (own_p k1)) * ((1000000000 : Int64) / (own_p k1))) * (own_p k1)).toInt32)), .val (.int d1), .val (.long (own_p (9 - k2))), .second, .val (.long ((((((p1.toInt64) &&& (2147483647 : Int64)) - ((p1.toInt64) &&& (2147483647 : Int64)) / ((1000000000 : Int64) / (own_p k1)) * ((1000000000 : Int64) / (own_p k1))) * (own_p k1)).toInt32).toInt64)), .second] [(.long (((((((p1.toInt64) &&& (2147483647 : Int64)) - ((p1.toInt64) &&& (2147483647 : Int64)) / ((1000000000 : Int64) / (own_p k1)) * ((1000000000 : Int64) / (own_p k1))) * (own_p k1)).toInt32).toInt64) / (own_p (9 - k2))))])) (fun _ k => XS.ldiv X12.here hx rfl (hb hby at_153) rfl (own_pi ⟨9 - k2, by omega⟩).2.1 k) ?_
          refine own_go (T12.setTop (mkF m 157 #[.val (.int p1), .val (.int p2), .val (.ref b1), .val (.int ((p2 &&& (2147483647 : Int32)) % (10 : Int32))), .val (.long (own_p k1)), .second, .val (.int (((((p1.toInt64) &&& (2147483647 : Int64)) - ((p1.toInt64) &&& (2147483647 : Int64)) / ((1000000000 : Int64) / (own_p k1)) * ((1000000000 : Int64) / (own_p k1))) * (own_p k1)).toInt32)), .val (.int d1), .val (.long (own_p (9 - k2))), .second, .val (.long ((((((p1.toInt64) &&& (2147483647 : Int64)) - ((p1.toInt64) &&& (2147483647 : Int64)) / ((1000000000 : Int64) / (own_p k1)) * ((1000000000 : Int64) / (own_p k1))) * (own_p k1)).toInt32).toInt64)), .second] [(.long (10 : Int64)), (.long (((((((p1.toInt64) &&& (2147483647 : Int64)) - ((p1.toInt64) &&& (2147483647 : Int64)) / ((1000000000 : Int64) / (own_p k1)) * ((1000000000 : Int64) / (own_p k1))) * (own_p k1)).toInt32).toInt64) / (own_p (9 - k2))))])) (fun _ k => X12.ldc2Long hx hown (mvT hZ (hw _ (List.mem_of_getElem? (i := 1) rfl))) (g := (mkF m 154 #[.val (.int p1), .val (.int p2), .val (.ref b1), .val (.int ((p2 &&& (2147483647 : Int32)) % (10 : Int32))), .val (.long (own_p k1)), .second, .val (.int (((((p1.toInt64) &&& (2147483647 : Int64)) - ((p1.toInt64) &&& (2147483647 : Int64)) / ((1000000000 : Int64) / (own_p k1)) * ((1000000000 : Int64) / (own_p k1))) * (own_p k1)).toInt32)), .val (.int d1), .val (.long (own_p (9 - k2))), .second, .val (.long ((((((p1.toInt64) &&& (2147483647 : Int64)) - ((p1.toInt64) &&& (2147483647 : Int64)) / ((1000000000 : Int64) / (own_p k1)) * ((1000000000 : Int64) / (own_p k1))) * (own_p k1)).toInt32).toInt64)), .second] [(.long (((((((p1.toInt64) &&& (2147483647 : Int64)) - ((p1.toInt64) &&& (2147483647 : Int64)) / ((1000000000 : Int64) / (own_p k1)) * ((1000000000 : Int64) / (own_p k1))) * (own_p k1)).toInt32).toInt64) / (own_p (9 - k2))))])) rfl (hb hby at_154) _ k) ?_
          refine own_go (T12.setTop (mkF m 158 #[.val (.int p1), .val (.int p2), .val (.ref b1), .val (.int ((p2 &&& (2147483647 : Int32)) % (10 : Int32))), .val (.long (own_p k1)), .second, .val (.int (((((p1.toInt64) &&& (2147483647 : Int64)) - ((p1.toInt64) &&& (2147483647 : Int64)) / ((1000000000 : Int64) / (own_p k1)) * ((1000000000 : Int64) / (own_p k1))) * (own_p k1)).toInt32)), .val (.int d1), .val (.long (own_p (9 - k2))), .second, .val (.long ((((((p1.toInt64) &&& (2147483647 : Int64)) - ((p1.toInt64) &&& (2147483647 : Int64)) / ((1000000000 : Int64) / (own_p k1)) * ((1000000000 : Int64) / (own_p k1))) * (own_p k1)).toInt32).toInt64)), .second] [(.long ((((((((p1.toInt64) &&& (2147483647 : Int64)) - ((p1.toInt64) &&& (2147483647 : Int64)) / ((1000000000 : Int64) / (own_p k1)) * ((1000000000 : Int64) / (own_p k1))) * (own_p k1)).toInt32).toInt64) / (own_p (9 - k2))) - (((((((p1.toInt64) &&& (2147483647 : Int64)) - ((p1.toInt64) &&& (2147483647 : Int64)) / ((1000000000 : Int64) / (own_p k1)) * ((1000000000 : Int64) / (own_p k1))) * (own_p k1)).toInt32).toInt64) / (own_p (9 - k2))) / (10 : Int64) * (10 : Int64)))])) (fun _ k => XS.lrem X12.here hx rfl (hb hby at_157) rfl (by decide) k) ?_
          refine own_go (T12.setTop (mkF m 159 #[.val (.int p1), .val (.int p2), .val (.ref b1), .val (.int ((p2 &&& (2147483647 : Int32)) % (10 : Int32))), .val (.long (own_p k1)), .second, .val (.int (((((p1.toInt64) &&& (2147483647 : Int64)) - ((p1.toInt64) &&& (2147483647 : Int64)) / ((1000000000 : Int64) / (own_p k1)) * ((1000000000 : Int64) / (own_p k1))) * (own_p k1)).toInt32)), .val (.int d1), .val (.long (own_p (9 - k2))), .second, .val (.long ((((((p1.toInt64) &&& (2147483647 : Int64)) - ((p1.toInt64) &&& (2147483647 : Int64)) / ((1000000000 : Int64) / (own_p k1)) * ((1000000000 : Int64) / (own_p k1))) * (own_p k1)).toInt32).toInt64)), .second] [(.long (0 : Int64)), (.long ((((((((p1.toInt64) &&& (2147483647 : Int64)) - ((p1.toInt64) &&& (2147483647 : Int64)) / ((1000000000 : Int64) / (own_p k1)) * ((1000000000 : Int64) / (own_p k1))) * (own_p k1)).toInt32).toInt64) / (own_p (9 - k2))) - (((((((p1.toInt64) &&& (2147483647 : Int64)) - ((p1.toInt64) &&& (2147483647 : Int64)) / ((1000000000 : Int64) / (own_p k1)) * ((1000000000 : Int64) / (own_p k1))) * (own_p k1)).toInt32).toInt64) / (own_p (9 - k2))) / (10 : Int64) * (10 : Int64)))])) (fun _ k => XS.lconst X12.here hx rfl (hb hby at_158) k) ?_
          refine own_go (T12.setTop (mkF m 160 #[.val (.int p1), .val (.int p2), .val (.ref b1), .val (.int ((p2 &&& (2147483647 : Int32)) % (10 : Int32))), .val (.long (own_p k1)), .second, .val (.int (((((p1.toInt64) &&& (2147483647 : Int64)) - ((p1.toInt64) &&& (2147483647 : Int64)) / ((1000000000 : Int64) / (own_p k1)) * ((1000000000 : Int64) / (own_p k1))) * (own_p k1)).toInt32)), .val (.int d1), .val (.long (own_p (9 - k2))), .second, .val (.long ((((((p1.toInt64) &&& (2147483647 : Int64)) - ((p1.toInt64) &&& (2147483647 : Int64)) / ((1000000000 : Int64) / (own_p k1)) * ((1000000000 : Int64) / (own_p k1))) * (own_p k1)).toInt32).toInt64)), .second] [(.int (lcmpW ((((((((p1.toInt64) &&& (2147483647 : Int64)) - ((p1.toInt64) &&& (2147483647 : Int64)) / ((1000000000 : Int64) / (own_p k1)) * ((1000000000 : Int64) / (own_p k1))) * (own_p k1)).toInt32).toInt64) / (own_p (9 - k2))) - (((((((p1.toInt64) &&& (2147483647 : Int64)) - ((p1.toInt64) &&& (2147483647 : Int64)) / ((1000000000 : Int64) / (own_p k1)) * ((1000000000 : Int64) / (own_p k1))) * (own_p k1)).toInt32).toInt64) / (own_p (9 - k2))) / (10 : Int64) * (10 : Int64)) (0 : Int64)))])) (fun _ k => XS.lcmp X12.here hx rfl (hb hby at_159) rfl k) ?_
          by_cases hc160 : ((((((((p1.toInt64) &&& (2147483647 : Int64)) - ((p1.toInt64) &&& (2147483647 : Int64)) / ((1000000000 : Int64) / (own_p k1)) * ((1000000000 : Int64) / (own_p k1))) * (own_p k1)).toInt32).toInt64) / (own_p (9 - k2))) - (((((((p1.toInt64) &&& (2147483647 : Int64)) - ((p1.toInt64) &&& (2147483647 : Int64)) / ((1000000000 : Int64) / (own_p k1)) * ((1000000000 : Int64) / (own_p k1))) * (own_p k1)).toInt32).toInt64) / (own_p (9 - k2))) / (10 : Int64) * (10 : Int64)) = (0 : Int64)
          · have hz160 : ((((((((((p1.toInt64) &&& (2147483647 : Int64)) - ((p1.toInt64) &&& (2147483647 : Int64)) / ((1000000000 : Int64) / (own_p k1)) * ((1000000000 : Int64) / (own_p k1))) * (own_p k1)).toInt32).toInt64) / (own_p (9 - k2))) - (((((((p1.toInt64) &&& (2147483647 : Int64)) - ((p1.toInt64) &&& (2147483647 : Int64)) / ((1000000000 : Int64) / (own_p k1)) * ((1000000000 : Int64) / (own_p k1))) * (own_p k1)).toInt32).toInt64) / (own_p (9 - k2))) / (10 : Int64) * (10 : Int64))).toInt = 0) := own_zLeq hc160 rfl rfl
            exact absurd hc160 (own_fin2 _ R2 B3 B7 (B5.resolve_left (by omega)))
          · have hz160 : ¬ ((((((((((p1.toInt64) &&& (2147483647 : Int64)) - ((p1.toInt64) &&& (2147483647 : Int64)) / ((1000000000 : Int64) / (own_p k1)) * ((1000000000 : Int64) / (own_p k1))) * (own_p k1)).toInt32).toInt64) / (own_p (9 - k2))) - (((((((p1.toInt64) &&& (2147483647 : Int64)) - ((p1.toInt64) &&& (2147483647 : Int64)) / ((1000000000 : Int64) / (own_p k1)) * ((1000000000 : Int64) / (own_p k1))) * (own_p k1)).toInt32).toInt64) / (own_p (9 - k2))) / (10 : Int64) * (10 : Int64))).toInt = 0) := own_zLneq hc160 rfl rfl
            refine own_go (T12.setTop (mkF m 163 #[.val (.int p1), .val (.int p2), .val (.ref b1), .val (.int ((p2 &&& (2147483647 : Int32)) % (10 : Int32))), .val (.long (own_p k1)), .second, .val (.int (((((p1.toInt64) &&& (2147483647 : Int64)) - ((p1.toInt64) &&& (2147483647 : Int64)) / ((1000000000 : Int64) / (own_p k1)) * ((1000000000 : Int64) / (own_p k1))) * (own_p k1)).toInt32)), .val (.int d1), .val (.long (own_p (9 - k2))), .second, .val (.long ((((((p1.toInt64) &&& (2147483647 : Int64)) - ((p1.toInt64) &&& (2147483647 : Int64)) / ((1000000000 : Int64) / (own_p k1)) * ((1000000000 : Int64) / (own_p k1))) * (own_p k1)).toInt32).toInt64)), .second] [])) (fun _ k => XS.ifNo X12.here hx rfl (hb hby at_160) rfl ((if0 _ _).trans (feq (fun q => hc160 ((lw_eq ((((((((p1.toInt64) &&& (2147483647 : Int64)) - ((p1.toInt64) &&& (2147483647 : Int64)) / ((1000000000 : Int64) / (own_p k1)) * ((1000000000 : Int64) / (own_p k1))) * (own_p k1)).toInt32).toInt64) / (own_p (9 - k2))) - (((((((p1.toInt64) &&& (2147483647 : Int64)) - ((p1.toInt64) &&& (2147483647 : Int64)) / ((1000000000 : Int64) / (own_p k1)) * ((1000000000 : Int64) / (own_p k1))) * (own_p k1)).toInt32).toInt64) / (own_p (9 - k2))) / (10 : Int64) * (10 : Int64)) (0 : Int64)).mp q))).1) k) ?_
            refine own_go (T12.setTop (mkF m 164 #[.val (.int p1), .val (.int p2), .val (.ref b1), .val (.int ((p2 &&& (2147483647 : Int32)) % (10 : Int32))), .val (.long (own_p k1)), .second, .val (.int (((((p1.toInt64) &&& (2147483647 : Int64)) - ((p1.toInt64) &&& (2147483647 : Int64)) / ((1000000000 : Int64) / (own_p k1)) * ((1000000000 : Int64) / (own_p k1))) * (own_p k1)).toInt32)), .val (.int d1), .val (.long (own_p (9 - k2))), .second, .val (.long ((((((p1.toInt64) &&& (2147483647 : Int64)) - ((p1.toInt64) &&& (2147483647 : Int64)) / ((1000000000 : Int64) / (own_p k1)) * ((1000000000 : Int64) / (own_p k1))) * (own_p k1)).toInt32).toInt64)), .second] [(.int (1 : Int32))])) (fun _ k => XS.iconst X12.here hx rfl (hb hby at_163) k) ?_
            refine own_go (T12.setTop (mkF m 168 #[.val (.int p1), .val (.int p2), .val (.ref b1), .val (.int ((p2 &&& (2147483647 : Int32)) % (10 : Int32))), .val (.long (own_p k1)), .second, .val (.int (((((p1.toInt64) &&& (2147483647 : Int64)) - ((p1.toInt64) &&& (2147483647 : Int64)) / ((1000000000 : Int64) / (own_p k1)) * ((1000000000 : Int64) / (own_p k1))) * (own_p k1)).toInt32)), .val (.int d1), .val (.long (own_p (9 - k2))), .second, .val (.long ((((((p1.toInt64) &&& (2147483647 : Int64)) - ((p1.toInt64) &&& (2147483647 : Int64)) / ((1000000000 : Int64) / (own_p k1)) * ((1000000000 : Int64) / (own_p k1))) * (own_p k1)).toInt32).toInt64)), .second] [(.int (1 : Int32))])) (fun _ k => XS.goto X12.here hx rfl (pc0 := 164) (pc' := 168) rfl (hb hby at_164) (by decide) (by decide) k) ?_
            refine own_ret X12 (BodyLoose.notSynchronized Bd) (some (.int (1 : Int32))) (fun h => by rw [Bd.returns] at h; cases h) (fun fs hr => retN X12 hx (t := .boolean) Bd.returns (by simp) (hb hby at_168) hr) (by decide) (by decide) ?_
            exact ⟨rfl, N12⟩
      · have hz141 : ¬ (((((((((p1.toInt64) &&& (2147483647 : Int64)) - ((p1.toInt64) &&& (2147483647 : Int64)) / ((1000000000 : Int64) / (own_p k1)) * ((1000000000 : Int64) / (own_p k1))) * (own_p k1)).toInt32).toInt64) - ((((((p1.toInt64) &&& (2147483647 : Int64)) - ((p1.toInt64) &&& (2147483647 : Int64)) / ((1000000000 : Int64) / (own_p k1)) * ((1000000000 : Int64) / (own_p k1))) * (own_p k1)).toInt32).toInt64) / (own_p (9 - k2)) * (own_p (9 - k2)))).toInt = 0) := own_zLneq hc141 rfl rfl
        exact absurd B6 hc141
set_option maxRecDepth 65536 in
set_option maxHeartbeats 40000000 in
theorem own_comes {Post : Tables → Env → Array Value → State → Outcome → State → Prop} (hpost : ∀ tb e args s v u, (limb_1_1.after args s (.returned v) u = true ∧ limb_1_2.after args s (.returned v) u = true ∧ True) → FrameEnd s (.returned v) u (Jvm.fieldLocs frame_1_writes args s ++ Jvm.arrayLocs frame_1_arrays args s ++ Jvm.staticLocs frame_1_statics s) 16 128 → Post tb e args s (.returned v) u) :
    ArmFor flags0 classFile x code maxLocals ret World_1 tables_1 room_1 Calls_1 rest_1 Pre_1 Post := by
  intro l hfl _ _ p e ha hc hk s m args below hf hA hF happ hP
  obtain ⟨hcalls, hrest, hpre⟩ := hP
  obtain ⟨-, -, -, hnamed, -, -, -, hat⟩ := (Spec.applies_iff hf).mp happ
  obtain ⟨hg, hn⟩ := and_e (Cond.before_iff.mp (show (Jvm.Cond.and given_1 narrow_1).before args s = true from hpre))
  obtain ⟨hq0, hr0⟩ := and_e hg
  obtain ⟨hq1, hr1⟩ := and_e hr0
  obtain ⟨w0, w1, rfl⟩ : ∃ w0 w1 : Value, args = #[w0, w1] := by
    have hs : args.size = 2 := by simpa [Cond.value, given_1] using hq0
    obtain ⟨L⟩ := args
    match L, hs with
    | [w0, w1], _ => exact ⟨w0, w1, rfl⟩
  have hw := fun d (hd : d ∈ tables_1) => atoms_spec (ws := Jvm.Cond.code x code maxLocals ret :: tables_1) hat d (List.mem_cons_of_mem _ hd)
  have hfit : Fit s := fun {y c} hc i hi => by
    obtain ⟨ha, rfl⟩ := Array.getElem?_eq_some_iff.mp hc
    have q := List.all_eq_true.mp ((Array.all_eq_true_iff_forall_mem.mp hF) _ (Array.getElem_mem ha)) i (List.mem_range.mpr hi)
    simpa [Array.getElem?_eq_getElem hi] using q
  obtain ⟨i0, ei0⟩ := is_v hq1
  obtain rfl : w0 = (.int i0) := Option.some.inj ei0
  obtain ⟨i1, ei1⟩ := is_v hr1
  obtain rfl : w1 = (.int i1) := Option.some.inj ei1
  obtain ⟨n, o, h1, h2, h3, _, L, rfl, ⟨rfl, N⟩, hq⟩ := own_rm0 l s _ hw tables_1 i0 i1 s.heap s.heap.size (Nat.le_refl _) p e ha hc hk s m _ below hf ((Spec.applies_iff_loose hf).mp happ).1 ⟨rfl, State.Warmed39.refl s, rfl⟩ trivial
  refine ⟨n, _, h1, h2, h3, hpost _ _ _ _ _ _ ⟨Cond.after_iff.mpr rfl, Cond.after_iff.mpr (eq_i res_at (Term.int_eval (1)) rfl), trivial⟩ ⟨hq.1, hq.2.1, (hq.2.2.sift fun y hy => Or.inr (N y hy)).mono (by decide) (by decide)⟩⟩
theorem main_1_1 : Claimed_1_1 := own_comes fun _ _ _ _ _ _ h hF => ⟨h.1, hF⟩
theorem main_1_2 : Claimed_1_2 := own_comes fun _ _ _ _ _ _ h hF => ⟨h.2.1, hF⟩
end Jvm.Pilot.@@N@@
namespace Jvm.Pilot.@@N@@
open Jvm Jvm.ClassFile Sem Op Lib Jvm.Free Jvm.Stand Jvm.Pilot.@@N@@.Jvm.D
/-! MADE BY PROGRAM (witnessworld.py) out of the Statement's table words and the real class files: 11 classes; the members and pool entries that the words name. The judged class is class 1, her method 1. -/
namespace start1
open Jvm.ClassFile
def u (s : String) : CpInfo := .utf8 (stringToUtf16 s)
/-- a pool by its gaps: so many unusable entries, then the entry; so many at the end -/
def gap : Nat → List CpInfo → List CpInfo
  | 0, r => r
  | n + 1, r => .unusable :: gap n r
def poolList (es : List (Nat × CpInfo)) (last : Nat) : List CpInfo := es.foldr (fun e r => gap e.1 (e.2 :: r)) (gap last [])
def pool (es : List (Nat × CpInfo)) (last : Nat) : Array CpInfo := ⟨poolList es last⟩
def fileOf (pool : Array CpInfo) (this : Nat) (attrs : Array Attribute := #[]) (ms : Array MethodInfo := #[]) (fl : Nat := 33) (sup : Nat := 0) (ifs : Array Nat := #[]) (fds : Array FieldInfo := #[]) : ClassFile where
  minorVersion := 0
  majorVersion := 65
  constantPool := pool
  accessFlags := fl
  thisClass := this
  superClass := sup
  interfaces := ifs
  fields := fds
  methods := ms
  attributes := attrs
def plain (name : String) (sup : Option ClassId) : Class where
  name := name
  kind := .ordinary
  loader := none
  accessFlags := 33
  super := sup
  interfaces := #[]
  cf := none
  fields := #[]
  methods := #[]
  instanceTypes := #[]
  staticTypes := #[]
  resolved := #[]
  callSites := []
  init := .initialized
  statics := none
  mirror := none

def pool0 : Array CpInfo := pool [(5, u "<init>"), (0, u "()V"), (1, .class_ 10), (1, u "java/lang/Object")] 113

def k0m0 : Method := { name := "<init>", desc := "()V", sig := { parameters := [], returnType := none }, accessFlags := 1, code := none }
/-- java/lang/Object -/
def k0 : Class := { plain "java/lang/Object" none with
  accessFlags := 33
  interfaces := #[]
  cf := some (fileOf pool0 8 #[] #[{ accessFlags := 1, nameIndex := 5, descriptorIndex := 6, attributes := #[] }] 33 0 #[] #[])
  fields := #[]
  methods := #[k0m0]
  instanceTypes := #[]
  staticTypes := #[]
  resolved := Array.replicate 124 none
  statics := none }

def pool1 : Array CpInfo := pool [(2, .class_ 4), (1, u "java/lang/Object"), (0, u "<init>"), (0, u "()V"), (0, .long 10), (1, .long 100), (1, .long 1000), (1, .long 10000), (1, .long 100000), (1, .long 1000000), (1, .long 10000000), (1, .long 100000000), (1, .long 1000000000), (1, .integer 2147483647), (0, .long 2147483647), (1, .methodref 29 30), (0, .class_ 31), (0, .nameAndType 32 33), (0, u "com/example/soundline/soundline/sql/DateTimeText"), (0, u "fractionDigits"), (0, u "(I)I"), (0, .class_ 35), (0, u "com/example/soundline/soundline/sql/DateTimeTextFractionDigitsPinLaw"), (2, u "law"), (0, u "(II)Z")] 5

def k1m0 : Method := { name := "<init>", desc := "()V", sig := { parameters := [], returnType := none }, accessFlags := 2, code := none }
def k1c1 : Code := { maxStack := 6, maxLocals := 12, code := code, exceptionTable := #[], attributes := #[] }
def k1m1 : Method := { name := "law", desc := "(II)Z", sig := { parameters := [.int, .int], returnType := some .boolean }, accessFlags := 9, code := some k1c1 }
/-- com/example/soundline/soundline/sql/DateTimeTextFractionDigitsPinLaw -/
def k1 : Class := { plain "com/example/soundline/soundline/sql/DateTimeTextFractionDigitsPinLaw" (some 0) with
  accessFlags := 49
  interfaces := #[]
  cf := some (fileOf pool1 34 #[] #[{ accessFlags := 2, nameIndex := 5, descriptorIndex := 6, attributes := #[] }, { accessFlags := 9, nameIndex := 38, descriptorIndex := 39, attributes := #[] }] 49 2 #[] #[])
  fields := #[]
  methods := #[k1m0, k1m1]
  instanceTypes := #[]
  staticTypes := #[]
  resolved := Array.replicate 45 none
  statics := none }

def pool2 : Array CpInfo := pool [(2, .class_ 4), (1, u "java/lang/Object"), (0, u "<init>"), (0, u "()V"), (0, .class_ 8), (0, u "com/example/soundline/soundline/sql/DateTimeText"), (66, u "(I)I"), (48, u "FRACTION_DIGITS"), (0, u "I"), (2, u "DATE_FORM"), (0, u "Ljava/lang/String;"), (0, u "TIME_FORM"), (0, u "NANOS_PER_SECOND"), (11, u "fractionDigits")] 2

def k2m0 : Method := { name := "<init>", desc := "()V", sig := { parameters := [], returnType := none }, accessFlags := 2, code := none }
def k2c1 : Code := { maxStack := 2, maxLocals := 3, code := prog_184_method_11_code, exceptionTable := #[], attributes := #[] }
def k2m1 : Method := { name := "fractionDigits", desc := "(I)I", sig := { parameters := [.int], returnType := some .int }, accessFlags := 8, code := some k2c1 }
/-- com/example/soundline/soundline/sql/DateTimeText -/
def k2 : Class := { plain "com/example/soundline/soundline/sql/DateTimeText" (some 0) with
  accessFlags := 48
  interfaces := #[]
  cf := some (fileOf pool2 7 #[] #[{ accessFlags := 2, nameIndex := 5, descriptorIndex := 6, attributes := #[] }, { accessFlags := 8, nameIndex := 143, descriptorIndex := 75, attributes := #[] }] 48 2 #[] #[{ accessFlags := 24, nameIndex := 124, descriptorIndex := 125, attributes := #[] }, { accessFlags := 26, nameIndex := 128, descriptorIndex := 129, attributes := #[] }, { accessFlags := 26, nameIndex := 130, descriptorIndex := 129, attributes := #[] }, { accessFlags := 26, nameIndex := 131, descriptorIndex := 125, attributes := #[] }])
  fields := #[{ name := "FRACTION_DIGITS", type := .int, accessFlags := 24, slot := 0, constantValue := 0 }, { name := "DATE_FORM", type := (.object "java/lang/String"), accessFlags := 26, slot := 1, constantValue := 0 }, { name := "TIME_FORM", type := (.object "java/lang/String"), accessFlags := 26, slot := 2, constantValue := 0 }, { name := "NANOS_PER_SECOND", type := .int, accessFlags := 26, slot := 3, constantValue := 0 }]
  methods := #[k2m0, k2m1]
  instanceTypes := #[]
  staticTypes := #[.int, (.object "java/lang/String"), (.object "java/lang/String"), .int]
  resolved := Array.replicate 146 none
  statics := none }

def pool3 : Array CpInfo := pool [(1, u "java/lang/Cloneable"), (0, .class_ 1), (0, u "java/lang/Object"), (0, .class_ 3)] 3

/-- java/lang/Cloneable -/
def k3 : Class := { plain "java/lang/Cloneable" (some 0) with
  accessFlags := 1537
  interfaces := #[]
  cf := some (fileOf pool3 2 #[] #[] 1537 4 #[] #[])
  fields := #[]
  methods := #[]
  instanceTypes := #[]
  staticTypes := #[]
  resolved := Array.replicate 8 none
  statics := none }

def pool4 : Array CpInfo := pool [(1, u "java/io/Serializable"), (0, .class_ 1), (0, u "java/lang/Object"), (0, .class_ 3)] 3

/-- java/io/Serializable -/
def k4 : Class := { plain "java/io/Serializable" (some 0) with
  accessFlags := 1537
  interfaces := #[]
  cf := some (fileOf pool4 2 #[] #[] 1537 4 #[] #[])
  fields := #[]
  methods := #[]
  instanceTypes := #[]
  staticTypes := #[]
  resolved := Array.replicate 8 none
  statics := none }

/-- the primitive byte -/
def k5 : Class := { plain "byte" none with kind := .primitive 'B', accessFlags := 0x411 }
/-- [B -/
def k6 : Class := { plain "[B" (some 0) with kind := .array 5 .byte, interfaces := #[3, 4], accessFlags := 1041 }

/-- the primitive int -/
def k7 : Class := { plain "int" none with kind := .primitive 'I', accessFlags := 0x411 }
/-- [I -/
def k8 : Class := { plain "[I" (some 0) with kind := .array 7 .int, interfaces := #[3, 4], accessFlags := 1041 }

/-- the primitive long -/
def k9 : Class := { plain "long" none with kind := .primitive 'J', accessFlags := 0x411 }
/-- [J -/
def k10 : Class := { plain "[J" (some 0) with kind := .array 9 .long, interfaces := #[3, 4], accessFlags := 1041 }

def heap : Heap := #[]
def classes : Array Class := #[k0, k1, k2, k3, k4, k5, k6, k7, k8, k9, k10]
def interned : List (Array UInt16 × Addr) := []
def slotsUsed : Nat := 0
def theMethod : MethodId := ⟨1, 1⟩
def args0 : Array Value := #[.int 5, .int 2]
def aboutOver (below : List Frame) : State where
  vm := { classes := classes, interned := interned.toArray }
  heap := heap
  slotsUsed := slotsUsed
  threads := #[{ frames := .invoking theMethod args0 :: below }]
def below0 : List Frame := [.native { method := ⟨0, 0⟩, args := #[] }]
def about1 : State := aboutOver below0
def p0 : Program := .bare "" "" ""
def e0 : Env := launch0.env 0 0 0
theorem w_frames : about1.frames = Frame.invoking theMethod args0 :: below0 := rfl
set_option maxRecDepth 65536 in
theorem w_args : argsFit about1.vm theMethod args0 = true := by decide +kernel
set_option maxRecDepth 65536 in
theorem w_heap : heapFits about1 = true := by decide +kernel
set_option maxRecDepth 65536 in
theorem w_runnable : about1.curStatus? = some .runnable := by decide +kernel
set_option maxRecDepth 65536 in
theorem w_alone : about1.alone = true := by decide +kernel
set_option maxRecDepth 65536 in
theorem w_named : about1.methodNamed? x = some theMethod := by decide +kernel
set_option maxRecDepth 65536 in
theorem w_hears : about1.hears theMethod below0 = true := by decide +kernel
set_option maxRecDepth 65536 in
theorem w_ripe : about1.ripe theMethod args0 below0 = true := by decide +kernel
theorem w_running : about1.status = .running := rfl
set_option maxRecDepth 65536 in
theorem w_room : about1.hasRoom e0.platform room_1 = true :=
  launch0.hasRoom_least _ room_1 (by decide +kernel) (by decide +kernel) (by decide +kernel) (by decide +kernel) (by decide +kernel) (by decide +kernel)
theorem allAtoms_all (ts : List Jvm.Cond) (a : Array Jvm.Value) (st : Jvm.State) : (allAtoms ts).before a st = ts.all (fun c => c.before a st) := by
  induction ts with
  | nil => rfl
  | cons c t ih =>
    show (Jvm.Cond.and c (allAtoms t)).before a st = _
    rw [Jvm.Cond.before_and, ih, List.all_cons]
def words1 : List Jvm.Cond := Jvm.Cond.code x code maxLocals ret :: tables_1
/-- a 'code' word, met by the world's own term for the bytes: nothing is compared byte by byte -/
theorem code_word {y : MethodName} {bytes : ByteArray} {mx : Nat} {rt : Option FieldType} {a : Array Value} {s : State} {m : MethodId} {meth : Method} {c : Code} (h1 : s.methodNamed? y = some m) (h2 : s.vm.method? m = some meth) (h3 : meth.code = some c) (h4 : c.code = bytes)
    (h5 : (c.maxLocals == mx && c.exceptionTable.isEmpty && decide (c.maxStack ≤ mostOperands) && decide (meth.sig.returnType = rt) && !meth.locks && decide (parseMethodDescriptor y.desc = some meth.sig)) = true) : (Jvm.Cond.code y bytes mx rt).before a s = true := by
  simp only [Bool.and_eq_true, beq_iff_eq, Bool.not_eq_true', decide_eq_true_eq] at h5
  obtain ⟨⟨⟨⟨⟨g1, g2⟩, g3⟩, g4⟩, g5⟩, g6⟩ := h5
  simp [Cond.before, Cond.holds, Cond.value, h1, h2, h3, h4, g1, g2, g3, g4, g5, g6]
def isCode : Jvm.Cond → Bool
  | .code _ _ _ _ => true
  | _ => false
theorem all_split {L : List Jvm.Cond} {P : Jvm.Cond → Bool} (h1 : L.all (fun c => isCode c || P c) = true) (h2 : ∀ c ∈ L.filter isCode, P c = true) : L.all P = true := by
  refine List.all_eq_true.mpr fun c hc => ?_
  have h := List.all_eq_true.mp h1 c hc
  rcases Bool.eq_false_or_eq_true (isCode c) with hi | hi
  · exact h2 c (List.mem_filter.mpr ⟨hc, hi⟩)
  · simpa [hi] using h
set_option maxRecDepth 65536 in
theorem w_c0 : (Jvm.Cond.code x code maxLocals ret).before args0 about1 = true := code_word (m := ⟨1, 1⟩) (meth := k1m1) (c := k1c1) (by decide +kernel) rfl rfl rfl (by decide +kernel)
set_option maxRecDepth 65536 in
theorem w_c1 : (Jvm.Cond.code ({ cls := "com/example/soundline/soundline/sql/DateTimeText", name := "fractionDigits", desc := "(I)I" } : Jvm.MethodName) prog_184_method_11_code (3 : Nat) (Option.some Jvm.ClassFile.FieldType.int)).before args0 about1 = true := code_word (m := ⟨2, 1⟩) (meth := k2m1) (c := k2c1) (by decide +kernel) rfl rfl rfl (by decide +kernel)
def codes1 : List Jvm.Cond := [Jvm.Cond.code x code maxLocals ret, Jvm.Cond.code ({ cls := "com/example/soundline/soundline/sql/DateTimeText", name := "fractionDigits", desc := "(I)I" } : Jvm.MethodName) prog_184_method_11_code (3 : Nat) (Option.some Jvm.ClassFile.FieldType.int)]
set_option maxRecDepth 65536 in
theorem codes_eq : words1.filter isCode = codes1 := rfl
theorem w_codes : ∀ c ∈ words1.filter isCode, c.before args0 about1 = true := by
  rw [codes_eq]
  intro c hc
  simp only [codes1, List.mem_cons, List.not_mem_nil, or_false] at hc
  rcases hc with rfl | rfl
  · exact w_c0
  · exact w_c1
set_option maxRecDepth 65536 in
theorem w_t1 : words1.all (fun c => isCode c || c.before args0 about1) = true := by decide +kernel
theorem w_tables : (allAtoms (Jvm.Cond.code x code maxLocals ret :: tables_1)).before args0 about1 = true := by
  rw [allAtoms_all]
  show words1.all (fun c => c.before args0 about1) = true
  refine all_split ?_ w_codes
  rw [w_t1]
set_option maxRecDepth 65536 in
theorem w_case : (Jvm.Cond.and given_1 narrow_1).before args0 about1 = true := by decide +kernel
theorem w_applies : (headSpec (Jvm.Cond.code x code maxLocals ret :: tables_1) room_1).applies x e0.platform about1 = true :=
  (Spec.applies_iff w_frames).mpr ⟨w_running, w_runnable, w_alone, w_named, w_hears, w_ripe, w_room, w_tables⟩
theorem atStart : AtStart classFile x code maxLocals ret World_1 tables_1 room_1 Calls_1 rest_1 Pre_1 launch0 p0 e0 about1 theMethod args0 below0 :=
  ⟨lists_1, trivial, launch0.admits_env _ _ _, launch0.least_env, fairChoices_fair.cas, fairChoices_fair.clock, w_frames, w_args, w_heap, w_applies, trivial, trivial, w_case⟩
end start1
theorem witness_1 : WitnessClaimed_1 := ⟨start1.p0, start1.e0, start1.about1, start1.theMethod, start1.args0, start1.below0, start1.atStart⟩
end Jvm.Pilot.@@N@@
