import JvmDerived
import JvmDerived.Pilot.@@N@@Statement
import JvmDerived.Pilot.@@N@@Code
set_option linter.unusedVariables false
set_option linter.unusedSimpArgs false
namespace Jvm.RoadKit
open Sem ClassFile Op Lib Jvm.Stand Jvm.Free Jvm.LawKit
section New
variable {p : Program} {l : Launch} {e : Env} {R : Room} {s : State} {m : MethodId} {args : Array Value} {below : List Frame} {meth : Method} {c : Code} {T : State} {locs : List Loc} {cells slots k n : Nat} {Q : Option Value → Heap → List Loc → Prop}
theorem retI (X : Stand p l e R s m args below meth c T locs cells slots) (hx : p.tables.exec = Jvm.exec) {pc : Nat} {Ls : Array Slot} {z : Int32} {rest : List Value} (hret : meth.sig.returnType = some .int) (hd : decode c.code pc = .ok (.ireturn, 1)) {fs : List Frame}
    (hl : ∀ (f : JFrame) (acts : List Action), f.method = m → f.locked = none → f.entered = [] → (doReturn e (T.setTop f) acts (some (.int z))).1 = T.setFrames fs) : Steps p.tables e below (T.setTop (mkF m pc Ls (.int z :: rest))) (T.setFrames fs) := by
  have hm' : T.vm.method? m = some meth := X.method'
  have hn : narrow .int (.int z) = .int z := rfl
  show Steps p.tables e below (T.setTop { method := m, pc := pc, locals := Ls, stack := _ :: rest, locked := none }) _
  jvm_step X.here [X.here.top, hx, hd, hm', hret, hn]
  first | (intro acts; rw [hl _ acts rfl rfl rfl]) | rw [hl _ _ rfl rfl rfl]
  exact Steps.refl _
/-- from S0 the run comes to a return that leaves what Q says -/
def own_Fin (p : Program) (e : Env) (below : List Frame) (s : State) (Q : Option Value → Heap → List Loc → Prop) (k n : Nat) (S0 : State) : Prop :=
  ∃ s₂ o, Steps p.tables e below S0 s₂ ∧ s₂.status = .running ∧ Ended s₂ below o ∧ ∃ v L, o = .returned v ∧ Q v s₂.heap L ∧ FrameEnd s o s₂ L k n
theorem own_go {S0 : State} (S1 : State) (h : ∀ t, Steps p.tables e below S1 t → Steps p.tables e below S0 t) (q : own_Fin p e below s Q k n S1) : own_Fin p e below s Q k n S0 := by
  obtain ⟨s₂, o, h1, h2⟩ := q
  exact ⟨s₂, o, h _ h1, h2⟩
theorem own_ret (X : Stand p l e R s m args below meth c T locs cells slots) (hlocks : meth.locks = false) (v : Option Value) (hv : meth.sig.returnType = none → v = none) {g : JFrame}
    (hs : ∀ fs, (∀ (f : JFrame) (acts : List Action), f.method = m → f.locked = none → f.entered = [] → (doReturn e (T.setTop f) acts v).1 = T.setFrames fs) → Steps p.tables e below (T.setTop g) (T.setFrames fs))
    (hk : cells ≤ k) (hn : slots ≤ n) (hQ : Q v T.heap locs) : own_Fin p e below s Q k n (T.setTop g) := by
  obtain ⟨fs, hr, hrun, hended, hW, hsame⟩ := X.leave (v := v) hv hlocks
  exact ⟨_, _, hs fs hr, hrun, hended, _, _, rfl, hQ, ⟨_, rfl⟩, hW, hsame.mono hk hn⟩
theorem own_zlt {x y : Int32} {a b : Int} (h : x < y) (hx : x.toInt = a) (hy : y.toInt = b) : a < b := by rw [← hx, ← hy]; exact Int32.lt_iff_toInt_lt.mp h
theorem own_znlt {x y : Int32} {a b : Int} (h : ¬ x < y) (hx : x.toInt = a) (hy : y.toInt = b) : ¬ a < b := by rw [← hx, ← hy]; exact fun q => h (Int32.lt_iff_toInt_lt.mpr q)
theorem own_zeq {x y : Int32} {a b : Int} (h : x = y) (hx : x.toInt = a) (hy : y.toInt = b) : a = b := by rw [← hx, ← hy, h]
theorem own_zneq {x y : Int32} {a b : Int} (h : ¬ x = y) (hx : x.toInt = a) (hy : y.toInt = b) : ¬ a = b := by rw [← hx, ← hy]; exact fun q => h (Int32.toInt_inj.mp q)
theorem own_zLlt {x y : Int64} {a b : Int} (h : x < y) (hx : x.toInt = a) (hy : y.toInt = b) : a < b := by rw [← hx, ← hy]; exact Int64.lt_iff_toInt_lt.mp h
theorem own_zLnlt {x y : Int64} {a b : Int} (h : ¬ x < y) (hx : x.toInt = a) (hy : y.toInt = b) : ¬ a < b := by rw [← hx, ← hy]; exact fun q => h (Int64.lt_iff_toInt_lt.mpr q)
theorem own_zLeq {x y : Int64} {a b : Int} (h : x = y) (hx : x.toInt = a) (hy : y.toInt = b) : a = b := by rw [← hx, ← hy, h]
theorem own_zLneq {x y : Int64} {a b : Int} (h : ¬ x = y) (hx : x.toInt = a) (hy : y.toInt = b) : ¬ a = b := by rw [← hx, ← hy]; exact fun q => h (Int64.toInt_inj.mp q)
end New
end Jvm.RoadKit
namespace Jvm.Pilot.@@N@@
open Jvm Jvm.ClassFile Sem Op Lib Jvm.Free Jvm.Stand Jvm.LawKit Jvm.RoadKit Bundle Jvm.Pilot.@@N@@.Jvm.D
theorem own_pd0 : parseMethodDescriptor "(I)Lcom/example/soundline/soundline/sql/TypeKind;" = some ⟨[.int], some (.object "com/example/soundline/soundline/sql/TypeKind")⟩ := by decide +kernel

theorem own_eqint {t : Term} {n : Int32} {args : Array Value} {s : State} (h : (Jvm.Cond.eq t (.int n)).value args s none s [] = some true) : t.eval args s none [] s = some (.int n) := by
  obtain ⟨x, y, hx, hy, -, k2⟩ := cmp_v (Or.inl h)
  cases (Term.int_eval n).symm.trans hy
  obtain ⟨z, rfl⟩ : ∃ z, x = .int z := k2
  have q : z = n := gotT (Cond.eq_ints hx (Term.int_eval n)) h
  rw [hx, q]
theorem own_eqref {t u : Term} {w : Addr} {args : Array Value} {s : State} (h : (Jvm.Cond.eq t u).value args s none s [] = some true) (hu : u.eval args s none [] s = some (.ref w)) : t.eval args s none [] s = some (.ref w) := by
  obtain ⟨x, y, hx, hy, k1, k2⟩ := cmp_v (Or.inl h)
  cases hu.symm.trans hy
  have r : x.isRef = true := k2.2
  have q : x = .ref w := gotT (eq_R hx hy r rfl) h
  rw [hx, q]
def own_R (w0 w1 w2 w3 w4 w5 w6 w7 w8 w9 w10 : Addr) (z : Int) : Value := if z = 1 then .ref w1 else if z = 2 then .ref w5 else if z = 3 then .ref w0 else if z = 4 then .ref w2 else if z = 5 then .ref w3 else if z = 6 then .ref w4 else if z = 7 then .ref w9 else if z = 8 then .ref w10 else if z = 9 then .ref w6 else if z = 10 then .ref w7 else if z = 11 then .ref w8 else if z = 12 then .ref w9 else .null
theorem own_R1 (w0 w1 w2 w3 w4 w5 w6 w7 w8 w9 w10 : Addr) (z : Int) (h : z = 1) : some (Value.ref w1) = some (own_R w0 w1 w2 w3 w4 w5 w6 w7 w8 w9 w10 z) := by subst h; rfl
theorem own_R2 (w0 w1 w2 w3 w4 w5 w6 w7 w8 w9 w10 : Addr) (z : Int) (h : z = 2) : some (Value.ref w5) = some (own_R w0 w1 w2 w3 w4 w5 w6 w7 w8 w9 w10 z) := by subst h; rfl
theorem own_R3 (w0 w1 w2 w3 w4 w5 w6 w7 w8 w9 w10 : Addr) (z : Int) (h : z = 3) : some (Value.ref w0) = some (own_R w0 w1 w2 w3 w4 w5 w6 w7 w8 w9 w10 z) := by subst h; rfl
theorem own_R4 (w0 w1 w2 w3 w4 w5 w6 w7 w8 w9 w10 : Addr) (z : Int) (h : z = 4) : some (Value.ref w2) = some (own_R w0 w1 w2 w3 w4 w5 w6 w7 w8 w9 w10 z) := by subst h; rfl
theorem own_R5 (w0 w1 w2 w3 w4 w5 w6 w7 w8 w9 w10 : Addr) (z : Int) (h : z = 5) : some (Value.ref w3) = some (own_R w0 w1 w2 w3 w4 w5 w6 w7 w8 w9 w10 z) := by subst h; rfl
theorem own_R6 (w0 w1 w2 w3 w4 w5 w6 w7 w8 w9 w10 : Addr) (z : Int) (h : z = 6) : some (Value.ref w4) = some (own_R w0 w1 w2 w3 w4 w5 w6 w7 w8 w9 w10 z) := by subst h; rfl
theorem own_R7 (w0 w1 w2 w3 w4 w5 w6 w7 w8 w9 w10 : Addr) (z : Int) (h : z = 7) : some (Value.ref w9) = some (own_R w0 w1 w2 w3 w4 w5 w6 w7 w8 w9 w10 z) := by subst h; rfl
theorem own_R8 (w0 w1 w2 w3 w4 w5 w6 w7 w8 w9 w10 : Addr) (z : Int) (h : z = 8) : some (Value.ref w10) = some (own_R w0 w1 w2 w3 w4 w5 w6 w7 w8 w9 w10 z) := by subst h; rfl
theorem own_R9 (w0 w1 w2 w3 w4 w5 w6 w7 w8 w9 w10 : Addr) (z : Int) (h : z = 9) : some (Value.ref w6) = some (own_R w0 w1 w2 w3 w4 w5 w6 w7 w8 w9 w10 z) := by subst h; rfl
theorem own_R10 (w0 w1 w2 w3 w4 w5 w6 w7 w8 w9 w10 : Addr) (z : Int) (h : z = 10) : some (Value.ref w7) = some (own_R w0 w1 w2 w3 w4 w5 w6 w7 w8 w9 w10 z) := by subst h; rfl
theorem own_R11 (w0 w1 w2 w3 w4 w5 w6 w7 w8 w9 w10 : Addr) (z : Int) (h : z = 11) : some (Value.ref w8) = some (own_R w0 w1 w2 w3 w4 w5 w6 w7 w8 w9 w10 z) := by subst h; rfl
theorem own_R12 (w0 w1 w2 w3 w4 w5 w6 w7 w8 w9 w10 : Addr) (z : Int) (h : z = 12) : some (Value.ref w9) = some (own_R w0 w1 w2 w3 w4 w5 w6 w7 w8 w9 w10 z) := by subst h; rfl
theorem own_Rn (w0 w1 w2 w3 w4 w5 w6 w7 w8 w9 w10 : Addr) (z : Int) (h1 : ¬ z = 1) (h2 : ¬ z = 2) (h3 : ¬ z = 3) (h4 : ¬ z = 4) (h5 : ¬ z = 5) (h6 : ¬ z = 6) (h7 : ¬ z = 7) (h8 : ¬ z = 8) (h9 : ¬ z = 9) (h10 : ¬ z = 10) (h11 : ¬ z = 11) (h12 : ¬ z = 12) : some Value.null = some (own_R w0 w1 w2 w3 w4 w5 w6 w7 w8 w9 w10 z) := by unfold own_R; rw [if_neg h1, if_neg h2, if_neg h3, if_neg h4, if_neg h5, if_neg h6, if_neg h7, if_neg h8, if_neg h9, if_neg h10, if_neg h11, if_neg h12]
theorem own_ite {P : Prop} [Decidable P] {a b : Value} (ha : a.isRef = true) (hb : b.isRef = true) : (if P then a else b).isRef = true := by split <;> assumption
theorem own_Rref (w0 w1 w2 w3 w4 w5 w6 w7 w8 w9 w10 : Addr) (z : Int) : (own_R w0 w1 w2 w3 w4 w5 w6 w7 w8 w9 w10 z).isRef = true := by
  unfold own_R
  exact own_ite rfl (own_ite rfl (own_ite rfl (own_ite rfl (own_ite rfl (own_ite rfl (own_ite rfl (own_ite rfl (own_ite rfl (own_ite rfl (own_ite rfl (own_ite rfl (rfl))))))))))))
theorem own_Rcat (w0 w1 w2 w3 w4 w5 w6 w7 w8 w9 w10 : Addr) (z : Int) : (own_R w0 w1 w2 w3 w4 w5 w6 w7 w8 w9 w10 z).category = 1 := by
  rcases ref_cases (own_Rref w0 w1 w2 w3 w4 w5 w6 w7 w8 w9 w10 z) with h | ⟨a, h⟩ <;> rw [h] <;> rfl


theorem own_len {t : Term} {args : Array Value} {s : State} {ka : Addr} {cl : Cell} {ty : FieldType} {n : Int32} (ht : t.eval args s none [] s = some (.ref ka)) (A : Arr s s.heap ka cl ty) (h : (Term.length t).eval args s none [] s = some (.int n)) : cl.slots.size.toInt32 = n := by
  obtain ⟨a, cell, e1, e2, e3⟩ := Term.length_spec h
  cases ht.symm.trans e1
  have q := A.fin (Vm.Alike.refl _)
  cases q.symm.trans e2
  exact (Value.int.inj e3).symm

theorem d1_0 : decode prog_335_method_5_code 0 = .ok (.getstatic 147, 3) := by decide +kernel
theorem d1_3 : decode prog_335_method_5_code 3 = .ok (.astore_n 1, 1) := by decide +kernel
theorem d1_4 : decode prog_335_method_5_code 4 = .ok (.aload_n 1, 1) := by decide +kernel
theorem d1_5 : decode prog_335_method_5_code 5 = .ok (.arraylength, 1) := by decide +kernel
theorem d1_6 : decode prog_335_method_5_code 6 = .ok (.istore_n 2, 1) := by decide +kernel
theorem d1_7 : decode prog_335_method_5_code 7 = .ok (.iconst 0, 1) := by decide +kernel
theorem d1_8 : decode prog_335_method_5_code 8 = .ok (.istore_n 3, 1) := by decide +kernel
theorem d1_9 : decode prog_335_method_5_code 9 = .ok (.iload_n 3, 1) := by decide +kernel
theorem d1_10 : decode prog_335_method_5_code 10 = .ok (.iload_n 2, 1) := by decide +kernel
theorem d1_11 : decode prog_335_method_5_code 11 = .ok (.if_icmp .ge 43, 3) := by decide +kernel
theorem d1_14 : decode prog_335_method_5_code 14 = .ok (.aload_n 1, 1) := by decide +kernel
theorem d1_15 : decode prog_335_method_5_code 15 = .ok (.iload_n 3, 1) := by decide +kernel
theorem d1_16 : decode prog_335_method_5_code 16 = .ok (.aaload, 1) := by decide +kernel
theorem d1_17 : decode prog_335_method_5_code 17 = .ok (.astore 4, 2) := by decide +kernel
theorem d1_19 : decode prog_335_method_5_code 19 = .ok (.aload 4, 2) := by decide +kernel
theorem d1_21 : decode prog_335_method_5_code 21 = .ok (.getfield 98, 3) := by decide +kernel
theorem d1_24 : decode prog_335_method_5_code 24 = .ok (.iload_n 0, 1) := by decide +kernel
theorem d1_25 : decode prog_335_method_5_code 25 = .ok (.if_icmp .eq 20, 3) := by decide +kernel
theorem d1_28 : decode prog_335_method_5_code 28 = .ok (.aload 4, 2) := by decide +kernel
theorem d1_30 : decode prog_335_method_5_code 30 = .ok (.getfield 102, 3) := by decide +kernel
theorem d1_33 : decode prog_335_method_5_code 33 = .ok (.ifCond .eq 15, 3) := by decide +kernel
theorem d1_36 : decode prog_335_method_5_code 36 = .ok (.aload 4, 2) := by decide +kernel
theorem d1_38 : decode prog_335_method_5_code 38 = .ok (.getfield 102, 3) := by decide +kernel
theorem d1_41 : decode prog_335_method_5_code 41 = .ok (.iload_n 0, 1) := by decide +kernel
theorem d1_42 : decode prog_335_method_5_code 42 = .ok (.if_icmp .ne 6, 3) := by decide +kernel
theorem d1_45 : decode prog_335_method_5_code 45 = .ok (.aload 4, 2) := by decide +kernel
theorem d1_47 : decode prog_335_method_5_code 47 = .ok (.areturn, 1) := by decide +kernel
theorem d1_48 : decode prog_335_method_5_code 48 = .ok (.iinc 3 1, 3) := by decide +kernel
theorem d1_51 : decode prog_335_method_5_code 51 = .ok (.goto (-42), 3) := by decide +kernel
theorem d1_54 : decode prog_335_method_5_code 54 = .ok (.aconst_null, 1) := by decide +kernel
theorem d1_55 : decode prog_335_method_5_code 55 = .ok (.areturn, 1) := by decide +kernel
theorem own_pn1 : plainName "com/example/soundline/soundline/sql/TypeKind" = true := by first | (simp [plainName, overriddenIn]; done) | decide +kernel
theorem own_ef1 (m : MethodId) (p1 : Int32) : entryFrame m #[(.int p1)] 5 = (mkF m 0 #[.val (.int p1), .unset, .unset, .unset, .unset] []) := by first | (simp [entryFrame, mkF, argsToLocals, Value.category]; done) | rfl
def own_Q1 (Z : State) (p1 : Int32) (w0 w1 w2 w3 w4 w5 w6 w7 w8 w9 w10 ka : Addr) (cl : Cell) (h0 : Heap) (n0 : Nat) (v : Option Value) (h : Heap) (L : List Loc) : Prop := v = some (own_R w0 w1 w2 w3 w4 w5 w6 w7 w8 w9 w10 p1.toInt) ∧ Fr n0 L ∧ h = h0
set_option maxRecDepth 65536 in
set_option maxHeartbeats 40000000 in
theorem own_rm1 (l : Launch) (Z : State) (a0 : Array Value) (hw : ∀ d ∈ tables_1, d.before a0 Z = true) (ws : List Jvm.Cond) (p1 : Int32) (w0 w1 w2 w3 w4 w5 w6 w7 w8 w9 w10 ka : Addr) (cl : Cell) (h0 : Heap) (n0 : Nat) (Z0 : n0 ≤ h0.size) (S_KINDS : Sta Z h0 "com/example/soundline/soundline/sql/TypeKind" "KINDS" "[Lcom/example/soundline/soundline/sql/TypeKind;" (.ref ka)) (Ar : Arr Z h0 ka cl (.object "com/example/soundline/soundline/sql/TypeKind")) (hlen : cl.slots.size.toInt32 = (11 : Int32)) (el0 : ¬ ((0 : Int32) < 0 ∨ cl.slots.size ≤ (0 : Int32).toNatClampNeg) ∧ cl.slots[(0 : Int32).toNatClampNeg]? = some (.ref w0)) (el1 : ¬ ((1 : Int32) < 0 ∨ cl.slots.size ≤ (1 : Int32).toNatClampNeg) ∧ cl.slots[(1 : Int32).toNatClampNeg]? = some (.ref w1)) (el2 : ¬ ((2 : Int32) < 0 ∨ cl.slots.size ≤ (2 : Int32).toNatClampNeg) ∧ cl.slots[(2 : Int32).toNatClampNeg]? = some (.ref w2)) (el3 : ¬ ((3 : Int32) < 0 ∨ cl.slots.size ≤ (3 : Int32).toNatClampNeg) ∧ cl.slots[(3 : Int32).toNatClampNeg]? = some (.ref w3)) (el4 : ¬ ((4 : Int32) < 0 ∨ cl.slots.size ≤ (4 : Int32).toNatClampNeg) ∧ cl.slots[(4 : Int32).toNatClampNeg]? = some (.ref w4)) (el5 : ¬ ((5 : Int32) < 0 ∨ cl.slots.size ≤ (5 : Int32).toNatClampNeg) ∧ cl.slots[(5 : Int32).toNatClampNeg]? = some (.ref w5)) (el6 : ¬ ((6 : Int32) < 0 ∨ cl.slots.size ≤ (6 : Int32).toNatClampNeg) ∧ cl.slots[(6 : Int32).toNatClampNeg]? = some (.ref w6)) (el7 : ¬ ((7 : Int32) < 0 ∨ cl.slots.size ≤ (7 : Int32).toNatClampNeg) ∧ cl.slots[(7 : Int32).toNatClampNeg]? = some (.ref w7)) (el8 : ¬ ((8 : Int32) < 0 ∨ cl.slots.size ≤ (8 : Int32).toNatClampNeg) ∧ cl.slots[(8 : Int32).toNatClampNeg]? = some (.ref w8)) (el9 : ¬ ((9 : Int32) < 0 ∨ cl.slots.size ≤ (9 : Int32).toNatClampNeg) ∧ cl.slots[(9 : Int32).toNatClampNeg]? = some (.ref w9)) (el10 : ¬ ((10 : Int32) < 0 ∨ cl.slots.size ≤ (10 : Int32).toNatClampNeg) ∧ cl.slots[(10 : Int32).toNatClampNeg]? = some (.ref w10)) (Ft0 : Fld Z h0 w0 "com/example/soundline/soundline/sql/TypeKind" "tag" "I" (.int (3 : Int32))) (Fb0 : Fld Z h0 w0 "com/example/soundline/soundline/sql/TypeKind" "bareTag" "I" (.int (0 : Int32))) (Ft1 : Fld Z h0 w1 "com/example/soundline/soundline/sql/TypeKind" "tag" "I" (.int (1 : Int32))) (Fb1 : Fld Z h0 w1 "com/example/soundline/soundline/sql/TypeKind" "bareTag" "I" (.int (0 : Int32))) (Ft2 : Fld Z h0 w2 "com/example/soundline/soundline/sql/TypeKind" "tag" "I" (.int (4 : Int32))) (Fb2 : Fld Z h0 w2 "com/example/soundline/soundline/sql/TypeKind" "bareTag" "I" (.int (0 : Int32))) (Ft3 : Fld Z h0 w3 "com/example/soundline/soundline/sql/TypeKind" "tag" "I" (.int (5 : Int32))) (Fb3 : Fld Z h0 w3 "com/example/soundline/soundline/sql/TypeKind" "bareTag" "I" (.int (0 : Int32))) (Ft4 : Fld Z h0 w4 "com/example/soundline/soundline/sql/TypeKind" "tag" "I" (.int (6 : Int32))) (Fb4 : Fld Z h0 w4 "com/example/soundline/soundline/sql/TypeKind" "bareTag" "I" (.int (0 : Int32))) (Ft5 : Fld Z h0 w5 "com/example/soundline/soundline/sql/TypeKind" "tag" "I" (.int (2 : Int32))) (Fb5 : Fld Z h0 w5 "com/example/soundline/soundline/sql/TypeKind" "bareTag" "I" (.int (0 : Int32))) (Ft6 : Fld Z h0 w6 "com/example/soundline/soundline/sql/TypeKind" "tag" "I" (.int (9 : Int32))) (Fb6 : Fld Z h0 w6 "com/example/soundline/soundline/sql/TypeKind" "bareTag" "I" (.int (0 : Int32))) (Ft7 : Fld Z h0 w7 "com/example/soundline/soundline/sql/TypeKind" "tag" "I" (.int (10 : Int32))) (Fb7 : Fld Z h0 w7 "com/example/soundline/soundline/sql/TypeKind" "bareTag" "I" (.int (0 : Int32))) (Ft8 : Fld Z h0 w8 "com/example/soundline/soundline/sql/TypeKind" "tag" "I" (.int (11 : Int32))) (Fb8 : Fld Z h0 w8 "com/example/soundline/soundline/sql/TypeKind" "bareTag" "I" (.int (0 : Int32))) (Ft9 : Fld Z h0 w9 "com/example/soundline/soundline/sql/TypeKind" "tag" "I" (.int (12 : Int32))) (Fb9 : Fld Z h0 w9 "com/example/soundline/soundline/sql/TypeKind" "bareTag" "I" (.int (7 : Int32))) (Ft10 : Fld Z h0 w10 "com/example/soundline/soundline/sql/TypeKind" "tag" "I" (.int (8 : Int32))) (Fb10 : Fld Z h0 w10 "com/example/soundline/soundline/sql/TypeKind" "bareTag" "I" (.int (0 : Int32))) :
    MetFree l (⟨"com/example/soundline/soundline/sql/TypeKind", "withTag", "(I)Lcom/example/soundline/soundline/sql/TypeKind;"⟩ : MethodName) (head1 (Jvm.Cond.code (⟨"com/example/soundline/soundline/sql/TypeKind", "withTag", "(I)Lcom/example/soundline/soundline/sql/TypeKind;"⟩ : MethodName) prog_335_method_5_code 5 (some (.object "com/example/soundline/soundline/sql/TypeKind")) :: ws) ({ frames := 0, cells := 0, slots := 0, locals := 0 } : Room)) (fun a U => a = #[(.int p1)] ∧ Z.Warmed39 U.vm ∧ U.heap = h0) (fun _ _ _ _ _ => True) (fun _ U o U' => ∃ v L, o = .returned v ∧ own_Q1 Z p1 w0 w1 w2 w3 w4 w5 w6 w7 w8 w9 w10 ka cl h0 n0 v U'.heap L ∧ FrameEnd U o U' L ({ frames := 0, cells := 0, slots := 0, locals := 0 } : Room).cells ({ frames := 0, cells := 0, slots := 0, locals := 0 } : Room).slots) := by
  refine MetFree.of_bodySF (plainFor_of_name own_pn1) hisR ?_
  intro p e s m args below meth c s₁ Bd hml0 hP hK
  obtain ⟨rfl, hZ, hh⟩ := hP
  have hx := Bd.exec
  have hby := Bd.bytes
  have hml : c.maxLocals = 5 := hml0
  have hown : s.vm.findClass "com/example/soundline/soundline/sql/TypeKind" = some m.cls := findClass_of_methodNamed Bd.named
  have hnm := (name_of_methodNamed Bd.named Bd.method).1
  have X0 : Stand p l e ({ frames := 0, cells := 0, slots := 0, locals := 0 } : Room) s m #[(.int p1)] below meth c s₁ [] 0 0 := Stand.of_body Bd
  have e0 : s₁.heap = h0 := by rw [← hh, Bd.state]; rfl
  have N0 := Fr.nil n0
  show own_Fin p e below s (own_Q1 Z p1 w0 w1 w2 w3 w4 w5 w6 w7 w8 w9 w10 ka cl h0 n0) ({ frames := 0, cells := 0, slots := 0, locals := 0 } : Room).cells ({ frames := 0, cells := 0, slots := 0, locals := 0 } : Room).slots (s₁.setTop (entryFrame m #[(.int p1)] 5))
  refine own_go (s₁.setTop (mkF m 0 #[.val (.int p1), .unset, .unset, .unset, .unset] [])) (fun t k => castTop (own_ef1 m p1) k) ?_
  obtain ⟨T1, X1, e1, st1⟩ := getS2 X0 hx hZ hown (host := "") (Or.inl (hw _ (List.mem_of_getElem? (i := 4) rfl))) Via.refl e0 S_KINDS (g := (mkF m 0 #[.val (.int p1), .unset, .unset, .unset, .unset] [])) rfl (hb hby d1_0)
  refine own_go (T1.setTop (mkF m 3 #[.val (.int p1), .unset, .unset, .unset, .unset] [(.ref ka)])) (fun _ k => st1 _ k) ?_
  refine own_go (T1.setTop (mkF m 4 #[.val (.int p1), .val (.ref ka), .unset, .unset, .unset] [])) (fun _ k => XS.astoreN X1.here hx rfl (hb hby d1_3) rfl rfl (l' := #[.val (.int p1), .val (.ref ka), .unset, .unset, .unset]) rfl k) ?_
  refine own_go (T1.setTop (mkF m 5 #[.val (.int p1), .val (.ref ka), .unset, .unset, .unset] [(.ref ka)])) (fun _ k => XS.aloadN X1.here hx rfl (hb hby d1_4) rfl rfl k) ?_
  refine own_go (T1.setTop (mkF m 6 #[.val (.int p1), .val (.ref ka), .unset, .unset, .unset] [(.int cl.slots.size.toInt32)])) (fun _ k => X1.arraylength hx (by rw [e1]; exact Ar.1) (State.isArrayOf_alike hZ.alike Ar.2.1) (g := (mkF m 5 #[.val (.int p1), .val (.ref ka), .unset, .unset, .unset] [(.ref ka)])) rfl rfl (hb hby d1_5) _ k) ?_
  rw [hlen]
  refine own_go (T1.setTop (mkF m 7 #[.val (.int p1), .val (.ref ka), .val (.int (11 : Int32)), .unset, .unset] [])) (fun _ k => XS.istoreN X1.here hx rfl (hb hby d1_6) rfl (l' := #[.val (.int p1), .val (.ref ka), .val (.int (11 : Int32)), .unset, .unset]) rfl k) ?_
  refine own_go (T1.setTop (mkF m 8 #[.val (.int p1), .val (.ref ka), .val (.int (11 : Int32)), .unset, .unset] [(.int (0 : Int32))])) (fun _ k => XS.iconst X1.here hx rfl (hb hby d1_7) k) ?_
  refine own_go (T1.setTop (mkF m 9 #[.val (.int p1), .val (.ref ka), .val (.int (11 : Int32)), .val (.int (0 : Int32)), .unset] [])) (fun _ k => XS.istoreN X1.here hx rfl (hb hby d1_8) rfl (l' := #[.val (.int p1), .val (.ref ka), .val (.int (11 : Int32)), .val (.int (0 : Int32)), .unset]) rfl k) ?_
  refine own_go (T1.setTop (mkF m 10 #[.val (.int p1), .val (.ref ka), .val (.int (11 : Int32)), .val (.int (0 : Int32)), .unset] [(.int (0 : Int32))])) (fun _ k => XS.iloadN X1.here hx rfl (hb hby d1_9) rfl k) ?_
  refine own_go (T1.setTop (mkF m 11 #[.val (.int p1), .val (.ref ka), .val (.int (11 : Int32)), .val (.int (0 : Int32)), .unset] [(.int (11 : Int32)), (.int (0 : Int32))])) (fun _ k => XS.iloadN X1.here hx rfl (hb hby d1_10) rfl k) ?_
  refine own_go (T1.setTop (mkF m 14 #[.val (.int p1), .val (.ref ka), .val (.int (11 : Int32)), .val (.int (0 : Int32)), .unset] [])) (fun _ k => XS.icmpNo X1.here hx rfl (hb hby d1_11) rfl (tlt (by decide : (0 : Int32) < (11 : Int32))).2.1 k) ?_
  refine own_go (T1.setTop (mkF m 15 #[.val (.int p1), .val (.ref ka), .val (.int (11 : Int32)), .val (.int (0 : Int32)), .unset] [(.ref ka)])) (fun _ k => XS.aloadN X1.here hx rfl (hb hby d1_14) rfl rfl k) ?_
  refine own_go (T1.setTop (mkF m 16 #[.val (.int p1), .val (.ref ka), .val (.int (11 : Int32)), .val (.int (0 : Int32)), .unset] [(.int (0 : Int32)), (.ref ka)])) (fun _ k => XS.iloadN X1.here hx rfl (hb hby d1_15) rfl k) ?_
  refine own_go (T1.setTop (mkF m 17 #[.val (.int p1), .val (.ref ka), .val (.int (11 : Int32)), .val (.int (0 : Int32)), .unset] [(.ref w0)])) (fun _ k => X1.aaload hx (j := (0 : Int32)) (v := (.ref w0)) (by rw [e1]; exact Ar.1) (State.isArrayOf_alike hZ.alike Ar.2.1) rfl Ar.2.2 el0.1 el0.2 (g := (mkF m 16 #[.val (.int p1), .val (.ref ka), .val (.int (11 : Int32)), .val (.int (0 : Int32)), .unset] [(.int (0 : Int32)), (.ref ka)])) rfl rfl (hb hby d1_16) _ k) ?_
  refine own_go (T1.setTop (mkF m 19 #[.val (.int p1), .val (.ref ka), .val (.int (11 : Int32)), .val (.int (0 : Int32)), .val (.ref w0)] [])) (fun _ k => XS.astore X1.here hx rfl (hb hby d1_17) rfl rfl (l' := #[.val (.int p1), .val (.ref ka), .val (.int (11 : Int32)), .val (.int (0 : Int32)), .val (.ref w0)]) rfl k) ?_
  refine own_go (T1.setTop (mkF m 21 #[.val (.int p1), .val (.ref ka), .val (.int (11 : Int32)), .val (.int (0 : Int32)), .val (.ref w0)] [(.ref w0)])) (fun _ k => XS.aload X1.here hx rfl (hb hby d1_19) rfl rfl k) ?_
  obtain ⟨T2, X2, e2, st2⟩ := getF X1 hx hZ hown (host := "") (Or.inl (hw _ (List.mem_of_getElem? (i := 7) rfl))) Via.refl e1 Ft0 (g := (mkF m 21 #[.val (.int p1), .val (.ref ka), .val (.int (11 : Int32)), .val (.int (0 : Int32)), .val (.ref w0)] [(.ref w0)])) rfl rfl (hb hby d1_21)
  refine own_go (T2.setTop (mkF m 24 #[.val (.int p1), .val (.ref ka), .val (.int (11 : Int32)), .val (.int (0 : Int32)), .val (.ref w0)] [(.int (3 : Int32))])) (fun _ k => st2 _ k) ?_
  refine own_go (T2.setTop (mkF m 25 #[.val (.int p1), .val (.ref ka), .val (.int (11 : Int32)), .val (.int (0 : Int32)), .val (.ref w0)] [(.int p1), (.int (3 : Int32))])) (fun _ k => XS.iloadN X2.here hx rfl (hb hby d1_24) rfl k) ?_
  by_cases hc25_0 : (3 : Int32) = p1
  · have hz25_0 : (3 = (p1).toInt) := own_zeq hc25_0 rfl rfl
    refine own_go (T2.setTop (mkF m 45 #[.val (.int p1), .val (.ref ka), .val (.int (11 : Int32)), .val (.int (0 : Int32)), .val (.ref w0)] [])) (fun _ k => XS.icmpYes X2.here hx rfl (pc0 := 25) (pc' := 45) rfl (hb hby d1_25) rfl (teq hc25_0).1 (by decide) (by decide) k) ?_
    refine own_go (T2.setTop (mkF m 47 #[.val (.int p1), .val (.ref ka), .val (.int (11 : Int32)), .val (.int (0 : Int32)), .val (.ref w0)] [(.ref w0)])) (fun _ k => XS.aload X2.here hx rfl (hb hby d1_45) rfl rfl k) ?_
    refine own_ret X2 (BodyLoose.notSynchronized Bd) (some (.ref w0)) (fun h => by rw [Bd.returns] at h; cases h) (fun fs hr => retOut X2 hx Bd.returns rfl (Or.inr (Or.inr (Or.inr (Or.inr ⟨rfl, rfl, rfl⟩)))) (hb hby d1_47) hr) (by decide) (by decide) ?_
    exact ⟨(by first | exact own_R3 w0 w1 w2 w3 w4 w5 w6 w7 w8 w9 w10 _ hz25_0.symm), N0, e2⟩
  · have hz25_0 : ¬ (3 = (p1).toInt) := own_zneq hc25_0 rfl rfl
    refine own_go (T2.setTop (mkF m 28 #[.val (.int p1), .val (.ref ka), .val (.int (11 : Int32)), .val (.int (0 : Int32)), .val (.ref w0)] [])) (fun _ k => XS.icmpNo X2.here hx rfl (hb hby d1_25) rfl (feq hc25_0).1 k) ?_
    refine own_go (T2.setTop (mkF m 30 #[.val (.int p1), .val (.ref ka), .val (.int (11 : Int32)), .val (.int (0 : Int32)), .val (.ref w0)] [(.ref w0)])) (fun _ k => XS.aload X2.here hx rfl (hb hby d1_28) rfl rfl k) ?_
    obtain ⟨T3, X3, e3, st3⟩ := getF X2 hx hZ hown (host := "") (Or.inl (hw _ (List.mem_of_getElem? (i := 9) rfl))) Via.refl e2 Fb0 (g := (mkF m 30 #[.val (.int p1), .val (.ref ka), .val (.int (11 : Int32)), .val (.int (0 : Int32)), .val (.ref w0)] [(.ref w0)])) rfl rfl (hb hby d1_30)
    refine own_go (T3.setTop (mkF m 33 #[.val (.int p1), .val (.ref ka), .val (.int (11 : Int32)), .val (.int (0 : Int32)), .val (.ref w0)] [(.int (0 : Int32))])) (fun _ k => st3 _ k) ?_
    refine own_go (T3.setTop (mkF m 48 #[.val (.int p1), .val (.ref ka), .val (.int (11 : Int32)), .val (.int (0 : Int32)), .val (.ref w0)] [])) (fun _ k => XS.ifYes X3.here hx rfl (pc0 := 33) (pc' := 48) rfl (hb hby d1_33) rfl ((if0 _ _).trans (teq (by decide : (0 : Int32) = (0 : Int32))).1) (by decide) (by decide) k) ?_
    refine own_go (T3.setTop (mkF m 51 #[.val (.int p1), .val (.ref ka), .val (.int (11 : Int32)), .val (.int (1 : Int32)), .val (.ref w0)] [])) (fun _ k => XS.iinc X3.here hx rfl (hb hby d1_48) rfl (l' := #[.val (.int p1), .val (.ref ka), .val (.int (11 : Int32)), .val (.int (1 : Int32)), .val (.ref w0)]) rfl k) ?_
    refine own_go (T3.setTop (mkF m 9 #[.val (.int p1), .val (.ref ka), .val (.int (11 : Int32)), .val (.int (1 : Int32)), .val (.ref w0)] [])) (fun _ k => XS.goto X3.here hx rfl (pc0 := 51) (pc' := 9) rfl (hb hby d1_51) (by decide) (by decide) k) ?_
    refine own_go (T3.setTop (mkF m 10 #[.val (.int p1), .val (.ref ka), .val (.int (11 : Int32)), .val (.int (1 : Int32)), .val (.ref w0)] [(.int (1 : Int32))])) (fun _ k => XS.iloadN X3.here hx rfl (hb hby d1_9) rfl k) ?_
    refine own_go (T3.setTop (mkF m 11 #[.val (.int p1), .val (.ref ka), .val (.int (11 : Int32)), .val (.int (1 : Int32)), .val (.ref w0)] [(.int (11 : Int32)), (.int (1 : Int32))])) (fun _ k => XS.iloadN X3.here hx rfl (hb hby d1_10) rfl k) ?_
    refine own_go (T3.setTop (mkF m 14 #[.val (.int p1), .val (.ref ka), .val (.int (11 : Int32)), .val (.int (1 : Int32)), .val (.ref w0)] [])) (fun _ k => XS.icmpNo X3.here hx rfl (hb hby d1_11) rfl (tlt (by decide : (1 : Int32) < (11 : Int32))).2.1 k) ?_
    refine own_go (T3.setTop (mkF m 15 #[.val (.int p1), .val (.ref ka), .val (.int (11 : Int32)), .val (.int (1 : Int32)), .val (.ref w0)] [(.ref ka)])) (fun _ k => XS.aloadN X3.here hx rfl (hb hby d1_14) rfl rfl k) ?_
    refine own_go (T3.setTop (mkF m 16 #[.val (.int p1), .val (.ref ka), .val (.int (11 : Int32)), .val (.int (1 : Int32)), .val (.ref w0)] [(.int (1 : Int32)), (.ref ka)])) (fun _ k => XS.iloadN X3.here hx rfl (hb hby d1_15) rfl k) ?_
    refine own_go (T3.setTop (mkF m 17 #[.val (.int p1), .val (.ref ka), .val (.int (11 : Int32)), .val (.int (1 : Int32)), .val (.ref w0)] [(.ref w1)])) (fun _ k => X3.aaload hx (j := (1 : Int32)) (v := (.ref w1)) (by rw [e3]; exact Ar.1) (State.isArrayOf_alike hZ.alike Ar.2.1) rfl Ar.2.2 el1.1 el1.2 (g := (mkF m 16 #[.val (.int p1), .val (.ref ka), .val (.int (11 : Int32)), .val (.int (1 : Int32)), .val (.ref w0)] [(.int (1 : Int32)), (.ref ka)])) rfl rfl (hb hby d1_16) _ k) ?_
    refine own_go (T3.setTop (mkF m 19 #[.val (.int p1), .val (.ref ka), .val (.int (11 : Int32)), .val (.int (1 : Int32)), .val (.ref w1)] [])) (fun _ k => XS.astore X3.here hx rfl (hb hby d1_17) rfl rfl (l' := #[.val (.int p1), .val (.ref ka), .val (.int (11 : Int32)), .val (.int (1 : Int32)), .val (.ref w1)]) rfl k) ?_
    refine own_go (T3.setTop (mkF m 21 #[.val (.int p1), .val (.ref ka), .val (.int (11 : Int32)), .val (.int (1 : Int32)), .val (.ref w1)] [(.ref w1)])) (fun _ k => XS.aload X3.here hx rfl (hb hby d1_19) rfl rfl k) ?_
    obtain ⟨T4, X4, e4, st4⟩ := getF X3 hx hZ hown (host := "") (Or.inl (hw _ (List.mem_of_getElem? (i := 7) rfl))) Via.refl e3 Ft1 (g := (mkF m 21 #[.val (.int p1), .val (.ref ka), .val (.int (11 : Int32)), .val (.int (1 : Int32)), .val (.ref w1)] [(.ref w1)])) rfl rfl (hb hby d1_21)
    refine own_go (T4.setTop (mkF m 24 #[.val (.int p1), .val (.ref ka), .val (.int (11 : Int32)), .val (.int (1 : Int32)), .val (.ref w1)] [(.int (1 : Int32))])) (fun _ k => st4 _ k) ?_
    refine own_go (T4.setTop (mkF m 25 #[.val (.int p1), .val (.ref ka), .val (.int (11 : Int32)), .val (.int (1 : Int32)), .val (.ref w1)] [(.int p1), (.int (1 : Int32))])) (fun _ k => XS.iloadN X4.here hx rfl (hb hby d1_24) rfl k) ?_
    by_cases hc25_1 : (1 : Int32) = p1
    · have hz25_1 : (1 = (p1).toInt) := own_zeq hc25_1 rfl rfl
      refine own_go (T4.setTop (mkF m 45 #[.val (.int p1), .val (.ref ka), .val (.int (11 : Int32)), .val (.int (1 : Int32)), .val (.ref w1)] [])) (fun _ k => XS.icmpYes X4.here hx rfl (pc0 := 25) (pc' := 45) rfl (hb hby d1_25) rfl (teq hc25_1).1 (by decide) (by decide) k) ?_
      refine own_go (T4.setTop (mkF m 47 #[.val (.int p1), .val (.ref ka), .val (.int (11 : Int32)), .val (.int (1 : Int32)), .val (.ref w1)] [(.ref w1)])) (fun _ k => XS.aload X4.here hx rfl (hb hby d1_45) rfl rfl k) ?_
      refine own_ret X4 (BodyLoose.notSynchronized Bd) (some (.ref w1)) (fun h => by rw [Bd.returns] at h; cases h) (fun fs hr => retOut X4 hx Bd.returns rfl (Or.inr (Or.inr (Or.inr (Or.inr ⟨rfl, rfl, rfl⟩)))) (hb hby d1_47) hr) (by decide) (by decide) ?_
      exact ⟨(by first | exact own_R1 w0 w1 w2 w3 w4 w5 w6 w7 w8 w9 w10 _ hz25_1.symm), N0, e4⟩
    · have hz25_1 : ¬ (1 = (p1).toInt) := own_zneq hc25_1 rfl rfl
      refine own_go (T4.setTop (mkF m 28 #[.val (.int p1), .val (.ref ka), .val (.int (11 : Int32)), .val (.int (1 : Int32)), .val (.ref w1)] [])) (fun _ k => XS.icmpNo X4.here hx rfl (hb hby d1_25) rfl (feq hc25_1).1 k) ?_
      refine own_go (T4.setTop (mkF m 30 #[.val (.int p1), .val (.ref ka), .val (.int (11 : Int32)), .val (.int (1 : Int32)), .val (.ref w1)] [(.ref w1)])) (fun _ k => XS.aload X4.here hx rfl (hb hby d1_28) rfl rfl k) ?_
      obtain ⟨T5, X5, e5, st5⟩ := getF X4 hx hZ hown (host := "") (Or.inl (hw _ (List.mem_of_getElem? (i := 9) rfl))) Via.refl e4 Fb1 (g := (mkF m 30 #[.val (.int p1), .val (.ref ka), .val (.int (11 : Int32)), .val (.int (1 : Int32)), .val (.ref w1)] [(.ref w1)])) rfl rfl (hb hby d1_30)
      refine own_go (T5.setTop (mkF m 33 #[.val (.int p1), .val (.ref ka), .val (.int (11 : Int32)), .val (.int (1 : Int32)), .val (.ref w1)] [(.int (0 : Int32))])) (fun _ k => st5 _ k) ?_
      refine own_go (T5.setTop (mkF m 48 #[.val (.int p1), .val (.ref ka), .val (.int (11 : Int32)), .val (.int (1 : Int32)), .val (.ref w1)] [])) (fun _ k => XS.ifYes X5.here hx rfl (pc0 := 33) (pc' := 48) rfl (hb hby d1_33) rfl ((if0 _ _).trans (teq (by decide : (0 : Int32) = (0 : Int32))).1) (by decide) (by decide) k) ?_
      refine own_go (T5.setTop (mkF m 51 #[.val (.int p1), .val (.ref ka), .val (.int (11 : Int32)), .val (.int (2 : Int32)), .val (.ref w1)] [])) (fun _ k => XS.iinc X5.here hx rfl (hb hby d1_48) rfl (l' := #[.val (.int p1), .val (.ref ka), .val (.int (11 : Int32)), .val (.int (2 : Int32)), .val (.ref w1)]) rfl k) ?_
      refine own_go (T5.setTop (mkF m 9 #[.val (.int p1), .val (.ref ka), .val (.int (11 : Int32)), .val (.int (2 : Int32)), .val (.ref w1)] [])) (fun _ k => XS.goto X5.here hx rfl (pc0 := 51) (pc' := 9) rfl (hb hby d1_51) (by decide) (by decide) k) ?_
      refine own_go (T5.setTop (mkF m 10 #[.val (.int p1), .val (.ref ka), .val (.int (11 : Int32)), .val (.int (2 : Int32)), .val (.ref w1)] [(.int (2 : Int32))])) (fun _ k => XS.iloadN X5.here hx rfl (hb hby d1_9) rfl k) ?_
      refine own_go (T5.setTop (mkF m 11 #[.val (.int p1), .val (.ref ka), .val (.int (11 : Int32)), .val (.int (2 : Int32)), .val (.ref w1)] [(.int (11 : Int32)), (.int (2 : Int32))])) (fun _ k => XS.iloadN X5.here hx rfl (hb hby d1_10) rfl k) ?_
      refine own_go (T5.setTop (mkF m 14 #[.val (.int p1), .val (.ref ka), .val (.int (11 : Int32)), .val (.int (2 : Int32)), .val (.ref w1)] [])) (fun _ k => XS.icmpNo X5.here hx rfl (hb hby d1_11) rfl (tlt (by decide : (2 : Int32) < (11 : Int32))).2.1 k) ?_
      refine own_go (T5.setTop (mkF m 15 #[.val (.int p1), .val (.ref ka), .val (.int (11 : Int32)), .val (.int (2 : Int32)), .val (.ref w1)] [(.ref ka)])) (fun _ k => XS.aloadN X5.here hx rfl (hb hby d1_14) rfl rfl k) ?_
      refine own_go (T5.setTop (mkF m 16 #[.val (.int p1), .val (.ref ka), .val (.int (11 : Int32)), .val (.int (2 : Int32)), .val (.ref w1)] [(.int (2 : Int32)), (.ref ka)])) (fun _ k => XS.iloadN X5.here hx rfl (hb hby d1_15) rfl k) ?_
      refine own_go (T5.setTop (mkF m 17 #[.val (.int p1), .val (.ref ka), .val (.int (11 : Int32)), .val (.int (2 : Int32)), .val (.ref w1)] [(.ref w2)])) (fun _ k => X5.aaload hx (j := (2 : Int32)) (v := (.ref w2)) (by rw [e5]; exact Ar.1) (State.isArrayOf_alike hZ.alike Ar.2.1) rfl Ar.2.2 el2.1 el2.2 (g := (mkF m 16 #[.val (.int p1), .val (.ref ka), .val (.int (11 : Int32)), .val (.int (2 : Int32)), .val (.ref w1)] [(.int (2 : Int32)), (.ref ka)])) rfl rfl (hb hby d1_16) _ k) ?_
      refine own_go (T5.setTop (mkF m 19 #[.val (.int p1), .val (.ref ka), .val (.int (11 : Int32)), .val (.int (2 : Int32)), .val (.ref w2)] [])) (fun _ k => XS.astore X5.here hx rfl (hb hby d1_17) rfl rfl (l' := #[.val (.int p1), .val (.ref ka), .val (.int (11 : Int32)), .val (.int (2 : Int32)), .val (.ref w2)]) rfl k) ?_
      refine own_go (T5.setTop (mkF m 21 #[.val (.int p1), .val (.ref ka), .val (.int (11 : Int32)), .val (.int (2 : Int32)), .val (.ref w2)] [(.ref w2)])) (fun _ k => XS.aload X5.here hx rfl (hb hby d1_19) rfl rfl k) ?_
      obtain ⟨T6, X6, e6, st6⟩ := getF X5 hx hZ hown (host := "") (Or.inl (hw _ (List.mem_of_getElem? (i := 7) rfl))) Via.refl e5 Ft2 (g := (mkF m 21 #[.val (.int p1), .val (.ref ka), .val (.int (11 : Int32)), .val (.int (2 : Int32)), .val (.ref w2)] [(.ref w2)])) rfl rfl (hb hby d1_21)
      refine own_go (T6.setTop (mkF m 24 #[.val (.int p1), .val (.ref ka), .val (.int (11 : Int32)), .val (.int (2 : Int32)), .val (.ref w2)] [(.int (4 : Int32))])) (fun _ k => st6 _ k) ?_
      refine own_go (T6.setTop (mkF m 25 #[.val (.int p1), .val (.ref ka), .val (.int (11 : Int32)), .val (.int (2 : Int32)), .val (.ref w2)] [(.int p1), (.int (4 : Int32))])) (fun _ k => XS.iloadN X6.here hx rfl (hb hby d1_24) rfl k) ?_
      by_cases hc25_2 : (4 : Int32) = p1
      · have hz25_2 : (4 = (p1).toInt) := own_zeq hc25_2 rfl rfl
        refine own_go (T6.setTop (mkF m 45 #[.val (.int p1), .val (.ref ka), .val (.int (11 : Int32)), .val (.int (2 : Int32)), .val (.ref w2)] [])) (fun _ k => XS.icmpYes X6.here hx rfl (pc0 := 25) (pc' := 45) rfl (hb hby d1_25) rfl (teq hc25_2).1 (by decide) (by decide) k) ?_
        refine own_go (T6.setTop (mkF m 47 #[.val (.int p1), .val (.ref ka), .val (.int (11 : Int32)), .val (.int (2 : Int32)), .val (.ref w2)] [(.ref w2)])) (fun _ k => XS.aload X6.here hx rfl (hb hby d1_45) rfl rfl k) ?_
        refine own_ret X6 (BodyLoose.notSynchronized Bd) (some (.ref w2)) (fun h => by rw [Bd.returns] at h; cases h) (fun fs hr => retOut X6 hx Bd.returns rfl (Or.inr (Or.inr (Or.inr (Or.inr ⟨rfl, rfl, rfl⟩)))) (hb hby d1_47) hr) (by decide) (by decide) ?_
        exact ⟨(by first | exact own_R4 w0 w1 w2 w3 w4 w5 w6 w7 w8 w9 w10 _ hz25_2.symm), N0, e6⟩
      · have hz25_2 : ¬ (4 = (p1).toInt) := own_zneq hc25_2 rfl rfl
        refine own_go (T6.setTop (mkF m 28 #[.val (.int p1), .val (.ref ka), .val (.int (11 : Int32)), .val (.int (2 : Int32)), .val (.ref w2)] [])) (fun _ k => XS.icmpNo X6.here hx rfl (hb hby d1_25) rfl (feq hc25_2).1 k) ?_
        refine own_go (T6.setTop (mkF m 30 #[.val (.int p1), .val (.ref ka), .val (.int (11 : Int32)), .val (.int (2 : Int32)), .val (.ref w2)] [(.ref w2)])) (fun _ k => XS.aload X6.here hx rfl (hb hby d1_28) rfl rfl k) ?_
        obtain ⟨T7, X7, e7, st7⟩ := getF X6 hx hZ hown (host := "") (Or.inl (hw _ (List.mem_of_getElem? (i := 9) rfl))) Via.refl e6 Fb2 (g := (mkF m 30 #[.val (.int p1), .val (.ref ka), .val (.int (11 : Int32)), .val (.int (2 : Int32)), .val (.ref w2)] [(.ref w2)])) rfl rfl (hb hby d1_30)
        refine own_go (T7.setTop (mkF m 33 #[.val (.int p1), .val (.ref ka), .val (.int (11 : Int32)), .val (.int (2 : Int32)), .val (.ref w2)] [(.int (0 : Int32))])) (fun _ k => st7 _ k) ?_
        refine own_go (T7.setTop (mkF m 48 #[.val (.int p1), .val (.ref ka), .val (.int (11 : Int32)), .val (.int (2 : Int32)), .val (.ref w2)] [])) (fun _ k => XS.ifYes X7.here hx rfl (pc0 := 33) (pc' := 48) rfl (hb hby d1_33) rfl ((if0 _ _).trans (teq (by decide : (0 : Int32) = (0 : Int32))).1) (by decide) (by decide) k) ?_
        refine own_go (T7.setTop (mkF m 51 #[.val (.int p1), .val (.ref ka), .val (.int (11 : Int32)), .val (.int (3 : Int32)), .val (.ref w2)] [])) (fun _ k => XS.iinc X7.here hx rfl (hb hby d1_48) rfl (l' := #[.val (.int p1), .val (.ref ka), .val (.int (11 : Int32)), .val (.int (3 : Int32)), .val (.ref w2)]) rfl k) ?_
        refine own_go (T7.setTop (mkF m 9 #[.val (.int p1), .val (.ref ka), .val (.int (11 : Int32)), .val (.int (3 : Int32)), .val (.ref w2)] [])) (fun _ k => XS.goto X7.here hx rfl (pc0 := 51) (pc' := 9) rfl (hb hby d1_51) (by decide) (by decide) k) ?_
        refine own_go (T7.setTop (mkF m 10 #[.val (.int p1), .val (.ref ka), .val (.int (11 : Int32)), .val (.int (3 : Int32)), .val (.ref w2)] [(.int (3 : Int32))])) (fun _ k => XS.iloadN X7.here hx rfl (hb hby d1_9) rfl k) ?_
        refine own_go (T7.setTop (mkF m 11 #[.val (.int p1), .val (.ref ka), .val (.int (11 : Int32)), .val (.int (3 : Int32)), .val (.ref w2)] [(.int (11 : Int32)), (.int (3 : Int32))])) (fun _ k => XS.iloadN X7.here hx rfl (hb hby d1_10) rfl k) ?_
        refine own_go (T7.setTop (mkF m 14 #[.val (.int p1), .val (.ref ka), .val (.int (11 : Int32)), .val (.int (3 : Int32)), .val (.ref w2)] [])) (fun _ k => XS.icmpNo X7.here hx rfl (hb hby d1_11) rfl (tlt (by decide : (3 : Int32) < (11 : Int32))).2.1 k) ?_
        refine own_go (T7.setTop (mkF m 15 #[.val (.int p1), .val (.ref ka), .val (.int (11 : Int32)), .val (.int (3 : Int32)), .val (.ref w2)] [(.ref ka)])) (fun _ k => XS.aloadN X7.here hx rfl (hb hby d1_14) rfl rfl k) ?_
        refine own_go (T7.setTop (mkF m 16 #[.val (.int p1), .val (.ref ka), .val (.int (11 : Int32)), .val (.int (3 : Int32)), .val (.ref w2)] [(.int (3 : Int32)), (.ref ka)])) (fun _ k => XS.iloadN X7.here hx rfl (hb hby d1_15) rfl k) ?_
        refine own_go (T7.setTop (mkF m 17 #[.val (.int p1), .val (.ref ka), .val (.int (11 : Int32)), .val (.int (3 : Int32)), .val (.ref w2)] [(.ref w3)])) (fun _ k => X7.aaload hx (j := (3 : Int32)) (v := (.ref w3)) (by rw [e7]; exact Ar.1) (State.isArrayOf_alike hZ.alike Ar.2.1) rfl Ar.2.2 el3.1 el3.2 (g := (mkF m 16 #[.val (.int p1), .val (.ref ka), .val (.int (11 : Int32)), .val (.int (3 : Int32)), .val (.ref w2)] [(.int (3 : Int32)), (.ref ka)])) rfl rfl (hb hby d1_16) _ k) ?_
        refine own_go (T7.setTop (mkF m 19 #[.val (.int p1), .val (.ref ka), .val (.int (11 : Int32)), .val (.int (3 : Int32)), .val (.ref w3)] [])) (fun _ k => XS.astore X7.here hx rfl (hb hby d1_17) rfl rfl (l' := #[.val (.int p1), .val (.ref ka), .val (.int (11 : Int32)), .val (.int (3 : Int32)), .val (.ref w3)]) rfl k) ?_
        refine own_go (T7.setTop (mkF m 21 #[.val (.int p1), .val (.ref ka), .val (.int (11 : Int32)), .val (.int (3 : Int32)), .val (.ref w3)] [(.ref w3)])) (fun _ k => XS.aload X7.here hx rfl (hb hby d1_19) rfl rfl k) ?_
        obtain ⟨T8, X8, e8, st8⟩ := getF X7 hx hZ hown (host := "") (Or.inl (hw _ (List.mem_of_getElem? (i := 7) rfl))) Via.refl e7 Ft3 (g := (mkF m 21 #[.val (.int p1), .val (.ref ka), .val (.int (11 : Int32)), .val (.int (3 : Int32)), .val (.ref w3)] [(.ref w3)])) rfl rfl (hb hby d1_21)
        refine own_go (T8.setTop (mkF m 24 #[.val (.int p1), .val (.ref ka), .val (.int (11 : Int32)), .val (.int (3 : Int32)), .val (.ref w3)] [(.int (5 : Int32))])) (fun _ k => st8 _ k) ?_
        refine own_go (T8.setTop (mkF m 25 #[.val (.int p1), .val (.ref ka), .val (.int (11 : Int32)), .val (.int (3 : Int32)), .val (.ref w3)] [(.int p1), (.int (5 : Int32))])) (fun _ k => XS.iloadN X8.here hx rfl (hb hby d1_24) rfl k) ?_
        by_cases hc25_3 : (5 : Int32) = p1
        · have hz25_3 : (5 = (p1).toInt) := own_zeq hc25_3 rfl rfl
          refine own_go (T8.setTop (mkF m 45 #[.val (.int p1), .val (.ref ka), .val (.int (11 : Int32)), .val (.int (3 : Int32)), .val (.ref w3)] [])) (fun _ k => XS.icmpYes X8.here hx rfl (pc0 := 25) (pc' := 45) rfl (hb hby d1_25) rfl (teq hc25_3).1 (by decide) (by decide) k) ?_
          refine own_go (T8.setTop (mkF m 47 #[.val (.int p1), .val (.ref ka), .val (.int (11 : Int32)), .val (.int (3 : Int32)), .val (.ref w3)] [(.ref w3)])) (fun _ k => XS.aload X8.here hx rfl (hb hby d1_45) rfl rfl k) ?_
          refine own_ret X8 (BodyLoose.notSynchronized Bd) (some (.ref w3)) (fun h => by rw [Bd.returns] at h; cases h) (fun fs hr => retOut X8 hx Bd.returns rfl (Or.inr (Or.inr (Or.inr (Or.inr ⟨rfl, rfl, rfl⟩)))) (hb hby d1_47) hr) (by decide) (by decide) ?_
          exact ⟨(by first | exact own_R5 w0 w1 w2 w3 w4 w5 w6 w7 w8 w9 w10 _ hz25_3.symm), N0, e8⟩
        · have hz25_3 : ¬ (5 = (p1).toInt) := own_zneq hc25_3 rfl rfl
          refine own_go (T8.setTop (mkF m 28 #[.val (.int p1), .val (.ref ka), .val (.int (11 : Int32)), .val (.int (3 : Int32)), .val (.ref w3)] [])) (fun _ k => XS.icmpNo X8.here hx rfl (hb hby d1_25) rfl (feq hc25_3).1 k) ?_
          refine own_go (T8.setTop (mkF m 30 #[.val (.int p1), .val (.ref ka), .val (.int (11 : Int32)), .val (.int (3 : Int32)), .val (.ref w3)] [(.ref w3)])) (fun _ k => XS.aload X8.here hx rfl (hb hby d1_28) rfl rfl k) ?_
          obtain ⟨T9, X9, e9, st9⟩ := getF X8 hx hZ hown (host := "") (Or.inl (hw _ (List.mem_of_getElem? (i := 9) rfl))) Via.refl e8 Fb3 (g := (mkF m 30 #[.val (.int p1), .val (.ref ka), .val (.int (11 : Int32)), .val (.int (3 : Int32)), .val (.ref w3)] [(.ref w3)])) rfl rfl (hb hby d1_30)
          refine own_go (T9.setTop (mkF m 33 #[.val (.int p1), .val (.ref ka), .val (.int (11 : Int32)), .val (.int (3 : Int32)), .val (.ref w3)] [(.int (0 : Int32))])) (fun _ k => st9 _ k) ?_
          refine own_go (T9.setTop (mkF m 48 #[.val (.int p1), .val (.ref ka), .val (.int (11 : Int32)), .val (.int (3 : Int32)), .val (.ref w3)] [])) (fun _ k => XS.ifYes X9.here hx rfl (pc0 := 33) (pc' := 48) rfl (hb hby d1_33) rfl ((if0 _ _).trans (teq (by decide : (0 : Int32) = (0 : Int32))).1) (by decide) (by decide) k) ?_
          refine own_go (T9.setTop (mkF m 51 #[.val (.int p1), .val (.ref ka), .val (.int (11 : Int32)), .val (.int (4 : Int32)), .val (.ref w3)] [])) (fun _ k => XS.iinc X9.here hx rfl (hb hby d1_48) rfl (l' := #[.val (.int p1), .val (.ref ka), .val (.int (11 : Int32)), .val (.int (4 : Int32)), .val (.ref w3)]) rfl k) ?_
          refine own_go (T9.setTop (mkF m 9 #[.val (.int p1), .val (.ref ka), .val (.int (11 : Int32)), .val (.int (4 : Int32)), .val (.ref w3)] [])) (fun _ k => XS.goto X9.here hx rfl (pc0 := 51) (pc' := 9) rfl (hb hby d1_51) (by decide) (by decide) k) ?_
          refine own_go (T9.setTop (mkF m 10 #[.val (.int p1), .val (.ref ka), .val (.int (11 : Int32)), .val (.int (4 : Int32)), .val (.ref w3)] [(.int (4 : Int32))])) (fun _ k => XS.iloadN X9.here hx rfl (hb hby d1_9) rfl k) ?_
          refine own_go (T9.setTop (mkF m 11 #[.val (.int p1), .val (.ref ka), .val (.int (11 : Int32)), .val (.int (4 : Int32)), .val (.ref w3)] [(.int (11 : Int32)), (.int (4 : Int32))])) (fun _ k => XS.iloadN X9.here hx rfl (hb hby d1_10) rfl k) ?_
          refine own_go (T9.setTop (mkF m 14 #[.val (.int p1), .val (.ref ka), .val (.int (11 : Int32)), .val (.int (4 : Int32)), .val (.ref w3)] [])) (fun _ k => XS.icmpNo X9.here hx rfl (hb hby d1_11) rfl (tlt (by decide : (4 : Int32) < (11 : Int32))).2.1 k) ?_
          refine own_go (T9.setTop (mkF m 15 #[.val (.int p1), .val (.ref ka), .val (.int (11 : Int32)), .val (.int (4 : Int32)), .val (.ref w3)] [(.ref ka)])) (fun _ k => XS.aloadN X9.here hx rfl (hb hby d1_14) rfl rfl k) ?_
          refine own_go (T9.setTop (mkF m 16 #[.val (.int p1), .val (.ref ka), .val (.int (11 : Int32)), .val (.int (4 : Int32)), .val (.ref w3)] [(.int (4 : Int32)), (.ref ka)])) (fun _ k => XS.iloadN X9.here hx rfl (hb hby d1_15) rfl k) ?_
          refine own_go (T9.setTop (mkF m 17 #[.val (.int p1), .val (.ref ka), .val (.int (11 : Int32)), .val (.int (4 : Int32)), .val (.ref w3)] [(.ref w4)])) (fun _ k => X9.aaload hx (j := (4 : Int32)) (v := (.ref w4)) (by rw [e9]; exact Ar.1) (State.isArrayOf_alike hZ.alike Ar.2.1) rfl Ar.2.2 el4.1 el4.2 (g := (mkF m 16 #[.val (.int p1), .val (.ref ka), .val (.int (11 : Int32)), .val (.int (4 : Int32)), .val (.ref w3)] [(.int (4 : Int32)), (.ref ka)])) rfl rfl (hb hby d1_16) _ k) ?_
          refine own_go (T9.setTop (mkF m 19 #[.val (.int p1), .val (.ref ka), .val (.int (11 : Int32)), .val (.int (4 : Int32)), .val (.ref w4)] [])) (fun _ k => XS.astore X9.here hx rfl (hb hby d1_17) rfl rfl (l' := #[.val (.int p1), .val (.ref ka), .val (.int (11 : Int32)), .val (.int (4 : Int32)), .val (.ref w4)]) rfl k) ?_
          refine own_go (T9.setTop (mkF m 21 #[.val (.int p1), .val (.ref ka), .val (.int (11 : Int32)), .val (.int (4 : Int32)), .val (.ref w4)] [(.ref w4)])) (fun _ k => XS.aload X9.here hx rfl (hb hby d1_19) rfl rfl k) ?_
          obtain ⟨T10, X10, e10, st10⟩ := getF X9 hx hZ hown (host := "") (Or.inl (hw _ (List.mem_of_getElem? (i := 7) rfl))) Via.refl e9 Ft4 (g := (mkF m 21 #[.val (.int p1), .val (.ref ka), .val (.int (11 : Int32)), .val (.int (4 : Int32)), .val (.ref w4)] [(.ref w4)])) rfl rfl (hb hby d1_21)
          refine own_go (T10.setTop (mkF m 24 #[.val (.int p1), .val (.ref ka), .val (.int (11 : Int32)), .val (.int (4 : Int32)), .val (.ref w4)] [(.int (6 : Int32))])) (fun _ k => st10 _ k) ?_
          refine own_go (T10.setTop (mkF m 25 #[.val (.int p1), .val (.ref ka), .val (.int (11 : Int32)), .val (.int (4 : Int32)), .val (.ref w4)] [(.int p1), (.int (6 : Int32))])) (fun _ k => XS.iloadN X10.here hx rfl (hb hby d1_24) rfl k) ?_
          by_cases hc25_4 : (6 : Int32) = p1
          · have hz25_4 : (6 = (p1).toInt) := own_zeq hc25_4 rfl rfl
            refine own_go (T10.setTop (mkF m 45 #[.val (.int p1), .val (.ref ka), .val (.int (11 : Int32)), .val (.int (4 : Int32)), .val (.ref w4)] [])) (fun _ k => XS.icmpYes X10.here hx rfl (pc0 := 25) (pc' := 45) rfl (hb hby d1_25) rfl (teq hc25_4).1 (by decide) (by decide) k) ?_
            refine own_go (T10.setTop (mkF m 47 #[.val (.int p1), .val (.ref ka), .val (.int (11 : Int32)), .val (.int (4 : Int32)), .val (.ref w4)] [(.ref w4)])) (fun _ k => XS.aload X10.here hx rfl (hb hby d1_45) rfl rfl k) ?_
            refine own_ret X10 (BodyLoose.notSynchronized Bd) (some (.ref w4)) (fun h => by rw [Bd.returns] at h; cases h) (fun fs hr => retOut X10 hx Bd.returns rfl (Or.inr (Or.inr (Or.inr (Or.inr ⟨rfl, rfl, rfl⟩)))) (hb hby d1_47) hr) (by decide) (by decide) ?_
            exact ⟨(by first | exact own_R6 w0 w1 w2 w3 w4 w5 w6 w7 w8 w9 w10 _ hz25_4.symm), N0, e10⟩
          · have hz25_4 : ¬ (6 = (p1).toInt) := own_zneq hc25_4 rfl rfl
            refine own_go (T10.setTop (mkF m 28 #[.val (.int p1), .val (.ref ka), .val (.int (11 : Int32)), .val (.int (4 : Int32)), .val (.ref w4)] [])) (fun _ k => XS.icmpNo X10.here hx rfl (hb hby d1_25) rfl (feq hc25_4).1 k) ?_
            refine own_go (T10.setTop (mkF m 30 #[.val (.int p1), .val (.ref ka), .val (.int (11 : Int32)), .val (.int (4 : Int32)), .val (.ref w4)] [(.ref w4)])) (fun _ k => XS.aload X10.here hx rfl (hb hby d1_28) rfl rfl k) ?_
            obtain ⟨T11, X11, e11, st11⟩ := getF X10 hx hZ hown (host := "") (Or.inl (hw _ (List.mem_of_getElem? (i := 9) rfl))) Via.refl e10 Fb4 (g := (mkF m 30 #[.val (.int p1), .val (.ref ka), .val (.int (11 : Int32)), .val (.int (4 : Int32)), .val (.ref w4)] [(.ref w4)])) rfl rfl (hb hby d1_30)
            refine own_go (T11.setTop (mkF m 33 #[.val (.int p1), .val (.ref ka), .val (.int (11 : Int32)), .val (.int (4 : Int32)), .val (.ref w4)] [(.int (0 : Int32))])) (fun _ k => st11 _ k) ?_
            refine own_go (T11.setTop (mkF m 48 #[.val (.int p1), .val (.ref ka), .val (.int (11 : Int32)), .val (.int (4 : Int32)), .val (.ref w4)] [])) (fun _ k => XS.ifYes X11.here hx rfl (pc0 := 33) (pc' := 48) rfl (hb hby d1_33) rfl ((if0 _ _).trans (teq (by decide : (0 : Int32) = (0 : Int32))).1) (by decide) (by decide) k) ?_
            refine own_go (T11.setTop (mkF m 51 #[.val (.int p1), .val (.ref ka), .val (.int (11 : Int32)), .val (.int (5 : Int32)), .val (.ref w4)] [])) (fun _ k => XS.iinc X11.here hx rfl (hb hby d1_48) rfl (l' := #[.val (.int p1), .val (.ref ka), .val (.int (11 : Int32)), .val (.int (5 : Int32)), .val (.ref w4)]) rfl k) ?_
            refine own_go (T11.setTop (mkF m 9 #[.val (.int p1), .val (.ref ka), .val (.int (11 : Int32)), .val (.int (5 : Int32)), .val (.ref w4)] [])) (fun _ k => XS.goto X11.here hx rfl (pc0 := 51) (pc' := 9) rfl (hb hby d1_51) (by decide) (by decide) k) ?_
            refine own_go (T11.setTop (mkF m 10 #[.val (.int p1), .val (.ref ka), .val (.int (11 : Int32)), .val (.int (5 : Int32)), .val (.ref w4)] [(.int (5 : Int32))])) (fun _ k => XS.iloadN X11.here hx rfl (hb hby d1_9) rfl k) ?_
            refine own_go (T11.setTop (mkF m 11 #[.val (.int p1), .val (.ref ka), .val (.int (11 : Int32)), .val (.int (5 : Int32)), .val (.ref w4)] [(.int (11 : Int32)), (.int (5 : Int32))])) (fun _ k => XS.iloadN X11.here hx rfl (hb hby d1_10) rfl k) ?_
            refine own_go (T11.setTop (mkF m 14 #[.val (.int p1), .val (.ref ka), .val (.int (11 : Int32)), .val (.int (5 : Int32)), .val (.ref w4)] [])) (fun _ k => XS.icmpNo X11.here hx rfl (hb hby d1_11) rfl (tlt (by decide : (5 : Int32) < (11 : Int32))).2.1 k) ?_
            refine own_go (T11.setTop (mkF m 15 #[.val (.int p1), .val (.ref ka), .val (.int (11 : Int32)), .val (.int (5 : Int32)), .val (.ref w4)] [(.ref ka)])) (fun _ k => XS.aloadN X11.here hx rfl (hb hby d1_14) rfl rfl k) ?_
            refine own_go (T11.setTop (mkF m 16 #[.val (.int p1), .val (.ref ka), .val (.int (11 : Int32)), .val (.int (5 : Int32)), .val (.ref w4)] [(.int (5 : Int32)), (.ref ka)])) (fun _ k => XS.iloadN X11.here hx rfl (hb hby d1_15) rfl k) ?_
            refine own_go (T11.setTop (mkF m 17 #[.val (.int p1), .val (.ref ka), .val (.int (11 : Int32)), .val (.int (5 : Int32)), .val (.ref w4)] [(.ref w5)])) (fun _ k => X11.aaload hx (j := (5 : Int32)) (v := (.ref w5)) (by rw [e11]; exact Ar.1) (State.isArrayOf_alike hZ.alike Ar.2.1) rfl Ar.2.2 el5.1 el5.2 (g := (mkF m 16 #[.val (.int p1), .val (.ref ka), .val (.int (11 : Int32)), .val (.int (5 : Int32)), .val (.ref w4)] [(.int (5 : Int32)), (.ref ka)])) rfl rfl (hb hby d1_16) _ k) ?_
            refine own_go (T11.setTop (mkF m 19 #[.val (.int p1), .val (.ref ka), .val (.int (11 : Int32)), .val (.int (5 : Int32)), .val (.ref w5)] [])) (fun _ k => XS.astore X11.here hx rfl (hb hby d1_17) rfl rfl (l' := #[.val (.int p1), .val (.ref ka), .val (.int (11 : Int32)), .val (.int (5 : Int32)), .val (.ref w5)]) rfl k) ?_
            refine own_go (T11.setTop (mkF m 21 #[.val (.int p1), .val (.ref ka), .val (.int (11 : Int32)), .val (.int (5 : Int32)), .val (.ref w5)] [(.ref w5)])) (fun _ k => XS.aload X11.here hx rfl (hb hby d1_19) rfl rfl k) ?_
            obtain ⟨T12, X12, e12, st12⟩ := getF X11 hx hZ hown (host := "") (Or.inl (hw _ (List.mem_of_getElem? (i := 7) rfl))) Via.refl e11 Ft5 (g := (mkF m 21 #[.val (.int p1), .val (.ref ka), .val (.int (11 : Int32)), .val (.int (5 : Int32)), .val (.ref w5)] [(.ref w5)])) rfl rfl (hb hby d1_21)
            refine own_go (T12.setTop (mkF m 24 #[.val (.int p1), .val (.ref ka), .val (.int (11 : Int32)), .val (.int (5 : Int32)), .val (.ref w5)] [(.int (2 : Int32))])) (fun _ k => st12 _ k) ?_
            refine own_go (T12.setTop (mkF m 25 #[.val (.int p1), .val (.ref ka), .val (.int (11 : Int32)), .val (.int (5 : Int32)), .val (.ref w5)] [(.int p1), (.int (2 : Int32))])) (fun _ k => XS.iloadN X12.here hx rfl (hb hby d1_24) rfl k) ?_
            by_cases hc25_5 : (2 : Int32) = p1
            · have hz25_5 : (2 = (p1).toInt) := own_zeq hc25_5 rfl rfl
              refine own_go (T12.setTop (mkF m 45 #[.val (.int p1), .val (.ref ka), .val (.int (11 : Int32)), .val (.int (5 : Int32)), .val (.ref w5)] [])) (fun _ k => XS.icmpYes X12.here hx rfl (pc0 := 25) (pc' := 45) rfl (hb hby d1_25) rfl (teq hc25_5).1 (by decide) (by decide) k) ?_
              refine own_go (T12.setTop (mkF m 47 #[.val (.int p1), .val (.ref ka), .val (.int (11 : Int32)), .val (.int (5 : Int32)), .val (.ref w5)] [(.ref w5)])) (fun _ k => XS.aload X12.here hx rfl (hb hby d1_45) rfl rfl k) ?_
              refine own_ret X12 (BodyLoose.notSynchronized Bd) (some (.ref w5)) (fun h => by rw [Bd.returns] at h; cases h) (fun fs hr => retOut X12 hx Bd.returns rfl (Or.inr (Or.inr (Or.inr (Or.inr ⟨rfl, rfl, rfl⟩)))) (hb hby d1_47) hr) (by decide) (by decide) ?_
              exact ⟨(by first | exact own_R2 w0 w1 w2 w3 w4 w5 w6 w7 w8 w9 w10 _ hz25_5.symm), N0, e12⟩
            · have hz25_5 : ¬ (2 = (p1).toInt) := own_zneq hc25_5 rfl rfl
              refine own_go (T12.setTop (mkF m 28 #[.val (.int p1), .val (.ref ka), .val (.int (11 : Int32)), .val (.int (5 : Int32)), .val (.ref w5)] [])) (fun _ k => XS.icmpNo X12.here hx rfl (hb hby d1_25) rfl (feq hc25_5).1 k) ?_
              refine own_go (T12.setTop (mkF m 30 #[.val (.int p1), .val (.ref ka), .val (.int (11 : Int32)), .val (.int (5 : Int32)), .val (.ref w5)] [(.ref w5)])) (fun _ k => XS.aload X12.here hx rfl (hb hby d1_28) rfl rfl k) ?_
              obtain ⟨T13, X13, e13, st13⟩ := getF X12 hx hZ hown (host := "") (Or.inl (hw _ (List.mem_of_getElem? (i := 9) rfl))) Via.refl e12 Fb5 (g := (mkF m 30 #[.val (.int p1), .val (.ref ka), .val (.int (11 : Int32)), .val (.int (5 : Int32)), .val (.ref w5)] [(.ref w5)])) rfl rfl (hb hby d1_30)
              refine own_go (T13.setTop (mkF m 33 #[.val (.int p1), .val (.ref ka), .val (.int (11 : Int32)), .val (.int (5 : Int32)), .val (.ref w5)] [(.int (0 : Int32))])) (fun _ k => st13 _ k) ?_
              refine own_go (T13.setTop (mkF m 48 #[.val (.int p1), .val (.ref ka), .val (.int (11 : Int32)), .val (.int (5 : Int32)), .val (.ref w5)] [])) (fun _ k => XS.ifYes X13.here hx rfl (pc0 := 33) (pc' := 48) rfl (hb hby d1_33) rfl ((if0 _ _).trans (teq (by decide : (0 : Int32) = (0 : Int32))).1) (by decide) (by decide) k) ?_
              refine own_go (T13.setTop (mkF m 51 #[.val (.int p1), .val (.ref ka), .val (.int (11 : Int32)), .val (.int (6 : Int32)), .val (.ref w5)] [])) (fun _ k => XS.iinc X13.here hx rfl (hb hby d1_48) rfl (l' := #[.val (.int p1), .val (.ref ka), .val (.int (11 : Int32)), .val (.int (6 : Int32)), .val (.ref w5)]) rfl k) ?_
              refine own_go (T13.setTop (mkF m 9 #[.val (.int p1), .val (.ref ka), .val (.int (11 : Int32)), .val (.int (6 : Int32)), .val (.ref w5)] [])) (fun _ k => XS.goto X13.here hx rfl (pc0 := 51) (pc' := 9) rfl (hb hby d1_51) (by decide) (by decide) k) ?_
              refine own_go (T13.setTop (mkF m 10 #[.val (.int p1), .val (.ref ka), .val (.int (11 : Int32)), .val (.int (6 : Int32)), .val (.ref w5)] [(.int (6 : Int32))])) (fun _ k => XS.iloadN X13.here hx rfl (hb hby d1_9) rfl k) ?_
              refine own_go (T13.setTop (mkF m 11 #[.val (.int p1), .val (.ref ka), .val (.int (11 : Int32)), .val (.int (6 : Int32)), .val (.ref w5)] [(.int (11 : Int32)), (.int (6 : Int32))])) (fun _ k => XS.iloadN X13.here hx rfl (hb hby d1_10) rfl k) ?_
              refine own_go (T13.setTop (mkF m 14 #[.val (.int p1), .val (.ref ka), .val (.int (11 : Int32)), .val (.int (6 : Int32)), .val (.ref w5)] [])) (fun _ k => XS.icmpNo X13.here hx rfl (hb hby d1_11) rfl (tlt (by decide : (6 : Int32) < (11 : Int32))).2.1 k) ?_
              refine own_go (T13.setTop (mkF m 15 #[.val (.int p1), .val (.ref ka), .val (.int (11 : Int32)), .val (.int (6 : Int32)), .val (.ref w5)] [(.ref ka)])) (fun _ k => XS.aloadN X13.here hx rfl (hb hby d1_14) rfl rfl k) ?_
              refine own_go (T13.setTop (mkF m 16 #[.val (.int p1), .val (.ref ka), .val (.int (11 : Int32)), .val (.int (6 : Int32)), .val (.ref w5)] [(.int (6 : Int32)), (.ref ka)])) (fun _ k => XS.iloadN X13.here hx rfl (hb hby d1_15) rfl k) ?_
              refine own_go (T13.setTop (mkF m 17 #[.val (.int p1), .val (.ref ka), .val (.int (11 : Int32)), .val (.int (6 : Int32)), .val (.ref w5)] [(.ref w6)])) (fun _ k => X13.aaload hx (j := (6 : Int32)) (v := (.ref w6)) (by rw [e13]; exact Ar.1) (State.isArrayOf_alike hZ.alike Ar.2.1) rfl Ar.2.2 el6.1 el6.2 (g := (mkF m 16 #[.val (.int p1), .val (.ref ka), .val (.int (11 : Int32)), .val (.int (6 : Int32)), .val (.ref w5)] [(.int (6 : Int32)), (.ref ka)])) rfl rfl (hb hby d1_16) _ k) ?_
              refine own_go (T13.setTop (mkF m 19 #[.val (.int p1), .val (.ref ka), .val (.int (11 : Int32)), .val (.int (6 : Int32)), .val (.ref w6)] [])) (fun _ k => XS.astore X13.here hx rfl (hb hby d1_17) rfl rfl (l' := #[.val (.int p1), .val (.ref ka), .val (.int (11 : Int32)), .val (.int (6 : Int32)), .val (.ref w6)]) rfl k) ?_
              refine own_go (T13.setTop (mkF m 21 #[.val (.int p1), .val (.ref ka), .val (.int (11 : Int32)), .val (.int (6 : Int32)), .val (.ref w6)] [(.ref w6)])) (fun _ k => XS.aload X13.here hx rfl (hb hby d1_19) rfl rfl k) ?_
              obtain ⟨T14, X14, e14, st14⟩ := getF X13 hx hZ hown (host := "") (Or.inl (hw _ (List.mem_of_getElem? (i := 7) rfl))) Via.refl e13 Ft6 (g := (mkF m 21 #[.val (.int p1), .val (.ref ka), .val (.int (11 : Int32)), .val (.int (6 : Int32)), .val (.ref w6)] [(.ref w6)])) rfl rfl (hb hby d1_21)
              refine own_go (T14.setTop (mkF m 24 #[.val (.int p1), .val (.ref ka), .val (.int (11 : Int32)), .val (.int (6 : Int32)), .val (.ref w6)] [(.int (9 : Int32))])) (fun _ k => st14 _ k) ?_
              refine own_go (T14.setTop (mkF m 25 #[.val (.int p1), .val (.ref ka), .val (.int (11 : Int32)), .val (.int (6 : Int32)), .val (.ref w6)] [(.int p1), (.int (9 : Int32))])) (fun _ k => XS.iloadN X14.here hx rfl (hb hby d1_24) rfl k) ?_
              by_cases hc25_6 : (9 : Int32) = p1
              · have hz25_6 : (9 = (p1).toInt) := own_zeq hc25_6 rfl rfl
                refine own_go (T14.setTop (mkF m 45 #[.val (.int p1), .val (.ref ka), .val (.int (11 : Int32)), .val (.int (6 : Int32)), .val (.ref w6)] [])) (fun _ k => XS.icmpYes X14.here hx rfl (pc0 := 25) (pc' := 45) rfl (hb hby d1_25) rfl (teq hc25_6).1 (by decide) (by decide) k) ?_
                refine own_go (T14.setTop (mkF m 47 #[.val (.int p1), .val (.ref ka), .val (.int (11 : Int32)), .val (.int (6 : Int32)), .val (.ref w6)] [(.ref w6)])) (fun _ k => XS.aload X14.here hx rfl (hb hby d1_45) rfl rfl k) ?_
                refine own_ret X14 (BodyLoose.notSynchronized Bd) (some (.ref w6)) (fun h => by rw [Bd.returns] at h; cases h) (fun fs hr => retOut X14 hx Bd.returns rfl (Or.inr (Or.inr (Or.inr (Or.inr ⟨rfl, rfl, rfl⟩)))) (hb hby d1_47) hr) (by decide) (by decide) ?_
                exact ⟨(by first | exact own_R9 w0 w1 w2 w3 w4 w5 w6 w7 w8 w9 w10 _ hz25_6.symm), N0, e14⟩
              · have hz25_6 : ¬ (9 = (p1).toInt) := own_zneq hc25_6 rfl rfl
                refine own_go (T14.setTop (mkF m 28 #[.val (.int p1), .val (.ref ka), .val (.int (11 : Int32)), .val (.int (6 : Int32)), .val (.ref w6)] [])) (fun _ k => XS.icmpNo X14.here hx rfl (hb hby d1_25) rfl (feq hc25_6).1 k) ?_
                refine own_go (T14.setTop (mkF m 30 #[.val (.int p1), .val (.ref ka), .val (.int (11 : Int32)), .val (.int (6 : Int32)), .val (.ref w6)] [(.ref w6)])) (fun _ k => XS.aload X14.here hx rfl (hb hby d1_28) rfl rfl k) ?_
                obtain ⟨T15, X15, e15, st15⟩ := getF X14 hx hZ hown (host := "") (Or.inl (hw _ (List.mem_of_getElem? (i := 9) rfl))) Via.refl e14 Fb6 (g := (mkF m 30 #[.val (.int p1), .val (.ref ka), .val (.int (11 : Int32)), .val (.int (6 : Int32)), .val (.ref w6)] [(.ref w6)])) rfl rfl (hb hby d1_30)
                refine own_go (T15.setTop (mkF m 33 #[.val (.int p1), .val (.ref ka), .val (.int (11 : Int32)), .val (.int (6 : Int32)), .val (.ref w6)] [(.int (0 : Int32))])) (fun _ k => st15 _ k) ?_
                refine own_go (T15.setTop (mkF m 48 #[.val (.int p1), .val (.ref ka), .val (.int (11 : Int32)), .val (.int (6 : Int32)), .val (.ref w6)] [])) (fun _ k => XS.ifYes X15.here hx rfl (pc0 := 33) (pc' := 48) rfl (hb hby d1_33) rfl ((if0 _ _).trans (teq (by decide : (0 : Int32) = (0 : Int32))).1) (by decide) (by decide) k) ?_
                refine own_go (T15.setTop (mkF m 51 #[.val (.int p1), .val (.ref ka), .val (.int (11 : Int32)), .val (.int (7 : Int32)), .val (.ref w6)] [])) (fun _ k => XS.iinc X15.here hx rfl (hb hby d1_48) rfl (l' := #[.val (.int p1), .val (.ref ka), .val (.int (11 : Int32)), .val (.int (7 : Int32)), .val (.ref w6)]) rfl k) ?_
                refine own_go (T15.setTop (mkF m 9 #[.val (.int p1), .val (.ref ka), .val (.int (11 : Int32)), .val (.int (7 : Int32)), .val (.ref w6)] [])) (fun _ k => XS.goto X15.here hx rfl (pc0 := 51) (pc' := 9) rfl (hb hby d1_51) (by decide) (by decide) k) ?_
                refine own_go (T15.setTop (mkF m 10 #[.val (.int p1), .val (.ref ka), .val (.int (11 : Int32)), .val (.int (7 : Int32)), .val (.ref w6)] [(.int (7 : Int32))])) (fun _ k => XS.iloadN X15.here hx rfl (hb hby d1_9) rfl k) ?_
                refine own_go (T15.setTop (mkF m 11 #[.val (.int p1), .val (.ref ka), .val (.int (11 : Int32)), .val (.int (7 : Int32)), .val (.ref w6)] [(.int (11 : Int32)), (.int (7 : Int32))])) (fun _ k => XS.iloadN X15.here hx rfl (hb hby d1_10) rfl k) ?_
                refine own_go (T15.setTop (mkF m 14 #[.val (.int p1), .val (.ref ka), .val (.int (11 : Int32)), .val (.int (7 : Int32)), .val (.ref w6)] [])) (fun _ k => XS.icmpNo X15.here hx rfl (hb hby d1_11) rfl (tlt (by decide : (7 : Int32) < (11 : Int32))).2.1 k) ?_
                refine own_go (T15.setTop (mkF m 15 #[.val (.int p1), .val (.ref ka), .val (.int (11 : Int32)), .val (.int (7 : Int32)), .val (.ref w6)] [(.ref ka)])) (fun _ k => XS.aloadN X15.here hx rfl (hb hby d1_14) rfl rfl k) ?_
                refine own_go (T15.setTop (mkF m 16 #[.val (.int p1), .val (.ref ka), .val (.int (11 : Int32)), .val (.int (7 : Int32)), .val (.ref w6)] [(.int (7 : Int32)), (.ref ka)])) (fun _ k => XS.iloadN X15.here hx rfl (hb hby d1_15) rfl k) ?_
                refine own_go (T15.setTop (mkF m 17 #[.val (.int p1), .val (.ref ka), .val (.int (11 : Int32)), .val (.int (7 : Int32)), .val (.ref w6)] [(.ref w7)])) (fun _ k => X15.aaload hx (j := (7 : Int32)) (v := (.ref w7)) (by rw [e15]; exact Ar.1) (State.isArrayOf_alike hZ.alike Ar.2.1) rfl Ar.2.2 el7.1 el7.2 (g := (mkF m 16 #[.val (.int p1), .val (.ref ka), .val (.int (11 : Int32)), .val (.int (7 : Int32)), .val (.ref w6)] [(.int (7 : Int32)), (.ref ka)])) rfl rfl (hb hby d1_16) _ k) ?_
                refine own_go (T15.setTop (mkF m 19 #[.val (.int p1), .val (.ref ka), .val (.int (11 : Int32)), .val (.int (7 : Int32)), .val (.ref w7)] [])) (fun _ k => XS.astore X15.here hx rfl (hb hby d1_17) rfl rfl (l' := #[.val (.int p1), .val (.ref ka), .val (.int (11 : Int32)), .val (.int (7 : Int32)), .val (.ref w7)]) rfl k) ?_
                refine own_go (T15.setTop (mkF m 21 #[.val (.int p1), .val (.ref ka), .val (.int (11 : Int32)), .val (.int (7 : Int32)), .val (.ref w7)] [(.ref w7)])) (fun _ k => XS.aload X15.here hx rfl (hb hby d1_19) rfl rfl k) ?_
                obtain ⟨T16, X16, e16, st16⟩ := getF X15 hx hZ hown (host := "") (Or.inl (hw _ (List.mem_of_getElem? (i := 7) rfl))) Via.refl e15 Ft7 (g := (mkF m 21 #[.val (.int p1), .val (.ref ka), .val (.int (11 : Int32)), .val (.int (7 : Int32)), .val (.ref w7)] [(.ref w7)])) rfl rfl (hb hby d1_21)
                refine own_go (T16.setTop (mkF m 24 #[.val (.int p1), .val (.ref ka), .val (.int (11 : Int32)), .val (.int (7 : Int32)), .val (.ref w7)] [(.int (10 : Int32))])) (fun _ k => st16 _ k) ?_
                refine own_go (T16.setTop (mkF m 25 #[.val (.int p1), .val (.ref ka), .val (.int (11 : Int32)), .val (.int (7 : Int32)), .val (.ref w7)] [(.int p1), (.int (10 : Int32))])) (fun _ k => XS.iloadN X16.here hx rfl (hb hby d1_24) rfl k) ?_
                by_cases hc25_7 : (10 : Int32) = p1
                · have hz25_7 : (10 = (p1).toInt) := own_zeq hc25_7 rfl rfl
                  refine own_go (T16.setTop (mkF m 45 #[.val (.int p1), .val (.ref ka), .val (.int (11 : Int32)), .val (.int (7 : Int32)), .val (.ref w7)] [])) (fun _ k => XS.icmpYes X16.here hx rfl (pc0 := 25) (pc' := 45) rfl (hb hby d1_25) rfl (teq hc25_7).1 (by decide) (by decide) k) ?_
                  refine own_go (T16.setTop (mkF m 47 #[.val (.int p1), .val (.ref ka), .val (.int (11 : Int32)), .val (.int (7 : Int32)), .val (.ref w7)] [(.ref w7)])) (fun _ k => XS.aload X16.here hx rfl (hb hby d1_45) rfl rfl k) ?_
                  refine own_ret X16 (BodyLoose.notSynchronized Bd) (some (.ref w7)) (fun h => by rw [Bd.returns] at h; cases h) (fun fs hr => retOut X16 hx Bd.returns rfl (Or.inr (Or.inr (Or.inr (Or.inr ⟨rfl, rfl, rfl⟩)))) (hb hby d1_47) hr) (by decide) (by decide) ?_
                  exact ⟨(by first | exact own_R10 w0 w1 w2 w3 w4 w5 w6 w7 w8 w9 w10 _ hz25_7.symm), N0, e16⟩
                · have hz25_7 : ¬ (10 = (p1).toInt) := own_zneq hc25_7 rfl rfl
                  refine own_go (T16.setTop (mkF m 28 #[.val (.int p1), .val (.ref ka), .val (.int (11 : Int32)), .val (.int (7 : Int32)), .val (.ref w7)] [])) (fun _ k => XS.icmpNo X16.here hx rfl (hb hby d1_25) rfl (feq hc25_7).1 k) ?_
                  refine own_go (T16.setTop (mkF m 30 #[.val (.int p1), .val (.ref ka), .val (.int (11 : Int32)), .val (.int (7 : Int32)), .val (.ref w7)] [(.ref w7)])) (fun _ k => XS.aload X16.here hx rfl (hb hby d1_28) rfl rfl k) ?_
                  obtain ⟨T17, X17, e17, st17⟩ := getF X16 hx hZ hown (host := "") (Or.inl (hw _ (List.mem_of_getElem? (i := 9) rfl))) Via.refl e16 Fb7 (g := (mkF m 30 #[.val (.int p1), .val (.ref ka), .val (.int (11 : Int32)), .val (.int (7 : Int32)), .val (.ref w7)] [(.ref w7)])) rfl rfl (hb hby d1_30)
                  refine own_go (T17.setTop (mkF m 33 #[.val (.int p1), .val (.ref ka), .val (.int (11 : Int32)), .val (.int (7 : Int32)), .val (.ref w7)] [(.int (0 : Int32))])) (fun _ k => st17 _ k) ?_
                  refine own_go (T17.setTop (mkF m 48 #[.val (.int p1), .val (.ref ka), .val (.int (11 : Int32)), .val (.int (7 : Int32)), .val (.ref w7)] [])) (fun _ k => XS.ifYes X17.here hx rfl (pc0 := 33) (pc' := 48) rfl (hb hby d1_33) rfl ((if0 _ _).trans (teq (by decide : (0 : Int32) = (0 : Int32))).1) (by decide) (by decide) k) ?_
                  refine own_go (T17.setTop (mkF m 51 #[.val (.int p1), .val (.ref ka), .val (.int (11 : Int32)), .val (.int (8 : Int32)), .val (.ref w7)] [])) (fun _ k => XS.iinc X17.here hx rfl (hb hby d1_48) rfl (l' := #[.val (.int p1), .val (.ref ka), .val (.int (11 : Int32)), .val (.int (8 : Int32)), .val (.ref w7)]) rfl k) ?_
                  refine own_go (T17.setTop (mkF m 9 #[.val (.int p1), .val (.ref ka), .val (.int (11 : Int32)), .val (.int (8 : Int32)), .val (.ref w7)] [])) (fun _ k => XS.goto X17.here hx rfl (pc0 := 51) (pc' := 9) rfl (hb hby d1_51) (by decide) (by decide) k) ?_
                  refine own_go (T17.setTop (mkF m 10 #[.val (.int p1), .val (.ref ka), .val (.int (11 : Int32)), .val (.int (8 : Int32)), .val (.ref w7)] [(.int (8 : Int32))])) (fun _ k => XS.iloadN X17.here hx rfl (hb hby d1_9) rfl k) ?_
                  refine own_go (T17.setTop (mkF m 11 #[.val (.int p1), .val (.ref ka), .val (.int (11 : Int32)), .val (.int (8 : Int32)), .val (.ref w7)] [(.int (11 : Int32)), (.int (8 : Int32))])) (fun _ k => XS.iloadN X17.here hx rfl (hb hby d1_10) rfl k) ?_
                  refine own_go (T17.setTop (mkF m 14 #[.val (.int p1), .val (.ref ka), .val (.int (11 : Int32)), .val (.int (8 : Int32)), .val (.ref w7)] [])) (fun _ k => XS.icmpNo X17.here hx rfl (hb hby d1_11) rfl (tlt (by decide : (8 : Int32) < (11 : Int32))).2.1 k) ?_
                  refine own_go (T17.setTop (mkF m 15 #[.val (.int p1), .val (.ref ka), .val (.int (11 : Int32)), .val (.int (8 : Int32)), .val (.ref w7)] [(.ref ka)])) (fun _ k => XS.aloadN X17.here hx rfl (hb hby d1_14) rfl rfl k) ?_
                  refine own_go (T17.setTop (mkF m 16 #[.val (.int p1), .val (.ref ka), .val (.int (11 : Int32)), .val (.int (8 : Int32)), .val (.ref w7)] [(.int (8 : Int32)), (.ref ka)])) (fun _ k => XS.iloadN X17.here hx rfl (hb hby d1_15) rfl k) ?_
                  refine own_go (T17.setTop (mkF m 17 #[.val (.int p1), .val (.ref ka), .val (.int (11 : Int32)), .val (.int (8 : Int32)), .val (.ref w7)] [(.ref w8)])) (fun _ k => X17.aaload hx (j := (8 : Int32)) (v := (.ref w8)) (by rw [e17]; exact Ar.1) (State.isArrayOf_alike hZ.alike Ar.2.1) rfl Ar.2.2 el8.1 el8.2 (g := (mkF m 16 #[.val (.int p1), .val (.ref ka), .val (.int (11 : Int32)), .val (.int (8 : Int32)), .val (.ref w7)] [(.int (8 : Int32)), (.ref ka)])) rfl rfl (hb hby d1_16) _ k) ?_
                  refine own_go (T17.setTop (mkF m 19 #[.val (.int p1), .val (.ref ka), .val (.int (11 : Int32)), .val (.int (8 : Int32)), .val (.ref w8)] [])) (fun _ k => XS.astore X17.here hx rfl (hb hby d1_17) rfl rfl (l' := #[.val (.int p1), .val (.ref ka), .val (.int (11 : Int32)), .val (.int (8 : Int32)), .val (.ref w8)]) rfl k) ?_
                  refine own_go (T17.setTop (mkF m 21 #[.val (.int p1), .val (.ref ka), .val (.int (11 : Int32)), .val (.int (8 : Int32)), .val (.ref w8)] [(.ref w8)])) (fun _ k => XS.aload X17.here hx rfl (hb hby d1_19) rfl rfl k) ?_
                  obtain ⟨T18, X18, e18, st18⟩ := getF X17 hx hZ hown (host := "") (Or.inl (hw _ (List.mem_of_getElem? (i := 7) rfl))) Via.refl e17 Ft8 (g := (mkF m 21 #[.val (.int p1), .val (.ref ka), .val (.int (11 : Int32)), .val (.int (8 : Int32)), .val (.ref w8)] [(.ref w8)])) rfl rfl (hb hby d1_21)
                  refine own_go (T18.setTop (mkF m 24 #[.val (.int p1), .val (.ref ka), .val (.int (11 : Int32)), .val (.int (8 : Int32)), .val (.ref w8)] [(.int (11 : Int32))])) (fun _ k => st18 _ k) ?_
                  refine own_go (T18.setTop (mkF m 25 #[.val (.int p1), .val (.ref ka), .val (.int (11 : Int32)), .val (.int (8 : Int32)), .val (.ref w8)] [(.int p1), (.int (11 : Int32))])) (fun _ k => XS.iloadN X18.here hx rfl (hb hby d1_24) rfl k) ?_
                  by_cases hc25_8 : (11 : Int32) = p1
                  · have hz25_8 : (11 = (p1).toInt) := own_zeq hc25_8 rfl rfl
                    refine own_go (T18.setTop (mkF m 45 #[.val (.int p1), .val (.ref ka), .val (.int (11 : Int32)), .val (.int (8 : Int32)), .val (.ref w8)] [])) (fun _ k => XS.icmpYes X18.here hx rfl (pc0 := 25) (pc' := 45) rfl (hb hby d1_25) rfl (teq hc25_8).1 (by decide) (by decide) k) ?_
                    refine own_go (T18.setTop (mkF m 47 #[.val (.int p1), .val (.ref ka), .val (.int (11 : Int32)), .val (.int (8 : Int32)), .val (.ref w8)] [(.ref w8)])) (fun _ k => XS.aload X18.here hx rfl (hb hby d1_45) rfl rfl k) ?_
                    refine own_ret X18 (BodyLoose.notSynchronized Bd) (some (.ref w8)) (fun h => by rw [Bd.returns] at h; cases h) (fun fs hr => retOut X18 hx Bd.returns rfl (Or.inr (Or.inr (Or.inr (Or.inr ⟨rfl, rfl, rfl⟩)))) (hb hby d1_47) hr) (by decide) (by decide) ?_
                    exact ⟨(by first | exact own_R11 w0 w1 w2 w3 w4 w5 w6 w7 w8 w9 w10 _ hz25_8.symm), N0, e18⟩
                  · have hz25_8 : ¬ (11 = (p1).toInt) := own_zneq hc25_8 rfl rfl
                    refine own_go (T18.setTop (mkF m 28 #[.val (.int p1), .val (.ref ka), .val (.int (11 : Int32)), .val (.int (8 : Int32)), .val (.ref w8)] [])) (fun _ k => XS.icmpNo X18.here hx rfl (hb hby d1_25) rfl (feq hc25_8).1 k) ?_
                    refine own_go (T18.setTop (mkF m 30 #[.val (.int p1), .val (.ref ka), .val (.int (11 : Int32)), .val (.int (8 : Int32)), .val (.ref w8)] [(.ref w8)])) (fun _ k => XS.aload X18.here hx rfl (hb hby d1_28) rfl rfl k) ?_
                    obtain ⟨T19, X19, e19, st19⟩ := getF X18 hx hZ hown (host := "") (Or.inl (hw _ (List.mem_of_getElem? (i := 9) rfl))) Via.refl e18 Fb8 (g := (mkF m 30 #[.val (.int p1), .val (.ref ka), .val (.int (11 : Int32)), .val (.int (8 : Int32)), .val (.ref w8)] [(.ref w8)])) rfl rfl (hb hby d1_30)
                    refine own_go (T19.setTop (mkF m 33 #[.val (.int p1), .val (.ref ka), .val (.int (11 : Int32)), .val (.int (8 : Int32)), .val (.ref w8)] [(.int (0 : Int32))])) (fun _ k => st19 _ k) ?_
                    refine own_go (T19.setTop (mkF m 48 #[.val (.int p1), .val (.ref ka), .val (.int (11 : Int32)), .val (.int (8 : Int32)), .val (.ref w8)] [])) (fun _ k => XS.ifYes X19.here hx rfl (pc0 := 33) (pc' := 48) rfl (hb hby d1_33) rfl ((if0 _ _).trans (teq (by decide : (0 : Int32) = (0 : Int32))).1) (by decide) (by decide) k) ?_
                    refine own_go (T19.setTop (mkF m 51 #[.val (.int p1), .val (.ref ka), .val (.int (11 : Int32)), .val (.int (9 : Int32)), .val (.ref w8)] [])) (fun _ k => XS.iinc X19.here hx rfl (hb hby d1_48) rfl (l' := #[.val (.int p1), .val (.ref ka), .val (.int (11 : Int32)), .val (.int (9 : Int32)), .val (.ref w8)]) rfl k) ?_
                    refine own_go (T19.setTop (mkF m 9 #[.val (.int p1), .val (.ref ka), .val (.int (11 : Int32)), .val (.int (9 : Int32)), .val (.ref w8)] [])) (fun _ k => XS.goto X19.here hx rfl (pc0 := 51) (pc' := 9) rfl (hb hby d1_51) (by decide) (by decide) k) ?_
                    refine own_go (T19.setTop (mkF m 10 #[.val (.int p1), .val (.ref ka), .val (.int (11 : Int32)), .val (.int (9 : Int32)), .val (.ref w8)] [(.int (9 : Int32))])) (fun _ k => XS.iloadN X19.here hx rfl (hb hby d1_9) rfl k) ?_
                    refine own_go (T19.setTop (mkF m 11 #[.val (.int p1), .val (.ref ka), .val (.int (11 : Int32)), .val (.int (9 : Int32)), .val (.ref w8)] [(.int (11 : Int32)), (.int (9 : Int32))])) (fun _ k => XS.iloadN X19.here hx rfl (hb hby d1_10) rfl k) ?_
                    refine own_go (T19.setTop (mkF m 14 #[.val (.int p1), .val (.ref ka), .val (.int (11 : Int32)), .val (.int (9 : Int32)), .val (.ref w8)] [])) (fun _ k => XS.icmpNo X19.here hx rfl (hb hby d1_11) rfl (tlt (by decide : (9 : Int32) < (11 : Int32))).2.1 k) ?_
                    refine own_go (T19.setTop (mkF m 15 #[.val (.int p1), .val (.ref ka), .val (.int (11 : Int32)), .val (.int (9 : Int32)), .val (.ref w8)] [(.ref ka)])) (fun _ k => XS.aloadN X19.here hx rfl (hb hby d1_14) rfl rfl k) ?_
                    refine own_go (T19.setTop (mkF m 16 #[.val (.int p1), .val (.ref ka), .val (.int (11 : Int32)), .val (.int (9 : Int32)), .val (.ref w8)] [(.int (9 : Int32)), (.ref ka)])) (fun _ k => XS.iloadN X19.here hx rfl (hb hby d1_15) rfl k) ?_
                    refine own_go (T19.setTop (mkF m 17 #[.val (.int p1), .val (.ref ka), .val (.int (11 : Int32)), .val (.int (9 : Int32)), .val (.ref w8)] [(.ref w9)])) (fun _ k => X19.aaload hx (j := (9 : Int32)) (v := (.ref w9)) (by rw [e19]; exact Ar.1) (State.isArrayOf_alike hZ.alike Ar.2.1) rfl Ar.2.2 el9.1 el9.2 (g := (mkF m 16 #[.val (.int p1), .val (.ref ka), .val (.int (11 : Int32)), .val (.int (9 : Int32)), .val (.ref w8)] [(.int (9 : Int32)), (.ref ka)])) rfl rfl (hb hby d1_16) _ k) ?_
                    refine own_go (T19.setTop (mkF m 19 #[.val (.int p1), .val (.ref ka), .val (.int (11 : Int32)), .val (.int (9 : Int32)), .val (.ref w9)] [])) (fun _ k => XS.astore X19.here hx rfl (hb hby d1_17) rfl rfl (l' := #[.val (.int p1), .val (.ref ka), .val (.int (11 : Int32)), .val (.int (9 : Int32)), .val (.ref w9)]) rfl k) ?_
                    refine own_go (T19.setTop (mkF m 21 #[.val (.int p1), .val (.ref ka), .val (.int (11 : Int32)), .val (.int (9 : Int32)), .val (.ref w9)] [(.ref w9)])) (fun _ k => XS.aload X19.here hx rfl (hb hby d1_19) rfl rfl k) ?_
                    obtain ⟨T20, X20, e20, st20⟩ := getF X19 hx hZ hown (host := "") (Or.inl (hw _ (List.mem_of_getElem? (i := 7) rfl))) Via.refl e19 Ft9 (g := (mkF m 21 #[.val (.int p1), .val (.ref ka), .val (.int (11 : Int32)), .val (.int (9 : Int32)), .val (.ref w9)] [(.ref w9)])) rfl rfl (hb hby d1_21)
                    refine own_go (T20.setTop (mkF m 24 #[.val (.int p1), .val (.ref ka), .val (.int (11 : Int32)), .val (.int (9 : Int32)), .val (.ref w9)] [(.int (12 : Int32))])) (fun _ k => st20 _ k) ?_
                    refine own_go (T20.setTop (mkF m 25 #[.val (.int p1), .val (.ref ka), .val (.int (11 : Int32)), .val (.int (9 : Int32)), .val (.ref w9)] [(.int p1), (.int (12 : Int32))])) (fun _ k => XS.iloadN X20.here hx rfl (hb hby d1_24) rfl k) ?_
                    by_cases hc25_9 : (12 : Int32) = p1
                    · have hz25_9 : (12 = (p1).toInt) := own_zeq hc25_9 rfl rfl
                      refine own_go (T20.setTop (mkF m 45 #[.val (.int p1), .val (.ref ka), .val (.int (11 : Int32)), .val (.int (9 : Int32)), .val (.ref w9)] [])) (fun _ k => XS.icmpYes X20.here hx rfl (pc0 := 25) (pc' := 45) rfl (hb hby d1_25) rfl (teq hc25_9).1 (by decide) (by decide) k) ?_
                      refine own_go (T20.setTop (mkF m 47 #[.val (.int p1), .val (.ref ka), .val (.int (11 : Int32)), .val (.int (9 : Int32)), .val (.ref w9)] [(.ref w9)])) (fun _ k => XS.aload X20.here hx rfl (hb hby d1_45) rfl rfl k) ?_
                      refine own_ret X20 (BodyLoose.notSynchronized Bd) (some (.ref w9)) (fun h => by rw [Bd.returns] at h; cases h) (fun fs hr => retOut X20 hx Bd.returns rfl (Or.inr (Or.inr (Or.inr (Or.inr ⟨rfl, rfl, rfl⟩)))) (hb hby d1_47) hr) (by decide) (by decide) ?_
                      exact ⟨(by first | exact own_R12 w0 w1 w2 w3 w4 w5 w6 w7 w8 w9 w10 _ hz25_9.symm | exact own_R7 w0 w1 w2 w3 w4 w5 w6 w7 w8 w9 w10 _ hz42_9.symm), N0, e20⟩
                    · have hz25_9 : ¬ (12 = (p1).toInt) := own_zneq hc25_9 rfl rfl
                      refine own_go (T20.setTop (mkF m 28 #[.val (.int p1), .val (.ref ka), .val (.int (11 : Int32)), .val (.int (9 : Int32)), .val (.ref w9)] [])) (fun _ k => XS.icmpNo X20.here hx rfl (hb hby d1_25) rfl (feq hc25_9).1 k) ?_
                      refine own_go (T20.setTop (mkF m 30 #[.val (.int p1), .val (.ref ka), .val (.int (11 : Int32)), .val (.int (9 : Int32)), .val (.ref w9)] [(.ref w9)])) (fun _ k => XS.aload X20.here hx rfl (hb hby d1_28) rfl rfl k) ?_
                      obtain ⟨T21, X21, e21, st21⟩ := getF X20 hx hZ hown (host := "") (Or.inl (hw _ (List.mem_of_getElem? (i := 9) rfl))) Via.refl e20 Fb9 (g := (mkF m 30 #[.val (.int p1), .val (.ref ka), .val (.int (11 : Int32)), .val (.int (9 : Int32)), .val (.ref w9)] [(.ref w9)])) rfl rfl (hb hby d1_30)
                      refine own_go (T21.setTop (mkF m 33 #[.val (.int p1), .val (.ref ka), .val (.int (11 : Int32)), .val (.int (9 : Int32)), .val (.ref w9)] [(.int (7 : Int32))])) (fun _ k => st21 _ k) ?_
                      refine own_go (T21.setTop (mkF m 36 #[.val (.int p1), .val (.ref ka), .val (.int (11 : Int32)), .val (.int (9 : Int32)), .val (.ref w9)] [])) (fun _ k => XS.ifNo X21.here hx rfl (hb hby d1_33) rfl ((if0 _ _).trans (feq (by decide : ¬ ((7 : Int32) = (0 : Int32)))).1) k) ?_
                      refine own_go (T21.setTop (mkF m 38 #[.val (.int p1), .val (.ref ka), .val (.int (11 : Int32)), .val (.int (9 : Int32)), .val (.ref w9)] [(.ref w9)])) (fun _ k => XS.aload X21.here hx rfl (hb hby d1_36) rfl rfl k) ?_
                      obtain ⟨T22, X22, e22, st22⟩ := getF X21 hx hZ hown (host := "") (Or.inl (hw _ (List.mem_of_getElem? (i := 9) rfl))) Via.refl e21 Fb9 (g := (mkF m 38 #[.val (.int p1), .val (.ref ka), .val (.int (11 : Int32)), .val (.int (9 : Int32)), .val (.ref w9)] [(.ref w9)])) rfl rfl (hb hby d1_38)
                      refine own_go (T22.setTop (mkF m 41 #[.val (.int p1), .val (.ref ka), .val (.int (11 : Int32)), .val (.int (9 : Int32)), .val (.ref w9)] [(.int (7 : Int32))])) (fun _ k => st22 _ k) ?_
                      refine own_go (T22.setTop (mkF m 42 #[.val (.int p1), .val (.ref ka), .val (.int (11 : Int32)), .val (.int (9 : Int32)), .val (.ref w9)] [(.int p1), (.int (7 : Int32))])) (fun _ k => XS.iloadN X22.here hx rfl (hb hby d1_41) rfl k) ?_
                      by_cases hc42_9 : (7 : Int32) = p1
                      · have hz42_9 : (7 = (p1).toInt) := own_zeq hc42_9 rfl rfl
                        refine own_go (T22.setTop (mkF m 45 #[.val (.int p1), .val (.ref ka), .val (.int (11 : Int32)), .val (.int (9 : Int32)), .val (.ref w9)] [])) (fun _ k => XS.icmpNo X22.here hx rfl (hb hby d1_42) rfl (teq hc42_9).2 k) ?_
                        refine own_go (T22.setTop (mkF m 47 #[.val (.int p1), .val (.ref ka), .val (.int (11 : Int32)), .val (.int (9 : Int32)), .val (.ref w9)] [(.ref w9)])) (fun _ k => XS.aload X22.here hx rfl (hb hby d1_45) rfl rfl k) ?_
                        refine own_ret X22 (BodyLoose.notSynchronized Bd) (some (.ref w9)) (fun h => by rw [Bd.returns] at h; cases h) (fun fs hr => retOut X22 hx Bd.returns rfl (Or.inr (Or.inr (Or.inr (Or.inr ⟨rfl, rfl, rfl⟩)))) (hb hby d1_47) hr) (by decide) (by decide) ?_
                        exact ⟨(by first | exact own_R12 w0 w1 w2 w3 w4 w5 w6 w7 w8 w9 w10 _ hz25_9.symm | exact own_R7 w0 w1 w2 w3 w4 w5 w6 w7 w8 w9 w10 _ hz42_9.symm), N0, e22⟩
                      · have hz42_9 : ¬ (7 = (p1).toInt) := own_zneq hc42_9 rfl rfl
                        refine own_go (T22.setTop (mkF m 48 #[.val (.int p1), .val (.ref ka), .val (.int (11 : Int32)), .val (.int (9 : Int32)), .val (.ref w9)] [])) (fun _ k => XS.icmpYes X22.here hx rfl (pc0 := 42) (pc' := 48) rfl (hb hby d1_42) rfl (feq hc42_9).2 (by decide) (by decide) k) ?_
                        refine own_go (T22.setTop (mkF m 51 #[.val (.int p1), .val (.ref ka), .val (.int (11 : Int32)), .val (.int (10 : Int32)), .val (.ref w9)] [])) (fun _ k => XS.iinc X22.here hx rfl (hb hby d1_48) rfl (l' := #[.val (.int p1), .val (.ref ka), .val (.int (11 : Int32)), .val (.int (10 : Int32)), .val (.ref w9)]) rfl k) ?_
                        refine own_go (T22.setTop (mkF m 9 #[.val (.int p1), .val (.ref ka), .val (.int (11 : Int32)), .val (.int (10 : Int32)), .val (.ref w9)] [])) (fun _ k => XS.goto X22.here hx rfl (pc0 := 51) (pc' := 9) rfl (hb hby d1_51) (by decide) (by decide) k) ?_
                        refine own_go (T22.setTop (mkF m 10 #[.val (.int p1), .val (.ref ka), .val (.int (11 : Int32)), .val (.int (10 : Int32)), .val (.ref w9)] [(.int (10 : Int32))])) (fun _ k => XS.iloadN X22.here hx rfl (hb hby d1_9) rfl k) ?_
                        refine own_go (T22.setTop (mkF m 11 #[.val (.int p1), .val (.ref ka), .val (.int (11 : Int32)), .val (.int (10 : Int32)), .val (.ref w9)] [(.int (11 : Int32)), (.int (10 : Int32))])) (fun _ k => XS.iloadN X22.here hx rfl (hb hby d1_10) rfl k) ?_
                        refine own_go (T22.setTop (mkF m 14 #[.val (.int p1), .val (.ref ka), .val (.int (11 : Int32)), .val (.int (10 : Int32)), .val (.ref w9)] [])) (fun _ k => XS.icmpNo X22.here hx rfl (hb hby d1_11) rfl (tlt (by decide : (10 : Int32) < (11 : Int32))).2.1 k) ?_
                        refine own_go (T22.setTop (mkF m 15 #[.val (.int p1), .val (.ref ka), .val (.int (11 : Int32)), .val (.int (10 : Int32)), .val (.ref w9)] [(.ref ka)])) (fun _ k => XS.aloadN X22.here hx rfl (hb hby d1_14) rfl rfl k) ?_
                        refine own_go (T22.setTop (mkF m 16 #[.val (.int p1), .val (.ref ka), .val (.int (11 : Int32)), .val (.int (10 : Int32)), .val (.ref w9)] [(.int (10 : Int32)), (.ref ka)])) (fun _ k => XS.iloadN X22.here hx rfl (hb hby d1_15) rfl k) ?_
                        refine own_go (T22.setTop (mkF m 17 #[.val (.int p1), .val (.ref ka), .val (.int (11 : Int32)), .val (.int (10 : Int32)), .val (.ref w9)] [(.ref w10)])) (fun _ k => X22.aaload hx (j := (10 : Int32)) (v := (.ref w10)) (by rw [e22]; exact Ar.1) (State.isArrayOf_alike hZ.alike Ar.2.1) rfl Ar.2.2 el10.1 el10.2 (g := (mkF m 16 #[.val (.int p1), .val (.ref ka), .val (.int (11 : Int32)), .val (.int (10 : Int32)), .val (.ref w9)] [(.int (10 : Int32)), (.ref ka)])) rfl rfl (hb hby d1_16) _ k) ?_
                        refine own_go (T22.setTop (mkF m 19 #[.val (.int p1), .val (.ref ka), .val (.int (11 : Int32)), .val (.int (10 : Int32)), .val (.ref w10)] [])) (fun _ k => XS.astore X22.here hx rfl (hb hby d1_17) rfl rfl (l' := #[.val (.int p1), .val (.ref ka), .val (.int (11 : Int32)), .val (.int (10 : Int32)), .val (.ref w10)]) rfl k) ?_
                        refine own_go (T22.setTop (mkF m 21 #[.val (.int p1), .val (.ref ka), .val (.int (11 : Int32)), .val (.int (10 : Int32)), .val (.ref w10)] [(.ref w10)])) (fun _ k => XS.aload X22.here hx rfl (hb hby d1_19) rfl rfl k) ?_
                        obtain ⟨T23, X23, e23, st23⟩ := getF X22 hx hZ hown (host := "") (Or.inl (hw _ (List.mem_of_getElem? (i := 7) rfl))) Via.refl e22 Ft10 (g := (mkF m 21 #[.val (.int p1), .val (.ref ka), .val (.int (11 : Int32)), .val (.int (10 : Int32)), .val (.ref w10)] [(.ref w10)])) rfl rfl (hb hby d1_21)
                        refine own_go (T23.setTop (mkF m 24 #[.val (.int p1), .val (.ref ka), .val (.int (11 : Int32)), .val (.int (10 : Int32)), .val (.ref w10)] [(.int (8 : Int32))])) (fun _ k => st23 _ k) ?_
                        refine own_go (T23.setTop (mkF m 25 #[.val (.int p1), .val (.ref ka), .val (.int (11 : Int32)), .val (.int (10 : Int32)), .val (.ref w10)] [(.int p1), (.int (8 : Int32))])) (fun _ k => XS.iloadN X23.here hx rfl (hb hby d1_24) rfl k) ?_
                        by_cases hc25_10 : (8 : Int32) = p1
                        · have hz25_10 : (8 = (p1).toInt) := own_zeq hc25_10 rfl rfl
                          refine own_go (T23.setTop (mkF m 45 #[.val (.int p1), .val (.ref ka), .val (.int (11 : Int32)), .val (.int (10 : Int32)), .val (.ref w10)] [])) (fun _ k => XS.icmpYes X23.here hx rfl (pc0 := 25) (pc' := 45) rfl (hb hby d1_25) rfl (teq hc25_10).1 (by decide) (by decide) k) ?_
                          refine own_go (T23.setTop (mkF m 47 #[.val (.int p1), .val (.ref ka), .val (.int (11 : Int32)), .val (.int (10 : Int32)), .val (.ref w10)] [(.ref w10)])) (fun _ k => XS.aload X23.here hx rfl (hb hby d1_45) rfl rfl k) ?_
                          refine own_ret X23 (BodyLoose.notSynchronized Bd) (some (.ref w10)) (fun h => by rw [Bd.returns] at h; cases h) (fun fs hr => retOut X23 hx Bd.returns rfl (Or.inr (Or.inr (Or.inr (Or.inr ⟨rfl, rfl, rfl⟩)))) (hb hby d1_47) hr) (by decide) (by decide) ?_
                          exact ⟨(by first | exact own_R8 w0 w1 w2 w3 w4 w5 w6 w7 w8 w9 w10 _ hz25_10.symm), N0, e23⟩
                        · have hz25_10 : ¬ (8 = (p1).toInt) := own_zneq hc25_10 rfl rfl
                          refine own_go (T23.setTop (mkF m 28 #[.val (.int p1), .val (.ref ka), .val (.int (11 : Int32)), .val (.int (10 : Int32)), .val (.ref w10)] [])) (fun _ k => XS.icmpNo X23.here hx rfl (hb hby d1_25) rfl (feq hc25_10).1 k) ?_
                          refine own_go (T23.setTop (mkF m 30 #[.val (.int p1), .val (.ref ka), .val (.int (11 : Int32)), .val (.int (10 : Int32)), .val (.ref w10)] [(.ref w10)])) (fun _ k => XS.aload X23.here hx rfl (hb hby d1_28) rfl rfl k) ?_
                          obtain ⟨T24, X24, e24, st24⟩ := getF X23 hx hZ hown (host := "") (Or.inl (hw _ (List.mem_of_getElem? (i := 9) rfl))) Via.refl e23 Fb10 (g := (mkF m 30 #[.val (.int p1), .val (.ref ka), .val (.int (11 : Int32)), .val (.int (10 : Int32)), .val (.ref w10)] [(.ref w10)])) rfl rfl (hb hby d1_30)
                          refine own_go (T24.setTop (mkF m 33 #[.val (.int p1), .val (.ref ka), .val (.int (11 : Int32)), .val (.int (10 : Int32)), .val (.ref w10)] [(.int (0 : Int32))])) (fun _ k => st24 _ k) ?_
                          refine own_go (T24.setTop (mkF m 48 #[.val (.int p1), .val (.ref ka), .val (.int (11 : Int32)), .val (.int (10 : Int32)), .val (.ref w10)] [])) (fun _ k => XS.ifYes X24.here hx rfl (pc0 := 33) (pc' := 48) rfl (hb hby d1_33) rfl ((if0 _ _).trans (teq (by decide : (0 : Int32) = (0 : Int32))).1) (by decide) (by decide) k) ?_
                          refine own_go (T24.setTop (mkF m 51 #[.val (.int p1), .val (.ref ka), .val (.int (11 : Int32)), .val (.int (11 : Int32)), .val (.ref w10)] [])) (fun _ k => XS.iinc X24.here hx rfl (hb hby d1_48) rfl (l' := #[.val (.int p1), .val (.ref ka), .val (.int (11 : Int32)), .val (.int (11 : Int32)), .val (.ref w10)]) rfl k) ?_
                          refine own_go (T24.setTop (mkF m 9 #[.val (.int p1), .val (.ref ka), .val (.int (11 : Int32)), .val (.int (11 : Int32)), .val (.ref w10)] [])) (fun _ k => XS.goto X24.here hx rfl (pc0 := 51) (pc' := 9) rfl (hb hby d1_51) (by decide) (by decide) k) ?_
                          refine own_go (T24.setTop (mkF m 10 #[.val (.int p1), .val (.ref ka), .val (.int (11 : Int32)), .val (.int (11 : Int32)), .val (.ref w10)] [(.int (11 : Int32))])) (fun _ k => XS.iloadN X24.here hx rfl (hb hby d1_9) rfl k) ?_
                          refine own_go (T24.setTop (mkF m 11 #[.val (.int p1), .val (.ref ka), .val (.int (11 : Int32)), .val (.int (11 : Int32)), .val (.ref w10)] [(.int (11 : Int32)), (.int (11 : Int32))])) (fun _ k => XS.iloadN X24.here hx rfl (hb hby d1_10) rfl k) ?_
                          refine own_go (T24.setTop (mkF m 54 #[.val (.int p1), .val (.ref ka), .val (.int (11 : Int32)), .val (.int (11 : Int32)), .val (.ref w10)] [])) (fun _ k => XS.icmpYes X24.here hx rfl (pc0 := 11) (pc' := 54) rfl (hb hby d1_11) rfl (flt (by decide : ¬ ((11 : Int32) < (11 : Int32)))).2.1 (by decide) (by decide) k) ?_
                          refine own_go (T24.setTop (mkF m 55 #[.val (.int p1), .val (.ref ka), .val (.int (11 : Int32)), .val (.int (11 : Int32)), .val (.ref w10)] [.null])) (fun _ k => XS.aconstNull X24.here hx rfl (hb hby d1_54) k) ?_
                          refine own_ret X24 (BodyLoose.notSynchronized Bd) (some .null) (fun h => by rw [Bd.returns] at h; cases h) (fun fs hr => retOut X24 hx Bd.returns rfl (Or.inr (Or.inr (Or.inr (Or.inr ⟨rfl, rfl, rfl⟩)))) (hb hby d1_55) hr) (by decide) (by decide) ?_
                          exact ⟨own_Rn w0 w1 w2 w3 w4 w5 w6 w7 w8 w9 w10 _ (fun q => hz25_1 q.symm) (fun q => hz25_5 q.symm) (fun q => hz25_0 q.symm) (fun q => hz25_2 q.symm) (fun q => hz25_3 q.symm) (fun q => hz25_4 q.symm) (fun q => hz42_9 q.symm) (fun q => hz25_10 q.symm) (fun q => hz25_6 q.symm) (fun q => hz25_7 q.symm) (fun q => hz25_8 q.symm) (fun q => hz25_9 q.symm), N0, e24⟩
theorem d2_0 : decode method_3_code 0 = .ok (.iload_n 0, 1) := by decide +kernel
theorem d2_1 : decode method_3_code 1 = .ok (.iconst 1, 1) := by decide +kernel
theorem d2_2 : decode method_3_code 2 = .ok (.if_icmp .ne 7, 3) := by decide +kernel
theorem d2_5 : decode method_3_code 5 = .ok (.getstatic 18, 3) := by decide +kernel
theorem d2_8 : decode method_3_code 8 = .ok (.areturn, 1) := by decide +kernel
theorem d2_9 : decode method_3_code 9 = .ok (.iload_n 0, 1) := by decide +kernel
theorem d2_10 : decode method_3_code 10 = .ok (.iconst 2, 1) := by decide +kernel
theorem d2_11 : decode method_3_code 11 = .ok (.if_icmp .ne 7, 3) := by decide +kernel
theorem d2_14 : decode method_3_code 14 = .ok (.getstatic 22, 3) := by decide +kernel
theorem d2_17 : decode method_3_code 17 = .ok (.areturn, 1) := by decide +kernel
theorem d2_18 : decode method_3_code 18 = .ok (.iload_n 0, 1) := by decide +kernel
theorem d2_19 : decode method_3_code 19 = .ok (.iconst 3, 1) := by decide +kernel
theorem d2_20 : decode method_3_code 20 = .ok (.if_icmp .ne 7, 3) := by decide +kernel
theorem d2_23 : decode method_3_code 23 = .ok (.getstatic 25, 3) := by decide +kernel
theorem d2_26 : decode method_3_code 26 = .ok (.areturn, 1) := by decide +kernel
theorem d2_27 : decode method_3_code 27 = .ok (.iload_n 0, 1) := by decide +kernel
theorem d2_28 : decode method_3_code 28 = .ok (.iconst 4, 1) := by decide +kernel
theorem d2_29 : decode method_3_code 29 = .ok (.if_icmp .ne 7, 3) := by decide +kernel
theorem d2_32 : decode method_3_code 32 = .ok (.getstatic 28, 3) := by decide +kernel
theorem d2_35 : decode method_3_code 35 = .ok (.areturn, 1) := by decide +kernel
theorem d2_36 : decode method_3_code 36 = .ok (.iload_n 0, 1) := by decide +kernel
theorem d2_37 : decode method_3_code 37 = .ok (.iconst 5, 1) := by decide +kernel
theorem d2_38 : decode method_3_code 38 = .ok (.if_icmp .ne 7, 3) := by decide +kernel
theorem d2_41 : decode method_3_code 41 = .ok (.getstatic 31, 3) := by decide +kernel
theorem d2_44 : decode method_3_code 44 = .ok (.areturn, 1) := by decide +kernel
theorem d2_45 : decode method_3_code 45 = .ok (.iload_n 0, 1) := by decide +kernel
theorem d2_46 : decode method_3_code 46 = .ok (.bipush 6, 2) := by decide +kernel
theorem d2_48 : decode method_3_code 48 = .ok (.if_icmp .ne 7, 3) := by decide +kernel
theorem d2_51 : decode method_3_code 51 = .ok (.getstatic 34, 3) := by decide +kernel
theorem d2_54 : decode method_3_code 54 = .ok (.areturn, 1) := by decide +kernel
theorem d2_55 : decode method_3_code 55 = .ok (.iload_n 0, 1) := by decide +kernel
theorem d2_56 : decode method_3_code 56 = .ok (.bipush 7, 2) := by decide +kernel
theorem d2_58 : decode method_3_code 58 = .ok (.if_icmp .ne 7, 3) := by decide +kernel
theorem d2_61 : decode method_3_code 61 = .ok (.getstatic 37, 3) := by decide +kernel
theorem d2_64 : decode method_3_code 64 = .ok (.areturn, 1) := by decide +kernel
theorem d2_65 : decode method_3_code 65 = .ok (.iload_n 0, 1) := by decide +kernel
theorem d2_66 : decode method_3_code 66 = .ok (.bipush 8, 2) := by decide +kernel
theorem d2_68 : decode method_3_code 68 = .ok (.if_icmp .ne 7, 3) := by decide +kernel
theorem d2_71 : decode method_3_code 71 = .ok (.getstatic 40, 3) := by decide +kernel
theorem d2_74 : decode method_3_code 74 = .ok (.areturn, 1) := by decide +kernel
theorem d2_75 : decode method_3_code 75 = .ok (.iload_n 0, 1) := by decide +kernel
theorem d2_76 : decode method_3_code 76 = .ok (.bipush 9, 2) := by decide +kernel
theorem d2_78 : decode method_3_code 78 = .ok (.if_icmp .ne 7, 3) := by decide +kernel
theorem d2_81 : decode method_3_code 81 = .ok (.getstatic 43, 3) := by decide +kernel
theorem d2_84 : decode method_3_code 84 = .ok (.areturn, 1) := by decide +kernel
theorem d2_85 : decode method_3_code 85 = .ok (.iload_n 0, 1) := by decide +kernel
theorem d2_86 : decode method_3_code 86 = .ok (.bipush 10, 2) := by decide +kernel
theorem d2_88 : decode method_3_code 88 = .ok (.if_icmp .ne 7, 3) := by decide +kernel
theorem d2_91 : decode method_3_code 91 = .ok (.getstatic 46, 3) := by decide +kernel
theorem d2_94 : decode method_3_code 94 = .ok (.areturn, 1) := by decide +kernel
theorem d2_95 : decode method_3_code 95 = .ok (.iload_n 0, 1) := by decide +kernel
theorem d2_96 : decode method_3_code 96 = .ok (.bipush 11, 2) := by decide +kernel
theorem d2_98 : decode method_3_code 98 = .ok (.if_icmp .ne 7, 3) := by decide +kernel
theorem d2_101 : decode method_3_code 101 = .ok (.getstatic 49, 3) := by decide +kernel
theorem d2_104 : decode method_3_code 104 = .ok (.areturn, 1) := by decide +kernel
theorem d2_105 : decode method_3_code 105 = .ok (.iload_n 0, 1) := by decide +kernel
theorem d2_106 : decode method_3_code 106 = .ok (.bipush 12, 2) := by decide +kernel
theorem d2_108 : decode method_3_code 108 = .ok (.if_icmp .ne 7, 3) := by decide +kernel
theorem d2_111 : decode method_3_code 111 = .ok (.getstatic 37, 3) := by decide +kernel
theorem d2_114 : decode method_3_code 114 = .ok (.areturn, 1) := by decide +kernel
theorem d2_115 : decode method_3_code 115 = .ok (.aconst_null, 1) := by decide +kernel
theorem d2_116 : decode method_3_code 116 = .ok (.areturn, 1) := by decide +kernel
theorem own_pn2 : plainName "com/example/soundline/soundline/sql/TypeKindWithTagPinLaw" = true := by first | (simp [plainName, overriddenIn]; done) | decide +kernel
theorem own_ef2 (m : MethodId) (p1 : Int32) : entryFrame m #[(.int p1)] 1 = (mkF m 0 #[.val (.int p1)] []) := by first | (simp [entryFrame, mkF, argsToLocals, Value.category]; done) | rfl
def own_Q2 (Z : State) (p1 : Int32) (w0 w1 w2 w3 w4 w5 w6 w7 w8 w9 w10 : Addr) (h0 : Heap) (n0 : Nat) (v : Option Value) (h : Heap) (L : List Loc) : Prop := v = some (own_R w0 w1 w2 w3 w4 w5 w6 w7 w8 w9 w10 p1.toInt) ∧ Fr n0 L ∧ h = h0
set_option maxRecDepth 65536 in
set_option maxHeartbeats 40000000 in
theorem own_rm2 (l : Launch) (Z : State) (a0 : Array Value) (hw : ∀ d ∈ tables_1, d.before a0 Z = true) (ws : List Jvm.Cond) (p1 : Int32) (w0 w1 w2 w3 w4 w5 w6 w7 w8 w9 w10 : Addr) (h0 : Heap) (n0 : Nat) (Z0 : n0 ≤ h0.size) (S_SMALLINT : Sta Z h0 "com/example/soundline/soundline/sql/TypeKind" "SMALLINT" "Lcom/example/soundline/soundline/sql/TypeKind;" (.ref w0)) (S_INTEGER : Sta Z h0 "com/example/soundline/soundline/sql/TypeKind" "INTEGER" "Lcom/example/soundline/soundline/sql/TypeKind;" (.ref w1)) (S_BIGINT : Sta Z h0 "com/example/soundline/soundline/sql/TypeKind" "BIGINT" "Lcom/example/soundline/soundline/sql/TypeKind;" (.ref w2)) (S_NUMERIC : Sta Z h0 "com/example/soundline/soundline/sql/TypeKind" "NUMERIC" "Lcom/example/soundline/soundline/sql/TypeKind;" (.ref w3)) (S_DOUBLE_PRECISION : Sta Z h0 "com/example/soundline/soundline/sql/TypeKind" "DOUBLE_PRECISION" "Lcom/example/soundline/soundline/sql/TypeKind;" (.ref w4)) (S_VARCHAR : Sta Z h0 "com/example/soundline/soundline/sql/TypeKind" "VARCHAR" "Lcom/example/soundline/soundline/sql/TypeKind;" (.ref w5)) (S_BOOLEAN : Sta Z h0 "com/example/soundline/soundline/sql/TypeKind" "BOOLEAN" "Lcom/example/soundline/soundline/sql/TypeKind;" (.ref w6)) (S_DATE : Sta Z h0 "com/example/soundline/soundline/sql/TypeKind" "DATE" "Lcom/example/soundline/soundline/sql/TypeKind;" (.ref w7)) (S_TIME : Sta Z h0 "com/example/soundline/soundline/sql/TypeKind" "TIME" "Lcom/example/soundline/soundline/sql/TypeKind;" (.ref w8)) (S_TIMESTAMP : Sta Z h0 "com/example/soundline/soundline/sql/TypeKind" "TIMESTAMP" "Lcom/example/soundline/soundline/sql/TypeKind;" (.ref w9)) (S_BLOB : Sta Z h0 "com/example/soundline/soundline/sql/TypeKind" "BLOB" "Lcom/example/soundline/soundline/sql/TypeKind;" (.ref w10)) :
    MetFree l (⟨"com/example/soundline/soundline/sql/TypeKindWithTagPinLaw", "expected", "(I)Lcom/example/soundline/soundline/sql/TypeKind;"⟩ : MethodName) (head1 (Jvm.Cond.code (⟨"com/example/soundline/soundline/sql/TypeKindWithTagPinLaw", "expected", "(I)Lcom/example/soundline/soundline/sql/TypeKind;"⟩ : MethodName) method_3_code 1 (some (.object "com/example/soundline/soundline/sql/TypeKind")) :: ws) ({ frames := 0, cells := 0, slots := 0, locals := 0 } : Room)) (fun a U => a = #[(.int p1)] ∧ Z.Warmed39 U.vm ∧ U.heap = h0) (fun _ _ _ _ _ => True) (fun _ U o U' => ∃ v L, o = .returned v ∧ own_Q2 Z p1 w0 w1 w2 w3 w4 w5 w6 w7 w8 w9 w10 h0 n0 v U'.heap L ∧ FrameEnd U o U' L ({ frames := 0, cells := 0, slots := 0, locals := 0 } : Room).cells ({ frames := 0, cells := 0, slots := 0, locals := 0 } : Room).slots) := by
  refine MetFree.of_bodySF (plainFor_of_name own_pn2) hisR ?_
  intro p e s m args below meth c s₁ Bd hml0 hP hK
  obtain ⟨rfl, hZ, hh⟩ := hP
  have hx := Bd.exec
  have hby := Bd.bytes
  have hml : c.maxLocals = 1 := hml0
  have hown : s.vm.findClass "com/example/soundline/soundline/sql/TypeKindWithTagPinLaw" = some m.cls := findClass_of_methodNamed Bd.named
  have hnm := (name_of_methodNamed Bd.named Bd.method).1
  have X0 : Stand p l e ({ frames := 0, cells := 0, slots := 0, locals := 0 } : Room) s m #[(.int p1)] below meth c s₁ [] 0 0 := Stand.of_body Bd
  have e0 : s₁.heap = h0 := by rw [← hh, Bd.state]; rfl
  have N0 := Fr.nil n0
  show own_Fin p e below s (own_Q2 Z p1 w0 w1 w2 w3 w4 w5 w6 w7 w8 w9 w10 h0 n0) ({ frames := 0, cells := 0, slots := 0, locals := 0 } : Room).cells ({ frames := 0, cells := 0, slots := 0, locals := 0 } : Room).slots (s₁.setTop (entryFrame m #[(.int p1)] 1))
  refine own_go (s₁.setTop (mkF m 0 #[.val (.int p1)] [])) (fun t k => castTop (own_ef2 m p1) k) ?_
  refine own_go (s₁.setTop (mkF m 1 #[.val (.int p1)] [(.int p1)])) (fun _ k => XS.iloadN X0.here hx rfl (hb hby d2_0) rfl k) ?_
  refine own_go (s₁.setTop (mkF m 2 #[.val (.int p1)] [(.int (1 : Int32)), (.int p1)])) (fun _ k => XS.iconst X0.here hx rfl (hb hby d2_1) k) ?_
  by_cases hc2 : p1 = (1 : Int32)
  · have hz2 : ((p1).toInt = 1) := own_zeq hc2 rfl rfl
    refine own_go (s₁.setTop (mkF m 5 #[.val (.int p1)] [])) (fun _ k => XS.icmpNo X0.here hx rfl (hb hby d2_2) rfl (teq hc2).2 k) ?_
    obtain ⟨T1, X1, e1, st1⟩ := getS2 X0 hx hZ hown (host := "") (Or.inl (hw _ (List.mem_of_getElem? (i := 32) rfl))) Via.refl e0 S_INTEGER (g := (mkF m 5 #[.val (.int p1)] [])) rfl (hb hby d2_5)
    refine own_go (T1.setTop (mkF m 8 #[.val (.int p1)] [(.ref w1)])) (fun _ k => st1 _ k) ?_
    refine own_ret X1 (BodyLoose.notSynchronized Bd) (some (.ref w1)) (fun h => by rw [Bd.returns] at h; cases h) (fun fs hr => retOut X1 hx Bd.returns rfl (Or.inr (Or.inr (Or.inr (Or.inr ⟨rfl, rfl, rfl⟩)))) (hb hby d2_8) hr) (by decide) (by decide) ?_
    exact ⟨own_R1 w0 w1 w2 w3 w4 w5 w6 w7 w8 w9 w10 _ hz2, N0, e1⟩
  · have hz2 : ¬ ((p1).toInt = 1) := own_zneq hc2 rfl rfl
    refine own_go (s₁.setTop (mkF m 9 #[.val (.int p1)] [])) (fun _ k => XS.icmpYes X0.here hx rfl (pc0 := 2) (pc' := 9) rfl (hb hby d2_2) rfl (feq hc2).2 (by decide) (by decide) k) ?_
    refine own_go (s₁.setTop (mkF m 10 #[.val (.int p1)] [(.int p1)])) (fun _ k => XS.iloadN X0.here hx rfl (hb hby d2_9) rfl k) ?_
    refine own_go (s₁.setTop (mkF m 11 #[.val (.int p1)] [(.int (2 : Int32)), (.int p1)])) (fun _ k => XS.iconst X0.here hx rfl (hb hby d2_10) k) ?_
    by_cases hc11 : p1 = (2 : Int32)
    · have hz11 : ((p1).toInt = 2) := own_zeq hc11 rfl rfl
      refine own_go (s₁.setTop (mkF m 14 #[.val (.int p1)] [])) (fun _ k => XS.icmpNo X0.here hx rfl (hb hby d2_11) rfl (teq hc11).2 k) ?_
      obtain ⟨T2, X2, e2, st2⟩ := getS2 X0 hx hZ hown (host := "") (Or.inl (hw _ (List.mem_of_getElem? (i := 35) rfl))) Via.refl e0 S_VARCHAR (g := (mkF m 14 #[.val (.int p1)] [])) rfl (hb hby d2_14)
      refine own_go (T2.setTop (mkF m 17 #[.val (.int p1)] [(.ref w5)])) (fun _ k => st2 _ k) ?_
      refine own_ret X2 (BodyLoose.notSynchronized Bd) (some (.ref w5)) (fun h => by rw [Bd.returns] at h; cases h) (fun fs hr => retOut X2 hx Bd.returns rfl (Or.inr (Or.inr (Or.inr (Or.inr ⟨rfl, rfl, rfl⟩)))) (hb hby d2_17) hr) (by decide) (by decide) ?_
      exact ⟨own_R2 w0 w1 w2 w3 w4 w5 w6 w7 w8 w9 w10 _ hz11, N0, e2⟩
    · have hz11 : ¬ ((p1).toInt = 2) := own_zneq hc11 rfl rfl
      refine own_go (s₁.setTop (mkF m 18 #[.val (.int p1)] [])) (fun _ k => XS.icmpYes X0.here hx rfl (pc0 := 11) (pc' := 18) rfl (hb hby d2_11) rfl (feq hc11).2 (by decide) (by decide) k) ?_
      refine own_go (s₁.setTop (mkF m 19 #[.val (.int p1)] [(.int p1)])) (fun _ k => XS.iloadN X0.here hx rfl (hb hby d2_18) rfl k) ?_
      refine own_go (s₁.setTop (mkF m 20 #[.val (.int p1)] [(.int (3 : Int32)), (.int p1)])) (fun _ k => XS.iconst X0.here hx rfl (hb hby d2_19) k) ?_
      by_cases hc20 : p1 = (3 : Int32)
      · have hz20 : ((p1).toInt = 3) := own_zeq hc20 rfl rfl
        refine own_go (s₁.setTop (mkF m 23 #[.val (.int p1)] [])) (fun _ k => XS.icmpNo X0.here hx rfl (hb hby d2_20) rfl (teq hc20).2 k) ?_
        obtain ⟨T3, X3, e3, st3⟩ := getS2 X0 hx hZ hown (host := "") (Or.inl (hw _ (List.mem_of_getElem? (i := 29) rfl))) Via.refl e0 S_SMALLINT (g := (mkF m 23 #[.val (.int p1)] [])) rfl (hb hby d2_23)
        refine own_go (T3.setTop (mkF m 26 #[.val (.int p1)] [(.ref w0)])) (fun _ k => st3 _ k) ?_
        refine own_ret X3 (BodyLoose.notSynchronized Bd) (some (.ref w0)) (fun h => by rw [Bd.returns] at h; cases h) (fun fs hr => retOut X3 hx Bd.returns rfl (Or.inr (Or.inr (Or.inr (Or.inr ⟨rfl, rfl, rfl⟩)))) (hb hby d2_26) hr) (by decide) (by decide) ?_
        exact ⟨own_R3 w0 w1 w2 w3 w4 w5 w6 w7 w8 w9 w10 _ hz20, N0, e3⟩
      · have hz20 : ¬ ((p1).toInt = 3) := own_zneq hc20 rfl rfl
        refine own_go (s₁.setTop (mkF m 27 #[.val (.int p1)] [])) (fun _ k => XS.icmpYes X0.here hx rfl (pc0 := 20) (pc' := 27) rfl (hb hby d2_20) rfl (feq hc20).2 (by decide) (by decide) k) ?_
        refine own_go (s₁.setTop (mkF m 28 #[.val (.int p1)] [(.int p1)])) (fun _ k => XS.iloadN X0.here hx rfl (hb hby d2_27) rfl k) ?_
        refine own_go (s₁.setTop (mkF m 29 #[.val (.int p1)] [(.int (4 : Int32)), (.int p1)])) (fun _ k => XS.iconst X0.here hx rfl (hb hby d2_28) k) ?_
        by_cases hc29 : p1 = (4 : Int32)
        · have hz29 : ((p1).toInt = 4) := own_zeq hc29 rfl rfl
          refine own_go (s₁.setTop (mkF m 32 #[.val (.int p1)] [])) (fun _ k => XS.icmpNo X0.here hx rfl (hb hby d2_29) rfl (teq hc29).2 k) ?_
          obtain ⟨T4, X4, e4, st4⟩ := getS2 X0 hx hZ hown (host := "") (Or.inl (hw _ (List.mem_of_getElem? (i := 31) rfl))) Via.refl e0 S_BIGINT (g := (mkF m 32 #[.val (.int p1)] [])) rfl (hb hby d2_32)
          refine own_go (T4.setTop (mkF m 35 #[.val (.int p1)] [(.ref w2)])) (fun _ k => st4 _ k) ?_
          refine own_ret X4 (BodyLoose.notSynchronized Bd) (some (.ref w2)) (fun h => by rw [Bd.returns] at h; cases h) (fun fs hr => retOut X4 hx Bd.returns rfl (Or.inr (Or.inr (Or.inr (Or.inr ⟨rfl, rfl, rfl⟩)))) (hb hby d2_35) hr) (by decide) (by decide) ?_
          exact ⟨own_R4 w0 w1 w2 w3 w4 w5 w6 w7 w8 w9 w10 _ hz29, N0, e4⟩
        · have hz29 : ¬ ((p1).toInt = 4) := own_zneq hc29 rfl rfl
          refine own_go (s₁.setTop (mkF m 36 #[.val (.int p1)] [])) (fun _ k => XS.icmpYes X0.here hx rfl (pc0 := 29) (pc' := 36) rfl (hb hby d2_29) rfl (feq hc29).2 (by decide) (by decide) k) ?_
          refine own_go (s₁.setTop (mkF m 37 #[.val (.int p1)] [(.int p1)])) (fun _ k => XS.iloadN X0.here hx rfl (hb hby d2_36) rfl k) ?_
          refine own_go (s₁.setTop (mkF m 38 #[.val (.int p1)] [(.int (5 : Int32)), (.int p1)])) (fun _ k => XS.iconst X0.here hx rfl (hb hby d2_37) k) ?_
          by_cases hc38 : p1 = (5 : Int32)
          · have hz38 : ((p1).toInt = 5) := own_zeq hc38 rfl rfl
            refine own_go (s₁.setTop (mkF m 41 #[.val (.int p1)] [])) (fun _ k => XS.icmpNo X0.here hx rfl (hb hby d2_38) rfl (teq hc38).2 k) ?_
            obtain ⟨T5, X5, e5, st5⟩ := getS2 X0 hx hZ hown (host := "") (Or.inl (hw _ (List.mem_of_getElem? (i := 26) rfl))) Via.refl e0 S_NUMERIC (g := (mkF m 41 #[.val (.int p1)] [])) rfl (hb hby d2_41)
            refine own_go (T5.setTop (mkF m 44 #[.val (.int p1)] [(.ref w3)])) (fun _ k => st5 _ k) ?_
            refine own_ret X5 (BodyLoose.notSynchronized Bd) (some (.ref w3)) (fun h => by rw [Bd.returns] at h; cases h) (fun fs hr => retOut X5 hx Bd.returns rfl (Or.inr (Or.inr (Or.inr (Or.inr ⟨rfl, rfl, rfl⟩)))) (hb hby d2_44) hr) (by decide) (by decide) ?_
            exact ⟨own_R5 w0 w1 w2 w3 w4 w5 w6 w7 w8 w9 w10 _ hz38, N0, e5⟩
          · have hz38 : ¬ ((p1).toInt = 5) := own_zneq hc38 rfl rfl
            refine own_go (s₁.setTop (mkF m 45 #[.val (.int p1)] [])) (fun _ k => XS.icmpYes X0.here hx rfl (pc0 := 38) (pc' := 45) rfl (hb hby d2_38) rfl (feq hc38).2 (by decide) (by decide) k) ?_
            refine own_go (s₁.setTop (mkF m 46 #[.val (.int p1)] [(.int p1)])) (fun _ k => XS.iloadN X0.here hx rfl (hb hby d2_45) rfl k) ?_
            refine own_go (s₁.setTop (mkF m 48 #[.val (.int p1)] [(.int (6 : Int32)), (.int p1)])) (fun _ k => XS.bipush X0.here hx rfl (hb hby d2_46) k) ?_
            by_cases hc48 : p1 = (6 : Int32)
            · have hz48 : ((p1).toInt = 6) := own_zeq hc48 rfl rfl
              refine own_go (s₁.setTop (mkF m 51 #[.val (.int p1)] [])) (fun _ k => XS.icmpNo X0.here hx rfl (hb hby d2_48) rfl (teq hc48).2 k) ?_
              obtain ⟨T6, X6, e6, st6⟩ := getS2 X0 hx hZ hown (host := "") (Or.inl (hw _ (List.mem_of_getElem? (i := 28) rfl))) Via.refl e0 S_DOUBLE_PRECISION (g := (mkF m 51 #[.val (.int p1)] [])) rfl (hb hby d2_51)
              refine own_go (T6.setTop (mkF m 54 #[.val (.int p1)] [(.ref w4)])) (fun _ k => st6 _ k) ?_
              refine own_ret X6 (BodyLoose.notSynchronized Bd) (some (.ref w4)) (fun h => by rw [Bd.returns] at h; cases h) (fun fs hr => retOut X6 hx Bd.returns rfl (Or.inr (Or.inr (Or.inr (Or.inr ⟨rfl, rfl, rfl⟩)))) (hb hby d2_54) hr) (by decide) (by decide) ?_
              exact ⟨own_R6 w0 w1 w2 w3 w4 w5 w6 w7 w8 w9 w10 _ hz48, N0, e6⟩
            · have hz48 : ¬ ((p1).toInt = 6) := own_zneq hc48 rfl rfl
              refine own_go (s₁.setTop (mkF m 55 #[.val (.int p1)] [])) (fun _ k => XS.icmpYes X0.here hx rfl (pc0 := 48) (pc' := 55) rfl (hb hby d2_48) rfl (feq hc48).2 (by decide) (by decide) k) ?_
              refine own_go (s₁.setTop (mkF m 56 #[.val (.int p1)] [(.int p1)])) (fun _ k => XS.iloadN X0.here hx rfl (hb hby d2_55) rfl k) ?_
              refine own_go (s₁.setTop (mkF m 58 #[.val (.int p1)] [(.int (7 : Int32)), (.int p1)])) (fun _ k => XS.bipush X0.here hx rfl (hb hby d2_56) k) ?_
              by_cases hc58 : p1 = (7 : Int32)
              · have hz58 : ((p1).toInt = 7) := own_zeq hc58 rfl rfl
                refine own_go (s₁.setTop (mkF m 61 #[.val (.int p1)] [])) (fun _ k => XS.icmpNo X0.here hx rfl (hb hby d2_58) rfl (teq hc58).2 k) ?_
                obtain ⟨T7, X7, e7, st7⟩ := getS2 X0 hx hZ hown (host := "") (Or.inl (hw _ (List.mem_of_getElem? (i := 25) rfl))) Via.refl e0 S_TIMESTAMP (g := (mkF m 61 #[.val (.int p1)] [])) rfl (hb hby d2_61)
                refine own_go (T7.setTop (mkF m 64 #[.val (.int p1)] [(.ref w9)])) (fun _ k => st7 _ k) ?_
                refine own_ret X7 (BodyLoose.notSynchronized Bd) (some (.ref w9)) (fun h => by rw [Bd.returns] at h; cases h) (fun fs hr => retOut X7 hx Bd.returns rfl (Or.inr (Or.inr (Or.inr (Or.inr ⟨rfl, rfl, rfl⟩)))) (hb hby d2_64) hr) (by decide) (by decide) ?_
                exact ⟨own_R7 w0 w1 w2 w3 w4 w5 w6 w7 w8 w9 w10 _ hz58, N0, e7⟩
              · have hz58 : ¬ ((p1).toInt = 7) := own_zneq hc58 rfl rfl
                refine own_go (s₁.setTop (mkF m 65 #[.val (.int p1)] [])) (fun _ k => XS.icmpYes X0.here hx rfl (pc0 := 58) (pc' := 65) rfl (hb hby d2_58) rfl (feq hc58).2 (by decide) (by decide) k) ?_
                refine own_go (s₁.setTop (mkF m 66 #[.val (.int p1)] [(.int p1)])) (fun _ k => XS.iloadN X0.here hx rfl (hb hby d2_65) rfl k) ?_
                refine own_go (s₁.setTop (mkF m 68 #[.val (.int p1)] [(.int (8 : Int32)), (.int p1)])) (fun _ k => XS.bipush X0.here hx rfl (hb hby d2_66) k) ?_
                by_cases hc68 : p1 = (8 : Int32)
                · have hz68 : ((p1).toInt = 8) := own_zeq hc68 rfl rfl
                  refine own_go (s₁.setTop (mkF m 71 #[.val (.int p1)] [])) (fun _ k => XS.icmpNo X0.here hx rfl (hb hby d2_68) rfl (teq hc68).2 k) ?_
                  obtain ⟨T8, X8, e8, st8⟩ := getS2 X0 hx hZ hown (host := "") (Or.inl (hw _ (List.mem_of_getElem? (i := 27) rfl))) Via.refl e0 S_BLOB (g := (mkF m 71 #[.val (.int p1)] [])) rfl (hb hby d2_71)
                  refine own_go (T8.setTop (mkF m 74 #[.val (.int p1)] [(.ref w10)])) (fun _ k => st8 _ k) ?_
                  refine own_ret X8 (BodyLoose.notSynchronized Bd) (some (.ref w10)) (fun h => by rw [Bd.returns] at h; cases h) (fun fs hr => retOut X8 hx Bd.returns rfl (Or.inr (Or.inr (Or.inr (Or.inr ⟨rfl, rfl, rfl⟩)))) (hb hby d2_74) hr) (by decide) (by decide) ?_
                  exact ⟨own_R8 w0 w1 w2 w3 w4 w5 w6 w7 w8 w9 w10 _ hz68, N0, e8⟩
                · have hz68 : ¬ ((p1).toInt = 8) := own_zneq hc68 rfl rfl
                  refine own_go (s₁.setTop (mkF m 75 #[.val (.int p1)] [])) (fun _ k => XS.icmpYes X0.here hx rfl (pc0 := 68) (pc' := 75) rfl (hb hby d2_68) rfl (feq hc68).2 (by decide) (by decide) k) ?_
                  refine own_go (s₁.setTop (mkF m 76 #[.val (.int p1)] [(.int p1)])) (fun _ k => XS.iloadN X0.here hx rfl (hb hby d2_75) rfl k) ?_
                  refine own_go (s₁.setTop (mkF m 78 #[.val (.int p1)] [(.int (9 : Int32)), (.int p1)])) (fun _ k => XS.bipush X0.here hx rfl (hb hby d2_76) k) ?_
                  by_cases hc78 : p1 = (9 : Int32)
                  · have hz78 : ((p1).toInt = 9) := own_zeq hc78 rfl rfl
                    refine own_go (s₁.setTop (mkF m 81 #[.val (.int p1)] [])) (fun _ k => XS.icmpNo X0.here hx rfl (hb hby d2_78) rfl (teq hc78).2 k) ?_
                    obtain ⟨T9, X9, e9, st9⟩ := getS2 X0 hx hZ hown (host := "") (Or.inl (hw _ (List.mem_of_getElem? (i := 34) rfl))) Via.refl e0 S_BOOLEAN (g := (mkF m 81 #[.val (.int p1)] [])) rfl (hb hby d2_81)
                    refine own_go (T9.setTop (mkF m 84 #[.val (.int p1)] [(.ref w6)])) (fun _ k => st9 _ k) ?_
                    refine own_ret X9 (BodyLoose.notSynchronized Bd) (some (.ref w6)) (fun h => by rw [Bd.returns] at h; cases h) (fun fs hr => retOut X9 hx Bd.returns rfl (Or.inr (Or.inr (Or.inr (Or.inr ⟨rfl, rfl, rfl⟩)))) (hb hby d2_84) hr) (by decide) (by decide) ?_
                    exact ⟨own_R9 w0 w1 w2 w3 w4 w5 w6 w7 w8 w9 w10 _ hz78, N0, e9⟩
                  · have hz78 : ¬ ((p1).toInt = 9) := own_zneq hc78 rfl rfl
                    refine own_go (s₁.setTop (mkF m 85 #[.val (.int p1)] [])) (fun _ k => XS.icmpYes X0.here hx rfl (pc0 := 78) (pc' := 85) rfl (hb hby d2_78) rfl (feq hc78).2 (by decide) (by decide) k) ?_
                    refine own_go (s₁.setTop (mkF m 86 #[.val (.int p1)] [(.int p1)])) (fun _ k => XS.iloadN X0.here hx rfl (hb hby d2_85) rfl k) ?_
                    refine own_go (s₁.setTop (mkF m 88 #[.val (.int p1)] [(.int (10 : Int32)), (.int p1)])) (fun _ k => XS.bipush X0.here hx rfl (hb hby d2_86) k) ?_
                    by_cases hc88 : p1 = (10 : Int32)
                    · have hz88 : ((p1).toInt = 10) := own_zeq hc88 rfl rfl
                      refine own_go (s₁.setTop (mkF m 91 #[.val (.int p1)] [])) (fun _ k => XS.icmpNo X0.here hx rfl (hb hby d2_88) rfl (teq hc88).2 k) ?_
                      obtain ⟨T10, X10, e10, st10⟩ := getS2 X0 hx hZ hown (host := "") (Or.inl (hw _ (List.mem_of_getElem? (i := 33) rfl))) Via.refl e0 S_DATE (g := (mkF m 91 #[.val (.int p1)] [])) rfl (hb hby d2_91)
                      refine own_go (T10.setTop (mkF m 94 #[.val (.int p1)] [(.ref w7)])) (fun _ k => st10 _ k) ?_
                      refine own_ret X10 (BodyLoose.notSynchronized Bd) (some (.ref w7)) (fun h => by rw [Bd.returns] at h; cases h) (fun fs hr => retOut X10 hx Bd.returns rfl (Or.inr (Or.inr (Or.inr (Or.inr ⟨rfl, rfl, rfl⟩)))) (hb hby d2_94) hr) (by decide) (by decide) ?_
                      exact ⟨own_R10 w0 w1 w2 w3 w4 w5 w6 w7 w8 w9 w10 _ hz88, N0, e10⟩
                    · have hz88 : ¬ ((p1).toInt = 10) := own_zneq hc88 rfl rfl
                      refine own_go (s₁.setTop (mkF m 95 #[.val (.int p1)] [])) (fun _ k => XS.icmpYes X0.here hx rfl (pc0 := 88) (pc' := 95) rfl (hb hby d2_88) rfl (feq hc88).2 (by decide) (by decide) k) ?_
                      refine own_go (s₁.setTop (mkF m 96 #[.val (.int p1)] [(.int p1)])) (fun _ k => XS.iloadN X0.here hx rfl (hb hby d2_95) rfl k) ?_
                      refine own_go (s₁.setTop (mkF m 98 #[.val (.int p1)] [(.int (11 : Int32)), (.int p1)])) (fun _ k => XS.bipush X0.here hx rfl (hb hby d2_96) k) ?_
                      by_cases hc98 : p1 = (11 : Int32)
                      · have hz98 : ((p1).toInt = 11) := own_zeq hc98 rfl rfl
                        refine own_go (s₁.setTop (mkF m 101 #[.val (.int p1)] [])) (fun _ k => XS.icmpNo X0.here hx rfl (hb hby d2_98) rfl (teq hc98).2 k) ?_
                        obtain ⟨T11, X11, e11, st11⟩ := getS2 X0 hx hZ hown (host := "") (Or.inl (hw _ (List.mem_of_getElem? (i := 30) rfl))) Via.refl e0 S_TIME (g := (mkF m 101 #[.val (.int p1)] [])) rfl (hb hby d2_101)
                        refine own_go (T11.setTop (mkF m 104 #[.val (.int p1)] [(.ref w8)])) (fun _ k => st11 _ k) ?_
                        refine own_ret X11 (BodyLoose.notSynchronized Bd) (some (.ref w8)) (fun h => by rw [Bd.returns] at h; cases h) (fun fs hr => retOut X11 hx Bd.returns rfl (Or.inr (Or.inr (Or.inr (Or.inr ⟨rfl, rfl, rfl⟩)))) (hb hby d2_104) hr) (by decide) (by decide) ?_
                        exact ⟨own_R11 w0 w1 w2 w3 w4 w5 w6 w7 w8 w9 w10 _ hz98, N0, e11⟩
                      · have hz98 : ¬ ((p1).toInt = 11) := own_zneq hc98 rfl rfl
                        refine own_go (s₁.setTop (mkF m 105 #[.val (.int p1)] [])) (fun _ k => XS.icmpYes X0.here hx rfl (pc0 := 98) (pc' := 105) rfl (hb hby d2_98) rfl (feq hc98).2 (by decide) (by decide) k) ?_
                        refine own_go (s₁.setTop (mkF m 106 #[.val (.int p1)] [(.int p1)])) (fun _ k => XS.iloadN X0.here hx rfl (hb hby d2_105) rfl k) ?_
                        refine own_go (s₁.setTop (mkF m 108 #[.val (.int p1)] [(.int (12 : Int32)), (.int p1)])) (fun _ k => XS.bipush X0.here hx rfl (hb hby d2_106) k) ?_
                        by_cases hc108 : p1 = (12 : Int32)
                        · have hz108 : ((p1).toInt = 12) := own_zeq hc108 rfl rfl
                          refine own_go (s₁.setTop (mkF m 111 #[.val (.int p1)] [])) (fun _ k => XS.icmpNo X0.here hx rfl (hb hby d2_108) rfl (teq hc108).2 k) ?_
                          obtain ⟨T12, X12, e12, st12⟩ := getS2 X0 hx hZ hown (host := "") (Or.inl (hw _ (List.mem_of_getElem? (i := 25) rfl))) Via.refl e0 S_TIMESTAMP (g := (mkF m 111 #[.val (.int p1)] [])) rfl (hb hby d2_111)
                          refine own_go (T12.setTop (mkF m 114 #[.val (.int p1)] [(.ref w9)])) (fun _ k => st12 _ k) ?_
                          refine own_ret X12 (BodyLoose.notSynchronized Bd) (some (.ref w9)) (fun h => by rw [Bd.returns] at h; cases h) (fun fs hr => retOut X12 hx Bd.returns rfl (Or.inr (Or.inr (Or.inr (Or.inr ⟨rfl, rfl, rfl⟩)))) (hb hby d2_114) hr) (by decide) (by decide) ?_
                          exact ⟨own_R12 w0 w1 w2 w3 w4 w5 w6 w7 w8 w9 w10 _ hz108, N0, e12⟩
                        · have hz108 : ¬ ((p1).toInt = 12) := own_zneq hc108 rfl rfl
                          refine own_go (s₁.setTop (mkF m 115 #[.val (.int p1)] [])) (fun _ k => XS.icmpYes X0.here hx rfl (pc0 := 108) (pc' := 115) rfl (hb hby d2_108) rfl (feq hc108).2 (by decide) (by decide) k) ?_
                          refine own_go (s₁.setTop (mkF m 116 #[.val (.int p1)] [.null])) (fun _ k => XS.aconstNull X0.here hx rfl (hb hby d2_115) k) ?_
                          refine own_ret X0 (BodyLoose.notSynchronized Bd) (some .null) (fun h => by rw [Bd.returns] at h; cases h) (fun fs hr => retOut X0 hx Bd.returns rfl (Or.inr (Or.inr (Or.inr (Or.inr ⟨rfl, rfl, rfl⟩)))) (hb hby d2_116) hr) (by decide) (by decide) ?_
                          exact ⟨own_Rn w0 w1 w2 w3 w4 w5 w6 w7 w8 w9 w10 _ hz2 hz11 hz20 hz29 hz38 hz48 hz58 hz68 hz78 hz88 hz98 hz108, N0, e0⟩
theorem own_pn0 : plainName "com/example/soundline/soundline/sql/TypeKindWithTagPinLaw" = true := by first | (simp [plainName, overriddenIn]; done) | decide +kernel
theorem own_ef0 (m : MethodId) (p1 : Int32) (p2 : Int32) : entryFrame m #[(.int p1), (.int p2)] maxLocals = (mkF m 0 #[.val (.int p1), .val (.int p2), .unset] []) := by first | (simp [entryFrame, mkF, argsToLocals, Value.category, maxLocals]; done) | rfl
def own_Q0 (Z : State) (p1 : Int32) (p2 : Int32) (w0 w1 w2 w3 w4 w5 w6 w7 w8 w9 w10 ka : Addr) (cl : Cell) (h0 : Heap) (n0 : Nat) (v : Option Value) (h : Heap) (L : List Loc) : Prop := v = some (.int (1 : Int32)) ∧ Fr n0 L
set_option maxRecDepth 65536 in
set_option maxHeartbeats 40000000 in
theorem own_rm0 (l : Launch) (Z : State) (a0 : Array Value) (hw : ∀ d ∈ tables_1, d.before a0 Z = true) (ws : List Jvm.Cond) (p1 : Int32) (p2 : Int32) (w0 w1 w2 w3 w4 w5 w6 w7 w8 w9 w10 ka : Addr) (cl : Cell) (h0 : Heap) (n0 : Nat) (Z0 : n0 ≤ h0.size) (S_KINDS : Sta Z h0 "com/example/soundline/soundline/sql/TypeKind" "KINDS" "[Lcom/example/soundline/soundline/sql/TypeKind;" (.ref ka)) (Ar : Arr Z h0 ka cl (.object "com/example/soundline/soundline/sql/TypeKind")) (hlen : cl.slots.size.toInt32 = (11 : Int32)) (el0 : ¬ ((0 : Int32) < 0 ∨ cl.slots.size ≤ (0 : Int32).toNatClampNeg) ∧ cl.slots[(0 : Int32).toNatClampNeg]? = some (.ref w0)) (el1 : ¬ ((1 : Int32) < 0 ∨ cl.slots.size ≤ (1 : Int32).toNatClampNeg) ∧ cl.slots[(1 : Int32).toNatClampNeg]? = some (.ref w1)) (el2 : ¬ ((2 : Int32) < 0 ∨ cl.slots.size ≤ (2 : Int32).toNatClampNeg) ∧ cl.slots[(2 : Int32).toNatClampNeg]? = some (.ref w2)) (el3 : ¬ ((3 : Int32) < 0 ∨ cl.slots.size ≤ (3 : Int32).toNatClampNeg) ∧ cl.slots[(3 : Int32).toNatClampNeg]? = some (.ref w3)) (el4 : ¬ ((4 : Int32) < 0 ∨ cl.slots.size ≤ (4 : Int32).toNatClampNeg) ∧ cl.slots[(4 : Int32).toNatClampNeg]? = some (.ref w4)) (el5 : ¬ ((5 : Int32) < 0 ∨ cl.slots.size ≤ (5 : Int32).toNatClampNeg) ∧ cl.slots[(5 : Int32).toNatClampNeg]? = some (.ref w5)) (el6 : ¬ ((6 : Int32) < 0 ∨ cl.slots.size ≤ (6 : Int32).toNatClampNeg) ∧ cl.slots[(6 : Int32).toNatClampNeg]? = some (.ref w6)) (el7 : ¬ ((7 : Int32) < 0 ∨ cl.slots.size ≤ (7 : Int32).toNatClampNeg) ∧ cl.slots[(7 : Int32).toNatClampNeg]? = some (.ref w7)) (el8 : ¬ ((8 : Int32) < 0 ∨ cl.slots.size ≤ (8 : Int32).toNatClampNeg) ∧ cl.slots[(8 : Int32).toNatClampNeg]? = some (.ref w8)) (el9 : ¬ ((9 : Int32) < 0 ∨ cl.slots.size ≤ (9 : Int32).toNatClampNeg) ∧ cl.slots[(9 : Int32).toNatClampNeg]? = some (.ref w9)) (el10 : ¬ ((10 : Int32) < 0 ∨ cl.slots.size ≤ (10 : Int32).toNatClampNeg) ∧ cl.slots[(10 : Int32).toNatClampNeg]? = some (.ref w10)) (Ft0 : Fld Z h0 w0 "com/example/soundline/soundline/sql/TypeKind" "tag" "I" (.int (3 : Int32))) (Fb0 : Fld Z h0 w0 "com/example/soundline/soundline/sql/TypeKind" "bareTag" "I" (.int (0 : Int32))) (Ft1 : Fld Z h0 w1 "com/example/soundline/soundline/sql/TypeKind" "tag" "I" (.int (1 : Int32))) (Fb1 : Fld Z h0 w1 "com/example/soundline/soundline/sql/TypeKind" "bareTag" "I" (.int (0 : Int32))) (Ft2 : Fld Z h0 w2 "com/example/soundline/soundline/sql/TypeKind" "tag" "I" (.int (4 : Int32))) (Fb2 : Fld Z h0 w2 "com/example/soundline/soundline/sql/TypeKind" "bareTag" "I" (.int (0 : Int32))) (Ft3 : Fld Z h0 w3 "com/example/soundline/soundline/sql/TypeKind" "tag" "I" (.int (5 : Int32))) (Fb3 : Fld Z h0 w3 "com/example/soundline/soundline/sql/TypeKind" "bareTag" "I" (.int (0 : Int32))) (Ft4 : Fld Z h0 w4 "com/example/soundline/soundline/sql/TypeKind" "tag" "I" (.int (6 : Int32))) (Fb4 : Fld Z h0 w4 "com/example/soundline/soundline/sql/TypeKind" "bareTag" "I" (.int (0 : Int32))) (Ft5 : Fld Z h0 w5 "com/example/soundline/soundline/sql/TypeKind" "tag" "I" (.int (2 : Int32))) (Fb5 : Fld Z h0 w5 "com/example/soundline/soundline/sql/TypeKind" "bareTag" "I" (.int (0 : Int32))) (Ft6 : Fld Z h0 w6 "com/example/soundline/soundline/sql/TypeKind" "tag" "I" (.int (9 : Int32))) (Fb6 : Fld Z h0 w6 "com/example/soundline/soundline/sql/TypeKind" "bareTag" "I" (.int (0 : Int32))) (Ft7 : Fld Z h0 w7 "com/example/soundline/soundline/sql/TypeKind" "tag" "I" (.int (10 : Int32))) (Fb7 : Fld Z h0 w7 "com/example/soundline/soundline/sql/TypeKind" "bareTag" "I" (.int (0 : Int32))) (Ft8 : Fld Z h0 w8 "com/example/soundline/soundline/sql/TypeKind" "tag" "I" (.int (11 : Int32))) (Fb8 : Fld Z h0 w8 "com/example/soundline/soundline/sql/TypeKind" "bareTag" "I" (.int (0 : Int32))) (Ft9 : Fld Z h0 w9 "com/example/soundline/soundline/sql/TypeKind" "tag" "I" (.int (12 : Int32))) (Fb9 : Fld Z h0 w9 "com/example/soundline/soundline/sql/TypeKind" "bareTag" "I" (.int (7 : Int32))) (Ft10 : Fld Z h0 w10 "com/example/soundline/soundline/sql/TypeKind" "tag" "I" (.int (8 : Int32))) (Fb10 : Fld Z h0 w10 "com/example/soundline/soundline/sql/TypeKind" "bareTag" "I" (.int (0 : Int32))) (S_SMALLINT : Sta Z h0 "com/example/soundline/soundline/sql/TypeKind" "SMALLINT" "Lcom/example/soundline/soundline/sql/TypeKind;" (.ref w0)) (S_INTEGER : Sta Z h0 "com/example/soundline/soundline/sql/TypeKind" "INTEGER" "Lcom/example/soundline/soundline/sql/TypeKind;" (.ref w1)) (S_BIGINT : Sta Z h0 "com/example/soundline/soundline/sql/TypeKind" "BIGINT" "Lcom/example/soundline/soundline/sql/TypeKind;" (.ref w2)) (S_NUMERIC : Sta Z h0 "com/example/soundline/soundline/sql/TypeKind" "NUMERIC" "Lcom/example/soundline/soundline/sql/TypeKind;" (.ref w3)) (S_DOUBLE_PRECISION : Sta Z h0 "com/example/soundline/soundline/sql/TypeKind" "DOUBLE_PRECISION" "Lcom/example/soundline/soundline/sql/TypeKind;" (.ref w4)) (S_VARCHAR : Sta Z h0 "com/example/soundline/soundline/sql/TypeKind" "VARCHAR" "Lcom/example/soundline/soundline/sql/TypeKind;" (.ref w5)) (S_BOOLEAN : Sta Z h0 "com/example/soundline/soundline/sql/TypeKind" "BOOLEAN" "Lcom/example/soundline/soundline/sql/TypeKind;" (.ref w6)) (S_DATE : Sta Z h0 "com/example/soundline/soundline/sql/TypeKind" "DATE" "Lcom/example/soundline/soundline/sql/TypeKind;" (.ref w7)) (S_TIME : Sta Z h0 "com/example/soundline/soundline/sql/TypeKind" "TIME" "Lcom/example/soundline/soundline/sql/TypeKind;" (.ref w8)) (S_TIMESTAMP : Sta Z h0 "com/example/soundline/soundline/sql/TypeKind" "TIMESTAMP" "Lcom/example/soundline/soundline/sql/TypeKind;" (.ref w9)) (S_BLOB : Sta Z h0 "com/example/soundline/soundline/sql/TypeKind" "BLOB" "Lcom/example/soundline/soundline/sql/TypeKind;" (.ref w10)) :
    MetFree l x (head1 (Jvm.Cond.code x code maxLocals ret :: ws) room_1) (fun a U => a = #[(.int p1), (.int p2)] ∧ Z.Warmed39 U.vm ∧ U.heap = h0) (fun _ _ _ _ _ => True) (fun _ U o U' => ∃ v L, o = .returned v ∧ own_Q0 Z p1 p2 w0 w1 w2 w3 w4 w5 w6 w7 w8 w9 w10 ka cl h0 n0 v U'.heap L ∧ FrameEnd U o U' L room_1.cells room_1.slots) := by
  refine MetFree.of_bodySF (plainFor_of_name own_pn0) hisR ?_
  intro p e s m args below meth c s₁ Bd hml0 hP hK
  obtain ⟨rfl, hZ, hh⟩ := hP
  have hx := Bd.exec
  have hby := Bd.bytes
  have hml : c.maxLocals = 3 := hml0
  have hown : s.vm.findClass "com/example/soundline/soundline/sql/TypeKindWithTagPinLaw" = some m.cls := findClass_of_methodNamed Bd.named
  have hnm := (name_of_methodNamed Bd.named Bd.method).1
  have X0 : Stand p l e room_1 s m #[(.int p1), (.int p2)] below meth c s₁ [] 0 0 := Stand.of_body Bd
  have e0 : s₁.heap = h0 := by rw [← hh, Bd.state]; rfl
  have N0 := Fr.nil n0
  have J16 : ∀ (T : State) (lc : List Loc) (X : Stand p l e room_1 s m #[(.int p1), (.int p2)] below meth c T lc 0 0) (eT : T.heap = h0) (N : Fr n0 lc) (t : Int32), own_Fin p e below s (own_Q0 Z p1 p2 w0 w1 w2 w3 w4 w5 w6 w7 w8 w9 w10 ka cl h0 n0) room_1.cells room_1.slots (T.setTop (mkF m 16 #[.val (.int p1), .val (.int p2), .unset] [(.int t)])) := by
    intro T lc X eT N t 
    refine own_go (T.setTop (mkF m 17 #[.val (.int p1), .val (.int p2), .val (.int t)] [])) (fun _ k => XS.istoreN X.here hx rfl (hb hby at_16) rfl (l' := #[.val (.int p1), .val (.int p2), .val (.int t)]) rfl k) ?_
    refine own_go (T.setTop (mkF m 18 #[.val (.int p1), .val (.int p2), .val (.int t)] [(.int t)])) (fun _ k => XS.iloadN X.here hx rfl (hb hby at_17) rfl k) ?_
    obtain ⟨_, _, ⟨T1, L1, k1, n1⟩, -, X1, ⟨Lc1, hQ1, l1, y1, z1⟩, st1⟩ := Jvm.LawKit.callS X hx (y := (⟨"com/example/soundline/soundline/sql/TypeKind", "withTag", "(I)Lcom/example/soundline/soundline/sql/TypeKind;"⟩ : MethodName)) hown (mvT hZ (hw _ (List.mem_of_getElem? (i := 0) rfl))) (mvT hZ (hw _ (List.mem_of_getElem? (i := 1) rfl))) (mvT hZ (hw _ (List.mem_of_getElem? (i := 2) rfl))) (mvT hZ (hw _ (List.mem_of_getElem? (i := 3) rfl))) (by decide) (backOf (W := 0) (own_rm1 l Z a0 hw [] t w0 w1 w2 w3 w4 w5 w6 w7 w8 w9 w10 ka cl h0 n0 Z0 S_KINDS Ar hlen el0 el1 el2 el3 el4 el5 el6 el7 el8 el9 el10 Ft0 Fb0 Ft1 Fb1 Ft2 Fb2 Ft3 Fb3 Ft4 Fb4 Ft5 Fb5 Ft6 Fb6 Ft7 Fb7 Ft8 Fb8 Ft9 Fb9 Ft10 Fb10) hZ (hw _ (List.mem_of_getElem? (i := 3) rfl)) (hw _ (List.mem_of_getElem? (i := 2) rfl)) (by decide) (by decide)) (g := (mkF m 18 #[.val (.int p1), .val (.int p2), .val (.int t)] [(.int t)])) rfl (by rw [hml]; rfl) (argsL := [(.int t)]) (rest := []) (lenOf own_pd0 rfl) rfl (by show 2 * 0 + _ ≤ _; exact Nat.le_of_eq rfl) (hb hby at_18) (fun _ _ => ⟨rfl, eT, (by decide : 0 + 0 ≤ _), (by decide : 0 + 0 ≤ _)⟩)
    dsimp only [Pt.U, Pt.locs, Pt.cells, Pt.slots] at X1 l1 y1 z1 st1 hQ1
    subst l1 y1 z1
    obtain ⟨rfl, N1q, e1⟩ := hQ1
    have N1 := Fr.app N N1q
    refine own_go (T1.setTop (mkF m 21 #[.val (.int p1), .val (.int p2), .val (.int t)] [(own_R w0 w1 w2 w3 w4 w5 w6 w7 w8 w9 w10 t.toInt)])) (fun _ k => st1 _ k) ?_
    refine own_go (T1.setTop (mkF m 22 #[.val (.int p1), .val (.int p2), .val (.int t)] [(.int t), (own_R w0 w1 w2 w3 w4 w5 w6 w7 w8 w9 w10 t.toInt)])) (fun _ k => XS.iloadN X1.here hx rfl (hb hby at_21) rfl k) ?_
    obtain ⟨_, _, ⟨T2, L2, k2, n2⟩, -, X2, ⟨Lc2, hQ2, l2, y2, z2⟩, st2⟩ := Jvm.LawKit.callS X1 hx (y := (⟨"com/example/soundline/soundline/sql/TypeKindWithTagPinLaw", "expected", "(I)Lcom/example/soundline/soundline/sql/TypeKind;"⟩ : MethodName)) hown (mvT hZ (hw _ (List.mem_of_getElem? (i := 21) rfl))) (mvT hZ (hw _ (List.mem_of_getElem? (i := 22) rfl))) (mvT hZ (hw _ (List.mem_of_getElem? (i := 23) rfl))) (mvT hZ (hw _ (List.mem_of_getElem? (i := 24) rfl))) (by decide) (backOf (W := 1) (own_rm2 l Z a0 hw [] t w0 w1 w2 w3 w4 w5 w6 w7 w8 w9 w10 h0 n0 Z0 S_SMALLINT S_INTEGER S_BIGINT S_NUMERIC S_DOUBLE_PRECISION S_VARCHAR S_BOOLEAN S_DATE S_TIME S_TIMESTAMP S_BLOB) hZ (hw _ (List.mem_of_getElem? (i := 24) rfl)) (hw _ (List.mem_of_getElem? (i := 23) rfl)) (by decide) (by decide)) (g := (mkF m 22 #[.val (.int p1), .val (.int p2), .val (.int t)] [(.int t), (own_R w0 w1 w2 w3 w4 w5 w6 w7 w8 w9 w10 t.toInt)])) rfl (by rw [hml]; rfl) (argsL := [(.int t)]) (rest := [(own_R w0 w1 w2 w3 w4 w5 w6 w7 w8 w9 w10 t.toInt)]) (lenOf own_pd0 rfl) rfl (by show 2 * 0 + (Value.category (own_R w0 w1 w2 w3 w4 w5 w6 w7 w8 w9 w10 t.toInt) + 0) ≤ 1; rw [own_Rcat]; exact Nat.le_refl 1) (hb hby at_22) (fun _ _ => ⟨rfl, e1, (by decide : 0 + 0 ≤ _), (by decide : 0 + 0 ≤ _)⟩)
    dsimp only [Pt.U, Pt.locs, Pt.cells, Pt.slots] at X2 l2 y2 z2 st2 hQ2
    subst l2 y2 z2
    obtain ⟨rfl, N2q, e2⟩ := hQ2
    have N2 := Fr.app N1 N2q
    refine own_go (T2.setTop (mkF m 25 #[.val (.int p1), .val (.int p2), .val (.int t)] [(own_R w0 w1 w2 w3 w4 w5 w6 w7 w8 w9 w10 t.toInt), (own_R w0 w1 w2 w3 w4 w5 w6 w7 w8 w9 w10 t.toInt)])) (fun _ k => st2 _ k) ?_
    refine own_go (T2.setTop (mkF m 28 #[.val (.int p1), .val (.int p2), .val (.int t)] [])) (fun _ k => Jvm.RoadKit.acmp (g := (mkF m 25 #[.val (.int p1), .val (.int p2), .val (.int t)] [(own_R w0 w1 w2 w3 w4 w5 w6 w7 w8 w9 w10 t.toInt), (own_R w0 w1 w2 w3 w4 w5 w6 w7 w8 w9 w10 t.toInt)])) X2 hx rfl (own_Rref w0 w1 w2 w3 w4 w5 w6 w7 w8 w9 w10 _) (own_Rref w0 w1 w2 w3 w4 w5 w6 w7 w8 w9 w10 _) (pc0 := 25) (pc' := 28) (same := true) rfl (hb hby at_25) rfl (decide_eq_true rfl) (by decide) (by decide) k) ?_
    refine own_go (T2.setTop (mkF m 29 #[.val (.int p1), .val (.int p2), .val (.int t)] [(.int (1 : Int32))])) (fun _ k => XS.iconst X2.here hx rfl (hb hby at_28) k) ?_
    refine own_go (T2.setTop (mkF m 33 #[.val (.int p1), .val (.int p2), .val (.int t)] [(.int (1 : Int32))])) (fun _ k => XS.goto X2.here hx rfl (pc0 := 29) (pc' := 33) rfl (hb hby at_29) (by decide) (by decide) k) ?_
    refine own_ret X2 (BodyLoose.notSynchronized Bd) (some (.int (1 : Int32))) (fun h => by rw [Bd.returns] at h; cases h) (fun fs hr => retN X2 hx (t := .boolean) Bd.returns (by simp) (hb hby at_33) hr) (by decide) (by decide) ?_
    exact ⟨rfl, N2⟩
  show own_Fin p e below s (own_Q0 Z p1 p2 w0 w1 w2 w3 w4 w5 w6 w7 w8 w9 w10 ka cl h0 n0) room_1.cells room_1.slots (s₁.setTop (entryFrame m #[(.int p1), (.int p2)] maxLocals))
  refine own_go (s₁.setTop (mkF m 0 #[.val (.int p1), .val (.int p2), .unset] [])) (fun t k => castTop (own_ef0 m p1 p2) k) ?_
  refine own_go (s₁.setTop (mkF m 1 #[.val (.int p1), .val (.int p2), .unset] [(.int p2)])) (fun _ k => XS.iloadN X0.here hx rfl (hb hby at_0) rfl k) ?_
  refine own_go (s₁.setTop (mkF m 2 #[.val (.int p1), .val (.int p2), .unset] [(.int (1 : Int32)), (.int p2)])) (fun _ k => XS.iconst X0.here hx rfl (hb hby at_1) k) ?_
  refine own_go (s₁.setTop (mkF m 3 #[.val (.int p1), .val (.int p2), .unset] [(.int (p2 &&& (1 : Int32)))])) (fun _ k => XS.iand X0.here hx rfl (hb hby at_2) rfl k) ?_
  by_cases hc3 : (p2 &&& (1 : Int32)) = (0 : Int32)
  · have hz3 : (((p2 &&& (1 : Int32))).toInt = 0) := own_zeq hc3 rfl rfl
    refine own_go (s₁.setTop (mkF m 10 #[.val (.int p1), .val (.int p2), .unset] [])) (fun _ k => XS.ifYes X0.here hx rfl (pc0 := 3) (pc' := 10) rfl (hb hby at_3) rfl ((if0 _ _).trans (teq hc3).1) (by decide) (by decide) k) ?_
    refine own_go (s₁.setTop (mkF m 11 #[.val (.int p1), .val (.int p2), .unset] [(.int p1)])) (fun _ k => XS.iloadN X0.here hx rfl (hb hby at_10) rfl k) ?_
    refine own_go (s₁.setTop (mkF m 13 #[.val (.int p1), .val (.int p2), .unset] [(.int (15 : Int32)), (.int p1)])) (fun _ k => XS.bipush X0.here hx rfl (hb hby at_11) k) ?_
    refine own_go (s₁.setTop (mkF m 14 #[.val (.int p1), .val (.int p2), .unset] [(.int (p1 &&& (15 : Int32)))])) (fun _ k => XS.iand X0.here hx rfl (hb hby at_13) rfl k) ?_
    refine own_go (s₁.setTop (mkF m 15 #[.val (.int p1), .val (.int p2), .unset] [(.int (1 : Int32)), (.int (p1 &&& (15 : Int32)))])) (fun _ k => XS.iconst X0.here hx rfl (hb hby at_14) k) ?_
    refine own_go (s₁.setTop (mkF m 16 #[.val (.int p1), .val (.int p2), .unset] [(.int ((p1 &&& (15 : Int32)) - (1 : Int32)))])) (fun _ k => XS.isub X0.here hx rfl (hb hby at_15) rfl k) ?_
    exact J16 _ _ X0 e0 N0 _
  · have hz3 : ¬ (((p2 &&& (1 : Int32))).toInt = 0) := own_zneq hc3 rfl rfl
    refine own_go (s₁.setTop (mkF m 6 #[.val (.int p1), .val (.int p2), .unset] [])) (fun _ k => XS.ifNo X0.here hx rfl (hb hby at_3) rfl ((if0 _ _).trans (feq hc3).1) k) ?_
    refine own_go (s₁.setTop (mkF m 7 #[.val (.int p1), .val (.int p2), .unset] [(.int p1)])) (fun _ k => XS.iloadN X0.here hx rfl (hb hby at_6) rfl k) ?_
    refine own_go (s₁.setTop (mkF m 16 #[.val (.int p1), .val (.int p2), .unset] [(.int p1)])) (fun _ k => XS.goto X0.here hx rfl (pc0 := 7) (pc' := 16) rfl (hb hby at_7) (by decide) (by decide) k) ?_
    exact J16 _ _ X0 e0 N0 _
set_option maxRecDepth 65536 in
set_option maxHeartbeats 40000000 in
theorem own_comes {Post : Tables → Env → Array Value → State → Outcome → State → Prop} (hpost : ∀ tb e args s v u, (limb_1_1.after args s (.returned v) u = true ∧ limb_1_2.after args s (.returned v) u = true ∧ True) → FrameEnd s (.returned v) u (Jvm.fieldLocs frame_1_writes args s ++ Jvm.arrayLocs frame_1_arrays args s ++ Jvm.staticLocs frame_1_statics s) 0 0 → Post tb e args s (.returned v) u) :
    ArmFor flags0 classFile x code maxLocals ret World_1 tables_1 room_1 Calls_1 rest_1 Pre_1 Post := by
  intro l hfl _ _ p e ha hc hk s m args below hf hA hF happ hP
  obtain ⟨hcalls, hrest, hpre⟩ := hP
  obtain ⟨-, -, -, hnamed, -, -, -, hat⟩ := (Spec.applies_iff hf).mp happ
  obtain ⟨hg, hn⟩ := and_e (Cond.before_iff.mp (show (Jvm.Cond.and given_1 narrow_1).before args s = true from hpre))
  obtain ⟨hq0, hr0⟩ := and_e hg
  obtain ⟨hq1, hr1⟩ := and_e hr0
  obtain ⟨w0, w1, rfl⟩ : ∃ w0 w1 : Value, args = #[w0, w1] := by
    have hs : args.size = 2 := by simpa [Cond.value, given_1] using hq0
    obtain ⟨L⟩ := args
    match L, hs with
    | [w0, w1], _ => exact ⟨w0, w1, rfl⟩
  have hw := fun d (hd : d ∈ tables_1) => atoms_spec (ws := Jvm.Cond.code x code maxLocals ret :: tables_1) hat d (List.mem_cons_of_mem _ hd)
  have hfit : Fit s := fun {y c} hc i hi => by
    obtain ⟨ha, rfl⟩ := Array.getElem?_eq_some_iff.mp hc
    have q := List.all_eq_true.mp ((Array.all_eq_true_iff_forall_mem.mp hF) _ (Array.getElem_mem ha)) i (List.mem_range.mpr hi)
    simpa [Array.getElem?_eq_getElem hi] using q
  obtain ⟨i0, ei0⟩ := is_v hq1
  obtain rfl : w0 = (.int i0) := Option.some.inj ei0
  obtain ⟨i1, ei1⟩ := is_v hr1
  obtain rfl : w1 = (.int i1) := Option.some.inj ei1
  obtain ⟨nn0, nr0⟩ := and_e hn
  obtain ⟨nn1, nr1⟩ := and_e nr0
  obtain ⟨nn2, nr2⟩ := and_e nr1
  obtain ⟨nn3, nr3⟩ := and_e nr2
  obtain ⟨nn4, nr4⟩ := and_e nr3
  obtain ⟨nn5, nr5⟩ := and_e nr4
  obtain ⟨nn6, nr6⟩ := and_e nr5
  obtain ⟨nn7, nr7⟩ := and_e nr6
  obtain ⟨nn8, nr8⟩ := and_e nr7
  obtain ⟨nn9, nr9⟩ := and_e nr8
  obtain ⟨nn10, nr10⟩ := and_e nr9
  obtain ⟨nn11, nr11⟩ := and_e nr10
  obtain ⟨nn12, nr12⟩ := and_e nr11
  obtain ⟨nn13, nr13⟩ := and_e nr12
  obtain ⟨nn14, nr14⟩ := and_e nr13
  obtain ⟨nn15, nr15⟩ := and_e nr14
  obtain ⟨nn16, nr16⟩ := and_e nr15
  obtain ⟨nn17, nr17⟩ := and_e nr16
  obtain ⟨nn18, nr18⟩ := and_e nr17
  obtain ⟨nn19, nr19⟩ := and_e nr18
  obtain ⟨nn20, nr20⟩ := and_e nr19
  obtain ⟨nn21, nr21⟩ := and_e nr20
  obtain ⟨nn22, nr22⟩ := and_e nr21
  obtain ⟨nn23, nr23⟩ := and_e nr22
  obtain ⟨nn24, nr24⟩ := and_e nr23
  obtain ⟨nn25, nr25⟩ := and_e nr24
  obtain ⟨nn26, nr26⟩ := and_e nr25
  obtain ⟨nn27, nr27⟩ := and_e nr26
  obtain ⟨nn28, nr28⟩ := and_e nr27
  obtain ⟨nn29, nr29⟩ := and_e nr28
  obtain ⟨nn30, nr30⟩ := and_e nr29
  obtain ⟨nn31, nr31⟩ := and_e nr30
  obtain ⟨nn32, nr32⟩ := and_e nr31
  obtain ⟨nn33, nr33⟩ := and_e nr32
  obtain ⟨nn34, nr34⟩ := and_e nr33
  obtain ⟨nn35, nr35⟩ := and_e nr34
  obtain ⟨nn36, nr36⟩ := and_e nr35
  obtain ⟨nn37, nr37⟩ := and_e nr36
  obtain ⟨nn38, nr38⟩ := and_e nr37
  obtain ⟨nn39, nr39⟩ := and_e nr38
  obtain ⟨nn40, nr40⟩ := and_e nr39
  obtain ⟨nn41, nr41⟩ := and_e nr40
  obtain ⟨nn42, nr42⟩ := and_e nr41
  obtain ⟨nn43, nr43⟩ := and_e nr42
  obtain ⟨nn44, nr44⟩ := and_e nr43
  have nn45 := nr44
  obtain ⟨ka, vka⟩ := arr_v nn0
  obtain ⟨cl, Ar⟩ := Arr.start vka nn0
  have S_KINDS : Sta s s.heap "com/example/soundline/soundline/sql/TypeKind" "KINDS" "[Lcom/example/soundline/soundline/sql/TypeKind;" (.ref ka) := Sta.start vka (Or.inr ⟨(hw _ (List.mem_of_getElem? (i := 2) rfl)), (hw _ (List.mem_of_getElem? (i := 5) rfl))⟩)
  have hlen : cl.slots.size.toInt32 = (11 : Int32) := own_len vka Ar (own_eqint nn1)
  obtain ⟨w0, vw0⟩ := exa_v nn2
  have S_SMALLINT : Sta s s.heap "com/example/soundline/soundline/sql/TypeKind" "SMALLINT" "Lcom/example/soundline/soundline/sql/TypeKind;" (.ref w0) := Sta.start vw0 (Or.inr ⟨(hw _ (List.mem_of_getElem? (i := 2) rfl)), (hw _ (List.mem_of_getElem? (i := 6) rfl))⟩)
  have el0 := elem_in (own_eqref nn3 vw0) vka (Term.int_eval (0)) Ar.1
  have Ft0 : Fld s s.heap w0 "com/example/soundline/soundline/sql/TypeKind" "tag" "I" (.int (3 : Int32)) := Fld.start ((fld_at vw0).symm.trans (own_eqint nn4))
  have Fb0 : Fld s s.heap w0 "com/example/soundline/soundline/sql/TypeKind" "bareTag" "I" (.int (0 : Int32)) := Fld.start ((fld_at vw0).symm.trans (own_eqint nn5))
  obtain ⟨w1, vw1⟩ := exa_v nn6
  have S_INTEGER : Sta s s.heap "com/example/soundline/soundline/sql/TypeKind" "INTEGER" "Lcom/example/soundline/soundline/sql/TypeKind;" (.ref w1) := Sta.start vw1 (Or.inr ⟨(hw _ (List.mem_of_getElem? (i := 2) rfl)), (hw _ (List.mem_of_getElem? (i := 11) rfl))⟩)
  have el1 := elem_in (own_eqref nn7 vw1) vka (Term.int_eval (1)) Ar.1
  have Ft1 : Fld s s.heap w1 "com/example/soundline/soundline/sql/TypeKind" "tag" "I" (.int (1 : Int32)) := Fld.start ((fld_at vw1).symm.trans (own_eqint nn8))
  have Fb1 : Fld s s.heap w1 "com/example/soundline/soundline/sql/TypeKind" "bareTag" "I" (.int (0 : Int32)) := Fld.start ((fld_at vw1).symm.trans (own_eqint nn9))
  obtain ⟨w2, vw2⟩ := exa_v nn10
  have S_BIGINT : Sta s s.heap "com/example/soundline/soundline/sql/TypeKind" "BIGINT" "Lcom/example/soundline/soundline/sql/TypeKind;" (.ref w2) := Sta.start vw2 (Or.inr ⟨(hw _ (List.mem_of_getElem? (i := 2) rfl)), (hw _ (List.mem_of_getElem? (i := 12) rfl))⟩)
  have el2 := elem_in (own_eqref nn11 vw2) vka (Term.int_eval (2)) Ar.1
  have Ft2 : Fld s s.heap w2 "com/example/soundline/soundline/sql/TypeKind" "tag" "I" (.int (4 : Int32)) := Fld.start ((fld_at vw2).symm.trans (own_eqint nn12))
  have Fb2 : Fld s s.heap w2 "com/example/soundline/soundline/sql/TypeKind" "bareTag" "I" (.int (0 : Int32)) := Fld.start ((fld_at vw2).symm.trans (own_eqint nn13))
  obtain ⟨w3, vw3⟩ := exa_v nn14
  have S_NUMERIC : Sta s s.heap "com/example/soundline/soundline/sql/TypeKind" "NUMERIC" "Lcom/example/soundline/soundline/sql/TypeKind;" (.ref w3) := Sta.start vw3 (Or.inr ⟨(hw _ (List.mem_of_getElem? (i := 2) rfl)), (hw _ (List.mem_of_getElem? (i := 13) rfl))⟩)
  have el3 := elem_in (own_eqref nn15 vw3) vka (Term.int_eval (3)) Ar.1
  have Ft3 : Fld s s.heap w3 "com/example/soundline/soundline/sql/TypeKind" "tag" "I" (.int (5 : Int32)) := Fld.start ((fld_at vw3).symm.trans (own_eqint nn16))
  have Fb3 : Fld s s.heap w3 "com/example/soundline/soundline/sql/TypeKind" "bareTag" "I" (.int (0 : Int32)) := Fld.start ((fld_at vw3).symm.trans (own_eqint nn17))
  obtain ⟨w4, vw4⟩ := exa_v nn18
  have S_DOUBLE_PRECISION : Sta s s.heap "com/example/soundline/soundline/sql/TypeKind" "DOUBLE_PRECISION" "Lcom/example/soundline/soundline/sql/TypeKind;" (.ref w4) := Sta.start vw4 (Or.inr ⟨(hw _ (List.mem_of_getElem? (i := 2) rfl)), (hw _ (List.mem_of_getElem? (i := 14) rfl))⟩)
  have el4 := elem_in (own_eqref nn19 vw4) vka (Term.int_eval (4)) Ar.1
  have Ft4 : Fld s s.heap w4 "com/example/soundline/soundline/sql/TypeKind" "tag" "I" (.int (6 : Int32)) := Fld.start ((fld_at vw4).symm.trans (own_eqint nn20))
  have Fb4 : Fld s s.heap w4 "com/example/soundline/soundline/sql/TypeKind" "bareTag" "I" (.int (0 : Int32)) := Fld.start ((fld_at vw4).symm.trans (own_eqint nn21))
  obtain ⟨w5, vw5⟩ := exa_v nn22
  have S_VARCHAR : Sta s s.heap "com/example/soundline/soundline/sql/TypeKind" "VARCHAR" "Lcom/example/soundline/soundline/sql/TypeKind;" (.ref w5) := Sta.start vw5 (Or.inr ⟨(hw _ (List.mem_of_getElem? (i := 2) rfl)), (hw _ (List.mem_of_getElem? (i := 15) rfl))⟩)
  have el5 := elem_in (own_eqref nn23 vw5) vka (Term.int_eval (5)) Ar.1
  have Ft5 : Fld s s.heap w5 "com/example/soundline/soundline/sql/TypeKind" "tag" "I" (.int (2 : Int32)) := Fld.start ((fld_at vw5).symm.trans (own_eqint nn24))
  have Fb5 : Fld s s.heap w5 "com/example/soundline/soundline/sql/TypeKind" "bareTag" "I" (.int (0 : Int32)) := Fld.start ((fld_at vw5).symm.trans (own_eqint nn25))
  obtain ⟨w6, vw6⟩ := exa_v nn26
  have S_BOOLEAN : Sta s s.heap "com/example/soundline/soundline/sql/TypeKind" "BOOLEAN" "Lcom/example/soundline/soundline/sql/TypeKind;" (.ref w6) := Sta.start vw6 (Or.inr ⟨(hw _ (List.mem_of_getElem? (i := 2) rfl)), (hw _ (List.mem_of_getElem? (i := 16) rfl))⟩)
  have el6 := elem_in (own_eqref nn27 vw6) vka (Term.int_eval (6)) Ar.1
  have Ft6 : Fld s s.heap w6 "com/example/soundline/soundline/sql/TypeKind" "tag" "I" (.int (9 : Int32)) := Fld.start ((fld_at vw6).symm.trans (own_eqint nn28))
  have Fb6 : Fld s s.heap w6 "com/example/soundline/soundline/sql/TypeKind" "bareTag" "I" (.int (0 : Int32)) := Fld.start ((fld_at vw6).symm.trans (own_eqint nn29))
  obtain ⟨w7, vw7⟩ := exa_v nn30
  have S_DATE : Sta s s.heap "com/example/soundline/soundline/sql/TypeKind" "DATE" "Lcom/example/soundline/soundline/sql/TypeKind;" (.ref w7) := Sta.start vw7 (Or.inr ⟨(hw _ (List.mem_of_getElem? (i := 2) rfl)), (hw _ (List.mem_of_getElem? (i := 17) rfl))⟩)
  have el7 := elem_in (own_eqref nn31 vw7) vka (Term.int_eval (7)) Ar.1
  have Ft7 : Fld s s.heap w7 "com/example/soundline/soundline/sql/TypeKind" "tag" "I" (.int (10 : Int32)) := Fld.start ((fld_at vw7).symm.trans (own_eqint nn32))
  have Fb7 : Fld s s.heap w7 "com/example/soundline/soundline/sql/TypeKind" "bareTag" "I" (.int (0 : Int32)) := Fld.start ((fld_at vw7).symm.trans (own_eqint nn33))
  obtain ⟨w8, vw8⟩ := exa_v nn34
  have S_TIME : Sta s s.heap "com/example/soundline/soundline/sql/TypeKind" "TIME" "Lcom/example/soundline/soundline/sql/TypeKind;" (.ref w8) := Sta.start vw8 (Or.inr ⟨(hw _ (List.mem_of_getElem? (i := 2) rfl)), (hw _ (List.mem_of_getElem? (i := 18) rfl))⟩)
  have el8 := elem_in (own_eqref nn35 vw8) vka (Term.int_eval (8)) Ar.1
  have Ft8 : Fld s s.heap w8 "com/example/soundline/soundline/sql/TypeKind" "tag" "I" (.int (11 : Int32)) := Fld.start ((fld_at vw8).symm.trans (own_eqint nn36))
  have Fb8 : Fld s s.heap w8 "com/example/soundline/soundline/sql/TypeKind" "bareTag" "I" (.int (0 : Int32)) := Fld.start ((fld_at vw8).symm.trans (own_eqint nn37))
  obtain ⟨w9, vw9⟩ := exa_v nn38
  have S_TIMESTAMP : Sta s s.heap "com/example/soundline/soundline/sql/TypeKind" "TIMESTAMP" "Lcom/example/soundline/soundline/sql/TypeKind;" (.ref w9) := Sta.start vw9 (Or.inr ⟨(hw _ (List.mem_of_getElem? (i := 2) rfl)), (hw _ (List.mem_of_getElem? (i := 19) rfl))⟩)
  have el9 := elem_in (own_eqref nn39 vw9) vka (Term.int_eval (9)) Ar.1
  have Ft9 : Fld s s.heap w9 "com/example/soundline/soundline/sql/TypeKind" "tag" "I" (.int (12 : Int32)) := Fld.start ((fld_at vw9).symm.trans (own_eqint nn40))
  have Fb9 : Fld s s.heap w9 "com/example/soundline/soundline/sql/TypeKind" "bareTag" "I" (.int (7 : Int32)) := Fld.start ((fld_at vw9).symm.trans (own_eqint nn41))
  obtain ⟨w10, vw10⟩ := exa_v nn42
  have S_BLOB : Sta s s.heap "com/example/soundline/soundline/sql/TypeKind" "BLOB" "Lcom/example/soundline/soundline/sql/TypeKind;" (.ref w10) := Sta.start vw10 (Or.inr ⟨(hw _ (List.mem_of_getElem? (i := 2) rfl)), (hw _ (List.mem_of_getElem? (i := 20) rfl))⟩)
  have el10 := elem_in (own_eqref nn43 vw10) vka (Term.int_eval (10)) Ar.1
  have Ft10 : Fld s s.heap w10 "com/example/soundline/soundline/sql/TypeKind" "tag" "I" (.int (8 : Int32)) := Fld.start ((fld_at vw10).symm.trans (own_eqint nn44))
  have Fb10 : Fld s s.heap w10 "com/example/soundline/soundline/sql/TypeKind" "bareTag" "I" (.int (0 : Int32)) := Fld.start ((fld_at vw10).symm.trans (own_eqint nn45))
  obtain ⟨n, o, h1, h2, h3, _, L, rfl, ⟨rfl, N⟩, hq⟩ := own_rm0 l s _ hw tables_1 i0 i1 w0 w1 w2 w3 w4 w5 w6 w7 w8 w9 w10 ka cl s.heap s.heap.size (Nat.le_refl _) S_KINDS Ar hlen el0 el1 el2 el3 el4 el5 el6 el7 el8 el9 el10 Ft0 Fb0 Ft1 Fb1 Ft2 Fb2 Ft3 Fb3 Ft4 Fb4 Ft5 Fb5 Ft6 Fb6 Ft7 Fb7 Ft8 Fb8 Ft9 Fb9 Ft10 Fb10 S_SMALLINT S_INTEGER S_BIGINT S_NUMERIC S_DOUBLE_PRECISION S_VARCHAR S_BOOLEAN S_DATE S_TIME S_TIMESTAMP S_BLOB p e ha hc hk s m _ below hf ((Spec.applies_iff_loose hf).mp happ).1 ⟨rfl, State.Warmed39.refl s, rfl⟩ trivial
  refine ⟨n, _, h1, h2, h3, hpost _ _ _ _ _ _ ⟨Cond.after_iff.mpr rfl, Cond.after_iff.mpr (eq_i res_at (Term.int_eval (1)) rfl), trivial⟩ ⟨hq.1, hq.2.1, (hq.2.2.sift fun y hy => Or.inr (N y hy)).mono (by decide) (by decide)⟩⟩
theorem main_1_1 : Claimed_1_1 := own_comes fun _ _ _ _ _ _ h hF => ⟨h.1, hF⟩
theorem main_1_2 : Claimed_1_2 := own_comes fun _ _ _ _ _ _ h hF => ⟨h.2.1, hF⟩
end Jvm.Pilot.@@N@@
namespace Jvm.Pilot.@@N@@
open Jvm Jvm.ClassFile Sem Op Lib Jvm.Free Jvm.Stand Jvm.Pilot.@@N@@.Jvm.D
/-! MADE BY PROGRAM (witnessworld.py) out of the Statement's table words and the real class files: 13 classes; the members and pool entries that the words name. The judged class is class 1, her method 1. -/
namespace start1
open Jvm.ClassFile
def u (s : String) : CpInfo := .utf8 (stringToUtf16 s)
/-- a pool by its gaps: so many unusable entries, then the entry; so many at the end -/
def gap : Nat → List CpInfo → List CpInfo
  | 0, r => r
  | n + 1, r => .unusable :: gap n r
def poolList (es : List (Nat × CpInfo)) (last : Nat) : List CpInfo := es.foldr (fun e r => gap e.1 (e.2 :: r)) (gap last [])
def pool (es : List (Nat × CpInfo)) (last : Nat) : Array CpInfo := ⟨poolList es last⟩
def fileOf (pool : Array CpInfo) (this : Nat) (attrs : Array Attribute := #[]) (ms : Array MethodInfo := #[]) (fl : Nat := 33) (sup : Nat := 0) (ifs : Array Nat := #[]) (fds : Array FieldInfo := #[]) : ClassFile where
  minorVersion := 0
  majorVersion := 65
  constantPool := pool
  accessFlags := fl
  thisClass := this
  superClass := sup
  interfaces := ifs
  fields := fds
  methods := ms
  attributes := attrs
def plain (name : String) (sup : Option ClassId) : Class where
  name := name
  kind := .ordinary
  loader := none
  accessFlags := 33
  super := sup
  interfaces := #[]
  cf := none
  fields := #[]
  methods := #[]
  instanceTypes := #[]
  staticTypes := #[]
  resolved := #[]
  callSites := []
  init := .initialized
  statics := none
  mirror := none

def pool0 : Array CpInfo := pool [(5, u "<init>"), (0, u "()V"), (1, .class_ 10), (1, u "java/lang/Object")] 113

def k0m0 : Method := { name := "<init>", desc := "()V", sig := { parameters := [], returnType := none }, accessFlags := 1, code := none }
/-- java/lang/Object -/
def k0 : Class := { plain "java/lang/Object" none with
  accessFlags := 33
  interfaces := #[]
  cf := some (fileOf pool0 8 #[] #[{ accessFlags := 1, nameIndex := 5, descriptorIndex := 6, attributes := #[] }] 33 0 #[] #[])
  fields := #[]
  methods := #[k0m0]
  instanceTypes := #[]
  staticTypes := #[]
  resolved := Array.replicate 124 none
  statics := none }

def pool1 : Array CpInfo := pool [(2, .class_ 4), (1, u "java/lang/Object"), (0, u "<init>"), (0, u "()V"), (0, .methodref 8 9), (0, .class_ 10), (0, .nameAndType 11 12), (0, u "com/example/soundline/soundline/sql/TypeKind"), (0, u "withTag"), (0, u "(I)Lcom/example/soundline/soundline/sql/TypeKind;"), (0, .methodref 14 15), (0, .class_ 16), (0, .nameAndType 17 12), (0, u "com/example/soundline/soundline/sql/TypeKindWithTagPinLaw"), (0, u "expected"), (0, .fieldref 8 19), (0, .nameAndType 20 21), (0, u "INTEGER"), (0, u "Lcom/example/soundline/soundline/sql/TypeKind;"), (0, .fieldref 8 23), (0, .nameAndType 24 21), (0, u "VARCHAR"), (0, .fieldref 8 26), (0, .nameAndType 27 21), (0, u "SMALLINT"), (0, .fieldref 8 29), (0, .nameAndType 30 21), (0, u "BIGINT"), (0, .fieldref 8 32), (0, .nameAndType 33 21), (0, u "NUMERIC"), (0, .fieldref 8 35), (0, .nameAndType 36 21), (0, u "DOUBLE_PRECISION"), (0, .fieldref 8 38), (0, .nameAndType 39 21), (0, u "TIMESTAMP"), (0, .fieldref 8 41), (0, .nameAndType 42 21), (0, u "BLOB"), (0, .fieldref 8 44), (0, .nameAndType 45 21), (0, u "BOOLEAN"), (0, .fieldref 8 47), (0, .nameAndType 48 21), (0, u "DATE"), (0, .fieldref 8 50), (0, .nameAndType 51 21), (0, u "TIME"), (2, u "law"), (0, u "(II)Z")] 3

def k1m0 : Method := { name := "<init>", desc := "()V", sig := { parameters := [], returnType := none }, accessFlags := 2, code := none }
def k1c1 : Code := { maxStack := 2, maxLocals := 3, code := code, exceptionTable := #[], attributes := #[] }
def k1m1 : Method := { name := "law", desc := "(II)Z", sig := { parameters := [.int, .int], returnType := some .boolean }, accessFlags := 9, code := some k1c1 }
def k1c2 : Code := { maxStack := 2, maxLocals := 1, code := method_3_code, exceptionTable := #[], attributes := #[] }
def k1m2 : Method := { name := "expected", desc := "(I)Lcom/example/soundline/soundline/sql/TypeKind;", sig := { parameters := [.int], returnType := some (.object "com/example/soundline/soundline/sql/TypeKind") }, accessFlags := 10, code := some k1c2 }
/-- com/example/soundline/soundline/sql/TypeKindWithTagPinLaw -/
def k1 : Class := { plain "com/example/soundline/soundline/sql/TypeKindWithTagPinLaw" (some 0) with
  accessFlags := 49
  interfaces := #[]
  cf := some (fileOf pool1 14 #[] #[{ accessFlags := 2, nameIndex := 5, descriptorIndex := 6, attributes := #[] }, { accessFlags := 9, nameIndex := 54, descriptorIndex := 55, attributes := #[] }, { accessFlags := 10, nameIndex := 17, descriptorIndex := 12, attributes := #[] }] 49 2 #[] #[])
  fields := #[]
  methods := #[k1m0, k1m1, k1m2]
  instanceTypes := #[]
  staticTypes := #[]
  resolved := Array.replicate 59 none
  statics := none }

def pool2 : Array CpInfo := pool [(1, .class_ 2), (0, u "java/lang/constant/Constable"), (0, .class_ 4), (0, u "java/lang/Object")] 6

/-- java/lang/constant/Constable -/
def k2 : Class := { plain "java/lang/constant/Constable" (some 0) with
  accessFlags := 1537
  interfaces := #[]
  cf := some (fileOf pool2 1 #[] #[] 1537 3 #[] #[])
  fields := #[]
  methods := #[]
  instanceTypes := #[]
  staticTypes := #[]
  resolved := Array.replicate 11 none
  statics := none }

def pool3 : Array CpInfo := pool [(1, .class_ 2), (0, u "java/lang/Comparable"), (0, .class_ 4), (0, u "java/lang/Object")] 7

/-- java/lang/Comparable -/
def k3 : Class := { plain "java/lang/Comparable" (some 0) with
  accessFlags := 1537
  interfaces := #[]
  cf := some (fileOf pool3 1 #[] #[] 1537 3 #[] #[])
  fields := #[]
  methods := #[]
  instanceTypes := #[]
  staticTypes := #[]
  resolved := Array.replicate 12 none
  statics := none }

def pool4 : Array CpInfo := pool [(1, .class_ 2), (0, u "java/io/Serializable"), (0, .class_ 4), (0, u "java/lang/Object")] 2

/-- java/io/Serializable -/
def k4 : Class := { plain "java/io/Serializable" (some 0) with
  accessFlags := 1537
  interfaces := #[]
  cf := some (fileOf pool4 1 #[] #[] 1537 3 #[] #[])
  fields := #[]
  methods := #[]
  instanceTypes := #[]
  staticTypes := #[]
  resolved := Array.replicate 7 none
  statics := none }

def pool5 : Array CpInfo := pool [(2, .class_ 4), (1, u "java/lang/Enum"), (0, u "name"), (0, u "Ljava/lang/String;"), (2, u "ordinal"), (0, u "I"), (1, .class_ 14), (1, u "java/lang/Object"), (4, u "hash"), (86, .class_ 108), (1, u "java/lang/Enum$EnumDesc"), (2, .class_ 112), (0, u "java/lang/constant/Constable"), (0, .class_ 114), (0, u "java/lang/Comparable"), (0, .class_ 116), (0, u "java/io/Serializable")] 87

/-- java/lang/Enum -/
def k5 : Class := { plain "java/lang/Enum" (some 0) with
  accessFlags := 1057
  interfaces := #[2, 3, 4]
  cf := some (fileOf pool5 2 #[.nestMembers #[106]] #[] 1057 12 #[111, 113, 115] #[{ accessFlags := 18, nameIndex := 5, descriptorIndex := 6, attributes := #[] }, { accessFlags := 18, nameIndex := 9, descriptorIndex := 10, attributes := #[] }, { accessFlags := 2, nameIndex := 19, descriptorIndex := 10, attributes := #[] }])
  fields := #[{ name := "name", type := (.object "java/lang/String"), accessFlags := 18, slot := 0, constantValue := 0 }, { name := "ordinal", type := .int, accessFlags := 18, slot := 1, constantValue := 0 }, { name := "hash", type := .int, accessFlags := 2, slot := 2, constantValue := 0 }]
  methods := #[]
  instanceTypes := #[(.object "java/lang/String"), .int, .int]
  staticTypes := #[]
  resolved := Array.replicate 204 none
  statics := none }

def pool6 : Array CpInfo := pool [(1, .class_ 2), (0, u "com/example/soundline/soundline/sql/TypeKind"), (2, u "SMALLINT"), (0, u "Lcom/example/soundline/soundline/sql/TypeKind;"), (2, u "INTEGER"), (2, u "BIGINT"), (2, u "NUMERIC"), (2, u "DOUBLE_PRECISION"), (2, u "VARCHAR"), (2, u "BOOLEAN"), (2, u "DATE"), (2, u "TIME"), (2, u "TIMESTAMP"), (2, u "BLOB"), (2, u "$VALUES"), (0, u "[Lcom/example/soundline/soundline/sql/TypeKind;"), (6, .class_ 49), (1, u "java/lang/Enum"), (31, .class_ 82), (0, u "com/example/soundline/soundline/sql/TypeKind$TypeName"), (15, .fieldref 1 99), (0, .nameAndType 100 101), (0, u "tag"), (0, u "I"), (0, .fieldref 1 103), (0, .nameAndType 104 101), (0, u "bareTag"), (6, u "names"), (0, u "Ljava/util/List;"), (2, u "category"), (0, u "Lcom/example/soundline/soundline/sql/Category;"), (2, u "valueClass"), (0, u "Ljava/lang/Class;"), (2, u "literal"), (0, u "Z"), (2, u "parameterNames"), (2, u "requiredParameters"), (2, u "factory"), (0, u "Ljava/util/function/Function;"), (10, u "kindValues"), (0, u "Lcom/example/soundline/soundline/sql/KindValues;"), (0, .fieldref 1 148), (0, .nameAndType 149 40), (0, u "KINDS"), (264, u "NO_TAG"), (16, u "withTag"), (0, u "(I)Lcom/example/soundline/soundline/sql/TypeKind;")] 158

def k6c0 : Code := { maxStack := 2, maxLocals := 5, code := prog_335_method_5_code, exceptionTable := #[], attributes := #[] }
def k6m0 : Method := { name := "withTag", desc := "(I)Lcom/example/soundline/soundline/sql/TypeKind;", sig := { parameters := [.int], returnType := some (.object "com/example/soundline/soundline/sql/TypeKind") }, accessFlags := 8, code := some k6c0 }
/-- com/example/soundline/soundline/sql/TypeKind -/
def k6 : Class := { plain "com/example/soundline/soundline/sql/TypeKind" (some 5) with
  accessFlags := 16433
  interfaces := #[]
  cf := some (fileOf pool6 1 #[.nestMembers #[81]] #[{ accessFlags := 8, nameIndex := 431, descriptorIndex := 432, attributes := #[] }] 16433 47 #[] #[{ accessFlags := 16409, nameIndex := 5, descriptorIndex := 6, attributes := #[] }, { accessFlags := 16409, nameIndex := 9, descriptorIndex := 6, attributes := #[] }, { accessFlags := 16409, nameIndex := 12, descriptorIndex := 6, attributes := #[] }, { accessFlags := 16409, nameIndex := 15, descriptorIndex := 6, attributes := #[] }, { accessFlags := 16409, nameIndex := 18, descriptorIndex := 6, attributes := #[] }, { accessFlags := 16409, nameIndex := 21, descriptorIndex := 6, attributes := #[] }, { accessFlags := 16409, nameIndex := 24, descriptorIndex := 6, attributes := #[] }, { accessFlags := 16409, nameIndex := 27, descriptorIndex := 6, attributes := #[] }, { accessFlags := 16409, nameIndex := 30, descriptorIndex := 6, attributes := #[] }, { accessFlags := 16409, nameIndex := 33, descriptorIndex := 6, attributes := #[] }, { accessFlags := 16409, nameIndex := 36, descriptorIndex := 6, attributes := #[] }, { accessFlags := 24, nameIndex := 414, descriptorIndex := 101, attributes := #[] }, { accessFlags := 26, nameIndex := 149, descriptorIndex := 40, attributes := #[] }, { accessFlags := 18, nameIndex := 100, descriptorIndex := 101, attributes := #[] }, { accessFlags := 18, nameIndex := 104, descriptorIndex := 101, attributes := #[] }, { accessFlags := 18, nameIndex := 111, descriptorIndex := 112, attributes := #[] }, { accessFlags := 18, nameIndex := 115, descriptorIndex := 116, attributes := #[] }, { accessFlags := 18, nameIndex := 119, descriptorIndex := 120, attributes := #[] }, { accessFlags := 18, nameIndex := 145, descriptorIndex := 146, attributes := #[] }, { accessFlags := 18, nameIndex := 123, descriptorIndex := 124, attributes := #[] }, { accessFlags := 18, nameIndex := 127, descriptorIndex := 112, attributes := #[] }, { accessFlags := 18, nameIndex := 130, descriptorIndex := 101, attributes := #[] }, { accessFlags := 18, nameIndex := 133, descriptorIndex := 134, attributes := #[] }, { accessFlags := 4122, nameIndex := 39, descriptorIndex := 40, attributes := #[] }])
  fields := #[{ name := "SMALLINT", type := (.object "com/example/soundline/soundline/sql/TypeKind"), accessFlags := 16409, slot := 0, constantValue := 0 }, { name := "INTEGER", type := (.object "com/example/soundline/soundline/sql/TypeKind"), accessFlags := 16409, slot := 1, constantValue := 0 }, { name := "BIGINT", type := (.object "com/example/soundline/soundline/sql/TypeKind"), accessFlags := 16409, slot := 2, constantValue := 0 }, { name := "NUMERIC", type := (.object "com/example/soundline/soundline/sql/TypeKind"), accessFlags := 16409, slot := 3, constantValue := 0 }, { name := "DOUBLE_PRECISION", type := (.object "com/example/soundline/soundline/sql/TypeKind"), accessFlags := 16409, slot := 4, constantValue := 0 }, { name := "VARCHAR", type := (.object "com/example/soundline/soundline/sql/TypeKind"), accessFlags := 16409, slot := 5, constantValue := 0 }, { name := "BOOLEAN", type := (.object "com/example/soundline/soundline/sql/TypeKind"), accessFlags := 16409, slot := 6, constantValue := 0 }, { name := "DATE", type := (.object "com/example/soundline/soundline/sql/TypeKind"), accessFlags := 16409, slot := 7, constantValue := 0 }, { name := "TIME", type := (.object "com/example/soundline/soundline/sql/TypeKind"), accessFlags := 16409, slot := 8, constantValue := 0 }, { name := "TIMESTAMP", type := (.object "com/example/soundline/soundline/sql/TypeKind"), accessFlags := 16409, slot := 9, constantValue := 0 }, { name := "BLOB", type := (.object "com/example/soundline/soundline/sql/TypeKind"), accessFlags := 16409, slot := 10, constantValue := 0 }, { name := "NO_TAG", type := .int, accessFlags := 24, slot := 11, constantValue := 0 }, { name := "KINDS", type := (.array (.object "com/example/soundline/soundline/sql/TypeKind")), accessFlags := 26, slot := 12, constantValue := 0 }, { name := "tag", type := .int, accessFlags := 18, slot := 3, constantValue := 0 }, { name := "bareTag", type := .int, accessFlags := 18, slot := 4, constantValue := 0 }, { name := "names", type := (.object "java/util/List"), accessFlags := 18, slot := 5, constantValue := 0 }, { name := "category", type := (.object "com/example/soundline/soundline/sql/Category"), accessFlags := 18, slot := 6, constantValue := 0 }, { name := "valueClass", type := (.object "java/lang/Class"), accessFlags := 18, slot := 7, constantValue := 0 }, { name := "kindValues", type := (.object "com/example/soundline/soundline/sql/KindValues"), accessFlags := 18, slot := 8, constantValue := 0 }, { name := "literal", type := .boolean, accessFlags := 18, slot := 9, constantValue := 0 }, { name := "parameterNames", type := (.object "java/util/List"), accessFlags := 18, slot := 10, constantValue := 0 }, { name := "requiredParameters", type := .int, accessFlags := 18, slot := 11, constantValue := 0 }, { name := "factory", type := (.object "java/util/function/Function"), accessFlags := 18, slot := 12, constantValue := 0 }, { name := "$VALUES", type := (.array (.object "com/example/soundline/soundline/sql/TypeKind")), accessFlags := 4122, slot := 13, constantValue := 0 }]
  methods := #[k6m0]
  instanceTypes := #[(.object "java/lang/String"), .int, .int, .int, .int, (.object "java/util/List"), (.object "com/example/soundline/soundline/sql/Category"), (.object "java/lang/Class"), (.object "com/example/soundline/soundline/sql/KindValues"), .boolean, (.object "java/util/List"), .int, (.object "java/util/function/Function")]
  staticTypes := #[(.object "com/example/soundline/soundline/sql/TypeKind"), (.object "com/example/soundline/soundline/sql/TypeKind"), (.object "com/example/soundline/soundline/sql/TypeKind"), (.object "com/example/soundline/soundline/sql/TypeKind"), (.object "com/example/soundline/soundline/sql/TypeKind"), (.object "com/example/soundline/soundline/sql/TypeKind"), (.object "com/example/soundline/soundline/sql/TypeKind"), (.object "com/example/soundline/soundline/sql/TypeKind"), (.object "com/example/soundline/soundline/sql/TypeKind"), (.object "com/example/soundline/soundline/sql/TypeKind"), (.object "com/example/soundline/soundline/sql/TypeKind"), .int, (.array (.object "com/example/soundline/soundline/sql/TypeKind")), (.array (.object "com/example/soundline/soundline/sql/TypeKind"))]
  resolved := Array.replicate 591 none
  statics := some 0 }

def pool7 : Array CpInfo := pool [(1, u "java/lang/Cloneable"), (0, .class_ 1), (0, u "java/lang/Object"), (0, .class_ 3)] 3

/-- java/lang/Cloneable -/
def k7 : Class := { plain "java/lang/Cloneable" (some 0) with
  accessFlags := 1537
  interfaces := #[]
  cf := some (fileOf pool7 2 #[] #[] 1537 4 #[] #[])
  fields := #[]
  methods := #[]
  instanceTypes := #[]
  staticTypes := #[]
  resolved := Array.replicate 8 none
  statics := none }

/-- the primitive byte -/
def k8 : Class := { plain "byte" none with kind := .primitive 'B', accessFlags := 0x411 }
/-- [B -/
def k9 : Class := { plain "[B" (some 0) with kind := .array 8 .byte, interfaces := #[7, 4], accessFlags := 1041 }

/-- the primitive int -/
def k10 : Class := { plain "int" none with kind := .primitive 'I', accessFlags := 0x411 }
/-- [I -/
def k11 : Class := { plain "[I" (some 0) with kind := .array 10 .int, interfaces := #[7, 4], accessFlags := 1041 }

/-- [Lcom/example/soundline/soundline/sql/TypeKind; -/
def k12 : Class := { plain "[Lcom/example/soundline/soundline/sql/TypeKind;" (some 0) with kind := .array 6 (.object "com/example/soundline/soundline/sql/TypeKind"), interfaces := #[7, 4], accessFlags := 1041 }

def heap : Heap := #[{ cls := 6, slots := #[.ref 2, .ref 3, .ref 4, .ref 5, .ref 6, .ref 7, .ref 8, .ref 9, .ref 10, .ref 11, .ref 12, .int 0, .ref 1, .null], vm := .statics 6 },
  { cls := 12, slots := #[.ref 2, .ref 3, .ref 4, .ref 5, .ref 6, .ref 7, .ref 8, .ref 9, .ref 10, .ref 11, .ref 12], vm := .none },
  { cls := 6, slots := #[.null, .int 0, .int 0, .int 3, .int 0, .null, .null, .null, .null, .int 0, .null, .int 0, .null], vm := .none },
  { cls := 6, slots := #[.null, .int 1, .int 0, .int 1, .int 0, .null, .null, .null, .null, .int 0, .null, .int 0, .null], vm := .none },
  { cls := 6, slots := #[.null, .int 2, .int 0, .int 4, .int 0, .null, .null, .null, .null, .int 0, .null, .int 0, .null], vm := .none },
  { cls := 6, slots := #[.null, .int 3, .int 0, .int 5, .int 0, .null, .null, .null, .null, .int 0, .null, .int 0, .null], vm := .none },
  { cls := 6, slots := #[.null, .int 4, .int 0, .int 6, .int 0, .null, .null, .null, .null, .int 0, .null, .int 0, .null], vm := .none },
  { cls := 6, slots := #[.null, .int 5, .int 0, .int 2, .int 0, .null, .null, .null, .null, .int 0, .null, .int 0, .null], vm := .none },
  { cls := 6, slots := #[.null, .int 6, .int 0, .int 9, .int 0, .null, .null, .null, .null, .int 0, .null, .int 0, .null], vm := .none },
  { cls := 6, slots := #[.null, .int 7, .int 0, .int 10, .int 0, .null, .null, .null, .null, .int 0, .null, .int 0, .null], vm := .none },
  { cls := 6, slots := #[.null, .int 8, .int 0, .int 11, .int 0, .null, .null, .null, .null, .int 0, .null, .int 0, .null], vm := .none },
  { cls := 6, slots := #[.null, .int 9, .int 0, .int 12, .int 7, .null, .null, .null, .null, .int 0, .null, .int 0, .null], vm := .none },
  { cls := 6, slots := #[.null, .int 10, .int 0, .int 8, .int 0, .null, .null, .null, .null, .int 0, .null, .int 0, .null], vm := .none }]
def classes : Array Class := #[k0, k1, k2, k3, k4, k5, k6, k7, k8, k9, k10, k11, k12]
def interned : List (Array UInt16 × Addr) := []
def slotsUsed : Nat := 168
def theMethod : MethodId := ⟨1, 1⟩
def args0 : Array Value := #[.int 3, .int 1]
def aboutOver (below : List Frame) : State where
  vm := { classes := classes, interned := interned.toArray }
  heap := heap
  slotsUsed := slotsUsed
  threads := #[{ frames := .invoking theMethod args0 :: below }]
def below0 : List Frame := [.native { method := ⟨0, 0⟩, args := #[] }]
def about1 : State := aboutOver below0
def p0 : Program := .bare "" "" ""
def e0 : Env := launch0.env 0 0 0
theorem w_frames : about1.frames = Frame.invoking theMethod args0 :: below0 := rfl
set_option maxRecDepth 65536 in
theorem w_args : argsFit about1.vm theMethod args0 = true := by decide +kernel
set_option maxRecDepth 65536 in
theorem w_heap : heapFits about1 = true := by decide +kernel
set_option maxRecDepth 65536 in
theorem w_runnable : about1.curStatus? = some .runnable := by decide +kernel
set_option maxRecDepth 65536 in
theorem w_alone : about1.alone = true := by decide +kernel
set_option maxRecDepth 65536 in
theorem w_named : about1.methodNamed? x = some theMethod := by decide +kernel
set_option maxRecDepth 65536 in
theorem w_hears : about1.hears theMethod below0 = true := by decide +kernel
set_option maxRecDepth 65536 in
theorem w_ripe : about1.ripe theMethod args0 below0 = true := by decide +kernel
theorem w_running : about1.status = .running := rfl
set_option maxRecDepth 65536 in
theorem w_room : about1.hasRoom e0.platform room_1 = true :=
  launch0.hasRoom_least _ room_1 (by decide +kernel) (by decide +kernel) (by decide +kernel) (by decide +kernel) (by decide +kernel) (by decide +kernel)
theorem allAtoms_all (ts : List Jvm.Cond) (a : Array Jvm.Value) (st : Jvm.State) : (allAtoms ts).before a st = ts.all (fun c => c.before a st) := by
  induction ts with
  | nil => rfl
  | cons c t ih =>
    show (Jvm.Cond.and c (allAtoms t)).before a st = _
    rw [Jvm.Cond.before_and, ih, List.all_cons]
def words1 : List Jvm.Cond := Jvm.Cond.code x code maxLocals ret :: tables_1
/-- a 'code' word, met by the world's own term for the bytes: nothing is compared byte by byte -/
theorem code_word {y : MethodName} {bytes : ByteArray} {mx : Nat} {rt : Option FieldType} {a : Array Value} {s : State} {m : MethodId} {meth : Method} {c : Code} (h1 : s.methodNamed? y = some m) (h2 : s.vm.method? m = some meth) (h3 : meth.code = some c) (h4 : c.code = bytes)
    (h5 : (c.maxLocals == mx && c.exceptionTable.isEmpty && decide (c.maxStack ≤ mostOperands) && decide (meth.sig.returnType = rt) && !meth.locks && decide (parseMethodDescriptor y.desc = some meth.sig)) = true) : (Jvm.Cond.code y bytes mx rt).before a s = true := by
  simp only [Bool.and_eq_true, beq_iff_eq, Bool.not_eq_true', decide_eq_true_eq] at h5
  obtain ⟨⟨⟨⟨⟨g1, g2⟩, g3⟩, g4⟩, g5⟩, g6⟩ := h5
  simp [Cond.before, Cond.holds, Cond.value, h1, h2, h3, h4, g1, g2, g3, g4, g5, g6]
def isCode : Jvm.Cond → Bool
  | .code _ _ _ _ => true
  | _ => false
theorem all_split {L : List Jvm.Cond} {P : Jvm.Cond → Bool} (h1 : L.all (fun c => isCode c || P c) = true) (h2 : ∀ c ∈ L.filter isCode, P c = true) : L.all P = true := by
  refine List.all_eq_true.mpr fun c hc => ?_
  have h := List.all_eq_true.mp h1 c hc
  rcases Bool.eq_false_or_eq_true (isCode c) with hi | hi
  · exact h2 c (List.mem_filter.mpr ⟨hc, hi⟩)
  · simpa [hi] using h
set_option maxRecDepth 65536 in
theorem w_c0 : (Jvm.Cond.code x code maxLocals ret).before args0 about1 = true := code_word (m := ⟨1, 1⟩) (meth := k1m1) (c := k1c1) (by decide +kernel) rfl rfl rfl (by decide +kernel)
set_option maxRecDepth 65536 in
theorem w_c1 : (Jvm.Cond.code ({ cls := "com/example/soundline/soundline/sql/TypeKind", name := "withTag", desc := "(I)Lcom/example/soundline/soundline/sql/TypeKind;" } : Jvm.MethodName) prog_335_method_5_code (5 : Nat) (Option.some (Jvm.ClassFile.FieldType.object "com/example/soundline/soundline/sql/TypeKind"))).before args0 about1 = true := code_word (m := ⟨6, 0⟩) (meth := k6m0) (c := k6c0) (by decide +kernel) rfl rfl rfl (by decide +kernel)
set_option maxRecDepth 65536 in
theorem w_c2 : (Jvm.Cond.code ({ cls := "com/example/soundline/soundline/sql/TypeKindWithTagPinLaw", name := "expected", desc := "(I)Lcom/example/soundline/soundline/sql/TypeKind;" } : Jvm.MethodName) method_3_code (1 : Nat) (Option.some (Jvm.ClassFile.FieldType.object "com/example/soundline/soundline/sql/TypeKind"))).before args0 about1 = true := code_word (m := ⟨1, 2⟩) (meth := k1m2) (c := k1c2) (by decide +kernel) rfl rfl rfl (by decide +kernel)
def codes1 : List Jvm.Cond := [Jvm.Cond.code x code maxLocals ret, Jvm.Cond.code ({ cls := "com/example/soundline/soundline/sql/TypeKind", name := "withTag", desc := "(I)Lcom/example/soundline/soundline/sql/TypeKind;" } : Jvm.MethodName) prog_335_method_5_code (5 : Nat) (Option.some (Jvm.ClassFile.FieldType.object "com/example/soundline/soundline/sql/TypeKind")), Jvm.Cond.code ({ cls := "com/example/soundline/soundline/sql/TypeKindWithTagPinLaw", name := "expected", desc := "(I)Lcom/example/soundline/soundline/sql/TypeKind;" } : Jvm.MethodName) method_3_code (1 : Nat) (Option.some (Jvm.ClassFile.FieldType.object "com/example/soundline/soundline/sql/TypeKind"))]
set_option maxRecDepth 65536 in
theorem codes_eq : words1.filter isCode = codes1 := rfl
theorem w_codes : ∀ c ∈ words1.filter isCode, c.before args0 about1 = true := by
  rw [codes_eq]
  intro c hc
  simp only [codes1, List.mem_cons, List.not_mem_nil, or_false] at hc
  rcases hc with rfl | rfl | rfl
  · exact w_c0
  · exact w_c1
  · exact w_c2
set_option maxRecDepth 65536 in
theorem w_t1 : (words1.take 24).all (fun c => isCode c || c.before args0 about1) = true := by decide +kernel
set_option maxRecDepth 65536 in
theorem w_t2 : (words1.drop 24).all (fun c => isCode c || c.before args0 about1) = true := by decide +kernel
theorem w_tables : (allAtoms (Jvm.Cond.code x code maxLocals ret :: tables_1)).before args0 about1 = true := by
  rw [allAtoms_all]
  show words1.all (fun c => c.before args0 about1) = true
  refine all_split ?_ w_codes
  rw [← List.take_append_drop 24 words1, List.all_append, w_t1, w_t2]
  rfl
set_option maxRecDepth 65536 in
theorem w_case : (Jvm.Cond.and given_1 narrow_1).before args0 about1 = true := by decide +kernel
theorem w_applies : (headSpec (Jvm.Cond.code x code maxLocals ret :: tables_1) room_1).applies x e0.platform about1 = true :=
  (Spec.applies_iff w_frames).mpr ⟨w_running, w_runnable, w_alone, w_named, w_hears, w_ripe, w_room, w_tables⟩
theorem atStart : AtStart classFile x code maxLocals ret World_1 tables_1 room_1 Calls_1 rest_1 Pre_1 launch0 p0 e0 about1 theMethod args0 below0 :=
  ⟨lists_1, trivial, launch0.admits_env _ _ _, launch0.least_env, fairChoices_fair.cas, fairChoices_fair.clock, w_frames, w_args, w_heap, w_applies, trivial, trivial, w_case⟩
end start1
theorem witness_1 : WitnessClaimed_1 := ⟨start1.p0, start1.e0, start1.about1, start1.theMethod, start1.args0, start1.below0, start1.atStart⟩
end Jvm.Pilot.@@N@@
