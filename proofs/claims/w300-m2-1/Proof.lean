import JvmDerived
import JvmDerived.Pilot.@@N@@Statement
import JvmDerived.Pilot.@@N@@Code
set_option linter.unusedVariables false
set_option linter.unusedSimpArgs false
namespace Jvm.RoadKit
open Sem ClassFile Op Lib Jvm.Stand Jvm.Free Jvm.LawKit
section New
variable {p : Program} {l : Launch} {e : Env} {R : Room} {s : State} {m : MethodId} {args : Array Value} {below : List Frame} {meth : Method} {c : Code} {T : State} {locs : List Loc} {cells slots : Nat}
theorem retI (X : Stand p l e R s m args below meth c T locs cells slots) (hx : p.tables.exec = Jvm.exec) {pc : Nat} {Ls : Array Slot} {z : Int32} {rest : List Value} (hret : meth.sig.returnType = some .int) (hd : decode c.code pc = .ok (.ireturn, 1)) {fs : List Frame}
    (hl : ∀ (f : JFrame) (acts : List Action), f.method = m → f.locked = none → f.entered = [] → (doReturn e (T.setTop f) acts (some (.int z))).1 = T.setFrames fs) : Steps p.tables e below (T.setTop (mkF m pc Ls (.int z :: rest))) (T.setFrames fs) := by
  have hm' : T.vm.method? m = some meth := X.method'
  have hn : narrow .int (.int z) = .int z := rfl
  show Steps p.tables e below (T.setTop { method := m, pc := pc, locals := Ls, stack := _ :: rest, locked := none }) _
  jvm_step X.here [X.here.top, hx, hd, hm', hret, hn]
  first | (intro acts; rw [hl _ acts rfl rfl rfl]) | rw [hl _ _ rfl rfl rfl]
  exact Steps.refl _
end New
end Jvm.RoadKit
namespace Jvm.Pilot.@@N@@
open Jvm Jvm.ClassFile Sem Op Lib Jvm.Free Jvm.Stand Jvm.LawKit Jvm.RoadKit Bundle Jvm.Pilot.@@N@@.Jvm.D
def own_EL : List (String × Nat) := []
theorem own_wS {Z : State} {a0 : Array Value} (hw : ∀ d ∈ tables_1, d.before a0 Z = true) : ∀ a ∈ Bundle.stringAtoms, a.before a0 Z = true := fun d hd => hw d ((by decide +kernel : ∀ d ∈ Bundle.stringAtoms, d ∈ tables_1) d hd)
theorem own_safeV {Z : State} {EL : List (String × Nat)} {vm : Vm} {h : Heap} {x : Addr} {k : ClassId} {ty : FieldType} {z : Int32} {vs : List Value} {dv : Value} (hal : Z.vm.Alike vm) (A : Arv Z h x k ty z vs dv) (ht : ty ≠ .byte) : Safe Z EL vm h x := by obtain ⟨c, B, -⟩ := A; exact Safe.arr hal B ht
theorem own_safe0 {Z : State} {vm : Vm} {h : Heap} (x : Addr) : Safe Z own_EL vm h x := fun B => by obtain ⟨p, hp, -⟩ := B; cases hp
def own_fr (n0 : Nat) (h : Heap) : List Addr := (List.range h.size).filter (fun x => decide (n0 ≤ x))
theorem own_frq {n0 : Nat} {h : Heap} {x : Addr} (q : n0 ≤ x) : x ∈ own_fr n0 h ∨ h.size ≤ x := by
  by_cases c : x < h.size
  · exact Or.inl (List.mem_filter.mpr ⟨List.mem_range.mpr c, decide_eq_true q⟩)
  · exact Or.inr (Nat.le_of_not_lt c)
theorem own_frg {n0 : Nat} {h : Heap} : ∀ x ∈ own_fr n0 h, n0 ≤ x := fun x hx => of_decide_eq_true (List.mem_filter.mp hx).2
def BD (Z : State) (n0 : Nat) (h : Heap) (a : Addr) (v : Int64) (s : Int32) : Prop := Exa Z h a "java/math/BigDecimal" ∧ Fld Z h a "java/math/BigDecimal" "scale" "I" (.int s) ∧ Fld Z h a "java/math/BigDecimal" "intCompact" "J" (.long v) ∧ (∃ pr : Int32, Fld Z h a "java/math/BigDecimal" "precision" "I" (.int pr) ∧ (¬ (pr = (0 : Int32)) ∨ n0 ≤ a)) ∧ (s = (0 : Int32) ∨ Fld Z h a "java/math/BigDecimal" "intVal" "Ljava/math/BigInteger;" .null)
theorem BD.ext {Z : State} {n0 : Nat} {h h' : Heap} {a : Addr} {v : Int64} {s : Int32} (B : BD Z n0 h a v s) (E : Ext h h') : BD Z n0 h' a v s := by
  obtain ⟨e, f1, f2, ⟨pr, f3, q⟩, f4⟩ := B
  exact ⟨e.ext E, f1.ext E, f2.ext E, ⟨pr, f3.ext E, q⟩, f4.imp id fun f => f.ext E⟩
theorem BD.keep {Z : State} {n0 : Nat} {h h' : Heap} {a : Addr} {v : Int64} {s : Int32} {ws : List Addr} (B : BD Z n0 h a v s) (K : Keep h h' ws) (r : a ∉ ws) : BD Z n0 h' a v s := by
  obtain ⟨e, f1, f2, ⟨pr, f3, q⟩, f4⟩ := B
  exact ⟨e.keep K, f1.keep K r, f2.keep K r, ⟨pr, f3.keep K r, q⟩, f4.imp id fun f => f.keep K r⟩
def Pres (Z : State) (n0 : Nat) (h h' : Heap) : Prop := ∀ (x : Addr) (v : Int64) (s : Int32), BD Z n0 h x v s → BD Z n0 h' x v s
/-- no BigDecimal -/
def NB (Z : State) (h : Heap) (x : Addr) : Prop := ∀ y, Exa Z h y "java/math/BigDecimal" → y ≠ x
theorem NB.ofE {Z : State} {h : Heap} {x : Addr} {C : String} (E : Exa Z h x C) (q : "java/math/BigDecimal" ≠ C) : NB Z h x := fun y e => Exa.ne e E q
theorem NB.ofV {Z : State} {h : Heap} {x : Addr} {k : ClassId} {ty : FieldType} {z : Int32} {vs : List Value} {d : Value} {n : Nat} {a0 : Array Value} (A : Arv Z h x k ty z vs d) (w : (Jvm.Cond.instantiable "java/math/BigDecimal" n).before a0 Z = true) : NB Z h x := fun y e => Exa.neArv e A w
theorem Pres.ofExt {Z : State} {n0 : Nat} {h h' : Heap} (E : Ext h h') : Pres Z n0 h h' := fun _ _ _ b => b.ext E
theorem Pres.ofKeep {Z : State} {n0 : Nat} {h h' : Heap} {ws : List Addr} (K : Keep h h' ws) (q : ∀ x ∈ ws, NB Z h x) : Pres Z n0 h h' := fun x _ _ b => b.keep K fun m => q x m x b.1 rfl
theorem Pres.ofWr {Z : State} {n0 : Nat} {h h' : Heap} {a : Addr} {sl : Nat} {w : Value} (W : Wr h h' a sl w) (q : NB Z h a) : Pres Z n0 h h' := Pres.ofKeep (Keep.of_wr W) (allS q all0)
def WH (Z : State) (n0 : Nat) (h : Heap) (P ua sa : Addr) (w0 w1 w2 : Value) : Prop := (Fld Z h P "com/example/floatweight/floatweight/Prices" "mWhole" "[Ljava/math/BigDecimal;" .null ∧ w0 = .null ∧ w1 = .null ∧ w2 = .null) ∨ ∃ (wa : Addr) (kc : ClassId), n0 ≤ wa ∧ wa ≠ ua ∧ wa ≠ sa ∧ Fld Z h P "com/example/floatweight/floatweight/Prices" "mWhole" "[Ljava/math/BigDecimal;" (.ref wa) ∧ Arv Z h wa kc (.object "java/math/BigDecimal") (3 : Int32) [w0, w1, w2] .null ∧ Ovr Z kc "java/math/BigDecimal"
def PRS (Z : State) (n0 : Nat) (h : Heap) (P : Addr) (u0 u1 u2 : Int64) (c0 c1 c2 : Int32) (w0 w1 w2 : Value) : Prop := ∃ (ua sa : Addr) (ka kb : ClassId), n0 ≤ P ∧ n0 ≤ ua ∧ n0 ≤ sa ∧ ua ≠ sa ∧ Exa Z h P "com/example/floatweight/floatweight/Prices" ∧ Fld Z h P "com/example/floatweight/floatweight/Prices" "mUnscaled" "[J" (.ref ua) ∧ Fld Z h P "com/example/floatweight/floatweight/Prices" "mScales" "[I" (.ref sa) ∧ Arv Z h ua ka .long (3 : Int32) [(.long u0), (.long u1), (.long u2)] (.long (0 : Int64)) ∧ Arv Z h sa kb .int (3 : Int32) [(.int c0), (.int c1), (.int c2)] (.int (0 : Int32)) ∧ WH Z n0 h P ua sa w0 w1 w2
theorem PRS.exa {Z : State} {n0 : Nat} {h : Heap} {P : Addr} {u0 u1 u2 : Int64} {c0 c1 c2 : Int32} {w0 w1 w2 : Value} (R : PRS Z n0 h P u0 u1 u2 c0 c1 c2 w0 w1 w2) : Exa Z h P "com/example/floatweight/floatweight/Prices" := by obtain ⟨_, _, _, _, _, _, _, _, e, -⟩ := R; exact e
theorem PRS.keep0 {Z : State} {n0 : Nat} {h h' : Heap} {P : Addr} {u0 u1 u2 : Int64} {c0 c1 c2 : Int32} {w0 w1 w2 : Value} (R : PRS Z n0 h P u0 u1 u2 c0 c1 c2 w0 w1 w2) (K : Keep h h' []) : PRS Z n0 h' P u0 u1 u2 c0 c1 c2 w0 w1 w2 := by
  obtain ⟨ua, sa, ka, kb, g1, g2, g3, g4, e, f1, f2, a1, a2, w⟩ := R
  refine ⟨ua, sa, ka, kb, g1, g2, g3, g4, e.keep K, f1.keep K nin0, f2.keep K nin0, a1.keep K nin0, a2.keep K nin0, w.imp (fun q => ⟨q.1.keep K nin0, q.2⟩) fun q => ?_⟩
  obtain ⟨wa, kc, h1, h2, h3, h4, h5, h6⟩ := q
  exact ⟨wa, kc, h1, h2, h3, h4.keep K nin0, h5.keep K nin0, h6⟩
/-- the place holds this price -/
def Hd (Z : State) (n0 : Nat) (h : Heap) (u : Int64) (c : Int32) (w : Value) (v : Int64) (s : Int32) : Prop := (u = v ∧ c = s) ∨ (u = (0 : Int64) ∧ ∃ a : Addr, w = .ref a ∧ BD Z n0 h a v s)
theorem Hd.pres {Z : State} {n0 : Nat} {h h' : Heap} {u : Int64} {c : Int32} {w : Value} {v : Int64} {s : Int32} (P : Pres Z n0 h h') (H : Hd Z n0 h u c w v s) : Hd Z n0 h' u c w v s := H.imp id fun ⟨q, a, e, b⟩ => ⟨q, a, e, P _ _ _ b⟩
def ZTT (Z : State) : Prop := ∃ (za : Addr) (zc : Cell), Sta Z Z.heap "java/math/BigDecimal" "ZERO_THROUGH_TEN" "[Ljava/math/BigDecimal;" (.ref za) ∧ Arr Z Z.heap za zc (.object "java/math/BigDecimal") ∧ zc.slots.size = 11 ∧ ∀ v : Int64, (0 : Int64) < v → v < (11 : Int64) → ∃ (b : Addr) (pr : Int32), ¬ (v.toInt32 < 0 ∨ zc.slots.size ≤ v.toInt32.toNatClampNeg) ∧ zc.slots[v.toInt32.toNatClampNeg]? = some (.ref b) ∧ Exa Z Z.heap b "java/math/BigDecimal" ∧ Fld Z Z.heap b "java/math/BigDecimal" "scale" "I" (.int (0 : Int32)) ∧ Fld Z Z.heap b "java/math/BigDecimal" "intCompact" "J" (.long v) ∧ Fld Z Z.heap b "java/math/BigDecimal" "precision" "I" (.int pr) ∧ ¬ (pr = (0 : Int32))
def TPT (Z : State) : Prop := Sta Z Z.heap "java/math/BigDecimal" "$assertionsDisabled" "Z" (.int (1 : Int32)) ∧ ∃ (ta : Addr) (tc : Cell), Sta Z Z.heap "java/math/BigDecimal" "LONG_TEN_POWERS_TABLE" "[J" (.ref ta) ∧ Arr Z Z.heap ta tc .long ∧ tc.slots.size = 19 ∧ ∀ j : Int32, ¬ j < 0 → j < (19 : Int32) → ¬ (j < 0 ∨ tc.slots.size ≤ j.toNatClampNeg) ∧ ∃ t : Int64, tc.slots[j.toNatClampNeg]? = some (.long t)
def QV (h0 : Heap) (n0 : Nat) (v : Option Value) (h : Heap) (L : List Loc) : Prop := v = none ∧ Fr n0 L ∧ h = h0
def QI (x : Value) (h0 : Heap) (n0 : Nat) (v : Option Value) (h : Heap) (L : List Loc) : Prop := v = some x ∧ Fr n0 L ∧ h = h0
def QA (h0 : Heap) (n0 : Nat) (v : Option Value) (h : Heap) (L : List Loc) : Prop := ∃ r : Int32, v = some (.int r) ∧ Fr n0 L ∧ h = h0
def QP (h0 : Heap) (n0 : Nat) (v : Option Value) (h : Heap) (L : List Loc) : Prop := ∃ r : Int64, v = some (.long r) ∧ (0 : Int64) < r ∧ Fr n0 L ∧ h = h0
def QBi (Z : State) (a1 : Addr) (v : Int64) (s : Int32) (h0 : Heap) (n0 : Nat) (r : Option Value) (h : Heap) (L : List Loc) : Prop := r = none ∧ Fr n0 L ∧ Keep h0 h [a1] ∧ Fld Z h a1 "java/math/BigDecimal" "scale" "I" (.int s) ∧ Fld Z h a1 "java/math/BigDecimal" "precision" "I" (.int (0 : Int32)) ∧ Fld Z h a1 "java/math/BigDecimal" "intCompact" "J" (.long v) ∧ Fld Z h a1 "java/math/BigDecimal" "intVal" "Ljava/math/BigInteger;" .null
def QVo (Z : State) (v : Int64) (s : Int32) (h0 : Heap) (n0 : Nat) (r : Option Value) (h : Heap) (L : List Loc) : Prop := ∃ b : Addr, r = some (.ref b) ∧ Fr n0 L ∧ Keep h0 h [] ∧ BD Z n0 h b v s
def QPr (Z : State) (a1 : Addr) (h0 : Heap) (n0 : Nat) (r : Option Value) (h : Heap) (L : List Loc) : Prop := ∃ (x : Int32) (ws : List Addr), r = some (.int x) ∧ Fr n0 L ∧ Keep h0 h ws ∧ (∀ y ∈ ws, n0 ≤ y) ∧ (∀ y ∈ ws, y = a1) ∧ Pres Z n0 h0 h
def QMp (Z : State) (v : Int64) (h0 : Heap) (n0 : Nat) (r : Option Value) (h : Heap) (L : List Loc) : Prop := ∃ b : Addr, r = some (.ref b) ∧ Fr n0 L ∧ Keep h0 h [] ∧ Exa Z h b "java/math/BigDecimal" ∧ Fld Z h b "java/math/BigDecimal" "scale" "I" (.int (0 : Int32)) ∧ Fld Z h b "java/math/BigDecimal" "intCompact" "J" (.long v)
def QPi (Z : State) (a1 : Addr) (h0 : Heap) (n0 : Nat) (r : Option Value) (h : Heap) (L : List Loc) : Prop := r = none ∧ Fr n0 L ∧ Keep h0 h [a1] ∧ PRS Z n0 h a1 0 0 0 0 0 0 .null .null .null
def QS0 (Z : State) (P : Addr) (u1 u2 : Int64) (c1 c2 : Int32) (w1 w2 : Value) (v : Int64) (s : Int32) (h0 : Heap) (n0 : Nat) (r : Option Value) (h : Heap) (L : List Loc) : Prop := ∃ (u : Int64) (c : Int32) (w : Value), r = none ∧ Fr n0 L ∧ Keep h0 h (own_fr n0 h0) ∧ PRS Z n0 h P u u1 u2 c c1 c2 w w1 w2 ∧ Hd Z n0 h u c w v s ∧ Pres Z n0 h0 h
def QS1 (Z : State) (P : Addr) (u0 u2 : Int64) (c0 c2 : Int32) (w0 w2 : Value) (v : Int64) (s : Int32) (h0 : Heap) (n0 : Nat) (r : Option Value) (h : Heap) (L : List Loc) : Prop := ∃ (u : Int64) (c : Int32) (w : Value), r = none ∧ Fr n0 L ∧ Keep h0 h (own_fr n0 h0) ∧ PRS Z n0 h P u0 u u2 c0 c c2 w0 w w2 ∧ Hd Z n0 h u c w v s ∧ Pres Z n0 h0 h
def QN (h0 : Heap) (n0 : Nat) (r : Option Value) (h : Heap) (L : List Loc) : Prop := r = some .null ∧ Fr n0 L ∧ Keep h0 h []
def Q0 (n0 : Nat) (v : Option Value) (h : Heap) (L : List Loc) : Prop := v = some (.int (1 : Int32)) ∧ Fr n0 L
/-! plain arithmetic -/
theorem own_gt {v : Int64} (h : (0 : Int64) < v) : ¬ v < 0 := fun q => by rw [Int64.lt_iff_toInt_lt] at h q; have : (0 : Int64).toInt = 0 := rfl; omega
theorem own_ne0 {v : Int64} (h : (0 : Int64) < v) : ¬ v = 0 := fun q => by rw [q] at h; exact absurd h (by decide)
theorem own_neM {v : Int64} (h : (0 : Int64) < v) : ¬ v = (-9223372036854775808 : Int64) := fun q => by rw [q] at h; exact absurd h (by decide)
theorem own_posOf {v : Int64} (h : ¬ v < 0) (q : ¬ v = 0) : (0 : Int64) < v := by
  rw [Int64.lt_iff_toInt_lt] at h ⊢
  have e : (0 : Int64).toInt = 0 := rfl
  have : v.toInt ≠ 0 := fun z => q (Int64.toInt_inj.mp (z.trans e.symm))
  omega
theorem own_i2l11 : (11 : Int32).toInt64 = (11 : Int64) := by decide
theorem own_l2i0 : (0 : Int64).toInt32 = (0 : Int32) := by decide
theorem own_and63 (p : Int64) : ¬ ((p &&& (9223372036854775807 : Int64)) < 0) := by
  rw [Int64.lt_iff_toInt_lt]
  have e0 : (0 : Int64).toInt = 0 := rfl
  rw [e0]
  have hm : (p &&& (9223372036854775807 : Int64)).toBitVec.msb = false := by
    rw [Int64.toBitVec_and, BitVec.msb_and]
    have : (9223372036854775807 : Int64).toBitVec.msb = false := by decide
    rw [this, Bool.and_false]
  have := BitVec.toInt_eq_toNat_of_msb hm
  show ¬ ((p &&& (9223372036854775807 : Int64)).toBitVec.toInt < 0)
  omega
theorem own_rem (x : Int64) (h : ¬ x < 0) : ¬ ((x - (x / (1000000000000000000 : Int64)) * (1000000000000000000 : Int64)) < 0) := by
  rw [Int64.lt_iff_toInt_lt] at h ⊢
  have e0 : (0 : Int64).toInt = 0 := rfl
  have ec : (1000000000000000000 : Int64).toInt = 1000000000000000000 := rfl
  rw [e0] at h ⊢
  have hx := Int64.toInt_lt x
  rw [Int64.toInt_sub, Int64.toInt_mul, Int64.toInt_div, ec]
  generalize x.toInt = n at h hx
  have t : n.tdiv 1000000000000000000 = n / 1000000000000000000 := Int.tdiv_eq_ediv_of_nonneg (by omega)
  rw [t]
  have q1 : (n / 1000000000000000000).bmod (2 ^ 64) = n / 1000000000000000000 := Int.bmod_eq_of_le_mul_two (by omega) (by omega)
  rw [q1]
  have q2 : (n / 1000000000000000000 * 1000000000000000000).bmod (2 ^ 64) = n / 1000000000000000000 * 1000000000000000000 := Int.bmod_eq_of_le_mul_two (by omega) (by omega)
  rw [q2]
  rw [Int.bmod_eq_of_le_mul_two (by omega) (by omega)]
  omega
theorem own_ushr12 (a : Int32) : ¬ (((a.toUInt32 >>> ((12 : Int32) &&& 31).toUInt32).toInt32) < 0) := by
  rw [Int32.lt_iff_toInt_lt]
  have e0 : (0 : Int32).toInt = 0 := rfl
  rw [e0]
  have hb : (a.toUInt32 >>> ((12 : Int32) &&& 31).toUInt32).toInt32.toBitVec.toNat < 2 ^ 31 := by
    show (a.toUInt32 >>> ((12 : Int32) &&& 31).toUInt32).toNat < 2 ^ 31
    rw [UInt32.toNat_shiftRight]
    have : (((12 : Int32) &&& 31).toUInt32).toNat % 32 = 12 := by decide
    rw [this, Nat.shiftRight_eq_div_pow]
    have := a.toUInt32.toNat_lt
    omega
  have := BitVec.toInt_eq_toNat_of_lt (x := (a.toUInt32 >>> ((12 : Int32) &&& 31).toUInt32).toInt32.toBitVec) (by omega)
  show ¬ ((a.toUInt32 >>> ((12 : Int32) &&& 31).toUInt32).toInt32.toBitVec.toInt < 0)
  omega
theorem own_len {Z : State} {args : Array Value} {t : Term} {a : Addr} {cl : Cell} {z : Int32} (ht : t.eval args Z none [] Z = some (.ref a)) (ha : Z.arrayAt? a = some cl) (h : (Term.length t).eval args Z none [] Z = some (.int z)) : cl.slots.size < 2 ^ 31 ∧ cl.slots.size.toInt32 = z := by
  by_cases hl : cl.slots.size < 2 ^ 31
  · exact ⟨hl, Value.int.inj (Option.some.inj ((len_f ht ha hl).symm.trans h))⟩
  · simp [Term.eval, ht, ha, hl] at h
theorem own_len11 {n : Nat} (h : n < 2 ^ 31 ∧ n.toInt32 = (11 : Int32)) : n = 11 := by
  have e := len_toInt h.1
  rw [h.2] at e
  have : (11 : Int32).toInt = 11 := rfl
  omega
theorem own_len19 {n : Nat} (h : n < 2 ^ 31 ∧ n.toInt32 = (19 : Int32)) : n = 19 := by
  have e := len_toInt h.1
  rw [h.2] at e
  have : (19 : Int32).toInt = 19 := rfl
  omega
theorem own_c10 {v : Int64} (h1 : (0 : Int64) < v) (h2 : v < (11 : Int64)) : v = (1 : Int64) ∨ v = (2 : Int64) ∨ v = (3 : Int64) ∨ v = (4 : Int64) ∨ v = (5 : Int64) ∨ v = (6 : Int64) ∨ v = (7 : Int64) ∨ v = (8 : Int64) ∨ v = (9 : Int64) ∨ v = (10 : Int64) := by
  rw [Int64.lt_iff_toInt_lt] at h1 h2
  have e0 : (0 : Int64).toInt = 0 := rfl
  have e1 : (11 : Int64).toInt = 11 := rfl
  have key : ∀ k : Int64, v.toInt = k.toInt → v = k := fun k q => Int64.toInt_inj.mp q
  have : v.toInt = 1 ∨ v.toInt = 2 ∨ v.toInt = 3 ∨ v.toInt = 4 ∨ v.toInt = 5 ∨ v.toInt = 6 ∨ v.toInt = 7 ∨ v.toInt = 8 ∨ v.toInt = 9 ∨ v.toInt = 10 := by omega
  rcases this with q | q | q | q | q | q | q | q | q | q
  · exact Or.inl (key _ q)
  · exact Or.inr (Or.inl (key _ q))
  · exact Or.inr (Or.inr (Or.inl (key _ q)))
  · exact Or.inr (Or.inr (Or.inr (Or.inl (key _ q))))
  · exact Or.inr (Or.inr (Or.inr (Or.inr (Or.inl (key _ q)))))
  · exact Or.inr (Or.inr (Or.inr (Or.inr (Or.inr (Or.inl (key _ q))))))
  · exact Or.inr (Or.inr (Or.inr (Or.inr (Or.inr (Or.inr (Or.inl (key _ q)))))))
  · exact Or.inr (Or.inr (Or.inr (Or.inr (Or.inr (Or.inr (Or.inr (Or.inl (key _ q))))))))
  · exact Or.inr (Or.inr (Or.inr (Or.inr (Or.inr (Or.inr (Or.inr (Or.inr (Or.inl (key _ q)))))))))
  · exact Or.inr (Or.inr (Or.inr (Or.inr (Or.inr (Or.inr (Or.inr (Or.inr (Or.inr (key _ q)))))))))
theorem own_c19 {j : Int32} (h1 : ¬ j < 0) (h2 : j < (19 : Int32)) : j = (0 : Int32) ∨ j = (1 : Int32) ∨ j = (2 : Int32) ∨ j = (3 : Int32) ∨ j = (4 : Int32) ∨ j = (5 : Int32) ∨ j = (6 : Int32) ∨ j = (7 : Int32) ∨ j = (8 : Int32) ∨ j = (9 : Int32) ∨ j = (10 : Int32) ∨ j = (11 : Int32) ∨ j = (12 : Int32) ∨ j = (13 : Int32) ∨ j = (14 : Int32) ∨ j = (15 : Int32) ∨ j = (16 : Int32) ∨ j = (17 : Int32) ∨ j = (18 : Int32) := by
  rw [Int32.lt_iff_toInt_lt] at h1 h2
  have e0 : (0 : Int32).toInt = 0 := rfl
  have e1 : (19 : Int32).toInt = 19 := rfl
  have key : ∀ k : Int32, j.toInt = k.toInt → j = k := fun k q => Int32.toInt_inj.mp q
  have : j.toInt = 0 ∨ j.toInt = 1 ∨ j.toInt = 2 ∨ j.toInt = 3 ∨ j.toInt = 4 ∨ j.toInt = 5 ∨ j.toInt = 6 ∨ j.toInt = 7 ∨ j.toInt = 8 ∨ j.toInt = 9 ∨ j.toInt = 10 ∨ j.toInt = 11 ∨ j.toInt = 12 ∨ j.toInt = 13 ∨ j.toInt = 14 ∨ j.toInt = 15 ∨ j.toInt = 16 ∨ j.toInt = 17 ∨ j.toInt = 18 := by omega
  rcases this with q | q | q | q | q | q | q | q | q | q | q | q | q | q | q | q | q | q | q
  · exact Or.inl (key _ q)
  · exact Or.inr (Or.inl (key _ q))
  · exact Or.inr (Or.inr (Or.inl (key _ q)))
  · exact Or.inr (Or.inr (Or.inr (Or.inl (key _ q))))
  · exact Or.inr (Or.inr (Or.inr (Or.inr (Or.inl (key _ q)))))
  · exact Or.inr (Or.inr (Or.inr (Or.inr (Or.inr (Or.inl (key _ q))))))
  · exact Or.inr (Or.inr (Or.inr (Or.inr (Or.inr (Or.inr (Or.inl (key _ q)))))))
  · exact Or.inr (Or.inr (Or.inr (Or.inr (Or.inr (Or.inr (Or.inr (Or.inl (key _ q))))))))
  · exact Or.inr (Or.inr (Or.inr (Or.inr (Or.inr (Or.inr (Or.inr (Or.inr (Or.inl (key _ q)))))))))
  · exact Or.inr (Or.inr (Or.inr (Or.inr (Or.inr (Or.inr (Or.inr (Or.inr (Or.inr (Or.inl (key _ q))))))))))
  · exact Or.inr (Or.inr (Or.inr (Or.inr (Or.inr (Or.inr (Or.inr (Or.inr (Or.inr (Or.inr (Or.inl (key _ q)))))))))))
  · exact Or.inr (Or.inr (Or.inr (Or.inr (Or.inr (Or.inr (Or.inr (Or.inr (Or.inr (Or.inr (Or.inr (Or.inl (key _ q))))))))))))
  · exact Or.inr (Or.inr (Or.inr (Or.inr (Or.inr (Or.inr (Or.inr (Or.inr (Or.inr (Or.inr (Or.inr (Or.inr (Or.inl (key _ q)))))))))))))
  · exact Or.inr (Or.inr (Or.inr (Or.inr (Or.inr (Or.inr (Or.inr (Or.inr (Or.inr (Or.inr (Or.inr (Or.inr (Or.inr (Or.inl (key _ q))))))))))))))
  · exact Or.inr (Or.inr (Or.inr (Or.inr (Or.inr (Or.inr (Or.inr (Or.inr (Or.inr (Or.inr (Or.inr (Or.inr (Or.inr (Or.inr (Or.inl (key _ q)))))))))))))))
  · exact Or.inr (Or.inr (Or.inr (Or.inr (Or.inr (Or.inr (Or.inr (Or.inr (Or.inr (Or.inr (Or.inr (Or.inr (Or.inr (Or.inr (Or.inr (Or.inl (key _ q))))))))))))))))
  · exact Or.inr (Or.inr (Or.inr (Or.inr (Or.inr (Or.inr (Or.inr (Or.inr (Or.inr (Or.inr (Or.inr (Or.inr (Or.inr (Or.inr (Or.inr (Or.inr (Or.inl (key _ q)))))))))))))))))
  · exact Or.inr (Or.inr (Or.inr (Or.inr (Or.inr (Or.inr (Or.inr (Or.inr (Or.inr (Or.inr (Or.inr (Or.inr (Or.inr (Or.inr (Or.inr (Or.inr (Or.inr (Or.inl (key _ q))))))))))))))))))
  · exact Or.inr (Or.inr (Or.inr (Or.inr (Or.inr (Or.inr (Or.inr (Or.inr (Or.inr (Or.inr (Or.inr (Or.inr (Or.inr (Or.inr (Or.inr (Or.inr (Or.inr (Or.inr (key _ q))))))))))))))))))
theorem own_d_jdk_18_method_1_code_0 : decode jdk_18_method_1_code 0 = .ok (.aload_n 0, 1) := by decide +kernel
theorem own_d_jdk_18_method_1_code_1 : decode jdk_18_method_1_code 1 = .ok (.invokespecial 1, 3) := by decide +kernel
theorem own_d_jdk_18_method_1_code_4 : decode jdk_18_method_1_code 4 = .ok (.return_, 1) := by decide +kernel
theorem own_pn_java_lang_Number : plainName "java/lang/Number" = true := by first | (simp [plainName, overriddenIn]; done) | decide +kernel
theorem own_ef_jdk_18_method_1_code_x (m : MethodId) (x0 : Addr) : entryFrame m #[(.ref x0)] 1 = mkF m 0 #[.val (.ref x0)] [] := by first | (simp [entryFrame, mkF, argsToLocals, Value.category]; done) | rfl
set_option maxRecDepth 65536 in
set_option maxHeartbeats 40000000 in
theorem rmNum (l : Launch) (Z : State) (a0 : Array Value) (hw : ∀ d ∈ tables_1, d.before a0 Z = true) (ws : List Jvm.Cond) (a1 : Addr) (h0 : Heap) (n0 : Nat) (Z0 : n0 ≤ h0.size)  :
    MetFree l (⟨"java/lang/Number", "<init>", "()V"⟩ : MethodName) (head1 (Jvm.Cond.code (⟨"java/lang/Number", "<init>", "()V"⟩ : MethodName) jdk_18_method_1_code 1 none :: ws) ({ frames := 1, cells := 0, slots := 0, locals := 12 } : Room)) (fun a U => a = #[(.ref a1)] ∧ Z.Warmed39 U.vm ∧ U.heap = h0) (fun _ _ _ _ _ => True) (fun _ U o U' => ∃ vr_ Lr_, o = .returned vr_ ∧ QV h0 n0 vr_ U'.heap Lr_ ∧ FrameEnd U o U' Lr_ 0 0) := by
  refine MetFree.of_bodySF (plainFor_of_name own_pn_java_lang_Number) hisR ?_
  intro p e s m args below meth c s₁ Bd hml0 hP hK
  obtain ⟨rfl, hZ, hh⟩ := hP
  have hx := Bd.exec
  have hby := Bd.bytes
  have hml : c.maxLocals = 1 := hml0
  have hown : s.vm.findClass "java/lang/Number" = some m.cls := findClass_of_methodNamed Bd.named
  have hnm := (name_of_methodNamed Bd.named Bd.method).1
  have X0 : Stand p l e ({ frames := 1, cells := 0, slots := 0, locals := 12 } : Room) s m #[(.ref a1)] below meth c s₁ [] 0 0 := Stand.of_body Bd
  have e0 : s₁.heap = h0 := by rw [← hh, Bd.state]; rfl
  have N0 := Fr.nil n0
  have pre0 : ∀ t, Steps p.tables e below (s₁.setTop (mkF m 0 #[.val (.ref a1)] [])) t → Steps p.tables e below (s₁.setTop (entryFrame m #[(.ref a1)] 1)) t := fun t k => castTop (own_ef_jdk_18_method_1_code_x m a1) k
  obtain ⟨T1, X1, e1, st1⟩ := initO X0 hx hZ hown (hw _ (List.mem_of_getElem? (i := 23) rfl)) (hw _ (List.mem_of_getElem? (i := 24) rfl)) (hw _ (List.mem_of_getElem? (i := 25) rfl)) e0 (g := (mkF m 1 #[.val (.ref a1)] [(.ref a1)])) rfl (by rw [hml]; rfl) rfl (hb hby own_d_jdk_18_method_1_code_1) (by decide) (W := 0) (by show 2 * 0 + _ ≤ _; exact Nat.le_of_eq rfl) (by decide)
  obtain ⟨fs, hr, hrun, hended, hW, hsame⟩ := X1.leave (v := none) (fun _ => rfl)
  refine ⟨_, _, pre0 _ ?_, hrun, hended, _, _, rfl, ?_, ⟨_, rfl⟩, hW, hsame.mono (by decide) (by decide)⟩
  · show Steps p.tables e below (s₁.setTop (mkF m 0 #[.val (.ref a1)] [])) _
    refine XS.aloadN X0.here hx rfl (hb hby own_d_jdk_18_method_1_code_0) rfl rfl ?_
    show Steps p.tables e below (s₁.setTop (mkF m 1 #[.val (.ref a1)] [(.ref a1)])) _
    refine st1 _ ?_
    show Steps p.tables e below (T1.setTop (mkF m 4 #[.val (.ref a1)] [])) _
    exact X1.returnOut hx Bd.returns (hb hby own_d_jdk_18_method_1_code_4) hr
  · show QV h0 n0 _ T1.heap _
    rw [e1]
    exact ⟨rfl, N0, rfl⟩
theorem own_d_jdk_17_method_1_code_0 : decode jdk_17_method_1_code 0 = .ok (.aload_n 0, 1) := by decide +kernel
theorem own_d_jdk_17_method_1_code_1 : decode jdk_17_method_1_code 1 = .ok (.invokespecial 11, 3) := by decide +kernel
theorem own_d_jdk_17_method_1_code_4 : decode jdk_17_method_1_code 4 = .ok (.aload_n 0, 1) := by decide +kernel
theorem own_d_jdk_17_method_1_code_5 : decode jdk_17_method_1_code 5 = .ok (.iload 4, 2) := by decide +kernel
theorem own_d_jdk_17_method_1_code_7 : decode jdk_17_method_1_code 7 = .ok (.putfield 17, 3) := by decide +kernel
theorem own_d_jdk_17_method_1_code_10 : decode jdk_17_method_1_code 10 = .ok (.aload_n 0, 1) := by decide +kernel
theorem own_d_jdk_17_method_1_code_11 : decode jdk_17_method_1_code 11 = .ok (.iload 5, 2) := by decide +kernel
theorem own_d_jdk_17_method_1_code_13 : decode jdk_17_method_1_code 13 = .ok (.putfield 21, 3) := by decide +kernel
theorem own_d_jdk_17_method_1_code_16 : decode jdk_17_method_1_code 16 = .ok (.aload_n 0, 1) := by decide +kernel
theorem own_d_jdk_17_method_1_code_17 : decode jdk_17_method_1_code 17 = .ok (.lload_n 2, 1) := by decide +kernel
theorem own_d_jdk_17_method_1_code_18 : decode jdk_17_method_1_code 18 = .ok (.putfield 24, 3) := by decide +kernel
theorem own_d_jdk_17_method_1_code_21 : decode jdk_17_method_1_code 21 = .ok (.aload_n 0, 1) := by decide +kernel
theorem own_d_jdk_17_method_1_code_22 : decode jdk_17_method_1_code 22 = .ok (.aload_n 1, 1) := by decide +kernel
theorem own_d_jdk_17_method_1_code_23 : decode jdk_17_method_1_code 23 = .ok (.putfield 28, 3) := by decide +kernel
theorem own_d_jdk_17_method_1_code_26 : decode jdk_17_method_1_code 26 = .ok (.return_, 1) := by decide +kernel
theorem own_pd___V : parseMethodDescriptor "()V" = some ⟨[], none⟩ := by decide +kernel
theorem own_pn_java_math_BigDecimal : plainName "java/math/BigDecimal" = true := by first | (simp [plainName, overriddenIn]; done) | decide +kernel
theorem own_ef_jdk_17_method_1_code_xnxxx (m : MethodId) (x0 : Addr) (x2 : Int64) (x3 : Int32) (x4 : Int32) : entryFrame m #[(.ref x0), .null, (.long x2), (.int x3), (.int x4)] 6 = mkF m 0 #[.val (.ref x0), .val .null, .val (.long x2), .second, .val (.int x3), .val (.int x4)] [] := by first | (simp [entryFrame, mkF, argsToLocals, Value.category]; done) | rfl
set_option maxRecDepth 65536 in
set_option maxHeartbeats 40000000 in
theorem rmBi (l : Launch) (Z : State) (a0 : Array Value) (hw : ∀ d ∈ tables_1, d.before a0 Z = true) (ws : List Jvm.Cond) (a1 : Addr) (v : Int64) (s_ : Int32) (h0 : Heap) (n0 : Nat) (Z0 : n0 ≤ h0.size) (E_a1 : Exa Z h0 a1 "java/math/BigDecimal") (F_scale_a1 : Fld Z h0 a1 "java/math/BigDecimal" "scale" "I" (.int (0 : Int32))) (F_precision_a1 : Fld Z h0 a1 "java/math/BigDecimal" "precision" "I" (.int (0 : Int32))) (F_intCompact_a1 : Fld Z h0 a1 "java/math/BigDecimal" "intCompact" "J" (.long (0 : Int64))) (F_intVal_a1 : Fld Z h0 a1 "java/math/BigDecimal" "intVal" "Ljava/math/BigInteger;" .null) (g_a1 : n0 ≤ a1) :
    MetFree l (⟨"java/math/BigDecimal", "<init>", "(Ljava/math/BigInteger;JII)V"⟩ : MethodName) (head1 (Jvm.Cond.code (⟨"java/math/BigDecimal", "<init>", "(Ljava/math/BigInteger;JII)V"⟩ : MethodName) jdk_17_method_1_code 6 none :: ws) ({ frames := 2, cells := 0, slots := 0, locals := 24 } : Room)) (fun a U => a = #[(.ref a1), .null, (.long v), (.int s_), (.int (0 : Int32))] ∧ Z.Warmed39 U.vm ∧ U.heap = h0) (fun _ _ _ _ _ => True) (fun _ U o U' => ∃ vr_ Lr_, o = .returned vr_ ∧ QBi Z a1 v s_ h0 n0 vr_ U'.heap Lr_ ∧ FrameEnd U o U' Lr_ 0 0) := by
  refine MetFree.of_bodySF (plainFor_of_name own_pn_java_math_BigDecimal) hisR ?_
  intro p e s m args below meth c s₁ Bd hml0 hP hK
  obtain ⟨rfl, hZ, hh⟩ := hP
  have hx := Bd.exec
  have hby := Bd.bytes
  have hml : c.maxLocals = 6 := hml0
  have hown : s.vm.findClass "java/math/BigDecimal" = some m.cls := findClass_of_methodNamed Bd.named
  have hnm := (name_of_methodNamed Bd.named Bd.method).1
  have X0 : Stand p l e ({ frames := 2, cells := 0, slots := 0, locals := 24 } : Room) s m #[(.ref a1), .null, (.long v), (.int s_), (.int (0 : Int32))] below meth c s₁ [] 0 0 := Stand.of_body Bd
  have e0 : s₁.heap = h0 := by rw [← hh, Bd.state]; rfl
  have N0 := Fr.nil n0
  have pre0 : ∀ t, Steps p.tables e below (s₁.setTop (mkF m 0 #[.val (.ref a1), .val .null, .val (.long v), .second, .val (.int s_), .val (.int (0 : Int32))] [])) t → Steps p.tables e below (s₁.setTop (entryFrame m #[(.ref a1), .null, (.long v), (.int s_), (.int (0 : Int32))] 6)) t := fun t k => castTop (own_ef_jdk_17_method_1_code_xnxxx m a1 v s_ (0 : Int32)) k
  obtain ⟨_, _, ⟨T1, L1, k1, n1⟩, -, X1, ⟨Lc1, hQ1, l1, y1, z1⟩, st1⟩ := X0.specialBack hx (y := (⟨"java/lang/Number", "<init>", "()V"⟩ : MethodName)) rfl hown (mvT hZ (hw _ (List.mem_of_getElem? (i := 17) rfl))) (mvT hZ (hw _ (List.mem_of_getElem? (i := 18) rfl))) (mvT hZ (hw _ (List.mem_of_getElem? (i := 22) rfl))) (by decide) (backOf (W := 0) (rmNum l Z a0 hw [] a1 h0 n0 (Nat.le_trans Z0 (Keep.refl h0 [a1]).1) ) hZ (hw _ (List.mem_of_getElem? (i := 22) rfl)) (hw _ (List.mem_of_getElem? (i := 21) rfl)) (by decide) (by decide)) (g := (mkF m 1 #[.val (.ref a1), .val .null, .val (.long v), .second, .val (.int s_), .val (.int (0 : Int32))] [(.ref a1)])) rfl (by rw [hml]; rfl) (Steps.refl _) (a := a1) (argsL := []) (rest := []) (lenOf own_pd___V rfl) rfl (by show 2 * 0 + _ ≤ _; exact Nat.le_of_eq rfl) (hb hby own_d_jdk_17_method_1_code_1) (fun _ _ => ⟨rfl, e0, (by decide : 0 + 0 ≤ _), (by decide : 0 + 0 ≤ _)⟩)
  dsimp only [Pt.U, Pt.locs, Pt.cells, Pt.slots] at X1 l1 y1 z1 st1 hQ1
  subst l1 y1 z1
  obtain ⟨rfl, N1q, e1q⟩ := hQ1
  have N1a := Fr.app N0 N1q
  obtain ⟨T2, h2, X2, e2, W2, st2⟩ := putF X1 hx hZ hown (host := "") (Or.inl (hw _ (List.mem_of_getElem? (i := 26) rfl))) Via.refl e1q F_scale_a1 E_a1 (Or.inr ⟨(hw _ (List.mem_of_getElem? (i := 27) rfl)), rfl, hnm⟩) (hw _ (List.mem_of_getElem? (i := 11) rfl)) (ty := .int) (by decide) rfl rfl (g := (mkF m 7 #[.val (.ref a1), .val .null, .val (.long v), .second, .val (.int s_), .val (.int (0 : Int32))] [(.int s_), (.ref a1)])) rfl rfl (hb hby own_d_jdk_17_method_1_code_7)
  have Fw2 := F_scale_a1.same W2
  have Nf2 := Fr.snoc X2 N1a g_a1
  have K1 : Keep h0 h2 [a1] := (Keep.refl h0 [a1]).wr W2 (Or.inl (List.mem_of_getElem? (i := 0) rfl))
  have f3 : Fld Z h2 a1 "java/math/BigDecimal" "precision" "I" (.int (0 : Int32)) := (F_precision_a1.other W2 (Or.inr (slot_ne (Or.inl (hw _ (List.mem_of_getElem? (i := 29) rfl))) (Or.inr (hw _ (List.mem_of_getElem? (i := 27) rfl))) (by decide) (t := .int) (t' := .int) (by decide) (by decide))))
  have f4 : Exa Z h2 a1 "java/math/BigDecimal" := (E_a1.wr W2)
  obtain ⟨T5, h5, X5, e5, W5, st5⟩ := putF X2 hx hZ hown (host := "") (Or.inl (hw _ (List.mem_of_getElem? (i := 28) rfl))) Via.refl e2 f3 f4 (Or.inl (hw _ (List.mem_of_getElem? (i := 29) rfl))) (hw _ (List.mem_of_getElem? (i := 11) rfl)) (ty := .int) (by decide) rfl rfl (g := (mkF m 13 #[.val (.ref a1), .val .null, .val (.long v), .second, .val (.int s_), .val (.int (0 : Int32))] [(.int (0 : Int32)), (.ref a1)])) rfl rfl (hb hby own_d_jdk_17_method_1_code_13)
  have Fw5 := f3.same W5
  have Nf5 := Fr.snoc X5 Nf2 g_a1
  have K2 : Keep h0 h5 [a1] := K1.wr W5 (Or.inl (List.mem_of_getElem? (i := 0) rfl))
  have f6 : Fld Z h5 a1 "java/math/BigDecimal" "intCompact" "J" (.long (0 : Int64)) := ((F_intCompact_a1.other W2 (Or.inr (slot_ne (Or.inr (hw _ (List.mem_of_getElem? (i := 31) rfl))) (Or.inr (hw _ (List.mem_of_getElem? (i := 27) rfl))) (by decide) (t := .long) (t' := .int) (by decide) (by decide)))).other W5 (Or.inr (slot_ne (Or.inr (hw _ (List.mem_of_getElem? (i := 31) rfl))) (Or.inl (hw _ (List.mem_of_getElem? (i := 29) rfl))) (by decide) (t := .long) (t' := .int) (by decide) (by decide))))
  have f7 : Exa Z h5 a1 "java/math/BigDecimal" := (f4.wr W5)
  obtain ⟨T8, h8, X8, e8, W8, st8⟩ := putF X5 hx hZ hown (host := "") (Or.inl (hw _ (List.mem_of_getElem? (i := 30) rfl))) Via.refl e5 f6 f7 (Or.inr ⟨(hw _ (List.mem_of_getElem? (i := 31) rfl)), rfl, hnm⟩) (hw _ (List.mem_of_getElem? (i := 11) rfl)) (ty := .long) (by decide) rfl rfl (g := (mkF m 18 #[.val (.ref a1), .val .null, .val (.long v), .second, .val (.int s_), .val (.int (0 : Int32))] [(.long v), (.ref a1)])) rfl rfl (hb hby own_d_jdk_17_method_1_code_18)
  have Fw8 := f6.same W8
  have Nf8 := Fr.snoc X8 Nf5 g_a1
  have K3 : Keep h0 h8 [a1] := K2.wr W8 (Or.inl (List.mem_of_getElem? (i := 0) rfl))
  have f9 : Fld Z h8 a1 "java/math/BigDecimal" "intVal" "Ljava/math/BigInteger;" .null := (((F_intVal_a1.other W2 (Or.inr (slot_ne (Or.inr (hw _ (List.mem_of_getElem? (i := 33) rfl))) (Or.inr (hw _ (List.mem_of_getElem? (i := 27) rfl))) (by decide) (t := (.object "java/math/BigInteger")) (t' := .int) (by decide) (by decide)))).other W5 (Or.inr (slot_ne (Or.inr (hw _ (List.mem_of_getElem? (i := 33) rfl))) (Or.inl (hw _ (List.mem_of_getElem? (i := 29) rfl))) (by decide) (t := (.object "java/math/BigInteger")) (t' := .int) (by decide) (by decide)))).other W8 (Or.inr (slot_ne (Or.inr (hw _ (List.mem_of_getElem? (i := 33) rfl))) (Or.inr (hw _ (List.mem_of_getElem? (i := 31) rfl))) (by decide) (t := (.object "java/math/BigInteger")) (t' := .long) (by decide) (by decide))))
  have f10 : Exa Z h8 a1 "java/math/BigDecimal" := (f7.wr W8)
  obtain ⟨T11, h11, X11, e11, W11, st11⟩ := putF X8 hx hZ hown (host := "") (Or.inl (hw _ (List.mem_of_getElem? (i := 32) rfl))) Via.refl e8 f9 f10 (Or.inr ⟨(hw _ (List.mem_of_getElem? (i := 33) rfl)), rfl, hnm⟩) (hw _ (List.mem_of_getElem? (i := 11) rfl)) (ty := (.object "java/math/BigInteger")) (by decide) rfl rfl (g := (mkF m 23 #[.val (.ref a1), .val .null, .val (.long v), .second, .val (.int s_), .val (.int (0 : Int32))] [.null, (.ref a1)])) rfl rfl (hb hby own_d_jdk_17_method_1_code_23)
  have Fw11 := f9.same W11
  have Nf11 := Fr.snoc X11 Nf8 g_a1
  have K4 : Keep h0 h11 [a1] := K3.wr W11 (Or.inl (List.mem_of_getElem? (i := 0) rfl))
  have f12 : Fld Z h11 a1 "java/math/BigDecimal" "scale" "I" (.int s_) := (((Fw2.other W5 (Or.inr (slot_ne (Or.inr (hw _ (List.mem_of_getElem? (i := 27) rfl))) (Or.inl (hw _ (List.mem_of_getElem? (i := 29) rfl))) (by decide) (t := .int) (t' := .int) (by decide) (by decide)))).other W8 (Or.inr (slot_ne (Or.inr (hw _ (List.mem_of_getElem? (i := 27) rfl))) (Or.inr (hw _ (List.mem_of_getElem? (i := 31) rfl))) (by decide) (t := .int) (t' := .long) (by decide) (by decide)))).other W11 (Or.inr (slot_ne (Or.inr (hw _ (List.mem_of_getElem? (i := 27) rfl))) (Or.inr (hw _ (List.mem_of_getElem? (i := 33) rfl))) (by decide) (t := .int) (t' := (.object "java/math/BigInteger")) (by decide) (by decide))))
  have f13 : Fld Z h11 a1 "java/math/BigDecimal" "precision" "I" (.int (0 : Int32)) := ((Fw5.other W8 (Or.inr (slot_ne (Or.inl (hw _ (List.mem_of_getElem? (i := 29) rfl))) (Or.inr (hw _ (List.mem_of_getElem? (i := 31) rfl))) (by decide) (t := .int) (t' := .long) (by decide) (by decide)))).other W11 (Or.inr (slot_ne (Or.inl (hw _ (List.mem_of_getElem? (i := 29) rfl))) (Or.inr (hw _ (List.mem_of_getElem? (i := 33) rfl))) (by decide) (t := .int) (t' := (.object "java/math/BigInteger")) (by decide) (by decide))))
  have f14 : Fld Z h11 a1 "java/math/BigDecimal" "intCompact" "J" (.long v) := (Fw8.other W11 (Or.inr (slot_ne (Or.inr (hw _ (List.mem_of_getElem? (i := 31) rfl))) (Or.inr (hw _ (List.mem_of_getElem? (i := 33) rfl))) (by decide) (t := .long) (t' := (.object "java/math/BigInteger")) (by decide) (by decide))))
  obtain ⟨fs, hr, hrun, hended, hW, hsame⟩ := X11.leave (v := none) (fun _ => rfl)
  refine ⟨_, _, pre0 _ ?_, hrun, hended, _, _, rfl, ?_, ⟨_, rfl⟩, hW, hsame.mono (by decide) (by decide)⟩
  · show Steps p.tables e below (s₁.setTop (mkF m 0 #[.val (.ref a1), .val .null, .val (.long v), .second, .val (.int s_), .val (.int (0 : Int32))] [])) _
    refine XS.aloadN X0.here hx rfl (hb hby own_d_jdk_17_method_1_code_0) rfl rfl ?_
    show Steps p.tables e below (s₁.setTop (mkF m 1 #[.val (.ref a1), .val .null, .val (.long v), .second, .val (.int s_), .val (.int (0 : Int32))] [(.ref a1)])) _
    refine st1.trans ?_
    refine XS.aloadN X1.here hx rfl (hb hby own_d_jdk_17_method_1_code_4) rfl rfl ?_
    refine XS.iload X1.here hx rfl (hb hby own_d_jdk_17_method_1_code_5) rfl ?_
    show Steps p.tables e below (T1.setTop (mkF m 7 #[.val (.ref a1), .val .null, .val (.long v), .second, .val (.int s_), .val (.int (0 : Int32))] [(.int s_), (.ref a1)])) _
    refine st2 _ ?_
    refine XS.aloadN X2.here hx rfl (hb hby own_d_jdk_17_method_1_code_10) rfl rfl ?_
    refine XS.iload X2.here hx rfl (hb hby own_d_jdk_17_method_1_code_11) rfl ?_
    show Steps p.tables e below (T2.setTop (mkF m 13 #[.val (.ref a1), .val .null, .val (.long v), .second, .val (.int s_), .val (.int (0 : Int32))] [(.int (0 : Int32)), (.ref a1)])) _
    refine st5 _ ?_
    refine XS.aloadN X5.here hx rfl (hb hby own_d_jdk_17_method_1_code_16) rfl rfl ?_
    refine XS.lloadN X5.here hx rfl (hb hby own_d_jdk_17_method_1_code_17) rfl ?_
    show Steps p.tables e below (T5.setTop (mkF m 18 #[.val (.ref a1), .val .null, .val (.long v), .second, .val (.int s_), .val (.int (0 : Int32))] [(.long v), (.ref a1)])) _
    refine st8 _ ?_
    refine XS.aloadN X8.here hx rfl (hb hby own_d_jdk_17_method_1_code_21) rfl rfl ?_
    refine XS.aloadN X8.here hx rfl (hb hby own_d_jdk_17_method_1_code_22) rfl rfl ?_
    show Steps p.tables e below (T8.setTop (mkF m 23 #[.val (.ref a1), .val .null, .val (.long v), .second, .val (.int s_), .val (.int (0 : Int32))] [.null, (.ref a1)])) _
    refine st11 _ ?_
    show Steps p.tables e below (T11.setTop (mkF m 26 #[.val (.ref a1), .val .null, .val (.long v), .second, .val (.int s_), .val (.int (0 : Int32))] [])) _
    exact X11.returnOut hx Bd.returns (hb hby own_d_jdk_17_method_1_code_26) hr
  · show QBi Z a1 v s_ h0 n0 _ T11.heap _
    rw [e11]
    exact ⟨rfl, Nf11, K4, f12, f13, f14, Fw11⟩
theorem own_d_jdk_17_method_21_code_0 : decode jdk_17_method_21_code 0 = .ok (.lload_n 0, 1) := by decide +kernel
theorem own_d_jdk_17_method_21_code_1 : decode jdk_17_method_21_code 1 = .ok (.lconst 0, 1) := by decide +kernel
theorem own_d_jdk_17_method_21_code_2 : decode jdk_17_method_21_code 2 = .ok (.lcmp, 1) := by decide +kernel
theorem own_d_jdk_17_method_21_code_3 : decode jdk_17_method_21_code 3 = .ok (.ifCond .lt 20, 3) := by decide +kernel
theorem own_d_jdk_17_method_21_code_6 : decode jdk_17_method_21_code 6 = .ok (.lload_n 0, 1) := by decide +kernel
theorem own_d_jdk_17_method_21_code_7 : decode jdk_17_method_21_code 7 = .ok (.getstatic 246, 3) := by decide +kernel
theorem own_d_jdk_17_method_21_code_10 : decode jdk_17_method_21_code 10 = .ok (.arraylength, 1) := by decide +kernel
theorem own_d_jdk_17_method_21_code_11 : decode jdk_17_method_21_code 11 = .ok (.i2l, 1) := by decide +kernel
theorem own_d_jdk_17_method_21_code_12 : decode jdk_17_method_21_code 12 = .ok (.lcmp, 1) := by decide +kernel
theorem own_d_jdk_17_method_21_code_13 : decode jdk_17_method_21_code 13 = .ok (.ifCond .ge 10, 3) := by decide +kernel
theorem own_d_jdk_17_method_21_code_16 : decode jdk_17_method_21_code 16 = .ok (.getstatic 246, 3) := by decide +kernel
theorem own_d_jdk_17_method_21_code_19 : decode jdk_17_method_21_code 19 = .ok (.lload_n 0, 1) := by decide +kernel
theorem own_d_jdk_17_method_21_code_20 : decode jdk_17_method_21_code 20 = .ok (.l2i, 1) := by decide +kernel
theorem own_d_jdk_17_method_21_code_21 : decode jdk_17_method_21_code 21 = .ok (.aaload, 1) := by decide +kernel
theorem own_d_jdk_17_method_21_code_22 : decode jdk_17_method_21_code 22 = .ok (.areturn, 1) := by decide +kernel
theorem own_d_jdk_17_method_21_code_23 : decode jdk_17_method_21_code 23 = .ok (.lload_n 0, 1) := by decide +kernel
theorem own_d_jdk_17_method_21_code_24 : decode jdk_17_method_21_code 24 = .ok (.ldc2_w 125, 3) := by decide +kernel
theorem own_d_jdk_17_method_21_code_27 : decode jdk_17_method_21_code 27 = .ok (.lcmp, 1) := by decide +kernel
theorem own_d_jdk_17_method_21_code_28 : decode jdk_17_method_21_code 28 = .ok (.ifCond .eq 15, 3) := by decide +kernel
theorem own_d_jdk_17_method_21_code_31 : decode jdk_17_method_21_code 31 = .ok (.new 3, 3) := by decide +kernel
theorem own_d_jdk_17_method_21_code_34 : decode jdk_17_method_21_code 34 = .ok (.dup, 1) := by decide +kernel
theorem own_d_jdk_17_method_21_code_35 : decode jdk_17_method_21_code 35 = .ok (.aconst_null, 1) := by decide +kernel
theorem own_d_jdk_17_method_21_code_36 : decode jdk_17_method_21_code 36 = .ok (.lload_n 0, 1) := by decide +kernel
theorem own_d_jdk_17_method_21_code_37 : decode jdk_17_method_21_code 37 = .ok (.iconst 0, 1) := by decide +kernel
theorem own_d_jdk_17_method_21_code_38 : decode jdk_17_method_21_code 38 = .ok (.iconst 0, 1) := by decide +kernel
theorem own_d_jdk_17_method_21_code_39 : decode jdk_17_method_21_code 39 = .ok (.invokespecial 243, 3) := by decide +kernel
theorem own_d_jdk_17_method_21_code_42 : decode jdk_17_method_21_code 42 = .ok (.areturn, 1) := by decide +kernel
theorem own_pd__Ljava_math_BigInteger_JII_V : parseMethodDescriptor "(Ljava/math/BigInteger;JII)V" = some ⟨[(.object "java/math/BigInteger"), .long, .int, .int], none⟩ := by decide +kernel
theorem own_ef_jdk_17_method_21_code_x (m : MethodId) (x0 : Int64) : entryFrame m #[(.long x0)] 2 = mkF m 0 #[.val (.long x0), .second] [] := by first | (simp [entryFrame, mkF, argsToLocals, Value.category]; done) | rfl
set_option maxRecDepth 65536 in
set_option maxHeartbeats 40000000 in
theorem rmVj (l : Launch) (Z : State) (a0 : Array Value) (hw : ∀ d ∈ tables_1, d.before a0 Z = true) (ws : List Jvm.Cond) (v : Int64) (h0 : Heap) (n0 : Nat) (Z0 : n0 ≤ h0.size) (hv : (0 : Int64) < v) (hZT : ZTT Z) (O0 : Old Z n0 h0) :
    MetFree l (⟨"java/math/BigDecimal", "valueOf", "(J)Ljava/math/BigDecimal;"⟩ : MethodName) (head1 (Jvm.Cond.code (⟨"java/math/BigDecimal", "valueOf", "(J)Ljava/math/BigDecimal;"⟩ : MethodName) jdk_17_method_21_code 2 (some (.object "java/math/BigDecimal")) :: ws) ({ frames := 3, cells := 1, slots := 5, locals := 42 } : Room)) (fun a U => a = #[(.long v)] ∧ Z.Warmed39 U.vm ∧ U.heap = h0) (fun _ _ _ _ _ => True) (fun _ U o U' => ∃ vr_ Lr_, o = .returned vr_ ∧ QVo Z v (0 : Int32) h0 n0 vr_ U'.heap Lr_ ∧ FrameEnd U o U' Lr_ 1 5) := by
  refine MetFree.of_bodySF (plainFor_of_name own_pn_java_math_BigDecimal) hisR ?_
  intro p e s m args below meth c s₁ Bd hml0 hP hK
  obtain ⟨rfl, hZ, hh⟩ := hP
  have hx := Bd.exec
  have hby := Bd.bytes
  have hml : c.maxLocals = 2 := hml0
  have hown : s.vm.findClass "java/math/BigDecimal" = some m.cls := findClass_of_methodNamed Bd.named
  have hnm := (name_of_methodNamed Bd.named Bd.method).1
  have X0 : Stand p l e ({ frames := 3, cells := 1, slots := 5, locals := 42 } : Room) s m #[(.long v)] below meth c s₁ [] 0 0 := Stand.of_body Bd
  have e0 : s₁.heap = h0 := by rw [← hh, Bd.state]; rfl
  have N0 := Fr.nil n0
  have pre0 : ∀ t, Steps p.tables e below (s₁.setTop (mkF m 0 #[.val (.long v), .second] [])) t → Steps p.tables e below (s₁.setTop (entryFrame m #[(.long v)] 2)) t := fun t k => castTop (own_ef_jdk_17_method_21_code_x m v) k
  obtain ⟨za, zc, Sz, Az0, zsz, zel⟩ := hZT
  have Az : Arr Z h0 za zc (.object "java/math/BigDecimal") := Az0.ext O0.2
  obtain ⟨T1, X1, e1, st1⟩ := getS2 X0 hx hZ hown (host := "") (Or.inl (hw _ (List.mem_of_getElem? (i := 37) rfl))) Via.refl e0 (Sz.ext O0.2) (g := (mkF m 7 #[.val (.long v), .second] [(.long v)])) rfl (hb hby own_d_jdk_17_method_21_code_7)
  have cut2 : ∀ t, Steps p.tables e below (T1.setTop (mkF m 13 #[.val (.long v), .second] [(.int (lcmpW v (11 : Int64)))])) t → Steps p.tables e below (s₁.setTop (mkF m 0 #[.val (.long v), .second] [])) t := fun t kk => by
    show Steps p.tables e below (s₁.setTop (mkF m 0 #[.val (.long v), .second] [])) _
    refine XS.lloadN X0.here hx rfl (hb hby own_d_jdk_17_method_21_code_0) rfl ?_
    refine XS.lconst X0.here hx rfl (hb hby own_d_jdk_17_method_21_code_1) ?_
    refine XS.lcmp X0.here hx rfl (hb hby own_d_jdk_17_method_21_code_2) rfl ?_
    show Steps p.tables e below (s₁.setTop (mkF m 3 #[.val (.long v), .second] [(.int (lcmpW v (0 : Int64)))])) _
    refine XS.ifNo X0.here hx rfl (hb hby own_d_jdk_17_method_21_code_3) rfl ((if0 _ _).trans (flt (fun q => own_gt hv ((lw_lt _ _).mp q) : ¬ ((lcmpW v (0 : Int64)) < (0 : Int32)))).1) ?_
    refine XS.lloadN X0.here hx rfl (hb hby own_d_jdk_17_method_21_code_6) rfl ?_
    show Steps p.tables e below (s₁.setTop (mkF m 7 #[.val (.long v), .second] [(.long v)])) _
    refine st1 _ ?_
    show Steps p.tables e below (T1.setTop (mkF m 10 #[.val (.long v), .second] [(.ref za), (.long v)])) _
    refine X1.arraylength hx (by rw [e1]; exact Az.1) (State.isArrayOf_alike hZ.alike Az.2.1) (g := (mkF m 10 #[.val (.long v), .second] [(.ref za), (.long v)])) rfl rfl (hb hby own_d_jdk_17_method_21_code_10) _ ?_
    rw [zsz]
    refine XS.i2l X1.here hx rfl (hb hby own_d_jdk_17_method_21_code_11) rfl ?_
    show Steps p.tables e below (T1.setTop (mkF m 12 #[.val (.long v), .second] [(.long ((11 : Int32).toInt64)), (.long v)])) _
    rw [own_i2l11]
    refine XS.lcmp X1.here hx rfl (hb hby own_d_jdk_17_method_21_code_12) rfl ?_
    exact kk
  by_cases c11 : v < (11 : Int64)
  · obtain ⟨b, pr, zin, zat, zE, zs, zc_, zp, zn⟩ := zel v hv c11
    obtain ⟨T3, X3, e3, st3⟩ := getS2 X1 hx hZ hown (host := "") (Or.inl (hw _ (List.mem_of_getElem? (i := 37) rfl))) Via.refl e1 (Sz.ext O0.2) (g := (mkF m 16 #[.val (.long v), .second] [])) rfl (hb hby own_d_jdk_17_method_21_code_16)
    obtain ⟨fs, hr, hrun, hended, hW, hsame⟩ := X3.leave (v := some (.ref b)) (fun h => by rw [Bd.returns] at h; cases h)
    refine ⟨_, _, pre0 _ ?_, hrun, hended, _, _, rfl, ?_, ⟨_, rfl⟩, hW, hsame.mono (by decide) (by decide)⟩
    · refine cut2 _ ?_
      show Steps p.tables e below (T1.setTop (mkF m 13 #[.val (.long v), .second] [(.int (lcmpW v (11 : Int64)))])) _
      refine XS.ifNo X1.here hx rfl (hb hby own_d_jdk_17_method_21_code_13) rfl ((if0 _ _).trans (tlt ((lw_lt _ _).mpr c11 : (lcmpW v (11 : Int64)) < (0 : Int32))).2.1) ?_
      show Steps p.tables e below (T1.setTop (mkF m 16 #[.val (.long v), .second] [])) _
      refine st3 _ ?_
      refine XS.lloadN X3.here hx rfl (hb hby own_d_jdk_17_method_21_code_19) rfl ?_
      refine XS.l2i X3.here hx rfl (hb hby own_d_jdk_17_method_21_code_20) rfl ?_
      show Steps p.tables e below (T3.setTop (mkF m 21 #[.val (.long v), .second] [(.int (v.toInt32)), (.ref za)])) _
      refine X3.aaload hx (j := v.toInt32) (v := (.ref b)) (by rw [e3]; exact Az.1) (State.isArrayOf_alike hZ.alike Az.2.1) rfl Az.2.2 zin zat (g := (mkF m 21 #[.val (.long v), .second] [(.int (v.toInt32)), (.ref za)])) rfl rfl (hb hby own_d_jdk_17_method_21_code_21) _ ?_
      show Steps p.tables e below (T3.setTop (mkF m 22 #[.val (.long v), .second] [(.ref b)])) _
      jvm_step X3.here [X3.here.top, hx, (hb hby own_d_jdk_17_method_21_code_22), X3.method', Bd.returns, Value.isRef, FieldType.isReference]
      first | (intro acts; rw [hr _ acts rfl rfl rfl]) | rw [hr _ _ rfl rfl rfl]
      exact Steps.refl _
    · show QVo Z v (0 : Int32) h0 n0 _ T3.heap _
      rw [e3]
      exact ⟨b, rfl, N0, (Keep.refl h0 []), zE.ext O0.2, zs.ext O0.2, zc_.ext O0.2, ⟨pr, zp.ext O0.2, Or.inl zn⟩, Or.inl rfl⟩
  · obtain ⟨T3, h3, X3, e3, E3, A3, D3, -, st3⟩ := newO X1 hx hZ hown (hw _ (List.mem_of_getElem? (i := 10) rfl)) (hw _ (List.mem_of_getElem? (i := 11) rfl)) (hw _ (List.mem_of_getElem? (i := 8) rfl)) e1 (g := (mkF m 31 #[.val (.long v), .second] [])) rfl (hb hby own_d_jdk_17_method_21_code_31) (by decide) (by decide)
    obtain ⟨b3, g3⟩ : ∃ z, z = h0.size := ⟨_, rfl⟩
    rw [← g3] at A3 D3 st3
    have sz_b3 : h0.size ≤ b3 := Nat.le_trans (Keep.refl h0 []).1 (Nat.le_of_eq g3.symm)
    have g_b3 : n0 ≤ b3 := Nat.le_trans Z0 sz_b3
    have K1 : Keep h0 h3 [] := (Keep.refl h0 []).ext E3
    have F_scale_b3 : Fld Z h3 b3 "java/math/BigDecimal" "scale" "I" (.int (0 : Int32)) := D3 (Or.inr (hw _ (List.mem_of_getElem? (i := 27) rfl))) (ty := .int) (by decide)
    have F_precision_b3 : Fld Z h3 b3 "java/math/BigDecimal" "precision" "I" (.int (0 : Int32)) := D3 (Or.inl (hw _ (List.mem_of_getElem? (i := 29) rfl))) (ty := .int) (by decide)
    have F_intCompact_b3 : Fld Z h3 b3 "java/math/BigDecimal" "intCompact" "J" (.long (0 : Int64)) := D3 (Or.inr (hw _ (List.mem_of_getElem? (i := 31) rfl))) (ty := .long) (by decide)
    have F_intVal_b3 : Fld Z h3 b3 "java/math/BigDecimal" "intVal" "Ljava/math/BigInteger;" .null := D3 (Or.inr (hw _ (List.mem_of_getElem? (i := 33) rfl))) (ty := (.object "java/math/BigInteger")) (by decide)
    obtain ⟨_, _, ⟨T4, L4, k4, n4⟩, -, X4, ⟨Lc4, hQ4, l4, y4, z4⟩, st4⟩ := X3.specialBack hx (y := (⟨"java/math/BigDecimal", "<init>", "(Ljava/math/BigInteger;JII)V"⟩ : MethodName)) rfl hown (mvT hZ (hw _ (List.mem_of_getElem? (i := 13) rfl))) (mvT hZ (hw _ (List.mem_of_getElem? (i := 14) rfl))) (mvT hZ (hw _ (List.mem_of_getElem? (i := 16) rfl))) (by decide) (backOf (W := 1) (rmBi l Z a0 hw [] b3 v (0 : Int32) h3 n0 (Nat.le_trans Z0 K1.1) A3 F_scale_b3 F_precision_b3 F_intCompact_b3 F_intVal_b3 g_b3) hZ (hw _ (List.mem_of_getElem? (i := 16) rfl)) (hw _ (List.mem_of_getElem? (i := 8) rfl)) (by decide) (by decide)) (g := (mkF m 39 #[.val (.long v), .second] [(.int (0 : Int32)), (.int (0 : Int32)), (.long v), .null, (.ref b3), (.ref b3)])) rfl (by rw [hml]; rfl) (Steps.refl _) (a := b3) (argsL := [.null, (.long v), (.int (0 : Int32)), (.int (0 : Int32))]) (rest := [(.ref b3)]) (lenOf own_pd__Ljava_math_BigInteger_JII_V rfl) rfl (by show 2 * 0 + _ ≤ _; exact Nat.le_of_eq rfl) (hb hby own_d_jdk_17_method_21_code_39) (fun _ _ => ⟨rfl, e3, (by decide : 1 + 0 ≤ _), (by decide : 5 + 0 ≤ _)⟩)
    dsimp only [Pt.U, Pt.locs, Pt.cells, Pt.slots] at X4 l4 y4 z4 st4 hQ4
    subst l4 y4 z4
    obtain ⟨rfl, N4q, K4q, Bs4, Bp4, Bc4, Bv4⟩ := hQ4
    have N4a := Fr.app N0 N4q
    have K2 : Keep h0 T4.heap [] := K1.trans K4q (allS (Or.inr sz_b3) all0)
    have f5 : Exa Z T4.heap b3 "java/math/BigDecimal" := (A3.keep K4q)
    obtain ⟨fs, hr, hrun, hended, hW, hsame⟩ := X4.leave (v := some (.ref b3)) (fun h => by rw [Bd.returns] at h; cases h)
    refine ⟨_, _, pre0 _ ?_, hrun, hended, _, _, rfl, ?_, ⟨_, rfl⟩, hW, hsame.mono (by decide) (by decide)⟩
    · refine cut2 _ ?_
      show Steps p.tables e below (T1.setTop (mkF m 13 #[.val (.long v), .second] [(.int (lcmpW v (11 : Int64)))])) _
      refine XS.ifYes X1.here hx rfl (pc0 := 13) (pc' := 23) rfl (hb hby own_d_jdk_17_method_21_code_13) rfl ((if0 _ _).trans (flt (fun q => c11 ((lw_lt _ _).mp q) : ¬ ((lcmpW v (11 : Int64)) < (0 : Int32)))).2.1) (by decide) (by decide) ?_
      refine XS.lloadN X1.here hx rfl (hb hby own_d_jdk_17_method_21_code_23) rfl ?_
      show Steps p.tables e below (T1.setTop (mkF m 24 #[.val (.long v), .second] [(.long v)])) _
      refine X1.ldc2Long hx hown (mvT hZ (hw _ (List.mem_of_getElem? (i := 12) rfl))) (g := (mkF m 24 #[.val (.long v), .second] [(.long v)])) rfl (hb hby own_d_jdk_17_method_21_code_24) _ ?_
      refine XS.lcmp X1.here hx rfl (hb hby own_d_jdk_17_method_21_code_27) rfl ?_
      show Steps p.tables e below (T1.setTop (mkF m 28 #[.val (.long v), .second] [(.int (lcmpW v (-9223372036854775808 : Int64)))])) _
      refine XS.ifNo X1.here hx rfl (hb hby own_d_jdk_17_method_21_code_28) rfl ((if0 _ _).trans (feq (fun q => own_neM hv ((lw_eq _ _).mp q) : ¬ ((lcmpW v (-9223372036854775808 : Int64)) = (0 : Int32)))).1) ?_
      show Steps p.tables e below (T1.setTop (mkF m 31 #[.val (.long v), .second] [])) _
      refine st3 _ ?_
      refine XS.dup X3.here hx rfl (hb hby own_d_jdk_17_method_21_code_34) rfl rfl ?_
      refine XS.aconstNull X3.here hx rfl (hb hby own_d_jdk_17_method_21_code_35) ?_
      show Steps p.tables e below (T3.setTop (mkF m 36 #[.val (.long v), .second] [.null, (.ref b3), (.ref b3)])) _
      refine XS.lloadN X3.here hx rfl (hb hby own_d_jdk_17_method_21_code_36) rfl ?_
      refine XS.iconst X3.here hx rfl (hb hby own_d_jdk_17_method_21_code_37) ?_
      refine XS.iconst X3.here hx rfl (hb hby own_d_jdk_17_method_21_code_38) ?_
      show Steps p.tables e below (T3.setTop (mkF m 39 #[.val (.long v), .second] [(.int (0 : Int32)), (.int (0 : Int32)), (.long v), .null, (.ref b3), (.ref b3)])) _
      refine st4.trans ?_
      show Steps p.tables e below (T4.setTop (mkF m 42 #[.val (.long v), .second] [(.ref b3)])) _
      jvm_step X4.here [X4.here.top, hx, (hb hby own_d_jdk_17_method_21_code_42), X4.method', Bd.returns, Value.isRef, FieldType.isReference]
      first | (intro acts; rw [hr _ acts rfl rfl rfl]) | rw [hr _ _ rfl rfl rfl]
      exact Steps.refl _
    · show QVo Z v (0 : Int32) h0 n0 _ T4.heap _
      exact ⟨b3, rfl, N4a, K2, ⟨f5, Bs4, Bc4, ⟨(0 : Int32), Bp4, Or.inr g_b3⟩, Or.inr Bv4⟩⟩
theorem own_d_jdk_17_method_20_code_0 : decode jdk_17_method_20_code 0 = .ok (.iload_n 2, 1) := by decide +kernel
theorem own_d_jdk_17_method_20_code_1 : decode jdk_17_method_20_code 1 = .ok (.ifCond .ne 8, 3) := by decide +kernel
theorem own_d_jdk_17_method_20_code_4 : decode jdk_17_method_20_code 4 = .ok (.lload_n 0, 1) := by decide +kernel
theorem own_d_jdk_17_method_20_code_5 : decode jdk_17_method_20_code 5 = .ok (.invokestatic 236, 3) := by decide +kernel
theorem own_d_jdk_17_method_20_code_8 : decode jdk_17_method_20_code 8 = .ok (.areturn, 1) := by decide +kernel
theorem own_d_jdk_17_method_20_code_9 : decode jdk_17_method_20_code 9 = .ok (.lload_n 0, 1) := by decide +kernel
theorem own_d_jdk_17_method_20_code_10 : decode jdk_17_method_20_code 10 = .ok (.lconst 0, 1) := by decide +kernel
theorem own_d_jdk_17_method_20_code_11 : decode jdk_17_method_20_code 11 = .ok (.lcmp, 1) := by decide +kernel
theorem own_d_jdk_17_method_20_code_12 : decode jdk_17_method_20_code 12 = .ok (.ifCond .ne 8, 3) := by decide +kernel
theorem own_d_jdk_17_method_20_code_20 : decode jdk_17_method_20_code 20 = .ok (.new 3, 3) := by decide +kernel
theorem own_d_jdk_17_method_20_code_23 : decode jdk_17_method_20_code 23 = .ok (.dup, 1) := by decide +kernel
theorem own_d_jdk_17_method_20_code_24 : decode jdk_17_method_20_code 24 = .ok (.lload_n 0, 1) := by decide +kernel
theorem own_d_jdk_17_method_20_code_25 : decode jdk_17_method_20_code 25 = .ok (.ldc2_w 125, 3) := by decide +kernel
theorem own_d_jdk_17_method_20_code_28 : decode jdk_17_method_20_code 28 = .ok (.lcmp, 1) := by decide +kernel
theorem own_d_jdk_17_method_20_code_29 : decode jdk_17_method_20_code 29 = .ok (.ifCond .ne 9, 3) := by decide +kernel
theorem own_d_jdk_17_method_20_code_38 : decode jdk_17_method_20_code 38 = .ok (.aconst_null, 1) := by decide +kernel
theorem own_d_jdk_17_method_20_code_39 : decode jdk_17_method_20_code 39 = .ok (.lload_n 0, 1) := by decide +kernel
theorem own_d_jdk_17_method_20_code_40 : decode jdk_17_method_20_code 40 = .ok (.iload_n 2, 1) := by decide +kernel
theorem own_d_jdk_17_method_20_code_41 : decode jdk_17_method_20_code 41 = .ok (.iconst 0, 1) := by decide +kernel
theorem own_d_jdk_17_method_20_code_42 : decode jdk_17_method_20_code 42 = .ok (.invokespecial 243, 3) := by decide +kernel
theorem own_d_jdk_17_method_20_code_45 : decode jdk_17_method_20_code 45 = .ok (.areturn, 1) := by decide +kernel
theorem own_pd__J_Ljava_math_BigDecimal_ : parseMethodDescriptor "(J)Ljava/math/BigDecimal;" = some ⟨[.long], some (.object "java/math/BigDecimal")⟩ := by decide +kernel
theorem own_ef_jdk_17_method_20_code_xx (m : MethodId) (x0 : Int64) (x1 : Int32) : entryFrame m #[(.long x0), (.int x1)] 3 = mkF m 0 #[.val (.long x0), .second, .val (.int x1)] [] := by first | (simp [entryFrame, mkF, argsToLocals, Value.category]; done) | rfl
set_option maxRecDepth 65536 in
set_option maxHeartbeats 40000000 in
theorem rmVo (l : Launch) (Z : State) (a0 : Array Value) (hw : ∀ d ∈ tables_1, d.before a0 Z = true) (ws : List Jvm.Cond) (v : Int64) (s_ : Int32) (h0 : Heap) (n0 : Nat) (Z0 : n0 ≤ h0.size) (hv : (0 : Int64) < v) (hZT : ZTT Z) (O0 : Old Z n0 h0) :
    MetFree l (⟨"java/math/BigDecimal", "valueOf", "(JI)Ljava/math/BigDecimal;"⟩ : MethodName) (head1 (Jvm.Cond.code (⟨"java/math/BigDecimal", "valueOf", "(JI)Ljava/math/BigDecimal;"⟩ : MethodName) jdk_17_method_20_code 3 (some (.object "java/math/BigDecimal")) :: ws) ({ frames := 4, cells := 1, slots := 5, locals := 55 } : Room)) (fun a U => a = #[(.long v), (.int s_)] ∧ Z.Warmed39 U.vm ∧ U.heap = h0) (fun _ _ _ _ _ => True) (fun _ U o U' => ∃ vr_ Lr_, o = .returned vr_ ∧ QVo Z v s_ h0 n0 vr_ U'.heap Lr_ ∧ FrameEnd U o U' Lr_ 1 5) := by
  refine MetFree.of_bodySF (plainFor_of_name own_pn_java_math_BigDecimal) hisR ?_
  intro p e s m args below meth c s₁ Bd hml0 hP hK
  obtain ⟨rfl, hZ, hh⟩ := hP
  have hx := Bd.exec
  have hby := Bd.bytes
  have hml : c.maxLocals = 3 := hml0
  have hown : s.vm.findClass "java/math/BigDecimal" = some m.cls := findClass_of_methodNamed Bd.named
  have hnm := (name_of_methodNamed Bd.named Bd.method).1
  have X0 : Stand p l e ({ frames := 4, cells := 1, slots := 5, locals := 55 } : Room) s m #[(.long v), (.int s_)] below meth c s₁ [] 0 0 := Stand.of_body Bd
  have e0 : s₁.heap = h0 := by rw [← hh, Bd.state]; rfl
  have N0 := Fr.nil n0
  have pre0 : ∀ t, Steps p.tables e below (s₁.setTop (mkF m 0 #[.val (.long v), .second, .val (.int s_)] [])) t → Steps p.tables e below (s₁.setTop (entryFrame m #[(.long v), (.int s_)] 3)) t := fun t k => castTop (own_ef_jdk_17_method_20_code_xx m v s_) k
  have cut1 : ∀ t, Steps p.tables e below (s₁.setTop (mkF m 1 #[.val (.long v), .second, .val (.int s_)] [(.int s_)])) t → Steps p.tables e below (s₁.setTop (mkF m 0 #[.val (.long v), .second, .val (.int s_)] [])) t := fun t kk => by
    show Steps p.tables e below (s₁.setTop (mkF m 0 #[.val (.long v), .second, .val (.int s_)] [])) _
    refine XS.iloadN X0.here hx rfl (hb hby own_d_jdk_17_method_20_code_0) rfl ?_
    exact kk
  by_cases c0 : s_ = (0 : Int32)
  · obtain ⟨_, _, ⟨T2, L2, k2, n2⟩, -, X2, ⟨Lc2, hQ2, l2, y2, z2⟩, st2⟩ := Jvm.LawKit.callS X0 hx (y := (⟨"java/math/BigDecimal", "valueOf", "(J)Ljava/math/BigDecimal;"⟩ : MethodName)) hown (mvT hZ (hw _ (List.mem_of_getElem? (i := 34) rfl))) (mvT hZ (hw _ (List.mem_of_getElem? (i := 35) rfl))) (mvT hZ (hw _ (List.mem_of_getElem? (i := 8) rfl))) (mvT hZ (hw _ (List.mem_of_getElem? (i := 36) rfl))) (by decide) (backOf (W := 0) (rmVj l Z a0 hw [] v h0 n0 (Nat.le_trans Z0 (Keep.refl h0 []).1) hv hZT O0) hZ (hw _ (List.mem_of_getElem? (i := 36) rfl)) (hw _ (List.mem_of_getElem? (i := 8) rfl)) (by decide) (by decide)) (g := (mkF m 5 #[.val (.long v), .second, .val (.int s_)] [(.long v)])) rfl (by rw [hml]; rfl) (argsL := [(.long v)]) (rest := []) (lenOf own_pd__J_Ljava_math_BigDecimal_ rfl) rfl (by show 2 * 0 + _ ≤ _; exact Nat.le_of_eq rfl) (hb hby own_d_jdk_17_method_20_code_5) (fun _ _ => ⟨rfl, e0, (by decide : 0 + 1 ≤ _), (by decide : 0 + 5 ≤ _)⟩)
    dsimp only [Pt.U, Pt.locs, Pt.cells, Pt.slots] at X2 l2 y2 z2 st2 hQ2
    subst l2 y2 z2
    obtain ⟨b2, rfl, N2q, K2q, Bd2⟩ := hQ2
    have N2a := Fr.app N0 N2q
    have K1 : Keep h0 T2.heap [] := (Keep.refl h0 []).trans K2q all0
    obtain ⟨fs, hr, hrun, hended, hW, hsame⟩ := X2.leave (v := some (.ref b2)) (fun h => by rw [Bd.returns] at h; cases h)
    refine ⟨_, _, pre0 _ ?_, hrun, hended, _, _, rfl, ?_, ⟨_, rfl⟩, hW, hsame.mono (by decide) (by decide)⟩
    · refine cut1 _ ?_
      show Steps p.tables e below (s₁.setTop (mkF m 1 #[.val (.long v), .second, .val (.int s_)] [(.int s_)])) _
      refine XS.ifNo X0.here hx rfl (hb hby own_d_jdk_17_method_20_code_1) rfl ((if0 _ _).trans (teq (c0 : s_ = (0 : Int32))).2) ?_
      refine XS.lloadN X0.here hx rfl (hb hby own_d_jdk_17_method_20_code_4) rfl ?_
      show Steps p.tables e below (s₁.setTop (mkF m 5 #[.val (.long v), .second, .val (.int s_)] [(.long v)])) _
      refine st2 _ ?_
      show Steps p.tables e below (T2.setTop (mkF m 8 #[.val (.long v), .second, .val (.int s_)] [(.ref b2)])) _
      jvm_step X2.here [X2.here.top, hx, (hb hby own_d_jdk_17_method_20_code_8), X2.method', Bd.returns, Value.isRef, FieldType.isReference]
      first | (intro acts; rw [hr _ acts rfl rfl rfl]) | rw [hr _ _ rfl rfl rfl]
      exact Steps.refl _
    · show QVo Z v s_ h0 n0 _ T2.heap _
      exact ⟨b2, rfl, N2a, K1, (by rw [c0]; exact Bd2)⟩
  · obtain ⟨T2, h2, X2, e2, E2, A2, D2, -, st2⟩ := newO X0 hx hZ hown (hw _ (List.mem_of_getElem? (i := 10) rfl)) (hw _ (List.mem_of_getElem? (i := 11) rfl)) (hw _ (List.mem_of_getElem? (i := 8) rfl)) e0 (g := (mkF m 20 #[.val (.long v), .second, .val (.int s_)] [])) rfl (hb hby own_d_jdk_17_method_20_code_20) (by decide) (by decide)
    obtain ⟨b2, g2⟩ : ∃ z, z = h0.size := ⟨_, rfl⟩
    rw [← g2] at A2 D2 st2
    have sz_b2 : h0.size ≤ b2 := Nat.le_trans (Keep.refl h0 []).1 (Nat.le_of_eq g2.symm)
    have g_b2 : n0 ≤ b2 := Nat.le_trans Z0 sz_b2
    have K1 : Keep h0 h2 [] := (Keep.refl h0 []).ext E2
    have F_scale_b2 : Fld Z h2 b2 "java/math/BigDecimal" "scale" "I" (.int (0 : Int32)) := D2 (Or.inr (hw _ (List.mem_of_getElem? (i := 27) rfl))) (ty := .int) (by decide)
    have F_precision_b2 : Fld Z h2 b2 "java/math/BigDecimal" "precision" "I" (.int (0 : Int32)) := D2 (Or.inl (hw _ (List.mem_of_getElem? (i := 29) rfl))) (ty := .int) (by decide)
    have F_intCompact_b2 : Fld Z h2 b2 "java/math/BigDecimal" "intCompact" "J" (.long (0 : Int64)) := D2 (Or.inr (hw _ (List.mem_of_getElem? (i := 31) rfl))) (ty := .long) (by decide)
    have F_intVal_b2 : Fld Z h2 b2 "java/math/BigDecimal" "intVal" "Ljava/math/BigInteger;" .null := D2 (Or.inr (hw _ (List.mem_of_getElem? (i := 33) rfl))) (ty := (.object "java/math/BigInteger")) (by decide)
    obtain ⟨_, _, ⟨T3, L3, k3, n3⟩, -, X3, ⟨Lc3, hQ3, l3, y3, z3⟩, st3⟩ := X2.specialBack hx (y := (⟨"java/math/BigDecimal", "<init>", "(Ljava/math/BigInteger;JII)V"⟩ : MethodName)) rfl hown (mvT hZ (hw _ (List.mem_of_getElem? (i := 13) rfl))) (mvT hZ (hw _ (List.mem_of_getElem? (i := 14) rfl))) (mvT hZ (hw _ (List.mem_of_getElem? (i := 16) rfl))) (by decide) (backOf (W := 1) (rmBi l Z a0 hw [] b2 v s_ h2 n0 (Nat.le_trans Z0 K1.1) A2 F_scale_b2 F_precision_b2 F_intCompact_b2 F_intVal_b2 g_b2) hZ (hw _ (List.mem_of_getElem? (i := 16) rfl)) (hw _ (List.mem_of_getElem? (i := 8) rfl)) (by decide) (by decide)) (g := (mkF m 42 #[.val (.long v), .second, .val (.int s_)] [(.int (0 : Int32)), (.int s_), (.long v), .null, (.ref b2), (.ref b2)])) rfl (by rw [hml]; rfl) (Steps.refl _) (a := b2) (argsL := [.null, (.long v), (.int s_), (.int (0 : Int32))]) (rest := [(.ref b2)]) (lenOf own_pd__Ljava_math_BigInteger_JII_V rfl) rfl (by show 2 * 0 + _ ≤ _; exact Nat.le_of_eq rfl) (hb hby own_d_jdk_17_method_20_code_42) (fun _ _ => ⟨rfl, e2, (by decide : 1 + 0 ≤ _), (by decide : 5 + 0 ≤ _)⟩)
    dsimp only [Pt.U, Pt.locs, Pt.cells, Pt.slots] at X3 l3 y3 z3 st3 hQ3
    subst l3 y3 z3
    obtain ⟨rfl, N3q, K3q, Bs3, Bp3, Bc3, Bv3⟩ := hQ3
    have N3a := Fr.app N0 N3q
    have K2 : Keep h0 T3.heap [] := K1.trans K3q (allS (Or.inr sz_b2) all0)
    have f4 : Exa Z T3.heap b2 "java/math/BigDecimal" := (A2.keep K3q)
    obtain ⟨fs, hr, hrun, hended, hW, hsame⟩ := X3.leave (v := some (.ref b2)) (fun h => by rw [Bd.returns] at h; cases h)
    refine ⟨_, _, pre0 _ ?_, hrun, hended, _, _, rfl, ?_, ⟨_, rfl⟩, hW, hsame.mono (by decide) (by decide)⟩
    · refine cut1 _ ?_
      show Steps p.tables e below (s₁.setTop (mkF m 1 #[.val (.long v), .second, .val (.int s_)] [(.int s_)])) _
      refine XS.ifYes X0.here hx rfl (pc0 := 1) (pc' := 9) rfl (hb hby own_d_jdk_17_method_20_code_1) rfl ((if0 _ _).trans (feq (c0 : ¬ (s_ = (0 : Int32)))).2) (by decide) (by decide) ?_
      refine XS.lloadN X0.here hx rfl (hb hby own_d_jdk_17_method_20_code_9) rfl ?_
      refine XS.lconst X0.here hx rfl (hb hby own_d_jdk_17_method_20_code_10) ?_
      show Steps p.tables e below (s₁.setTop (mkF m 11 #[.val (.long v), .second, .val (.int s_)] [(.long (0 : Int64)), (.long v)])) _
      refine XS.lcmp X0.here hx rfl (hb hby own_d_jdk_17_method_20_code_11) rfl ?_
      show Steps p.tables e below (s₁.setTop (mkF m 12 #[.val (.long v), .second, .val (.int s_)] [(.int (lcmpW v (0 : Int64)))])) _
      refine XS.ifYes X0.here hx rfl (pc0 := 12) (pc' := 20) rfl (hb hby own_d_jdk_17_method_20_code_12) rfl ((if0 _ _).trans (feq (fun q => own_ne0 hv ((lw_eq _ _).mp q) : ¬ ((lcmpW v (0 : Int64)) = (0 : Int32)))).2) (by decide) (by decide) ?_
      show Steps p.tables e below (s₁.setTop (mkF m 20 #[.val (.long v), .second, .val (.int s_)] [])) _
      refine st2 _ ?_
      refine XS.dup X2.here hx rfl (hb hby own_d_jdk_17_method_20_code_23) rfl rfl ?_
      refine XS.lloadN X2.here hx rfl (hb hby own_d_jdk_17_method_20_code_24) rfl ?_
      show Steps p.tables e below (T2.setTop (mkF m 25 #[.val (.long v), .second, .val (.int s_)] [(.long v), (.ref b2), (.ref b2)])) _
      refine X2.ldc2Long hx hown (mvT hZ (hw _ (List.mem_of_getElem? (i := 12) rfl))) (g := (mkF m 25 #[.val (.long v), .second, .val (.int s_)] [(.long v), (.ref b2), (.ref b2)])) rfl (hb hby own_d_jdk_17_method_20_code_25) _ ?_
      refine XS.lcmp X2.here hx rfl (hb hby own_d_jdk_17_method_20_code_28) rfl ?_
      show Steps p.tables e below (T2.setTop (mkF m 29 #[.val (.long v), .second, .val (.int s_)] [(.int (lcmpW v (-9223372036854775808 : Int64))), (.ref b2), (.ref b2)])) _
      refine XS.ifYes X2.here hx rfl (pc0 := 29) (pc' := 38) rfl (hb hby own_d_jdk_17_method_20_code_29) rfl ((if0 _ _).trans (feq (fun q => own_neM hv ((lw_eq _ _).mp q) : ¬ ((lcmpW v (-9223372036854775808 : Int64)) = (0 : Int32)))).2) (by decide) (by decide) ?_
      refine XS.aconstNull X2.here hx rfl (hb hby own_d_jdk_17_method_20_code_38) ?_
      refine XS.lloadN X2.here hx rfl (hb hby own_d_jdk_17_method_20_code_39) rfl ?_
      show Steps p.tables e below (T2.setTop (mkF m 40 #[.val (.long v), .second, .val (.int s_)] [(.long v), .null, (.ref b2), (.ref b2)])) _
      refine XS.iloadN X2.here hx rfl (hb hby own_d_jdk_17_method_20_code_40) rfl ?_
      refine XS.iconst X2.here hx rfl (hb hby own_d_jdk_17_method_20_code_41) ?_
      show Steps p.tables e below (T2.setTop (mkF m 42 #[.val (.long v), .second, .val (.int s_)] [(.int (0 : Int32)), (.int s_), (.long v), .null, (.ref b2), (.ref b2)])) _
      refine st3.trans ?_
      show Steps p.tables e below (T3.setTop (mkF m 45 #[.val (.long v), .second, .val (.int s_)] [(.ref b2)])) _
      jvm_step X3.here [X3.here.top, hx, (hb hby own_d_jdk_17_method_20_code_45), X3.method', Bd.returns, Value.isRef, FieldType.isReference]
      first | (intro acts; rw [hr _ acts rfl rfl rfl]) | rw [hr _ _ rfl rfl rfl]
      exact Steps.refl _
    · show QVo Z v s_ h0 n0 _ T3.heap _
      exact ⟨b2, rfl, N3a, K2, ⟨f4, Bs3, Bc3, ⟨(0 : Int32), Bp3, Or.inr g_b2⟩, Or.inr Bv3⟩⟩
theorem own_d_method_2_code_0 : decode method_2_code 0 = .ok (.lload_n 0, 1) := by decide +kernel
theorem own_d_method_2_code_1 : decode method_2_code 1 = .ok (.ldc2_w 9, 3) := by decide +kernel
theorem own_d_method_2_code_4 : decode method_2_code 4 = .ok (.land, 1) := by decide +kernel
theorem own_d_method_2_code_5 : decode method_2_code 5 = .ok (.lstore_n 3, 1) := by decide +kernel
theorem own_d_method_2_code_6 : decode method_2_code 6 = .ok (.iload_n 2, 1) := by decide +kernel
theorem own_d_method_2_code_7 : decode method_2_code 7 = .ok (.ifCond .eq 9, 3) := by decide +kernel
theorem own_d_method_2_code_10 : decode method_2_code 10 = .ok (.lload_n 3, 1) := by decide +kernel
theorem own_d_method_2_code_11 : decode method_2_code 11 = .ok (.ldc2_w 11, 3) := by decide +kernel
theorem own_d_method_2_code_14 : decode method_2_code 14 = .ok (.lrem, 1) := by decide +kernel
theorem own_d_method_2_code_15 : decode method_2_code 15 = .ok (.lstore_n 3, 1) := by decide +kernel
theorem own_d_method_2_code_16 : decode method_2_code 16 = .ok (.lload_n 3, 1) := by decide +kernel
theorem own_d_method_2_code_17 : decode method_2_code 17 = .ok (.lconst 0, 1) := by decide +kernel
theorem own_d_method_2_code_18 : decode method_2_code 18 = .ok (.lcmp, 1) := by decide +kernel
theorem own_d_method_2_code_19 : decode method_2_code 19 = .ok (.ifCond .ne 5, 3) := by decide +kernel
theorem own_d_method_2_code_22 : decode method_2_code 22 = .ok (.lconst 1, 1) := by decide +kernel
theorem own_d_method_2_code_23 : decode method_2_code 23 = .ok (.lstore_n 3, 1) := by decide +kernel
theorem own_d_method_2_code_24 : decode method_2_code 24 = .ok (.lload_n 3, 1) := by decide +kernel
theorem own_d_method_2_code_25 : decode method_2_code 25 = .ok (.lreturn, 1) := by decide +kernel
theorem own_pn_com_example_floatweight_floatweight_PricesGetPinLaw : plainName "com/example/floatweight/floatweight/PricesGetPinLaw" = true := by first | (simp [plainName, overriddenIn]; done) | decide +kernel
theorem own_ef_method_2_code_xx (m : MethodId) (x0 : Int64) (x1 : Int32) : entryFrame m #[(.long x0), (.int x1)] 5 = mkF m 0 #[.val (.long x0), .second, .val (.int x1), .unset, .unset] [] := by first | (simp [entryFrame, mkF, argsToLocals, Value.category]; done) | rfl
set_option maxRecDepth 65536 in
set_option maxHeartbeats 40000000 in
theorem rmPos (l : Launch) (Z : State) (a0 : Array Value) (hw : ∀ d ∈ tables_1, d.before a0 Z = true) (ws : List Jvm.Cond) (p1 : Int64) (z_ : Int32) (h0 : Heap) (n0 : Nat) (Z0 : n0 ≤ h0.size)  :
    MetFree l (⟨"com/example/floatweight/floatweight/PricesGetPinLaw", "pos", "(JZ)J"⟩ : MethodName) (head1 (Jvm.Cond.code (⟨"com/example/floatweight/floatweight/PricesGetPinLaw", "pos", "(JZ)J"⟩ : MethodName) method_2_code 5 (some .long) :: ws) ({ frames := 0, cells := 0, slots := 0, locals := 0 } : Room)) (fun a U => a = #[(.long p1), (.int z_)] ∧ Z.Warmed39 U.vm ∧ U.heap = h0) (fun _ _ _ _ _ => True) (fun _ U o U' => ∃ vr_ Lr_, o = .returned vr_ ∧ QP h0 n0 vr_ U'.heap Lr_ ∧ FrameEnd U o U' Lr_ 0 0) := by
  refine MetFree.of_bodySF (plainFor_of_name own_pn_com_example_floatweight_floatweight_PricesGetPinLaw) hisR ?_
  intro p e s m args below meth c s₁ Bd hml0 hP hK
  obtain ⟨rfl, hZ, hh⟩ := hP
  have hx := Bd.exec
  have hby := Bd.bytes
  have hml : c.maxLocals = 5 := hml0
  have hown : s.vm.findClass "com/example/floatweight/floatweight/PricesGetPinLaw" = some m.cls := findClass_of_methodNamed Bd.named
  have hnm := (name_of_methodNamed Bd.named Bd.method).1
  have X0 : Stand p l e ({ frames := 0, cells := 0, slots := 0, locals := 0 } : Room) s m #[(.long p1), (.int z_)] below meth c s₁ [] 0 0 := Stand.of_body Bd
  have e0 : s₁.heap = h0 := by rw [← hh, Bd.state]; rfl
  have N0 := Fr.nil n0
  have pre0 : ∀ t, Steps p.tables e below (s₁.setTop (mkF m 0 #[.val (.long p1), .second, .val (.int z_), .unset, .unset] [])) t → Steps p.tables e below (s₁.setTop (entryFrame m #[(.long p1), (.int z_)] 5)) t := fun t k => castTop (own_ef_method_2_code_xx m p1 z_) k
  have cut1 : ∀ t, Steps p.tables e below (s₁.setTop (mkF m 7 #[.val (.long p1), .second, .val (.int z_), .val (.long (p1 &&& (9223372036854775807 : Int64))), .second] [(.int z_)])) t → Steps p.tables e below (s₁.setTop (mkF m 0 #[.val (.long p1), .second, .val (.int z_), .unset, .unset] [])) t := fun t kk => by
    show Steps p.tables e below (s₁.setTop (mkF m 0 #[.val (.long p1), .second, .val (.int z_), .unset, .unset] [])) _
    refine XS.lloadN X0.here hx rfl (hb hby own_d_method_2_code_0) rfl ?_
    show Steps p.tables e below (s₁.setTop (mkF m 1 #[.val (.long p1), .second, .val (.int z_), .unset, .unset] [(.long p1)])) _
    refine X0.ldc2Long hx hown (mvT hZ (hw _ (List.mem_of_getElem? (i := 4) rfl))) (g := (mkF m 1 #[.val (.long p1), .second, .val (.int z_), .unset, .unset] [(.long p1)])) rfl (hb hby own_d_method_2_code_1) _ ?_
    refine XS.land X0.here hx rfl (hb hby own_d_method_2_code_4) rfl ?_
    refine XS.lstoreN X0.here hx rfl (hb hby own_d_method_2_code_5) rfl (l' := #[.val (.long p1), .second, .val (.int z_), .val (.long (p1 &&& (9223372036854775807 : Int64))), .second]) rfl ?_
    show Steps p.tables e below (s₁.setTop (mkF m 6 #[.val (.long p1), .second, .val (.int z_), .val (.long (p1 &&& (9223372036854775807 : Int64))), .second] [])) _
    refine XS.iloadN X0.here hx rfl (hb hby own_d_method_2_code_6) rfl ?_
    exact kk
  by_cases cz : z_ = (0 : Int32)
  · have cut2 : ∀ t, Steps p.tables e below (s₁.setTop (mkF m 19 #[.val (.long p1), .second, .val (.int z_), .val (.long (p1 &&& (9223372036854775807 : Int64))), .second] [(.int (lcmpW (p1 &&& (9223372036854775807 : Int64)) (0 : Int64)))])) t → Steps p.tables e below (s₁.setTop (mkF m 0 #[.val (.long p1), .second, .val (.int z_), .unset, .unset] [])) t := fun t kk => by
      refine cut1 _ ?_
      show Steps p.tables e below (s₁.setTop (mkF m 7 #[.val (.long p1), .second, .val (.int z_), .val (.long (p1 &&& (9223372036854775807 : Int64))), .second] [(.int z_)])) _
      refine XS.ifYes X0.here hx rfl (pc0 := 7) (pc' := 16) rfl (hb hby own_d_method_2_code_7) rfl ((if0 _ _).trans (teq (cz : z_ = (0 : Int32))).1) (by decide) (by decide) ?_
      refine XS.lloadN X0.here hx rfl (hb hby own_d_method_2_code_16) rfl ?_
      refine XS.lconst X0.here hx rfl (hb hby own_d_method_2_code_17) ?_
      show Steps p.tables e below (s₁.setTop (mkF m 18 #[.val (.long p1), .second, .val (.int z_), .val (.long (p1 &&& (9223372036854775807 : Int64))), .second] [(.long (0 : Int64)), (.long (p1 &&& (9223372036854775807 : Int64)))])) _
      refine XS.lcmp X0.here hx rfl (hb hby own_d_method_2_code_18) rfl ?_
      exact kk
    by_cases cx : (p1 &&& (9223372036854775807 : Int64)) = (0 : Int64)
    · obtain ⟨fs, hr, hrun, hended, hW, hsame⟩ := X0.leave (v := some (.long (1 : Int64))) (fun h => by rw [Bd.returns] at h; cases h)
      refine ⟨_, _, pre0 _ ?_, hrun, hended, _, _, rfl, ?_, ⟨_, rfl⟩, hW, hsame.mono (by decide) (by decide)⟩
      · refine cut2 _ ?_
        show Steps p.tables e below (s₁.setTop (mkF m 19 #[.val (.long p1), .second, .val (.int z_), .val (.long (p1 &&& (9223372036854775807 : Int64))), .second] [(.int (lcmpW (p1 &&& (9223372036854775807 : Int64)) (0 : Int64)))])) _
        refine XS.ifNo X0.here hx rfl (hb hby own_d_method_2_code_19) rfl ((if0 _ _).trans (teq ((lw_eq _ _).mpr cx : (lcmpW (p1 &&& (9223372036854775807 : Int64)) (0 : Int64)) = (0 : Int32))).2) ?_
        refine XS.lconst X0.here hx rfl (hb hby own_d_method_2_code_22) ?_
        refine XS.lstoreN X0.here hx rfl (hb hby own_d_method_2_code_23) rfl (l' := #[.val (.long p1), .second, .val (.int z_), .val (.long (1 : Int64)), .second]) rfl ?_
        show Steps p.tables e below (s₁.setTop (mkF m 24 #[.val (.long p1), .second, .val (.int z_), .val (.long (1 : Int64)), .second] [])) _
        refine XS.lloadN X0.here hx rfl (hb hby own_d_method_2_code_24) rfl ?_
        show Steps p.tables e below (s₁.setTop (mkF m 25 #[.val (.long p1), .second, .val (.int z_), .val (.long (1 : Int64)), .second] [(.long (1 : Int64))])) _
        jvm_step X0.here [X0.here.top, hx, (hb hby own_d_method_2_code_25), X0.method', Bd.returns, narrow]
        first | (intro acts; rw [hr _ acts rfl rfl rfl]) | rw [hr _ _ rfl rfl rfl]
        exact Steps.refl _
      · show QP h0 n0 _ s₁.heap _
        rw [e0]
        exact ⟨(1 : Int64), rfl, by decide, N0, rfl⟩
    · obtain ⟨fs, hr, hrun, hended, hW, hsame⟩ := X0.leave (v := some (.long (p1 &&& (9223372036854775807 : Int64)))) (fun h => by rw [Bd.returns] at h; cases h)
      refine ⟨_, _, pre0 _ ?_, hrun, hended, _, _, rfl, ?_, ⟨_, rfl⟩, hW, hsame.mono (by decide) (by decide)⟩
      · refine cut2 _ ?_
        show Steps p.tables e below (s₁.setTop (mkF m 19 #[.val (.long p1), .second, .val (.int z_), .val (.long (p1 &&& (9223372036854775807 : Int64))), .second] [(.int (lcmpW (p1 &&& (9223372036854775807 : Int64)) (0 : Int64)))])) _
        refine XS.ifYes X0.here hx rfl (pc0 := 19) (pc' := 24) rfl (hb hby own_d_method_2_code_19) rfl ((if0 _ _).trans (feq (fun q => cx ((lw_eq _ _).mp q) : ¬ ((lcmpW (p1 &&& (9223372036854775807 : Int64)) (0 : Int64)) = (0 : Int32)))).2) (by decide) (by decide) ?_
        refine XS.lloadN X0.here hx rfl (hb hby own_d_method_2_code_24) rfl ?_
        show Steps p.tables e below (s₁.setTop (mkF m 25 #[.val (.long p1), .second, .val (.int z_), .val (.long (p1 &&& (9223372036854775807 : Int64))), .second] [(.long (p1 &&& (9223372036854775807 : Int64)))])) _
        jvm_step X0.here [X0.here.top, hx, (hb hby own_d_method_2_code_25), X0.method', Bd.returns, narrow]
        first | (intro acts; rw [hr _ acts rfl rfl rfl]) | rw [hr _ _ rfl rfl rfl]
        exact Steps.refl _
      · show QP h0 n0 _ s₁.heap _
        rw [e0]
        exact ⟨(p1 &&& (9223372036854775807 : Int64)), rfl, own_posOf (own_and63 p1) cx, N0, rfl⟩
  · have cut2 : ∀ t, Steps p.tables e below (s₁.setTop (mkF m 19 #[.val (.long p1), .second, .val (.int z_), .val (.long ((p1 &&& (9223372036854775807 : Int64)) - ((p1 &&& (9223372036854775807 : Int64)) / (1000000000000000000 : Int64)) * (1000000000000000000 : Int64))), .second] [(.int (lcmpW ((p1 &&& (9223372036854775807 : Int64)) - ((p1 &&& (9223372036854775807 : Int64)) / (1000000000000000000 : Int64)) * (1000000000000000000 : Int64)) (0 : Int64)))])) t → Steps p.tables e below (s₁.setTop (mkF m 0 #[.val (.long p1), .second, .val (.int z_), .unset, .unset] [])) t := fun t kk => by
      refine cut1 _ ?_
      show Steps p.tables e below (s₁.setTop (mkF m 7 #[.val (.long p1), .second, .val (.int z_), .val (.long (p1 &&& (9223372036854775807 : Int64))), .second] [(.int z_)])) _
      refine XS.ifNo X0.here hx rfl (hb hby own_d_method_2_code_7) rfl ((if0 _ _).trans (feq (cz : ¬ (z_ = (0 : Int32)))).1) ?_
      refine XS.lloadN X0.here hx rfl (hb hby own_d_method_2_code_10) rfl ?_
      show Steps p.tables e below (s₁.setTop (mkF m 11 #[.val (.long p1), .second, .val (.int z_), .val (.long (p1 &&& (9223372036854775807 : Int64))), .second] [(.long (p1 &&& (9223372036854775807 : Int64)))])) _
      refine X0.ldc2Long hx hown (mvT hZ (hw _ (List.mem_of_getElem? (i := 5) rfl))) (g := (mkF m 11 #[.val (.long p1), .second, .val (.int z_), .val (.long (p1 &&& (9223372036854775807 : Int64))), .second] [(.long (p1 &&& (9223372036854775807 : Int64)))])) rfl (hb hby own_d_method_2_code_11) _ ?_
      show Steps p.tables e below (s₁.setTop (mkF m 14 #[.val (.long p1), .second, .val (.int z_), .val (.long (p1 &&& (9223372036854775807 : Int64))), .second] [(.long (1000000000000000000 : Int64)), (.long (p1 &&& (9223372036854775807 : Int64)))])) _
      refine XS.lrem X0.here hx rfl (hb hby own_d_method_2_code_14) rfl (by decide : (1000000000000000000 : Int64) ≠ 0) ?_
      refine XS.lstoreN X0.here hx rfl (hb hby own_d_method_2_code_15) rfl (l' := #[.val (.long p1), .second, .val (.int z_), .val (.long ((p1 &&& (9223372036854775807 : Int64)) - ((p1 &&& (9223372036854775807 : Int64)) / (1000000000000000000 : Int64)) * (1000000000000000000 : Int64))), .second]) rfl ?_
      refine XS.lloadN X0.here hx rfl (hb hby own_d_method_2_code_16) rfl ?_
      show Steps p.tables e below (s₁.setTop (mkF m 17 #[.val (.long p1), .second, .val (.int z_), .val (.long ((p1 &&& (9223372036854775807 : Int64)) - ((p1 &&& (9223372036854775807 : Int64)) / (1000000000000000000 : Int64)) * (1000000000000000000 : Int64))), .second] [(.long ((p1 &&& (9223372036854775807 : Int64)) - ((p1 &&& (9223372036854775807 : Int64)) / (1000000000000000000 : Int64)) * (1000000000000000000 : Int64)))])) _
      refine XS.lconst X0.here hx rfl (hb hby own_d_method_2_code_17) ?_
      refine XS.lcmp X0.here hx rfl (hb hby own_d_method_2_code_18) rfl ?_
      exact kk
    by_cases cx : ((p1 &&& (9223372036854775807 : Int64)) - ((p1 &&& (9223372036854775807 : Int64)) / (1000000000000000000 : Int64)) * (1000000000000000000 : Int64)) = (0 : Int64)
    · obtain ⟨fs, hr, hrun, hended, hW, hsame⟩ := X0.leave (v := some (.long (1 : Int64))) (fun h => by rw [Bd.returns] at h; cases h)
      refine ⟨_, _, pre0 _ ?_, hrun, hended, _, _, rfl, ?_, ⟨_, rfl⟩, hW, hsame.mono (by decide) (by decide)⟩
      · refine cut2 _ ?_
        show Steps p.tables e below (s₁.setTop (mkF m 19 #[.val (.long p1), .second, .val (.int z_), .val (.long ((p1 &&& (9223372036854775807 : Int64)) - ((p1 &&& (9223372036854775807 : Int64)) / (1000000000000000000 : Int64)) * (1000000000000000000 : Int64))), .second] [(.int (lcmpW ((p1 &&& (9223372036854775807 : Int64)) - ((p1 &&& (9223372036854775807 : Int64)) / (1000000000000000000 : Int64)) * (1000000000000000000 : Int64)) (0 : Int64)))])) _
        refine XS.ifNo X0.here hx rfl (hb hby own_d_method_2_code_19) rfl ((if0 _ _).trans (teq ((lw_eq _ _).mpr cx : (lcmpW ((p1 &&& (9223372036854775807 : Int64)) - ((p1 &&& (9223372036854775807 : Int64)) / (1000000000000000000 : Int64)) * (1000000000000000000 : Int64)) (0 : Int64)) = (0 : Int32))).2) ?_
        refine XS.lconst X0.here hx rfl (hb hby own_d_method_2_code_22) ?_
        refine XS.lstoreN X0.here hx rfl (hb hby own_d_method_2_code_23) rfl (l' := #[.val (.long p1), .second, .val (.int z_), .val (.long (1 : Int64)), .second]) rfl ?_
        show Steps p.tables e below (s₁.setTop (mkF m 24 #[.val (.long p1), .second, .val (.int z_), .val (.long (1 : Int64)), .second] [])) _
        refine XS.lloadN X0.here hx rfl (hb hby own_d_method_2_code_24) rfl ?_
        show Steps p.tables e below (s₁.setTop (mkF m 25 #[.val (.long p1), .second, .val (.int z_), .val (.long (1 : Int64)), .second] [(.long (1 : Int64))])) _
        jvm_step X0.here [X0.here.top, hx, (hb hby own_d_method_2_code_25), X0.method', Bd.returns, narrow]
        first | (intro acts; rw [hr _ acts rfl rfl rfl]) | rw [hr _ _ rfl rfl rfl]
        exact Steps.refl _
      · show QP h0 n0 _ s₁.heap _
        rw [e0]
        exact ⟨(1 : Int64), rfl, by decide, N0, rfl⟩
    · obtain ⟨fs, hr, hrun, hended, hW, hsame⟩ := X0.leave (v := some (.long ((p1 &&& (9223372036854775807 : Int64)) - ((p1 &&& (9223372036854775807 : Int64)) / (1000000000000000000 : Int64)) * (1000000000000000000 : Int64)))) (fun h => by rw [Bd.returns] at h; cases h)
      refine ⟨_, _, pre0 _ ?_, hrun, hended, _, _, rfl, ?_, ⟨_, rfl⟩, hW, hsame.mono (by decide) (by decide)⟩
      · refine cut2 _ ?_
        show Steps p.tables e below (s₁.setTop (mkF m 19 #[.val (.long p1), .second, .val (.int z_), .val (.long ((p1 &&& (9223372036854775807 : Int64)) - ((p1 &&& (9223372036854775807 : Int64)) / (1000000000000000000 : Int64)) * (1000000000000000000 : Int64))), .second] [(.int (lcmpW ((p1 &&& (9223372036854775807 : Int64)) - ((p1 &&& (9223372036854775807 : Int64)) / (1000000000000000000 : Int64)) * (1000000000000000000 : Int64)) (0 : Int64)))])) _
        refine XS.ifYes X0.here hx rfl (pc0 := 19) (pc' := 24) rfl (hb hby own_d_method_2_code_19) rfl ((if0 _ _).trans (feq (fun q => cx ((lw_eq _ _).mp q) : ¬ ((lcmpW ((p1 &&& (9223372036854775807 : Int64)) - ((p1 &&& (9223372036854775807 : Int64)) / (1000000000000000000 : Int64)) * (1000000000000000000 : Int64)) (0 : Int64)) = (0 : Int32)))).2) (by decide) (by decide) ?_
        refine XS.lloadN X0.here hx rfl (hb hby own_d_method_2_code_24) rfl ?_
        show Steps p.tables e below (s₁.setTop (mkF m 25 #[.val (.long p1), .second, .val (.int z_), .val (.long ((p1 &&& (9223372036854775807 : Int64)) - ((p1 &&& (9223372036854775807 : Int64)) / (1000000000000000000 : Int64)) * (1000000000000000000 : Int64))), .second] [(.long ((p1 &&& (9223372036854775807 : Int64)) - ((p1 &&& (9223372036854775807 : Int64)) / (1000000000000000000 : Int64)) * (1000000000000000000 : Int64)))])) _
        jvm_step X0.here [X0.here.top, hx, (hb hby own_d_method_2_code_25), X0.method', Bd.returns, narrow]
        first | (intro acts; rw [hr _ acts rfl rfl rfl]) | rw [hr _ _ rfl rfl rfl]
        exact Steps.refl _
      · show QP h0 n0 _ s₁.heap _
        rw [e0]
        exact ⟨((p1 &&& (9223372036854775807 : Int64)) - ((p1 &&& (9223372036854775807 : Int64)) / (1000000000000000000 : Int64)) * (1000000000000000000 : Int64)), rfl, own_posOf (own_rem _ (own_and63 p1)) cx, N0, rfl⟩
theorem own_d_jdk_33_method_47_code_0 : decode jdk_33_method_47_code 0 = .ok (.iload_n 0, 1) := by decide +kernel
theorem own_d_jdk_33_method_47_code_1 : decode jdk_33_method_47_code 1 = .ok (.ifCond .gt 14, 3) := by decide +kernel
theorem own_d_jdk_33_method_47_code_4 : decode jdk_33_method_47_code 4 = .ok (.iload_n 0, 1) := by decide +kernel
theorem own_d_jdk_33_method_47_code_5 : decode jdk_33_method_47_code 5 = .ok (.ifCond .ne 8, 3) := by decide +kernel
theorem own_d_jdk_33_method_47_code_8 : decode jdk_33_method_47_code 8 = .ok (.bipush 32, 2) := by decide +kernel
theorem own_d_jdk_33_method_47_code_10 : decode jdk_33_method_47_code 10 = .ok (.goto 4, 3) := by decide +kernel
theorem own_d_jdk_33_method_47_code_13 : decode jdk_33_method_47_code 13 = .ok (.iconst 0, 1) := by decide +kernel
theorem own_d_jdk_33_method_47_code_14 : decode jdk_33_method_47_code 14 = .ok (.ireturn, 1) := by decide +kernel
theorem own_d_jdk_33_method_47_code_15 : decode jdk_33_method_47_code 15 = .ok (.bipush 31, 2) := by decide +kernel
theorem own_d_jdk_33_method_47_code_17 : decode jdk_33_method_47_code 17 = .ok (.istore_n 1, 1) := by decide +kernel
theorem own_d_jdk_33_method_47_code_18 : decode jdk_33_method_47_code 18 = .ok (.iload_n 0, 1) := by decide +kernel
theorem own_d_jdk_33_method_47_code_19 : decode jdk_33_method_47_code 19 = .ok (.ldc_w 264, 3) := by decide +kernel
theorem own_d_jdk_33_method_47_code_22 : decode jdk_33_method_47_code 22 = .ok (.if_icmp .lt 11, 3) := by decide +kernel
theorem own_d_jdk_33_method_47_code_25 : decode jdk_33_method_47_code 25 = .ok (.iinc 1 (-16), 3) := by decide +kernel
theorem own_d_jdk_33_method_47_code_28 : decode jdk_33_method_47_code 28 = .ok (.iload_n 0, 1) := by decide +kernel
theorem own_d_jdk_33_method_47_code_29 : decode jdk_33_method_47_code 29 = .ok (.bipush 16, 2) := by decide +kernel
theorem own_d_jdk_33_method_47_code_31 : decode jdk_33_method_47_code 31 = .ok (.iushr, 1) := by decide +kernel
theorem own_d_jdk_33_method_47_code_32 : decode jdk_33_method_47_code 32 = .ok (.istore_n 0, 1) := by decide +kernel
theorem own_d_jdk_33_method_47_code_33 : decode jdk_33_method_47_code 33 = .ok (.iload_n 0, 1) := by decide +kernel
theorem own_d_jdk_33_method_47_code_34 : decode jdk_33_method_47_code 34 = .ok (.sipush 256, 3) := by decide +kernel
theorem own_d_jdk_33_method_47_code_37 : decode jdk_33_method_47_code 37 = .ok (.if_icmp .lt 11, 3) := by decide +kernel
theorem own_d_jdk_33_method_47_code_40 : decode jdk_33_method_47_code 40 = .ok (.iinc 1 (-8), 3) := by decide +kernel
theorem own_d_jdk_33_method_47_code_43 : decode jdk_33_method_47_code 43 = .ok (.iload_n 0, 1) := by decide +kernel
theorem own_d_jdk_33_method_47_code_44 : decode jdk_33_method_47_code 44 = .ok (.bipush 8, 2) := by decide +kernel
theorem own_d_jdk_33_method_47_code_46 : decode jdk_33_method_47_code 46 = .ok (.iushr, 1) := by decide +kernel
theorem own_d_jdk_33_method_47_code_47 : decode jdk_33_method_47_code 47 = .ok (.istore_n 0, 1) := by decide +kernel
theorem own_d_jdk_33_method_47_code_48 : decode jdk_33_method_47_code 48 = .ok (.iload_n 0, 1) := by decide +kernel
theorem own_d_jdk_33_method_47_code_49 : decode jdk_33_method_47_code 49 = .ok (.bipush 16, 2) := by decide +kernel
theorem own_d_jdk_33_method_47_code_51 : decode jdk_33_method_47_code 51 = .ok (.if_icmp .lt 10, 3) := by decide +kernel
theorem own_d_jdk_33_method_47_code_54 : decode jdk_33_method_47_code 54 = .ok (.iinc 1 (-4), 3) := by decide +kernel
theorem own_d_jdk_33_method_47_code_57 : decode jdk_33_method_47_code 57 = .ok (.iload_n 0, 1) := by decide +kernel
theorem own_d_jdk_33_method_47_code_58 : decode jdk_33_method_47_code 58 = .ok (.iconst 4, 1) := by decide +kernel
theorem own_d_jdk_33_method_47_code_59 : decode jdk_33_method_47_code 59 = .ok (.iushr, 1) := by decide +kernel
theorem own_d_jdk_33_method_47_code_60 : decode jdk_33_method_47_code 60 = .ok (.istore_n 0, 1) := by decide +kernel
theorem own_d_jdk_33_method_47_code_61 : decode jdk_33_method_47_code 61 = .ok (.iload_n 0, 1) := by decide +kernel
theorem own_d_jdk_33_method_47_code_62 : decode jdk_33_method_47_code 62 = .ok (.iconst 4, 1) := by decide +kernel
theorem own_d_jdk_33_method_47_code_63 : decode jdk_33_method_47_code 63 = .ok (.if_icmp .lt 10, 3) := by decide +kernel
theorem own_d_jdk_33_method_47_code_66 : decode jdk_33_method_47_code 66 = .ok (.iinc 1 (-2), 3) := by decide +kernel
theorem own_d_jdk_33_method_47_code_69 : decode jdk_33_method_47_code 69 = .ok (.iload_n 0, 1) := by decide +kernel
theorem own_d_jdk_33_method_47_code_70 : decode jdk_33_method_47_code 70 = .ok (.iconst 2, 1) := by decide +kernel
theorem own_d_jdk_33_method_47_code_71 : decode jdk_33_method_47_code 71 = .ok (.iushr, 1) := by decide +kernel
theorem own_d_jdk_33_method_47_code_72 : decode jdk_33_method_47_code 72 = .ok (.istore_n 0, 1) := by decide +kernel
theorem own_d_jdk_33_method_47_code_73 : decode jdk_33_method_47_code 73 = .ok (.iload_n 1, 1) := by decide +kernel
theorem own_d_jdk_33_method_47_code_74 : decode jdk_33_method_47_code 74 = .ok (.iload_n 0, 1) := by decide +kernel
theorem own_d_jdk_33_method_47_code_75 : decode jdk_33_method_47_code 75 = .ok (.iconst 1, 1) := by decide +kernel
theorem own_d_jdk_33_method_47_code_76 : decode jdk_33_method_47_code 76 = .ok (.iushr, 1) := by decide +kernel
theorem own_d_jdk_33_method_47_code_77 : decode jdk_33_method_47_code 77 = .ok (.isub, 1) := by decide +kernel
theorem own_d_jdk_33_method_47_code_78 : decode jdk_33_method_47_code 78 = .ok (.ireturn, 1) := by decide +kernel
theorem own_pn_java_lang_Integer : plainName "java/lang/Integer" = true := by first | (simp [plainName, overriddenIn]; done) | decide +kernel
theorem own_ef_jdk_33_method_47_code_x (m : MethodId) (x0 : Int32) : entryFrame m #[(.int x0)] 2 = mkF m 0 #[.val (.int x0), .unset] [] := by first | (simp [entryFrame, mkF, argsToLocals, Value.category]; done) | rfl
set_option maxRecDepth 65536 in
set_option maxHeartbeats 40000000 in
theorem rmIz (l : Launch) (Z : State) (a0 : Array Value) (hw : ∀ d ∈ tables_1, d.before a0 Z = true) (ws : List Jvm.Cond) (x_ : Int32) (h0 : Heap) (n0 : Nat) (Z0 : n0 ≤ h0.size)  :
    MetFree l (⟨"java/lang/Integer", "numberOfLeadingZeros", "(I)I"⟩ : MethodName) (head1 (Jvm.Cond.code (⟨"java/lang/Integer", "numberOfLeadingZeros", "(I)I"⟩ : MethodName) jdk_33_method_47_code 2 (some .int) :: ws) ({ frames := 0, cells := 0, slots := 0, locals := 0 } : Room)) (fun a U => a = #[(.int x_)] ∧ Z.Warmed39 U.vm ∧ U.heap = h0) (fun _ _ _ _ _ => True) (fun _ U o U' => ∃ vr_ Lr_, o = .returned vr_ ∧ QA h0 n0 vr_ U'.heap Lr_ ∧ FrameEnd U o U' Lr_ 0 0) := by
  refine MetFree.of_bodySF (plainFor_of_name own_pn_java_lang_Integer) hisR ?_
  intro p e s m args below meth c s₁ Bd hml0 hP hK
  obtain ⟨rfl, hZ, hh⟩ := hP
  have hx := Bd.exec
  have hby := Bd.bytes
  have hml : c.maxLocals = 2 := hml0
  have hown : s.vm.findClass "java/lang/Integer" = some m.cls := findClass_of_methodNamed Bd.named
  have hnm := (name_of_methodNamed Bd.named Bd.method).1
  have X0 : Stand p l e ({ frames := 0, cells := 0, slots := 0, locals := 0 } : Room) s m #[(.int x_)] below meth c s₁ [] 0 0 := Stand.of_body Bd
  have e0 : s₁.heap = h0 := by rw [← hh, Bd.state]; rfl
  have N0 := Fr.nil n0
  have pre0 : ∀ t, Steps p.tables e below (s₁.setTop (mkF m 0 #[.val (.int x_), .unset] [])) t → Steps p.tables e below (s₁.setTop (entryFrame m #[(.int x_)] 2)) t := fun t k => castTop (own_ef_jdk_33_method_47_code_x m x_) k
  have cut1 : ∀ t, Steps p.tables e below (s₁.setTop (mkF m 1 #[.val (.int x_), .unset] [(.int x_)])) t → Steps p.tables e below (s₁.setTop (mkF m 0 #[.val (.int x_), .unset] [])) t := fun t kk => by
    show Steps p.tables e below (s₁.setTop (mkF m 0 #[.val (.int x_), .unset] [])) _
    refine XS.iloadN X0.here hx rfl (hb hby own_d_jdk_33_method_47_code_0) rfl ?_
    exact kk
  by_cases c0 : (0 : Int32) < x_
  · have j73 : ∀ x' n' : Int32, ∃ y' k' r' : Int32, ∀ t, Steps p.tables e below (s₁.setTop (mkF m 78 #[.val (.int y'), .val (.int k')] [.int r'])) t → Steps p.tables e below (s₁.setTop (mkF m 73 #[.val (.int x'), .val (.int n')] [])) t := by
      intro x' n'
      exact ⟨x', n', (n' - ((x'.toUInt32 >>> ((1 : Int32) &&& 31).toUInt32).toInt32)), fun t kk => by
        show Steps p.tables e below (s₁.setTop (mkF m 73 #[.val (.int x'), .val (.int n')] [])) _
        refine XS.iloadN X0.here hx rfl (hb hby own_d_jdk_33_method_47_code_73) rfl ?_
        refine XS.iloadN X0.here hx rfl (hb hby own_d_jdk_33_method_47_code_74) rfl ?_
        refine XS.iconst X0.here hx rfl (hb hby own_d_jdk_33_method_47_code_75) ?_
        show Steps p.tables e below (s₁.setTop (mkF m 76 #[.val (.int x'), .val (.int n')] [(.int (1 : Int32)), (.int x'), (.int n')])) _
        refine XS.iushr X0.here hx rfl (hb hby own_d_jdk_33_method_47_code_76) rfl ?_
        refine XS.isub X0.here hx rfl (hb hby own_d_jdk_33_method_47_code_77) rfl ?_
        exact kk⟩
    have j61 : ∀ x' n' : Int32, ∃ y' k' r' : Int32, ∀ t, Steps p.tables e below (s₁.setTop (mkF m 78 #[.val (.int y'), .val (.int k')] [.int r'])) t → Steps p.tables e below (s₁.setTop (mkF m 61 #[.val (.int x'), .val (.int n')] [])) t := by
      intro x' n'
      by_cases c_ : x' < (4 : Int32)
      · obtain ⟨y', k', r', k⟩ := j73 x' n'
        exact ⟨y', k', r', fun t kk => by
          show Steps p.tables e below (s₁.setTop (mkF m 61 #[.val (.int x'), .val (.int n')] [])) _
          refine XS.iloadN X0.here hx rfl (hb hby own_d_jdk_33_method_47_code_61) rfl ?_
          refine XS.iconst X0.here hx rfl (hb hby own_d_jdk_33_method_47_code_62) ?_
          show Steps p.tables e below (s₁.setTop (mkF m 63 #[.val (.int x'), .val (.int n')] [(.int (4 : Int32)), (.int x')])) _
          refine XS.icmpYes X0.here hx rfl (pc0 := 63) (pc' := 73) rfl (hb hby own_d_jdk_33_method_47_code_63) rfl (tlt (c_ : x' < (4 : Int32))).1 (by decide) (by decide) ?_
          show Steps p.tables e below (s₁.setTop (mkF m 73 #[.val (.int x'), .val (.int n')] [])) _
          exact k t kk⟩
      · obtain ⟨y', k', r', k⟩ := j73 ((x'.toUInt32 >>> ((2 : Int32) &&& 31).toUInt32).toInt32) (n' + (-2 : Int32))
        exact ⟨y', k', r', fun t kk => by
          show Steps p.tables e below (s₁.setTop (mkF m 61 #[.val (.int x'), .val (.int n')] [])) _
          refine XS.iloadN X0.here hx rfl (hb hby own_d_jdk_33_method_47_code_61) rfl ?_
          refine XS.iconst X0.here hx rfl (hb hby own_d_jdk_33_method_47_code_62) ?_
          show Steps p.tables e below (s₁.setTop (mkF m 63 #[.val (.int x'), .val (.int n')] [(.int (4 : Int32)), (.int x')])) _
          refine XS.icmpNo X0.here hx rfl (hb hby own_d_jdk_33_method_47_code_63) rfl (flt (c_ : ¬ (x' < (4 : Int32)))).1 ?_
          show Steps p.tables e below (s₁.setTop (mkF m 66 #[.val (.int x'), .val (.int n')] [])) _
          refine XS.iinc X0.here hx rfl (hb hby own_d_jdk_33_method_47_code_66) rfl (l' := #[.val (.int x'), .val (.int (n' + (-2 : Int32)))]) rfl ?_
          refine XS.iloadN X0.here hx rfl (hb hby own_d_jdk_33_method_47_code_69) rfl ?_
          refine XS.iconst X0.here hx rfl (hb hby own_d_jdk_33_method_47_code_70) ?_
          show Steps p.tables e below (s₁.setTop (mkF m 71 #[.val (.int x'), .val (.int (n' + (-2 : Int32)))] [(.int (2 : Int32)), (.int x')])) _
          refine XS.iushr X0.here hx rfl (hb hby own_d_jdk_33_method_47_code_71) rfl ?_
          refine XS.istoreN X0.here hx rfl (hb hby own_d_jdk_33_method_47_code_72) rfl (l' := #[.val (.int ((x'.toUInt32 >>> ((2 : Int32) &&& 31).toUInt32).toInt32)), .val (.int (n' + (-2 : Int32)))]) rfl ?_
          show Steps p.tables e below (s₁.setTop (mkF m 73 #[.val (.int ((x'.toUInt32 >>> ((2 : Int32) &&& 31).toUInt32).toInt32)), .val (.int (n' + (-2 : Int32)))] [])) _
          exact k t kk⟩
    have j48 : ∀ x' n' : Int32, ∃ y' k' r' : Int32, ∀ t, Steps p.tables e below (s₁.setTop (mkF m 78 #[.val (.int y'), .val (.int k')] [.int r'])) t → Steps p.tables e below (s₁.setTop (mkF m 48 #[.val (.int x'), .val (.int n')] [])) t := by
      intro x' n'
      by_cases c_ : x' < (16 : Int32)
      · obtain ⟨y', k', r', k⟩ := j61 x' n'
        exact ⟨y', k', r', fun t kk => by
          show Steps p.tables e below (s₁.setTop (mkF m 48 #[.val (.int x'), .val (.int n')] [])) _
          refine XS.iloadN X0.here hx rfl (hb hby own_d_jdk_33_method_47_code_48) rfl ?_
          refine XS.bipush X0.here hx rfl (hb hby own_d_jdk_33_method_47_code_49) ?_
          show Steps p.tables e below (s₁.setTop (mkF m 51 #[.val (.int x'), .val (.int n')] [(.int (16 : Int32)), (.int x')])) _
          refine XS.icmpYes X0.here hx rfl (pc0 := 51) (pc' := 61) rfl (hb hby own_d_jdk_33_method_47_code_51) rfl (tlt (c_ : x' < (16 : Int32))).1 (by decide) (by decide) ?_
          show Steps p.tables e below (s₁.setTop (mkF m 61 #[.val (.int x'), .val (.int n')] [])) _
          exact k t kk⟩
      · obtain ⟨y', k', r', k⟩ := j61 ((x'.toUInt32 >>> ((4 : Int32) &&& 31).toUInt32).toInt32) (n' + (-4 : Int32))
        exact ⟨y', k', r', fun t kk => by
          show Steps p.tables e below (s₁.setTop (mkF m 48 #[.val (.int x'), .val (.int n')] [])) _
          refine XS.iloadN X0.here hx rfl (hb hby own_d_jdk_33_method_47_code_48) rfl ?_
          refine XS.bipush X0.here hx rfl (hb hby own_d_jdk_33_method_47_code_49) ?_
          show Steps p.tables e below (s₁.setTop (mkF m 51 #[.val (.int x'), .val (.int n')] [(.int (16 : Int32)), (.int x')])) _
          refine XS.icmpNo X0.here hx rfl (hb hby own_d_jdk_33_method_47_code_51) rfl (flt (c_ : ¬ (x' < (16 : Int32)))).1 ?_
          show Steps p.tables e below (s₁.setTop (mkF m 54 #[.val (.int x'), .val (.int n')] [])) _
          refine XS.iinc X0.here hx rfl (hb hby own_d_jdk_33_method_47_code_54) rfl (l' := #[.val (.int x'), .val (.int (n' + (-4 : Int32)))]) rfl ?_
          refine XS.iloadN X0.here hx rfl (hb hby own_d_jdk_33_method_47_code_57) rfl ?_
          refine XS.iconst X0.here hx rfl (hb hby own_d_jdk_33_method_47_code_58) ?_
          show Steps p.tables e below (s₁.setTop (mkF m 59 #[.val (.int x'), .val (.int (n' + (-4 : Int32)))] [(.int (4 : Int32)), (.int x')])) _
          refine XS.iushr X0.here hx rfl (hb hby own_d_jdk_33_method_47_code_59) rfl ?_
          refine XS.istoreN X0.here hx rfl (hb hby own_d_jdk_33_method_47_code_60) rfl (l' := #[.val (.int ((x'.toUInt32 >>> ((4 : Int32) &&& 31).toUInt32).toInt32)), .val (.int (n' + (-4 : Int32)))]) rfl ?_
          show Steps p.tables e below (s₁.setTop (mkF m 61 #[.val (.int ((x'.toUInt32 >>> ((4 : Int32) &&& 31).toUInt32).toInt32)), .val (.int (n' + (-4 : Int32)))] [])) _
          exact k t kk⟩
    have j33 : ∀ x' n' : Int32, ∃ y' k' r' : Int32, ∀ t, Steps p.tables e below (s₁.setTop (mkF m 78 #[.val (.int y'), .val (.int k')] [.int r'])) t → Steps p.tables e below (s₁.setTop (mkF m 33 #[.val (.int x'), .val (.int n')] [])) t := by
      intro x' n'
      by_cases c_ : x' < (256 : Int32)
      · obtain ⟨y', k', r', k⟩ := j48 x' n'
        exact ⟨y', k', r', fun t kk => by
          show Steps p.tables e below (s₁.setTop (mkF m 33 #[.val (.int x'), .val (.int n')] [])) _
          refine XS.iloadN X0.here hx rfl (hb hby own_d_jdk_33_method_47_code_33) rfl ?_
          refine XS.sipush X0.here hx rfl (hb hby own_d_jdk_33_method_47_code_34) ?_
          show Steps p.tables e below (s₁.setTop (mkF m 37 #[.val (.int x'), .val (.int n')] [(.int (256 : Int32)), (.int x')])) _
          refine XS.icmpYes X0.here hx rfl (pc0 := 37) (pc' := 48) rfl (hb hby own_d_jdk_33_method_47_code_37) rfl (tlt (c_ : x' < (256 : Int32))).1 (by decide) (by decide) ?_
          show Steps p.tables e below (s₁.setTop (mkF m 48 #[.val (.int x'), .val (.int n')] [])) _
          exact k t kk⟩
      · obtain ⟨y', k', r', k⟩ := j48 ((x'.toUInt32 >>> ((8 : Int32) &&& 31).toUInt32).toInt32) (n' + (-8 : Int32))
        exact ⟨y', k', r', fun t kk => by
          show Steps p.tables e below (s₁.setTop (mkF m 33 #[.val (.int x'), .val (.int n')] [])) _
          refine XS.iloadN X0.here hx rfl (hb hby own_d_jdk_33_method_47_code_33) rfl ?_
          refine XS.sipush X0.here hx rfl (hb hby own_d_jdk_33_method_47_code_34) ?_
          show Steps p.tables e below (s₁.setTop (mkF m 37 #[.val (.int x'), .val (.int n')] [(.int (256 : Int32)), (.int x')])) _
          refine XS.icmpNo X0.here hx rfl (hb hby own_d_jdk_33_method_47_code_37) rfl (flt (c_ : ¬ (x' < (256 : Int32)))).1 ?_
          show Steps p.tables e below (s₁.setTop (mkF m 40 #[.val (.int x'), .val (.int n')] [])) _
          refine XS.iinc X0.here hx rfl (hb hby own_d_jdk_33_method_47_code_40) rfl (l' := #[.val (.int x'), .val (.int (n' + (-8 : Int32)))]) rfl ?_
          refine XS.iloadN X0.here hx rfl (hb hby own_d_jdk_33_method_47_code_43) rfl ?_
          refine XS.bipush X0.here hx rfl (hb hby own_d_jdk_33_method_47_code_44) ?_
          show Steps p.tables e below (s₁.setTop (mkF m 46 #[.val (.int x'), .val (.int (n' + (-8 : Int32)))] [(.int (8 : Int32)), (.int x')])) _
          refine XS.iushr X0.here hx rfl (hb hby own_d_jdk_33_method_47_code_46) rfl ?_
          refine XS.istoreN X0.here hx rfl (hb hby own_d_jdk_33_method_47_code_47) rfl (l' := #[.val (.int ((x'.toUInt32 >>> ((8 : Int32) &&& 31).toUInt32).toInt32)), .val (.int (n' + (-8 : Int32)))]) rfl ?_
          show Steps p.tables e below (s₁.setTop (mkF m 48 #[.val (.int ((x'.toUInt32 >>> ((8 : Int32) &&& 31).toUInt32).toInt32)), .val (.int (n' + (-8 : Int32)))] [])) _
          exact k t kk⟩
    have j18 : ∀ x' n' : Int32, ∃ y' k' r' : Int32, ∀ t, Steps p.tables e below (s₁.setTop (mkF m 78 #[.val (.int y'), .val (.int k')] [.int r'])) t → Steps p.tables e below (s₁.setTop (mkF m 18 #[.val (.int x'), .val (.int n')] [])) t := by
      intro x' n'
      by_cases c_ : x' < (65536 : Int32)
      · obtain ⟨y', k', r', k⟩ := j33 x' n'
        exact ⟨y', k', r', fun t kk => by
          show Steps p.tables e below (s₁.setTop (mkF m 18 #[.val (.int x'), .val (.int n')] [])) _
          refine XS.iloadN X0.here hx rfl (hb hby own_d_jdk_33_method_47_code_18) rfl ?_
          show Steps p.tables e below (s₁.setTop (mkF m 19 #[.val (.int x'), .val (.int n')] [(.int x')])) _
          refine X0.ldcwInt hx hown (mvT hZ (hw _ (List.mem_of_getElem? (i := 118) rfl))) (g := (mkF m 19 #[.val (.int x'), .val (.int n')] [(.int x')])) rfl (hb hby own_d_jdk_33_method_47_code_19) _ ?_
          show Steps p.tables e below (s₁.setTop (mkF m 22 #[.val (.int x'), .val (.int n')] [(.int (65536 : Int32)), (.int x')])) _
          refine XS.icmpYes X0.here hx rfl (pc0 := 22) (pc' := 33) rfl (hb hby own_d_jdk_33_method_47_code_22) rfl (tlt (c_ : x' < (65536 : Int32))).1 (by decide) (by decide) ?_
          show Steps p.tables e below (s₁.setTop (mkF m 33 #[.val (.int x'), .val (.int n')] [])) _
          exact k t kk⟩
      · obtain ⟨y', k', r', k⟩ := j33 ((x'.toUInt32 >>> ((16 : Int32) &&& 31).toUInt32).toInt32) (n' + (-16 : Int32))
        exact ⟨y', k', r', fun t kk => by
          show Steps p.tables e below (s₁.setTop (mkF m 18 #[.val (.int x'), .val (.int n')] [])) _
          refine XS.iloadN X0.here hx rfl (hb hby own_d_jdk_33_method_47_code_18) rfl ?_
          show Steps p.tables e below (s₁.setTop (mkF m 19 #[.val (.int x'), .val (.int n')] [(.int x')])) _
          refine X0.ldcwInt hx hown (mvT hZ (hw _ (List.mem_of_getElem? (i := 118) rfl))) (g := (mkF m 19 #[.val (.int x'), .val (.int n')] [(.int x')])) rfl (hb hby own_d_jdk_33_method_47_code_19) _ ?_
          show Steps p.tables e below (s₁.setTop (mkF m 22 #[.val (.int x'), .val (.int n')] [(.int (65536 : Int32)), (.int x')])) _
          refine XS.icmpNo X0.here hx rfl (hb hby own_d_jdk_33_method_47_code_22) rfl (flt (c_ : ¬ (x' < (65536 : Int32)))).1 ?_
          show Steps p.tables e below (s₁.setTop (mkF m 25 #[.val (.int x'), .val (.int n')] [])) _
          refine XS.iinc X0.here hx rfl (hb hby own_d_jdk_33_method_47_code_25) rfl (l' := #[.val (.int x'), .val (.int (n' + (-16 : Int32)))]) rfl ?_
          refine XS.iloadN X0.here hx rfl (hb hby own_d_jdk_33_method_47_code_28) rfl ?_
          refine XS.bipush X0.here hx rfl (hb hby own_d_jdk_33_method_47_code_29) ?_
          show Steps p.tables e below (s₁.setTop (mkF m 31 #[.val (.int x'), .val (.int (n' + (-16 : Int32)))] [(.int (16 : Int32)), (.int x')])) _
          refine XS.iushr X0.here hx rfl (hb hby own_d_jdk_33_method_47_code_31) rfl ?_
          refine XS.istoreN X0.here hx rfl (hb hby own_d_jdk_33_method_47_code_32) rfl (l' := #[.val (.int ((x'.toUInt32 >>> ((16 : Int32) &&& 31).toUInt32).toInt32)), .val (.int (n' + (-16 : Int32)))]) rfl ?_
          show Steps p.tables e below (s₁.setTop (mkF m 33 #[.val (.int ((x'.toUInt32 >>> ((16 : Int32) &&& 31).toUInt32).toInt32)), .val (.int (n' + (-16 : Int32)))] [])) _
          exact k t kk⟩
    obtain ⟨y', k', r', k⟩ := j18 x_ (31 : Int32)
    obtain ⟨fs, hr, hrun, hended, hW, hsame⟩ := X0.leave (v := some (.int r')) (fun h => by rw [Bd.returns] at h; cases h)
    refine ⟨_, _, pre0 _ ?_, hrun, hended, _, _, rfl, ?_, ⟨_, rfl⟩, hW, hsame.mono (by decide) (by decide)⟩
    · refine cut1 _ ?_
      show Steps p.tables e below (s₁.setTop (mkF m 1 #[.val (.int x_), .unset] [(.int x_)])) _
      refine XS.ifYes X0.here hx rfl (pc0 := 1) (pc' := 15) rfl (hb hby own_d_jdk_33_method_47_code_1) rfl ((if0 _ _).trans (tlt (c0 : (0 : Int32) < x_)).2.2.1) (by decide) (by decide) ?_
      refine XS.bipush X0.here hx rfl (hb hby own_d_jdk_33_method_47_code_15) ?_
      refine XS.istoreN X0.here hx rfl (hb hby own_d_jdk_33_method_47_code_17) rfl (l' := #[.val (.int x_), .val (.int (31 : Int32))]) rfl ?_
      show Steps p.tables e below (s₁.setTop (mkF m 18 #[.val (.int x_), .val (.int (31 : Int32))] [])) _
      refine k _ ?_
      show Steps p.tables e below (s₁.setTop (mkF m 78 #[.val (.int y'), .val (.int k')] [(.int r')])) _
      exact retI X0 hx Bd.returns (hb hby own_d_jdk_33_method_47_code_78) hr
    · show QA h0 n0 _ s₁.heap _
      rw [e0]
      exact ⟨r', rfl, N0, rfl⟩
  · have cut2 : ∀ t, Steps p.tables e below (s₁.setTop (mkF m 5 #[.val (.int x_), .unset] [(.int x_)])) t → Steps p.tables e below (s₁.setTop (mkF m 0 #[.val (.int x_), .unset] [])) t := fun t kk => by
      refine cut1 _ ?_
      show Steps p.tables e below (s₁.setTop (mkF m 1 #[.val (.int x_), .unset] [(.int x_)])) _
      refine XS.ifNo X0.here hx rfl (hb hby own_d_jdk_33_method_47_code_1) rfl ((if0 _ _).trans (flt (c0 : ¬ ((0 : Int32) < x_))).2.2.1) ?_
      refine XS.iloadN X0.here hx rfl (hb hby own_d_jdk_33_method_47_code_4) rfl ?_
      exact kk
    by_cases c1 : x_ = (0 : Int32)
    · obtain ⟨fs, hr, hrun, hended, hW, hsame⟩ := X0.leave (v := some (.int (32 : Int32))) (fun h => by rw [Bd.returns] at h; cases h)
      refine ⟨_, _, pre0 _ ?_, hrun, hended, _, _, rfl, ?_, ⟨_, rfl⟩, hW, hsame.mono (by decide) (by decide)⟩
      · refine cut2 _ ?_
        show Steps p.tables e below (s₁.setTop (mkF m 5 #[.val (.int x_), .unset] [(.int x_)])) _
        refine XS.ifNo X0.here hx rfl (hb hby own_d_jdk_33_method_47_code_5) rfl ((if0 _ _).trans (teq (c1 : x_ = (0 : Int32))).2) ?_
        refine XS.bipush X0.here hx rfl (hb hby own_d_jdk_33_method_47_code_8) ?_
        refine XS.goto X0.here hx rfl (pc0 := 10) (pc' := 14) rfl (hb hby own_d_jdk_33_method_47_code_10) (by decide) (by decide) ?_
        show Steps p.tables e below (s₁.setTop (mkF m 14 #[.val (.int x_), .unset] [(.int (32 : Int32))])) _
        exact retI X0 hx Bd.returns (hb hby own_d_jdk_33_method_47_code_14) hr
      · show QA h0 n0 _ s₁.heap _
        rw [e0]
        exact ⟨_, rfl, N0, rfl⟩
    · obtain ⟨fs, hr, hrun, hended, hW, hsame⟩ := X0.leave (v := some (.int (0 : Int32))) (fun h => by rw [Bd.returns] at h; cases h)
      refine ⟨_, _, pre0 _ ?_, hrun, hended, _, _, rfl, ?_, ⟨_, rfl⟩, hW, hsame.mono (by decide) (by decide)⟩
      · refine cut2 _ ?_
        show Steps p.tables e below (s₁.setTop (mkF m 5 #[.val (.int x_), .unset] [(.int x_)])) _
        refine XS.ifYes X0.here hx rfl (pc0 := 5) (pc' := 13) rfl (hb hby own_d_jdk_33_method_47_code_5) rfl ((if0 _ _).trans (feq (c1 : ¬ (x_ = (0 : Int32)))).2) (by decide) (by decide) ?_
        refine XS.iconst X0.here hx rfl (hb hby own_d_jdk_33_method_47_code_13) ?_
        show Steps p.tables e below (s₁.setTop (mkF m 14 #[.val (.int x_), .unset] [(.int (0 : Int32))])) _
        exact retI X0 hx Bd.returns (hb hby own_d_jdk_33_method_47_code_14) hr
      · show QA h0 n0 _ s₁.heap _
        rw [e0]
        exact ⟨_, rfl, N0, rfl⟩
theorem own_d_jdk_35_method_48_code_0 : decode jdk_35_method_48_code 0 = .ok (.lload_n 0, 1) := by decide +kernel
theorem own_d_jdk_35_method_48_code_1 : decode jdk_35_method_48_code 1 = .ok (.bipush 32, 2) := by decide +kernel
theorem own_d_jdk_35_method_48_code_3 : decode jdk_35_method_48_code 3 = .ok (.lushr, 1) := by decide +kernel
theorem own_d_jdk_35_method_48_code_4 : decode jdk_35_method_48_code 4 = .ok (.l2i, 1) := by decide +kernel
theorem own_d_jdk_35_method_48_code_5 : decode jdk_35_method_48_code 5 = .ok (.istore_n 2, 1) := by decide +kernel
theorem own_d_jdk_35_method_48_code_6 : decode jdk_35_method_48_code 6 = .ok (.iload_n 2, 1) := by decide +kernel
theorem own_d_jdk_35_method_48_code_7 : decode jdk_35_method_48_code 7 = .ok (.ifCond .ne 14, 3) := by decide +kernel
theorem own_d_jdk_35_method_48_code_10 : decode jdk_35_method_48_code 10 = .ok (.bipush 32, 2) := by decide +kernel
theorem own_d_jdk_35_method_48_code_12 : decode jdk_35_method_48_code 12 = .ok (.lload_n 0, 1) := by decide +kernel
theorem own_d_jdk_35_method_48_code_13 : decode jdk_35_method_48_code 13 = .ok (.l2i, 1) := by decide +kernel
theorem own_d_jdk_35_method_48_code_14 : decode jdk_35_method_48_code 14 = .ok (.invokestatic 308, 3) := by decide +kernel
theorem own_d_jdk_35_method_48_code_17 : decode jdk_35_method_48_code 17 = .ok (.iadd, 1) := by decide +kernel
theorem own_d_jdk_35_method_48_code_18 : decode jdk_35_method_48_code 18 = .ok (.goto 7, 3) := by decide +kernel
theorem own_d_jdk_35_method_48_code_21 : decode jdk_35_method_48_code 21 = .ok (.iload_n 2, 1) := by decide +kernel
theorem own_d_jdk_35_method_48_code_22 : decode jdk_35_method_48_code 22 = .ok (.invokestatic 308, 3) := by decide +kernel
theorem own_d_jdk_35_method_48_code_25 : decode jdk_35_method_48_code 25 = .ok (.ireturn, 1) := by decide +kernel
theorem own_pd__I_I : parseMethodDescriptor "(I)I" = some ⟨[.int], some .int⟩ := by decide +kernel
theorem own_pn_java_lang_Long : plainName "java/lang/Long" = true := by first | (simp [plainName, overriddenIn]; done) | decide +kernel
theorem own_ef_jdk_35_method_48_code_x (m : MethodId) (x0 : Int64) : entryFrame m #[(.long x0)] 3 = mkF m 0 #[.val (.long x0), .second, .unset] [] := by first | (simp [entryFrame, mkF, argsToLocals, Value.category]; done) | rfl
set_option maxRecDepth 65536 in
set_option maxHeartbeats 40000000 in
theorem rmLz (l : Launch) (Z : State) (a0 : Array Value) (hw : ∀ d ∈ tables_1, d.before a0 Z = true) (ws : List Jvm.Cond) (x_ : Int64) (h0 : Heap) (n0 : Nat) (Z0 : n0 ≤ h0.size)  :
    MetFree l (⟨"java/lang/Long", "numberOfLeadingZeros", "(J)I"⟩ : MethodName) (head1 (Jvm.Cond.code (⟨"java/lang/Long", "numberOfLeadingZeros", "(J)I"⟩ : MethodName) jdk_35_method_48_code 3 (some .int) :: ws) ({ frames := 1, cells := 0, slots := 0, locals := 14 } : Room)) (fun a U => a = #[(.long x_)] ∧ Z.Warmed39 U.vm ∧ U.heap = h0) (fun _ _ _ _ _ => True) (fun _ U o U' => ∃ vr_ Lr_, o = .returned vr_ ∧ QA h0 n0 vr_ U'.heap Lr_ ∧ FrameEnd U o U' Lr_ 0 0) := by
  refine MetFree.of_bodySF (plainFor_of_name own_pn_java_lang_Long) hisR ?_
  intro p e s m args below meth c s₁ Bd hml0 hP hK
  obtain ⟨rfl, hZ, hh⟩ := hP
  have hx := Bd.exec
  have hby := Bd.bytes
  have hml : c.maxLocals = 3 := hml0
  have hown : s.vm.findClass "java/lang/Long" = some m.cls := findClass_of_methodNamed Bd.named
  have hnm := (name_of_methodNamed Bd.named Bd.method).1
  have X0 : Stand p l e ({ frames := 1, cells := 0, slots := 0, locals := 14 } : Room) s m #[(.long x_)] below meth c s₁ [] 0 0 := Stand.of_body Bd
  have e0 : s₁.heap = h0 := by rw [← hh, Bd.state]; rfl
  have N0 := Fr.nil n0
  have pre0 : ∀ t, Steps p.tables e below (s₁.setTop (mkF m 0 #[.val (.long x_), .second, .unset] [])) t → Steps p.tables e below (s₁.setTop (entryFrame m #[(.long x_)] 3)) t := fun t k => castTop (own_ef_jdk_35_method_48_code_x m x_) k
  have cut1 : ∀ t, Steps p.tables e below (s₁.setTop (mkF m 7 #[.val (.long x_), .second, .val (.int (((x_.toUInt64 >>> ((32 : Int32) &&& 0x3f).toInt64.toUInt64).toInt64).toInt32))] [(.int (((x_.toUInt64 >>> ((32 : Int32) &&& 0x3f).toInt64.toUInt64).toInt64).toInt32))])) t → Steps p.tables e below (s₁.setTop (mkF m 0 #[.val (.long x_), .second, .unset] [])) t := fun t kk => by
    show Steps p.tables e below (s₁.setTop (mkF m 0 #[.val (.long x_), .second, .unset] [])) _
    refine XS.lloadN X0.here hx rfl (hb hby own_d_jdk_35_method_48_code_0) rfl ?_
    refine XS.bipush X0.here hx rfl (hb hby own_d_jdk_35_method_48_code_1) ?_
    refine XS.lushr X0.here hx rfl (hb hby own_d_jdk_35_method_48_code_3) rfl ?_
    show Steps p.tables e below (s₁.setTop (mkF m 4 #[.val (.long x_), .second, .unset] [(.long ((x_.toUInt64 >>> ((32 : Int32) &&& 0x3f).toInt64.toUInt64).toInt64))])) _
    refine XS.l2i X0.here hx rfl (hb hby own_d_jdk_35_method_48_code_4) rfl ?_
    refine XS.istoreN X0.here hx rfl (hb hby own_d_jdk_35_method_48_code_5) rfl (l' := #[.val (.long x_), .second, .val (.int (((x_.toUInt64 >>> ((32 : Int32) &&& 0x3f).toInt64.toUInt64).toInt64).toInt32))]) rfl ?_
    refine XS.iloadN X0.here hx rfl (hb hby own_d_jdk_35_method_48_code_6) rfl ?_
    exact kk
  by_cases c0 : (((x_.toUInt64 >>> ((32 : Int32) &&& 0x3f).toInt64.toUInt64).toInt64).toInt32) = (0 : Int32)
  · obtain ⟨_, _, ⟨T2, L2, k2, n2⟩, -, X2, ⟨Lc2, hQ2, l2, y2, z2⟩, st2⟩ := Jvm.LawKit.callS X0 hx (y := (⟨"java/lang/Integer", "numberOfLeadingZeros", "(I)I"⟩ : MethodName)) hown (mvT hZ (hw _ (List.mem_of_getElem? (i := 114) rfl))) (mvT hZ (hw _ (List.mem_of_getElem? (i := 115) rfl))) (mvT hZ (hw _ (List.mem_of_getElem? (i := 116) rfl))) (mvT hZ (hw _ (List.mem_of_getElem? (i := 117) rfl))) (by decide) (backOf (W := 1) (rmIz l Z a0 hw [] (x_.toInt32) h0 n0 (Nat.le_trans Z0 (Keep.refl h0 []).1) ) hZ (hw _ (List.mem_of_getElem? (i := 117) rfl)) (hw _ (List.mem_of_getElem? (i := 116) rfl)) (by decide) (by decide)) (g := (mkF m 14 #[.val (.long x_), .second, .val (.int (((x_.toUInt64 >>> ((32 : Int32) &&& 0x3f).toInt64.toUInt64).toInt64).toInt32))] [(.int (x_.toInt32)), (.int (32 : Int32))])) rfl (by rw [hml]; rfl) (argsL := [(.int (x_.toInt32))]) (rest := [(.int (32 : Int32))]) (lenOf own_pd__I_I rfl) rfl (by show 2 * 0 + _ ≤ _; exact Nat.le_of_eq rfl) (hb hby own_d_jdk_35_method_48_code_14) (fun _ _ => ⟨rfl, e0, (by decide : 0 + 0 ≤ _), (by decide : 0 + 0 ≤ _)⟩)
    dsimp only [Pt.U, Pt.locs, Pt.cells, Pt.slots] at X2 l2 y2 z2 st2 hQ2
    subst l2 y2 z2
    obtain ⟨r2, rfl, N2q, e2q⟩ := hQ2
    have N2a := Fr.app N0 N2q
    obtain ⟨fs, hr, hrun, hended, hW, hsame⟩ := X2.leave (v := some (.int ((32 : Int32) + r2))) (fun h => by rw [Bd.returns] at h; cases h)
    refine ⟨_, _, pre0 _ ?_, hrun, hended, _, _, rfl, ?_, ⟨_, rfl⟩, hW, hsame.mono (by decide) (by decide)⟩
    · refine cut1 _ ?_
      show Steps p.tables e below (s₁.setTop (mkF m 7 #[.val (.long x_), .second, .val (.int (((x_.toUInt64 >>> ((32 : Int32) &&& 0x3f).toInt64.toUInt64).toInt64).toInt32))] [(.int (((x_.toUInt64 >>> ((32 : Int32) &&& 0x3f).toInt64.toUInt64).toInt64).toInt32))])) _
      refine XS.ifNo X0.here hx rfl (hb hby own_d_jdk_35_method_48_code_7) rfl ((if0 _ _).trans (teq (c0 : (((x_.toUInt64 >>> ((32 : Int32) &&& 0x3f).toInt64.toUInt64).toInt64).toInt32) = (0 : Int32))).2) ?_
      refine XS.bipush X0.here hx rfl (hb hby own_d_jdk_35_method_48_code_10) ?_
      refine XS.lloadN X0.here hx rfl (hb hby own_d_jdk_35_method_48_code_12) rfl ?_
      show Steps p.tables e below (s₁.setTop (mkF m 13 #[.val (.long x_), .second, .val (.int (((x_.toUInt64 >>> ((32 : Int32) &&& 0x3f).toInt64.toUInt64).toInt64).toInt32))] [(.long x_), (.int (32 : Int32))])) _
      refine XS.l2i X0.here hx rfl (hb hby own_d_jdk_35_method_48_code_13) rfl ?_
      show Steps p.tables e below (s₁.setTop (mkF m 14 #[.val (.long x_), .second, .val (.int (((x_.toUInt64 >>> ((32 : Int32) &&& 0x3f).toInt64.toUInt64).toInt64).toInt32))] [(.int (x_.toInt32)), (.int (32 : Int32))])) _
      refine st2 _ ?_
      refine XS.iadd X2.here hx rfl (hb hby own_d_jdk_35_method_48_code_17) rfl ?_
      refine XS.goto X2.here hx rfl (pc0 := 18) (pc' := 25) rfl (hb hby own_d_jdk_35_method_48_code_18) (by decide) (by decide) ?_
      show Steps p.tables e below (T2.setTop (mkF m 25 #[.val (.long x_), .second, .val (.int (((x_.toUInt64 >>> ((32 : Int32) &&& 0x3f).toInt64.toUInt64).toInt64).toInt32))] [(.int ((32 : Int32) + r2))])) _
      exact retI X2 hx Bd.returns (hb hby own_d_jdk_35_method_48_code_25) hr
    · show QA h0 n0 _ T2.heap _
      rw [e2q]
      exact ⟨_, rfl, N2a, rfl⟩
  · obtain ⟨_, _, ⟨T2, L2, k2, n2⟩, -, X2, ⟨Lc2, hQ2, l2, y2, z2⟩, st2⟩ := Jvm.LawKit.callS X0 hx (y := (⟨"java/lang/Integer", "numberOfLeadingZeros", "(I)I"⟩ : MethodName)) hown (mvT hZ (hw _ (List.mem_of_getElem? (i := 114) rfl))) (mvT hZ (hw _ (List.mem_of_getElem? (i := 115) rfl))) (mvT hZ (hw _ (List.mem_of_getElem? (i := 116) rfl))) (mvT hZ (hw _ (List.mem_of_getElem? (i := 117) rfl))) (by decide) (backOf (W := 0) (rmIz l Z a0 hw [] (((x_.toUInt64 >>> ((32 : Int32) &&& 0x3f).toInt64.toUInt64).toInt64).toInt32) h0 n0 (Nat.le_trans Z0 (Keep.refl h0 []).1) ) hZ (hw _ (List.mem_of_getElem? (i := 117) rfl)) (hw _ (List.mem_of_getElem? (i := 116) rfl)) (by decide) (by decide)) (g := (mkF m 22 #[.val (.long x_), .second, .val (.int (((x_.toUInt64 >>> ((32 : Int32) &&& 0x3f).toInt64.toUInt64).toInt64).toInt32))] [(.int (((x_.toUInt64 >>> ((32 : Int32) &&& 0x3f).toInt64.toUInt64).toInt64).toInt32))])) rfl (by rw [hml]; rfl) (argsL := [(.int (((x_.toUInt64 >>> ((32 : Int32) &&& 0x3f).toInt64.toUInt64).toInt64).toInt32))]) (rest := []) (lenOf own_pd__I_I rfl) rfl (by show 2 * 0 + _ ≤ _; exact Nat.le_of_eq rfl) (hb hby own_d_jdk_35_method_48_code_22) (fun _ _ => ⟨rfl, e0, (by decide : 0 + 0 ≤ _), (by decide : 0 + 0 ≤ _)⟩)
    dsimp only [Pt.U, Pt.locs, Pt.cells, Pt.slots] at X2 l2 y2 z2 st2 hQ2
    subst l2 y2 z2
    obtain ⟨r2, rfl, N2q, e2q⟩ := hQ2
    have N2a := Fr.app N0 N2q
    obtain ⟨fs, hr, hrun, hended, hW, hsame⟩ := X2.leave (v := some (.int r2)) (fun h => by rw [Bd.returns] at h; cases h)
    refine ⟨_, _, pre0 _ ?_, hrun, hended, _, _, rfl, ?_, ⟨_, rfl⟩, hW, hsame.mono (by decide) (by decide)⟩
    · refine cut1 _ ?_
      show Steps p.tables e below (s₁.setTop (mkF m 7 #[.val (.long x_), .second, .val (.int (((x_.toUInt64 >>> ((32 : Int32) &&& 0x3f).toInt64.toUInt64).toInt64).toInt32))] [(.int (((x_.toUInt64 >>> ((32 : Int32) &&& 0x3f).toInt64.toUInt64).toInt64).toInt32))])) _
      refine XS.ifYes X0.here hx rfl (pc0 := 7) (pc' := 21) rfl (hb hby own_d_jdk_35_method_48_code_7) rfl ((if0 _ _).trans (feq (c0 : ¬ ((((x_.toUInt64 >>> ((32 : Int32) &&& 0x3f).toInt64.toUInt64).toInt64).toInt32) = (0 : Int32)))).2) (by decide) (by decide) ?_
      refine XS.iloadN X0.here hx rfl (hb hby own_d_jdk_35_method_48_code_21) rfl ?_
      show Steps p.tables e below (s₁.setTop (mkF m 22 #[.val (.long x_), .second, .val (.int (((x_.toUInt64 >>> ((32 : Int32) &&& 0x3f).toInt64.toUInt64).toInt64).toInt32))] [(.int (((x_.toUInt64 >>> ((32 : Int32) &&& 0x3f).toInt64.toUInt64).toInt64).toInt32))])) _
      refine st2 _ ?_
      show Steps p.tables e below (T2.setTop (mkF m 25 #[.val (.long x_), .second, .val (.int (((x_.toUInt64 >>> ((32 : Int32) &&& 0x3f).toInt64.toUInt64).toInt64).toInt32))] [(.int r2)])) _
      exact retI X2 hx Bd.returns (hb hby own_d_jdk_35_method_48_code_25) hr
    · show QA h0 n0 _ T2.heap _
      rw [e2q]
      exact ⟨_, rfl, N2a, rfl⟩
theorem own_d_jdk_17_method_104_code_0 : decode jdk_17_method_104_code 0 = .ok (.getstatic 311, 3) := by decide +kernel
theorem own_d_jdk_17_method_104_code_3 : decode jdk_17_method_104_code 3 = .ok (.ifCond .ne 19, 3) := by decide +kernel
theorem own_d_jdk_17_method_104_code_22 : decode jdk_17_method_104_code 22 = .ok (.lload_n 0, 1) := by decide +kernel
theorem own_d_jdk_17_method_104_code_23 : decode jdk_17_method_104_code 23 = .ok (.lconst 0, 1) := by decide +kernel
theorem own_d_jdk_17_method_104_code_24 : decode jdk_17_method_104_code 24 = .ok (.lcmp, 1) := by decide +kernel
theorem own_d_jdk_17_method_104_code_25 : decode jdk_17_method_104_code 25 = .ok (.ifCond .ge 6, 3) := by decide +kernel
theorem own_d_jdk_17_method_104_code_31 : decode jdk_17_method_104_code 31 = .ok (.lload_n 0, 1) := by decide +kernel
theorem own_d_jdk_17_method_104_code_32 : decode jdk_17_method_104_code 32 = .ok (.ldc2_w 56, 3) := by decide +kernel
theorem own_d_jdk_17_method_104_code_35 : decode jdk_17_method_104_code 35 = .ok (.lcmp, 1) := by decide +kernel
theorem own_d_jdk_17_method_104_code_36 : decode jdk_17_method_104_code 36 = .ok (.ifCond .ge 5, 3) := by decide +kernel
theorem own_d_jdk_17_method_104_code_39 : decode jdk_17_method_104_code 39 = .ok (.iconst 1, 1) := by decide +kernel
theorem own_d_jdk_17_method_104_code_40 : decode jdk_17_method_104_code 40 = .ok (.ireturn, 1) := by decide +kernel
theorem own_d_jdk_17_method_104_code_41 : decode jdk_17_method_104_code 41 = .ok (.bipush 64, 2) := by decide +kernel
theorem own_d_jdk_17_method_104_code_43 : decode jdk_17_method_104_code 43 = .ok (.lload_n 0, 1) := by decide +kernel
theorem own_d_jdk_17_method_104_code_44 : decode jdk_17_method_104_code 44 = .ok (.invokestatic 761, 3) := by decide +kernel
theorem own_d_jdk_17_method_104_code_47 : decode jdk_17_method_104_code 47 = .ok (.isub, 1) := by decide +kernel
theorem own_d_jdk_17_method_104_code_48 : decode jdk_17_method_104_code 48 = .ok (.iconst 1, 1) := by decide +kernel
theorem own_d_jdk_17_method_104_code_49 : decode jdk_17_method_104_code 49 = .ok (.iadd, 1) := by decide +kernel
theorem own_d_jdk_17_method_104_code_50 : decode jdk_17_method_104_code 50 = .ok (.sipush 1233, 3) := by decide +kernel
theorem own_d_jdk_17_method_104_code_53 : decode jdk_17_method_104_code 53 = .ok (.imul, 1) := by decide +kernel
theorem own_d_jdk_17_method_104_code_54 : decode jdk_17_method_104_code 54 = .ok (.bipush 12, 2) := by decide +kernel
theorem own_d_jdk_17_method_104_code_56 : decode jdk_17_method_104_code 56 = .ok (.iushr, 1) := by decide +kernel
theorem own_d_jdk_17_method_104_code_57 : decode jdk_17_method_104_code 57 = .ok (.istore_n 2, 1) := by decide +kernel
theorem own_d_jdk_17_method_104_code_58 : decode jdk_17_method_104_code 58 = .ok (.getstatic 95, 3) := by decide +kernel
theorem own_d_jdk_17_method_104_code_61 : decode jdk_17_method_104_code 61 = .ok (.astore_n 3, 1) := by decide +kernel
theorem own_d_jdk_17_method_104_code_62 : decode jdk_17_method_104_code 62 = .ok (.iload_n 2, 1) := by decide +kernel
theorem own_d_jdk_17_method_104_code_63 : decode jdk_17_method_104_code 63 = .ok (.aload_n 3, 1) := by decide +kernel
theorem own_d_jdk_17_method_104_code_64 : decode jdk_17_method_104_code 64 = .ok (.arraylength, 1) := by decide +kernel
theorem own_d_jdk_17_method_104_code_65 : decode jdk_17_method_104_code 65 = .ok (.if_icmp .ge 11, 3) := by decide +kernel
theorem own_d_jdk_17_method_104_code_68 : decode jdk_17_method_104_code 68 = .ok (.lload_n 0, 1) := by decide +kernel
theorem own_d_jdk_17_method_104_code_69 : decode jdk_17_method_104_code 69 = .ok (.aload_n 3, 1) := by decide +kernel
theorem own_d_jdk_17_method_104_code_70 : decode jdk_17_method_104_code 70 = .ok (.iload_n 2, 1) := by decide +kernel
theorem own_d_jdk_17_method_104_code_71 : decode jdk_17_method_104_code 71 = .ok (.laload, 1) := by decide +kernel
theorem own_d_jdk_17_method_104_code_72 : decode jdk_17_method_104_code 72 = .ok (.lcmp, 1) := by decide +kernel
theorem own_d_jdk_17_method_104_code_73 : decode jdk_17_method_104_code 73 = .ok (.ifCond .ge 7, 3) := by decide +kernel
theorem own_d_jdk_17_method_104_code_76 : decode jdk_17_method_104_code 76 = .ok (.iload_n 2, 1) := by decide +kernel
theorem own_d_jdk_17_method_104_code_77 : decode jdk_17_method_104_code 77 = .ok (.goto 6, 3) := by decide +kernel
theorem own_d_jdk_17_method_104_code_80 : decode jdk_17_method_104_code 80 = .ok (.iload_n 2, 1) := by decide +kernel
theorem own_d_jdk_17_method_104_code_81 : decode jdk_17_method_104_code 81 = .ok (.iconst 1, 1) := by decide +kernel
theorem own_d_jdk_17_method_104_code_82 : decode jdk_17_method_104_code 82 = .ok (.iadd, 1) := by decide +kernel
theorem own_d_jdk_17_method_104_code_83 : decode jdk_17_method_104_code 83 = .ok (.ireturn, 1) := by decide +kernel
theorem own_pd__J_I : parseMethodDescriptor "(J)I" = some ⟨[.long], some .int⟩ := by decide +kernel
theorem own_ef_jdk_17_method_104_code_x (m : MethodId) (x0 : Int64) : entryFrame m #[(.long x0)] 4 = mkF m 0 #[.val (.long x0), .second, .unset, .unset] [] := by first | (simp [entryFrame, mkF, argsToLocals, Value.category]; done) | rfl
set_option maxRecDepth 65536 in
set_option maxHeartbeats 40000000 in
theorem rmLd (l : Launch) (Z : State) (a0 : Array Value) (hw : ∀ d ∈ tables_1, d.before a0 Z = true) (ws : List Jvm.Cond) (v : Int64) (h0 : Heap) (n0 : Nat) (Z0 : n0 ≤ h0.size) (hv : (0 : Int64) < v) (hTP : TPT Z) (O0 : Old Z n0 h0) :
    MetFree l (⟨"java/math/BigDecimal", "longDigitLength", "(J)I"⟩ : MethodName) (head1 (Jvm.Cond.code (⟨"java/math/BigDecimal", "longDigitLength", "(J)I"⟩ : MethodName) jdk_17_method_104_code 4 (some .int) :: ws) ({ frames := 2, cells := 0, slots := 0, locals := 29 } : Room)) (fun a U => a = #[(.long v)] ∧ Z.Warmed39 U.vm ∧ U.heap = h0) (fun _ _ _ _ _ => True) (fun _ U o U' => ∃ vr_ Lr_, o = .returned vr_ ∧ QA h0 n0 vr_ U'.heap Lr_ ∧ FrameEnd U o U' Lr_ 0 0) := by
  refine MetFree.of_bodySF (plainFor_of_name own_pn_java_math_BigDecimal) hisR ?_
  intro p e s m args below meth c s₁ Bd hml0 hP hK
  obtain ⟨rfl, hZ, hh⟩ := hP
  have hx := Bd.exec
  have hby := Bd.bytes
  have hml : c.maxLocals = 4 := hml0
  have hown : s.vm.findClass "java/math/BigDecimal" = some m.cls := findClass_of_methodNamed Bd.named
  have hnm := (name_of_methodNamed Bd.named Bd.method).1
  have X0 : Stand p l e ({ frames := 2, cells := 0, slots := 0, locals := 29 } : Room) s m #[(.long v)] below meth c s₁ [] 0 0 := Stand.of_body Bd
  have e0 : s₁.heap = h0 := by rw [← hh, Bd.state]; rfl
  have N0 := Fr.nil n0
  have pre0 : ∀ t, Steps p.tables e below (s₁.setTop (mkF m 0 #[.val (.long v), .second, .unset, .unset] [])) t → Steps p.tables e below (s₁.setTop (entryFrame m #[(.long v)] 4)) t := fun t k => castTop (own_ef_jdk_17_method_104_code_x m v) k
  obtain ⟨Sa, ta, tc, St, At0, tsz, tel⟩ := hTP
  have At : Arr Z h0 ta tc .long := At0.ext O0.2
  obtain ⟨T1, X1, e1, st1⟩ := getS2 X0 hx hZ hown (host := "") (Or.inl (hw _ (List.mem_of_getElem? (i := 89) rfl))) Via.refl e0 (Sa.ext O0.2) (g := (mkF m 0 #[.val (.long v), .second, .unset, .unset] [])) rfl (hb hby own_d_jdk_17_method_104_code_0)
  have cut2 : ∀ t, Steps p.tables e below (T1.setTop (mkF m 36 #[.val (.long v), .second, .unset, .unset] [(.int (lcmpW v (10 : Int64)))])) t → Steps p.tables e below (s₁.setTop (mkF m 0 #[.val (.long v), .second, .unset, .unset] [])) t := fun t kk => by
    show Steps p.tables e below (s₁.setTop (mkF m 0 #[.val (.long v), .second, .unset, .unset] [])) _
    refine st1 _ ?_
    show Steps p.tables e below (T1.setTop (mkF m 3 #[.val (.long v), .second, .unset, .unset] [(.int (1 : Int32))])) _
    refine XS.ifYes X1.here hx rfl (pc0 := 3) (pc' := 22) rfl (hb hby own_d_jdk_17_method_104_code_3) rfl ((if0 _ _).trans (feq (by decide : ¬ ((1 : Int32) = (0 : Int32)))).2) (by decide) (by decide) ?_
    refine XS.lloadN X1.here hx rfl (hb hby own_d_jdk_17_method_104_code_22) rfl ?_
    refine XS.lconst X1.here hx rfl (hb hby own_d_jdk_17_method_104_code_23) ?_
    show Steps p.tables e below (T1.setTop (mkF m 24 #[.val (.long v), .second, .unset, .unset] [(.long (0 : Int64)), (.long v)])) _
    refine XS.lcmp X1.here hx rfl (hb hby own_d_jdk_17_method_104_code_24) rfl ?_
    show Steps p.tables e below (T1.setTop (mkF m 25 #[.val (.long v), .second, .unset, .unset] [(.int (lcmpW v (0 : Int64)))])) _
    refine XS.ifYes X1.here hx rfl (pc0 := 25) (pc' := 31) rfl (hb hby own_d_jdk_17_method_104_code_25) rfl ((if0 _ _).trans (flt (fun q => own_gt hv ((lw_lt _ _).mp q) : ¬ ((lcmpW v (0 : Int64)) < (0 : Int32)))).2.1) (by decide) (by decide) ?_
    refine XS.lloadN X1.here hx rfl (hb hby own_d_jdk_17_method_104_code_31) rfl ?_
    show Steps p.tables e below (T1.setTop (mkF m 32 #[.val (.long v), .second, .unset, .unset] [(.long v)])) _
    refine X1.ldc2Long hx hown (mvT hZ (hw _ (List.mem_of_getElem? (i := 90) rfl))) (g := (mkF m 32 #[.val (.long v), .second, .unset, .unset] [(.long v)])) rfl (hb hby own_d_jdk_17_method_104_code_32) _ ?_
    refine XS.lcmp X1.here hx rfl (hb hby own_d_jdk_17_method_104_code_35) rfl ?_
    exact kk
  by_cases c10 : v < (10 : Int64)
  · obtain ⟨fs, hr, hrun, hended, hW, hsame⟩ := X1.leave (v := some (.int (1 : Int32))) (fun h => by rw [Bd.returns] at h; cases h)
    refine ⟨_, _, pre0 _ ?_, hrun, hended, _, _, rfl, ?_, ⟨_, rfl⟩, hW, hsame.mono (by decide) (by decide)⟩
    · refine cut2 _ ?_
      show Steps p.tables e below (T1.setTop (mkF m 36 #[.val (.long v), .second, .unset, .unset] [(.int (lcmpW v (10 : Int64)))])) _
      refine XS.ifNo X1.here hx rfl (hb hby own_d_jdk_17_method_104_code_36) rfl ((if0 _ _).trans (tlt ((lw_lt _ _).mpr c10 : (lcmpW v (10 : Int64)) < (0 : Int32))).2.1) ?_
      refine XS.iconst X1.here hx rfl (hb hby own_d_jdk_17_method_104_code_39) ?_
      show Steps p.tables e below (T1.setTop (mkF m 40 #[.val (.long v), .second, .unset, .unset] [(.int (1 : Int32))])) _
      exact retI X1 hx Bd.returns (hb hby own_d_jdk_17_method_104_code_40) hr
    · show QA h0 n0 _ T1.heap _
      rw [e1]
      exact ⟨_, rfl, N0, rfl⟩
  · obtain ⟨_, _, ⟨T3, L3, k3, n3⟩, -, X3, ⟨Lc3, hQ3, l3, y3, z3⟩, st3⟩ := Jvm.LawKit.callS X1 hx (y := (⟨"java/lang/Long", "numberOfLeadingZeros", "(J)I"⟩ : MethodName)) hown (mvT hZ (hw _ (List.mem_of_getElem? (i := 111) rfl))) (mvT hZ (hw _ (List.mem_of_getElem? (i := 112) rfl))) (mvT hZ (hw _ (List.mem_of_getElem? (i := 79) rfl))) (mvT hZ (hw _ (List.mem_of_getElem? (i := 113) rfl))) (by decide) (backOf (W := 1) (rmLz l Z a0 hw [] v h0 n0 (Nat.le_trans Z0 (Keep.refl h0 []).1) ) hZ (hw _ (List.mem_of_getElem? (i := 113) rfl)) (hw _ (List.mem_of_getElem? (i := 79) rfl)) (by decide) (by decide)) (g := (mkF m 44 #[.val (.long v), .second, .unset, .unset] [(.long v), (.int (64 : Int32))])) rfl (by rw [hml]; rfl) (argsL := [(.long v)]) (rest := [(.int (64 : Int32))]) (lenOf own_pd__J_I rfl) rfl (by show 2 * 0 + _ ≤ _; exact Nat.le_of_eq rfl) (hb hby own_d_jdk_17_method_104_code_44) (fun _ _ => ⟨rfl, e1, (by decide : 0 + 0 ≤ _), (by decide : 0 + 0 ≤ _)⟩)
    dsimp only [Pt.U, Pt.locs, Pt.cells, Pt.slots] at X3 l3 y3 z3 st3 hQ3
    subst l3 y3 z3
    obtain ⟨r3, rfl, N3q, e3q⟩ := hQ3
    have N3a := Fr.app N0 N3q
    obtain ⟨T4, X4, e4, st4⟩ := getS2 X3 hx hZ hown (host := "") (Or.inl (hw _ (List.mem_of_getElem? (i := 119) rfl))) Via.refl e3q (St.ext O0.2) (g := (mkF m 58 #[.val (.long v), .second, .val (.int ((((((64 : Int32) - r3) + (1 : Int32)) * (1233 : Int32)).toUInt32 >>> ((12 : Int32) &&& 31).toUInt32).toInt32)), .unset] [])) rfl (hb hby own_d_jdk_17_method_104_code_58)
    have cut5 : ∀ t, Steps p.tables e below (T4.setTop (mkF m 65 #[.val (.long v), .second, .val (.int ((((((64 : Int32) - r3) + (1 : Int32)) * (1233 : Int32)).toUInt32 >>> ((12 : Int32) &&& 31).toUInt32).toInt32)), .val (.ref ta)] [(.int (19 : Int32)), (.int ((((((64 : Int32) - r3) + (1 : Int32)) * (1233 : Int32)).toUInt32 >>> ((12 : Int32) &&& 31).toUInt32).toInt32))])) t → Steps p.tables e below (s₁.setTop (mkF m 0 #[.val (.long v), .second, .unset, .unset] [])) t := fun t kk => by
      refine cut2 _ ?_
      show Steps p.tables e below (T1.setTop (mkF m 36 #[.val (.long v), .second, .unset, .unset] [(.int (lcmpW v (10 : Int64)))])) _
      refine XS.ifYes X1.here hx rfl (pc0 := 36) (pc' := 41) rfl (hb hby own_d_jdk_17_method_104_code_36) rfl ((if0 _ _).trans (flt (fun q => c10 ((lw_lt _ _).mp q) : ¬ ((lcmpW v (10 : Int64)) < (0 : Int32)))).2.1) (by decide) (by decide) ?_
      refine XS.bipush X1.here hx rfl (hb hby own_d_jdk_17_method_104_code_41) ?_
      refine XS.lloadN X1.here hx rfl (hb hby own_d_jdk_17_method_104_code_43) rfl ?_
      show Steps p.tables e below (T1.setTop (mkF m 44 #[.val (.long v), .second, .unset, .unset] [(.long v), (.int (64 : Int32))])) _
      refine st3 _ ?_
      refine XS.isub X3.here hx rfl (hb hby own_d_jdk_17_method_104_code_47) rfl ?_
      refine XS.iconst X3.here hx rfl (hb hby own_d_jdk_17_method_104_code_48) ?_
      show Steps p.tables e below (T3.setTop (mkF m 49 #[.val (.long v), .second, .unset, .unset] [(.int (1 : Int32)), (.int ((64 : Int32) - r3))])) _
      refine XS.iadd X3.here hx rfl (hb hby own_d_jdk_17_method_104_code_49) rfl ?_
      refine XS.sipush X3.here hx rfl (hb hby own_d_jdk_17_method_104_code_50) ?_
      refine XS.imul X3.here hx rfl (hb hby own_d_jdk_17_method_104_code_53) rfl ?_
      show Steps p.tables e below (T3.setTop (mkF m 54 #[.val (.long v), .second, .unset, .unset] [(.int ((((64 : Int32) - r3) + (1 : Int32)) * (1233 : Int32)))])) _
      refine XS.bipush X3.here hx rfl (hb hby own_d_jdk_17_method_104_code_54) ?_
      refine XS.iushr X3.here hx rfl (hb hby own_d_jdk_17_method_104_code_56) rfl ?_
      refine XS.istoreN X3.here hx rfl (hb hby own_d_jdk_17_method_104_code_57) rfl (l' := #[.val (.long v), .second, .val (.int ((((((64 : Int32) - r3) + (1 : Int32)) * (1233 : Int32)).toUInt32 >>> ((12 : Int32) &&& 31).toUInt32).toInt32)), .unset]) rfl ?_
      show Steps p.tables e below (T3.setTop (mkF m 58 #[.val (.long v), .second, .val (.int ((((((64 : Int32) - r3) + (1 : Int32)) * (1233 : Int32)).toUInt32 >>> ((12 : Int32) &&& 31).toUInt32).toInt32)), .unset] [])) _
      refine st4 _ ?_
      refine XS.astoreN X4.here hx rfl (hb hby own_d_jdk_17_method_104_code_61) rfl rfl (l' := #[.val (.long v), .second, .val (.int ((((((64 : Int32) - r3) + (1 : Int32)) * (1233 : Int32)).toUInt32 >>> ((12 : Int32) &&& 31).toUInt32).toInt32)), .val (.ref ta)]) rfl ?_
      refine XS.iloadN X4.here hx rfl (hb hby own_d_jdk_17_method_104_code_62) rfl ?_
      show Steps p.tables e below (T4.setTop (mkF m 63 #[.val (.long v), .second, .val (.int ((((((64 : Int32) - r3) + (1 : Int32)) * (1233 : Int32)).toUInt32 >>> ((12 : Int32) &&& 31).toUInt32).toInt32)), .val (.ref ta)] [(.int ((((((64 : Int32) - r3) + (1 : Int32)) * (1233 : Int32)).toUInt32 >>> ((12 : Int32) &&& 31).toUInt32).toInt32))])) _
      refine XS.aloadN X4.here hx rfl (hb hby own_d_jdk_17_method_104_code_63) rfl rfl ?_
      show Steps p.tables e below (T4.setTop (mkF m 64 #[.val (.long v), .second, .val (.int ((((((64 : Int32) - r3) + (1 : Int32)) * (1233 : Int32)).toUInt32 >>> ((12 : Int32) &&& 31).toUInt32).toInt32)), .val (.ref ta)] [(.ref ta), (.int ((((((64 : Int32) - r3) + (1 : Int32)) * (1233 : Int32)).toUInt32 >>> ((12 : Int32) &&& 31).toUInt32).toInt32))])) _
      refine X4.arraylength hx (by rw [e4]; exact At.1) (State.isArrayOf_alike hZ.alike At.2.1) (g := (mkF m 64 #[.val (.long v), .second, .val (.int ((((((64 : Int32) - r3) + (1 : Int32)) * (1233 : Int32)).toUInt32 >>> ((12 : Int32) &&& 31).toUInt32).toInt32)), .val (.ref ta)] [(.ref ta), (.int ((((((64 : Int32) - r3) + (1 : Int32)) * (1233 : Int32)).toUInt32 >>> ((12 : Int32) &&& 31).toUInt32).toInt32))])) rfl rfl (hb hby own_d_jdk_17_method_104_code_64) _ ?_
      rw [tsz]
      exact kk
    by_cases cj : ((((((64 : Int32) - r3) + (1 : Int32)) * (1233 : Int32)).toUInt32 >>> ((12 : Int32) &&& 31).toUInt32).toInt32) < (19 : Int32)
    · obtain ⟨tin, t_, tat⟩ := tel ((((((64 : Int32) - r3) + (1 : Int32)) * (1233 : Int32)).toUInt32 >>> ((12 : Int32) &&& 31).toUInt32).toInt32) (own_ushr12 _) cj
      have cut6 : ∀ t, Steps p.tables e below (T4.setTop (mkF m 73 #[.val (.long v), .second, .val (.int ((((((64 : Int32) - r3) + (1 : Int32)) * (1233 : Int32)).toUInt32 >>> ((12 : Int32) &&& 31).toUInt32).toInt32)), .val (.ref ta)] [(.int (lcmpW v t_))])) t → Steps p.tables e below (s₁.setTop (mkF m 0 #[.val (.long v), .second, .unset, .unset] [])) t := fun t kk => by
        refine cut5 _ ?_
        show Steps p.tables e below (T4.setTop (mkF m 65 #[.val (.long v), .second, .val (.int ((((((64 : Int32) - r3) + (1 : Int32)) * (1233 : Int32)).toUInt32 >>> ((12 : Int32) &&& 31).toUInt32).toInt32)), .val (.ref ta)] [(.int (19 : Int32)), (.int ((((((64 : Int32) - r3) + (1 : Int32)) * (1233 : Int32)).toUInt32 >>> ((12 : Int32) &&& 31).toUInt32).toInt32))])) _
        refine XS.icmpNo X4.here hx rfl (hb hby own_d_jdk_17_method_104_code_65) rfl (tlt (cj : ((((((64 : Int32) - r3) + (1 : Int32)) * (1233 : Int32)).toUInt32 >>> ((12 : Int32) &&& 31).toUInt32).toInt32) < (19 : Int32))).2.1 ?_
        refine XS.lloadN X4.here hx rfl (hb hby own_d_jdk_17_method_104_code_68) rfl ?_
        refine XS.aloadN X4.here hx rfl (hb hby own_d_jdk_17_method_104_code_69) rfl rfl ?_
        show Steps p.tables e below (T4.setTop (mkF m 70 #[.val (.long v), .second, .val (.int ((((((64 : Int32) - r3) + (1 : Int32)) * (1233 : Int32)).toUInt32 >>> ((12 : Int32) &&& 31).toUInt32).toInt32)), .val (.ref ta)] [(.ref ta), (.long v)])) _
        refine XS.iloadN X4.here hx rfl (hb hby own_d_jdk_17_method_104_code_70) rfl ?_
        show Steps p.tables e below (T4.setTop (mkF m 71 #[.val (.long v), .second, .val (.int ((((((64 : Int32) - r3) + (1 : Int32)) * (1233 : Int32)).toUInt32 >>> ((12 : Int32) &&& 31).toUInt32).toInt32)), .val (.ref ta)] [(.int ((((((64 : Int32) - r3) + (1 : Int32)) * (1233 : Int32)).toUInt32 >>> ((12 : Int32) &&& 31).toUInt32).toInt32)), (.ref ta), (.long v)])) _
        refine X4.laload hx (j := ((((((64 : Int32) - r3) + (1 : Int32)) * (1233 : Int32)).toUInt32 >>> ((12 : Int32) &&& 31).toUInt32).toInt32)) (v := (.long t_)) (by rw [e4]; exact At.1) (State.isArrayOf_alike hZ.alike At.2.1) At.2.2 tin tat (g := (mkF m 71 #[.val (.long v), .second, .val (.int ((((((64 : Int32) - r3) + (1 : Int32)) * (1233 : Int32)).toUInt32 >>> ((12 : Int32) &&& 31).toUInt32).toInt32)), .val (.ref ta)] [(.int ((((((64 : Int32) - r3) + (1 : Int32)) * (1233 : Int32)).toUInt32 >>> ((12 : Int32) &&& 31).toUInt32).toInt32)), (.ref ta), (.long v)])) rfl rfl (hb hby own_d_jdk_17_method_104_code_71) _ ?_
        refine XS.lcmp X4.here hx rfl (hb hby own_d_jdk_17_method_104_code_72) rfl ?_
        exact kk
      by_cases ct : v < t_
      · obtain ⟨fs, hr, hrun, hended, hW, hsame⟩ := X4.leave (v := some (.int ((((((64 : Int32) - r3) + (1 : Int32)) * (1233 : Int32)).toUInt32 >>> ((12 : Int32) &&& 31).toUInt32).toInt32))) (fun h => by rw [Bd.returns] at h; cases h)
        refine ⟨_, _, pre0 _ ?_, hrun, hended, _, _, rfl, ?_, ⟨_, rfl⟩, hW, hsame.mono (by decide) (by decide)⟩
        · refine cut6 _ ?_
          show Steps p.tables e below (T4.setTop (mkF m 73 #[.val (.long v), .second, .val (.int ((((((64 : Int32) - r3) + (1 : Int32)) * (1233 : Int32)).toUInt32 >>> ((12 : Int32) &&& 31).toUInt32).toInt32)), .val (.ref ta)] [(.int (lcmpW v t_))])) _
          refine XS.ifNo X4.here hx rfl (hb hby own_d_jdk_17_method_104_code_73) rfl ((if0 _ _).trans (tlt ((lw_lt _ _).mpr ct : (lcmpW v t_) < (0 : Int32))).2.1) ?_
          refine XS.iloadN X4.here hx rfl (hb hby own_d_jdk_17_method_104_code_76) rfl ?_
          refine XS.goto X4.here hx rfl (pc0 := 77) (pc' := 83) rfl (hb hby own_d_jdk_17_method_104_code_77) (by decide) (by decide) ?_
          show Steps p.tables e below (T4.setTop (mkF m 83 #[.val (.long v), .second, .val (.int ((((((64 : Int32) - r3) + (1 : Int32)) * (1233 : Int32)).toUInt32 >>> ((12 : Int32) &&& 31).toUInt32).toInt32)), .val (.ref ta)] [(.int ((((((64 : Int32) - r3) + (1 : Int32)) * (1233 : Int32)).toUInt32 >>> ((12 : Int32) &&& 31).toUInt32).toInt32))])) _
          exact retI X4 hx Bd.returns (hb hby own_d_jdk_17_method_104_code_83) hr
        · show QA h0 n0 _ T4.heap _
          rw [e4]
          exact ⟨_, rfl, N3a, rfl⟩
      · obtain ⟨fs, hr, hrun, hended, hW, hsame⟩ := X4.leave (v := some (.int (((((((64 : Int32) - r3) + (1 : Int32)) * (1233 : Int32)).toUInt32 >>> ((12 : Int32) &&& 31).toUInt32).toInt32) + (1 : Int32)))) (fun h => by rw [Bd.returns] at h; cases h)
        refine ⟨_, _, pre0 _ ?_, hrun, hended, _, _, rfl, ?_, ⟨_, rfl⟩, hW, hsame.mono (by decide) (by decide)⟩
        · refine cut6 _ ?_
          show Steps p.tables e below (T4.setTop (mkF m 73 #[.val (.long v), .second, .val (.int ((((((64 : Int32) - r3) + (1 : Int32)) * (1233 : Int32)).toUInt32 >>> ((12 : Int32) &&& 31).toUInt32).toInt32)), .val (.ref ta)] [(.int (lcmpW v t_))])) _
          refine XS.ifYes X4.here hx rfl (pc0 := 73) (pc' := 80) rfl (hb hby own_d_jdk_17_method_104_code_73) rfl ((if0 _ _).trans (flt (fun q => ct ((lw_lt _ _).mp q) : ¬ ((lcmpW v t_) < (0 : Int32)))).2.1) (by decide) (by decide) ?_
          refine XS.iloadN X4.here hx rfl (hb hby own_d_jdk_17_method_104_code_80) rfl ?_
          refine XS.iconst X4.here hx rfl (hb hby own_d_jdk_17_method_104_code_81) ?_
          show Steps p.tables e below (T4.setTop (mkF m 82 #[.val (.long v), .second, .val (.int ((((((64 : Int32) - r3) + (1 : Int32)) * (1233 : Int32)).toUInt32 >>> ((12 : Int32) &&& 31).toUInt32).toInt32)), .val (.ref ta)] [(.int (1 : Int32)), (.int ((((((64 : Int32) - r3) + (1 : Int32)) * (1233 : Int32)).toUInt32 >>> ((12 : Int32) &&& 31).toUInt32).toInt32))])) _
          refine XS.iadd X4.here hx rfl (hb hby own_d_jdk_17_method_104_code_82) rfl ?_
          show Steps p.tables e below (T4.setTop (mkF m 83 #[.val (.long v), .second, .val (.int ((((((64 : Int32) - r3) + (1 : Int32)) * (1233 : Int32)).toUInt32 >>> ((12 : Int32) &&& 31).toUInt32).toInt32)), .val (.ref ta)] [(.int (((((((64 : Int32) - r3) + (1 : Int32)) * (1233 : Int32)).toUInt32 >>> ((12 : Int32) &&& 31).toUInt32).toInt32) + (1 : Int32)))])) _
          exact retI X4 hx Bd.returns (hb hby own_d_jdk_17_method_104_code_83) hr
        · show QA h0 n0 _ T4.heap _
          rw [e4]
          exact ⟨_, rfl, N3a, rfl⟩
    · obtain ⟨fs, hr, hrun, hended, hW, hsame⟩ := X4.leave (v := some (.int ((((((64 : Int32) - r3) + (1 : Int32)) * (1233 : Int32)).toUInt32 >>> ((12 : Int32) &&& 31).toUInt32).toInt32))) (fun h => by rw [Bd.returns] at h; cases h)
      refine ⟨_, _, pre0 _ ?_, hrun, hended, _, _, rfl, ?_, ⟨_, rfl⟩, hW, hsame.mono (by decide) (by decide)⟩
      · refine cut5 _ ?_
        show Steps p.tables e below (T4.setTop (mkF m 65 #[.val (.long v), .second, .val (.int ((((((64 : Int32) - r3) + (1 : Int32)) * (1233 : Int32)).toUInt32 >>> ((12 : Int32) &&& 31).toUInt32).toInt32)), .val (.ref ta)] [(.int (19 : Int32)), (.int ((((((64 : Int32) - r3) + (1 : Int32)) * (1233 : Int32)).toUInt32 >>> ((12 : Int32) &&& 31).toUInt32).toInt32))])) _
        refine XS.icmpYes X4.here hx rfl (pc0 := 65) (pc' := 76) rfl (hb hby own_d_jdk_17_method_104_code_65) rfl (flt (cj : ¬ (((((((64 : Int32) - r3) + (1 : Int32)) * (1233 : Int32)).toUInt32 >>> ((12 : Int32) &&& 31).toUInt32).toInt32) < (19 : Int32)))).2.1 (by decide) (by decide) ?_
        refine XS.iloadN X4.here hx rfl (hb hby own_d_jdk_17_method_104_code_76) rfl ?_
        refine XS.goto X4.here hx rfl (pc0 := 77) (pc' := 83) rfl (hb hby own_d_jdk_17_method_104_code_77) (by decide) (by decide) ?_
        show Steps p.tables e below (T4.setTop (mkF m 83 #[.val (.long v), .second, .val (.int ((((((64 : Int32) - r3) + (1 : Int32)) * (1233 : Int32)).toUInt32 >>> ((12 : Int32) &&& 31).toUInt32).toInt32)), .val (.ref ta)] [(.int ((((((64 : Int32) - r3) + (1 : Int32)) * (1233 : Int32)).toUInt32 >>> ((12 : Int32) &&& 31).toUInt32).toInt32))])) _
        exact retI X4 hx Bd.returns (hb hby own_d_jdk_17_method_104_code_83) hr
      · show QA h0 n0 _ T4.heap _
        rw [e4]
        exact ⟨_, rfl, N3a, rfl⟩
theorem own_d_jdk_17_method_60_code_0 : decode jdk_17_method_60_code 0 = .ok (.aload_n 0, 1) := by decide +kernel
theorem own_d_jdk_17_method_60_code_1 : decode jdk_17_method_60_code 1 = .ok (.getfield 21, 3) := by decide +kernel
theorem own_d_jdk_17_method_60_code_4 : decode jdk_17_method_60_code 4 = .ok (.istore_n 1, 1) := by decide +kernel
theorem own_d_jdk_17_method_60_code_5 : decode jdk_17_method_60_code 5 = .ok (.iload_n 1, 1) := by decide +kernel
theorem own_d_jdk_17_method_60_code_6 : decode jdk_17_method_60_code 6 = .ok (.ifCond .ne 37, 3) := by decide +kernel
theorem own_d_jdk_17_method_60_code_43 : decode jdk_17_method_60_code 43 = .ok (.iload_n 1, 1) := by decide +kernel
theorem own_d_jdk_17_method_60_code_44 : decode jdk_17_method_60_code 44 = .ok (.ireturn, 1) := by decide +kernel
theorem own_ef_jdk_17_method_60_code_x (m : MethodId) (x0 : Addr) : entryFrame m #[(.ref x0)] 4 = mkF m 0 #[.val (.ref x0), .unset, .unset, .unset] [] := by first | (simp [entryFrame, mkF, argsToLocals, Value.category]; done) | rfl
set_option maxRecDepth 65536 in
set_option maxHeartbeats 40000000 in
theorem rmPr1 (l : Launch) (Z : State) (a0 : Array Value) (hw : ∀ d ∈ tables_1, d.before a0 Z = true) (ws : List Jvm.Cond) (a1 : Addr) (pr : Int32) (h0 : Heap) (n0 : Nat) (Z0 : n0 ≤ h0.size) (F_precision_a1 : Fld Z h0 a1 "java/math/BigDecimal" "precision" "I" (.int pr)) (hpr : ¬ (pr = (0 : Int32))) :
    MetFree l (⟨"java/math/BigDecimal", "precision", "()I"⟩ : MethodName) (head1 (Jvm.Cond.code (⟨"java/math/BigDecimal", "precision", "()I"⟩ : MethodName) jdk_17_method_60_code 4 (some .int) :: ws) ({ frames := 3, cells := 0, slots := 0, locals := 44 } : Room)) (fun a U => a = #[(.ref a1)] ∧ Z.Warmed39 U.vm ∧ U.heap = h0) (fun _ _ _ _ _ => True) (fun _ U o U' => ∃ vr_ Lr_, o = .returned vr_ ∧ QPr Z a1 h0 n0 vr_ U'.heap Lr_ ∧ FrameEnd U o U' Lr_ 0 0) := by
  refine MetFree.of_bodySF (plainFor_of_name own_pn_java_math_BigDecimal) hisR ?_
  intro p e s m args below meth c s₁ Bd hml0 hP hK
  obtain ⟨rfl, hZ, hh⟩ := hP
  have hx := Bd.exec
  have hby := Bd.bytes
  have hml : c.maxLocals = 4 := hml0
  have hown : s.vm.findClass "java/math/BigDecimal" = some m.cls := findClass_of_methodNamed Bd.named
  have hnm := (name_of_methodNamed Bd.named Bd.method).1
  have X0 : Stand p l e ({ frames := 3, cells := 0, slots := 0, locals := 44 } : Room) s m #[(.ref a1)] below meth c s₁ [] 0 0 := Stand.of_body Bd
  have e0 : s₁.heap = h0 := by rw [← hh, Bd.state]; rfl
  have N0 := Fr.nil n0
  have pre0 : ∀ t, Steps p.tables e below (s₁.setTop (mkF m 0 #[.val (.ref a1), .unset, .unset, .unset] [])) t → Steps p.tables e below (s₁.setTop (entryFrame m #[(.ref a1)] 4)) t := fun t k => castTop (own_ef_jdk_17_method_60_code_x m a1) k
  obtain ⟨T1, X1, e1, st1⟩ := getF X0 hx hZ hown (host := "") (Or.inl (hw _ (List.mem_of_getElem? (i := 28) rfl))) Via.refl e0 F_precision_a1 (g := (mkF m 1 #[.val (.ref a1), .unset, .unset, .unset] [(.ref a1)])) rfl rfl (hb hby own_d_jdk_17_method_60_code_1)
  obtain ⟨fs, hr, hrun, hended, hW, hsame⟩ := X1.leave (v := some (.int pr)) (fun h => by rw [Bd.returns] at h; cases h)
  refine ⟨_, _, pre0 _ ?_, hrun, hended, _, _, rfl, ?_, ⟨_, rfl⟩, hW, hsame.mono (by decide) (by decide)⟩
  · show Steps p.tables e below (s₁.setTop (mkF m 0 #[.val (.ref a1), .unset, .unset, .unset] [])) _
    refine XS.aloadN X0.here hx rfl (hb hby own_d_jdk_17_method_60_code_0) rfl rfl ?_
    show Steps p.tables e below (s₁.setTop (mkF m 1 #[.val (.ref a1), .unset, .unset, .unset] [(.ref a1)])) _
    refine st1 _ ?_
    refine XS.istoreN X1.here hx rfl (hb hby own_d_jdk_17_method_60_code_4) rfl (l' := #[.val (.ref a1), .val (.int pr), .unset, .unset]) rfl ?_
    refine XS.iloadN X1.here hx rfl (hb hby own_d_jdk_17_method_60_code_5) rfl ?_
    show Steps p.tables e below (T1.setTop (mkF m 6 #[.val (.ref a1), .val (.int pr), .unset, .unset] [(.int pr)])) _
    refine XS.ifYes X1.here hx rfl (pc0 := 6) (pc' := 43) rfl (hb hby own_d_jdk_17_method_60_code_6) rfl ((if0 _ _).trans (feq (hpr : ¬ (pr = (0 : Int32)))).2) (by decide) (by decide) ?_
    refine XS.iloadN X1.here hx rfl (hb hby own_d_jdk_17_method_60_code_43) rfl ?_
    show Steps p.tables e below (T1.setTop (mkF m 44 #[.val (.ref a1), .val (.int pr), .unset, .unset] [(.int pr)])) _
    exact retI X1 hx Bd.returns (hb hby own_d_jdk_17_method_60_code_44) hr
  · show QPr Z a1 h0 n0 _ T1.heap _
    rw [e1]
    exact ⟨pr, [], rfl, N0, Keep.refl _ _, all0, all0, fun _ _ _ b => b⟩
theorem own_d_jdk_17_method_60_code_9 : decode jdk_17_method_60_code 9 = .ok (.aload_n 0, 1) := by decide +kernel
theorem own_d_jdk_17_method_60_code_10 : decode jdk_17_method_60_code 10 = .ok (.getfield 24, 3) := by decide +kernel
theorem own_d_jdk_17_method_60_code_13 : decode jdk_17_method_60_code 13 = .ok (.lstore_n 2, 1) := by decide +kernel
theorem own_d_jdk_17_method_60_code_14 : decode jdk_17_method_60_code 14 = .ok (.lload_n 2, 1) := by decide +kernel
theorem own_d_jdk_17_method_60_code_15 : decode jdk_17_method_60_code 15 = .ok (.ldc2_w 125, 3) := by decide +kernel
theorem own_d_jdk_17_method_60_code_18 : decode jdk_17_method_60_code 18 = .ok (.lcmp, 1) := by decide +kernel
theorem own_d_jdk_17_method_60_code_19 : decode jdk_17_method_60_code 19 = .ok (.ifCond .eq 11, 3) := by decide +kernel
theorem own_d_jdk_17_method_60_code_22 : decode jdk_17_method_60_code 22 = .ok (.lload_n 2, 1) := by decide +kernel
theorem own_d_jdk_17_method_60_code_23 : decode jdk_17_method_60_code 23 = .ok (.invokestatic 112, 3) := by decide +kernel
theorem own_d_jdk_17_method_60_code_26 : decode jdk_17_method_60_code 26 = .ok (.istore_n 1, 1) := by decide +kernel
theorem own_d_jdk_17_method_60_code_27 : decode jdk_17_method_60_code 27 = .ok (.goto 11, 3) := by decide +kernel
theorem own_d_jdk_17_method_60_code_38 : decode jdk_17_method_60_code 38 = .ok (.aload_n 0, 1) := by decide +kernel
theorem own_d_jdk_17_method_60_code_39 : decode jdk_17_method_60_code 39 = .ok (.iload_n 1, 1) := by decide +kernel
theorem own_d_jdk_17_method_60_code_40 : decode jdk_17_method_60_code 40 = .ok (.putfield 21, 3) := by decide +kernel
set_option maxRecDepth 65536 in
set_option maxHeartbeats 40000000 in
theorem rmPr0 (l : Launch) (Z : State) (a0 : Array Value) (hw : ∀ d ∈ tables_1, d.before a0 Z = true) (ws : List Jvm.Cond) (a1 : Addr) (v : Int64) (h0 : Heap) (n0 : Nat) (Z0 : n0 ≤ h0.size) (E_a1 : Exa Z h0 a1 "java/math/BigDecimal") (F_precision_a1 : Fld Z h0 a1 "java/math/BigDecimal" "precision" "I" (.int (0 : Int32))) (F_intCompact_a1 : Fld Z h0 a1 "java/math/BigDecimal" "intCompact" "J" (.long v)) (g_a1 : n0 ≤ a1) (hv : (0 : Int64) < v) (hTP : TPT Z) (O0 : Old Z n0 h0) :
    MetFree l (⟨"java/math/BigDecimal", "precision", "()I"⟩ : MethodName) (head1 (Jvm.Cond.code (⟨"java/math/BigDecimal", "precision", "()I"⟩ : MethodName) jdk_17_method_60_code 4 (some .int) :: ws) ({ frames := 3, cells := 0, slots := 0, locals := 44 } : Room)) (fun a U => a = #[(.ref a1)] ∧ Z.Warmed39 U.vm ∧ U.heap = h0) (fun _ _ _ _ _ => True) (fun _ U o U' => ∃ vr_ Lr_, o = .returned vr_ ∧ QPr Z a1 h0 n0 vr_ U'.heap Lr_ ∧ FrameEnd U o U' Lr_ 0 0) := by
  refine MetFree.of_bodySF (plainFor_of_name own_pn_java_math_BigDecimal) hisR ?_
  intro p e s m args below meth c s₁ Bd hml0 hP hK
  obtain ⟨rfl, hZ, hh⟩ := hP
  have hx := Bd.exec
  have hby := Bd.bytes
  have hml : c.maxLocals = 4 := hml0
  have hown : s.vm.findClass "java/math/BigDecimal" = some m.cls := findClass_of_methodNamed Bd.named
  have hnm := (name_of_methodNamed Bd.named Bd.method).1
  have X0 : Stand p l e ({ frames := 3, cells := 0, slots := 0, locals := 44 } : Room) s m #[(.ref a1)] below meth c s₁ [] 0 0 := Stand.of_body Bd
  have e0 : s₁.heap = h0 := by rw [← hh, Bd.state]; rfl
  have N0 := Fr.nil n0
  have pre0 : ∀ t, Steps p.tables e below (s₁.setTop (mkF m 0 #[.val (.ref a1), .unset, .unset, .unset] [])) t → Steps p.tables e below (s₁.setTop (entryFrame m #[(.ref a1)] 4)) t := fun t k => castTop (own_ef_jdk_17_method_60_code_x m a1) k
  obtain ⟨T1, X1, e1, st1⟩ := getF X0 hx hZ hown (host := "") (Or.inl (hw _ (List.mem_of_getElem? (i := 28) rfl))) Via.refl e0 F_precision_a1 (g := (mkF m 1 #[.val (.ref a1), .unset, .unset, .unset] [(.ref a1)])) rfl rfl (hb hby own_d_jdk_17_method_60_code_1)
  obtain ⟨T2, X2, e2, st2⟩ := getF X1 hx hZ hown (host := "") (Or.inl (hw _ (List.mem_of_getElem? (i := 30) rfl))) Via.refl e1 F_intCompact_a1 (g := (mkF m 10 #[.val (.ref a1), .val (.int (0 : Int32)), .unset, .unset] [(.ref a1)])) rfl rfl (hb hby own_d_jdk_17_method_60_code_10)
  obtain ⟨_, _, ⟨T3, L3, k3, n3⟩, -, X3, ⟨Lc3, hQ3, l3, y3, z3⟩, st3⟩ := Jvm.LawKit.callS X2 hx (y := (⟨"java/math/BigDecimal", "longDigitLength", "(J)I"⟩ : MethodName)) hown (mvT hZ (hw _ (List.mem_of_getElem? (i := 86) rfl))) (mvT hZ (hw _ (List.mem_of_getElem? (i := 87) rfl))) (mvT hZ (hw _ (List.mem_of_getElem? (i := 8) rfl))) (mvT hZ (hw _ (List.mem_of_getElem? (i := 88) rfl))) (by decide) (backOf (W := 0) (rmLd l Z a0 hw [] v h0 n0 (Nat.le_trans Z0 (Keep.refl h0 [a1]).1) hv hTP O0) hZ (hw _ (List.mem_of_getElem? (i := 88) rfl)) (hw _ (List.mem_of_getElem? (i := 8) rfl)) (by decide) (by decide)) (g := (mkF m 23 #[.val (.ref a1), .val (.int (0 : Int32)), .val (.long v), .second] [(.long v)])) rfl (by rw [hml]; rfl) (argsL := [(.long v)]) (rest := []) (lenOf own_pd__J_I rfl) rfl (by show 2 * 0 + _ ≤ _; exact Nat.le_of_eq rfl) (hb hby own_d_jdk_17_method_60_code_23) (fun _ _ => ⟨rfl, e2, (by decide : 0 + 0 ≤ _), (by decide : 0 + 0 ≤ _)⟩)
  dsimp only [Pt.U, Pt.locs, Pt.cells, Pt.slots] at X3 l3 y3 z3 st3 hQ3
  subst l3 y3 z3
  obtain ⟨r3, rfl, N3q, e3q⟩ := hQ3
  have N3a := Fr.app N0 N3q
  obtain ⟨T4, h4, X4, e4, W4, st4⟩ := putF X3 hx hZ hown (host := "") (Or.inl (hw _ (List.mem_of_getElem? (i := 28) rfl))) Via.refl e3q F_precision_a1 E_a1 (Or.inl (hw _ (List.mem_of_getElem? (i := 29) rfl))) (hw _ (List.mem_of_getElem? (i := 11) rfl)) (ty := .int) (by decide) rfl rfl (g := (mkF m 40 #[.val (.ref a1), .val (.int r3), .val (.long v), .second] [(.int r3), (.ref a1)])) rfl rfl (hb hby own_d_jdk_17_method_60_code_40)
  have Fw4 := F_precision_a1.same W4
  have Nf4 := Fr.snoc X4 N3a g_a1
  have K1 : Keep h0 h4 [a1] := (Keep.refl h0 [a1]).wr W4 (Or.inl (List.mem_of_getElem? (i := 0) rfl))
  obtain ⟨fs, hr, hrun, hended, hW, hsame⟩ := X4.leave (v := some (.int r3)) (fun h => by rw [Bd.returns] at h; cases h)
  refine ⟨_, _, pre0 _ ?_, hrun, hended, _, _, rfl, ?_, ⟨_, rfl⟩, hW, hsame.mono (by decide) (by decide)⟩
  · show Steps p.tables e below (s₁.setTop (mkF m 0 #[.val (.ref a1), .unset, .unset, .unset] [])) _
    refine XS.aloadN X0.here hx rfl (hb hby own_d_jdk_17_method_60_code_0) rfl rfl ?_
    show Steps p.tables e below (s₁.setTop (mkF m 1 #[.val (.ref a1), .unset, .unset, .unset] [(.ref a1)])) _
    refine st1 _ ?_
    refine XS.istoreN X1.here hx rfl (hb hby own_d_jdk_17_method_60_code_4) rfl (l' := #[.val (.ref a1), .val (.int (0 : Int32)), .unset, .unset]) rfl ?_
    refine XS.iloadN X1.here hx rfl (hb hby own_d_jdk_17_method_60_code_5) rfl ?_
    show Steps p.tables e below (T1.setTop (mkF m 6 #[.val (.ref a1), .val (.int (0 : Int32)), .unset, .unset] [(.int (0 : Int32))])) _
    refine XS.ifNo X1.here hx rfl (hb hby own_d_jdk_17_method_60_code_6) rfl ((if0 _ _).trans (teq (rfl : (0 : Int32) = (0 : Int32))).2) ?_
    refine XS.aloadN X1.here hx rfl (hb hby own_d_jdk_17_method_60_code_9) rfl rfl ?_
    show Steps p.tables e below (T1.setTop (mkF m 10 #[.val (.ref a1), .val (.int (0 : Int32)), .unset, .unset] [(.ref a1)])) _
    refine st2 _ ?_
    refine XS.lstoreN X2.here hx rfl (hb hby own_d_jdk_17_method_60_code_13) rfl (l' := #[.val (.ref a1), .val (.int (0 : Int32)), .val (.long v), .second]) rfl ?_
    refine XS.lloadN X2.here hx rfl (hb hby own_d_jdk_17_method_60_code_14) rfl ?_
    show Steps p.tables e below (T2.setTop (mkF m 15 #[.val (.ref a1), .val (.int (0 : Int32)), .val (.long v), .second] [(.long v)])) _
    refine X2.ldc2Long hx hown (mvT hZ (hw _ (List.mem_of_getElem? (i := 12) rfl))) (g := (mkF m 15 #[.val (.ref a1), .val (.int (0 : Int32)), .val (.long v), .second] [(.long v)])) rfl (hb hby own_d_jdk_17_method_60_code_15) _ ?_
    refine XS.lcmp X2.here hx rfl (hb hby own_d_jdk_17_method_60_code_18) rfl ?_
    show Steps p.tables e below (T2.setTop (mkF m 19 #[.val (.ref a1), .val (.int (0 : Int32)), .val (.long v), .second] [(.int (lcmpW v (-9223372036854775808 : Int64)))])) _
    refine XS.ifNo X2.here hx rfl (hb hby own_d_jdk_17_method_60_code_19) rfl ((if0 _ _).trans (feq (fun q => own_neM hv ((lw_eq _ _).mp q) : ¬ ((lcmpW v (-9223372036854775808 : Int64)) = (0 : Int32)))).1) ?_
    refine XS.lloadN X2.here hx rfl (hb hby own_d_jdk_17_method_60_code_22) rfl ?_
    show Steps p.tables e below (T2.setTop (mkF m 23 #[.val (.ref a1), .val (.int (0 : Int32)), .val (.long v), .second] [(.long v)])) _
    refine st3 _ ?_
    refine XS.istoreN X3.here hx rfl (hb hby own_d_jdk_17_method_60_code_26) rfl (l' := #[.val (.ref a1), .val (.int r3), .val (.long v), .second]) rfl ?_
    refine XS.goto X3.here hx rfl (pc0 := 27) (pc' := 38) rfl (hb hby own_d_jdk_17_method_60_code_27) (by decide) (by decide) ?_
    show Steps p.tables e below (T3.setTop (mkF m 38 #[.val (.ref a1), .val (.int r3), .val (.long v), .second] [])) _
    refine XS.aloadN X3.here hx rfl (hb hby own_d_jdk_17_method_60_code_38) rfl rfl ?_
    refine XS.iloadN X3.here hx rfl (hb hby own_d_jdk_17_method_60_code_39) rfl ?_
    show Steps p.tables e below (T3.setTop (mkF m 40 #[.val (.ref a1), .val (.int r3), .val (.long v), .second] [(.int r3), (.ref a1)])) _
    refine st4 _ ?_
    refine XS.iloadN X4.here hx rfl (hb hby own_d_jdk_17_method_60_code_43) rfl ?_
    show Steps p.tables e below (T4.setTop (mkF m 44 #[.val (.ref a1), .val (.int r3), .val (.long v), .second] [(.int r3)])) _
    exact retI X4 hx Bd.returns (hb hby own_d_jdk_17_method_60_code_44) hr
  · show QPr Z a1 h0 n0 _ T4.heap _
    rw [e4]
    exact ⟨_, [a1], rfl, Nf4, K1, allS g_a1 all0, allS rfl all0, fun x v_ s_ b_ => by
      by_cases q_ : x = a1
      · subst q_
        exact ⟨b_.1.wr W4, b_.2.1.other W4 (Or.inr (slot_ne (Or.inr (hw _ (List.mem_of_getElem? (i := 27) rfl))) (Or.inl (hw _ (List.mem_of_getElem? (i := 29) rfl))) (by decide) (t := .int) (t' := .int) (by decide) (by decide))), b_.2.2.1.other W4 (Or.inr (slot_ne (Or.inr (hw _ (List.mem_of_getElem? (i := 31) rfl))) (Or.inl (hw _ (List.mem_of_getElem? (i := 29) rfl))) (by decide) (t := .long) (t' := .int) (by decide) (by decide))), ⟨_, Fw4, Or.inr g_a1⟩, b_.2.2.2.2.imp id fun f_ => f_.other W4 (Or.inr (slot_ne (Or.inr (hw _ (List.mem_of_getElem? (i := 33) rfl))) (Or.inl (hw _ (List.mem_of_getElem? (i := 29) rfl))) (by decide) (t := (.object "java/math/BigInteger")) (t' := .int) (by decide) (by decide)))⟩
      · exact b_.keep (Keep.of_wr W4) (ninS q_ nin0)⟩
theorem rmPr (l : Launch) (Z : State) (a0 : Array Value) (hw : ∀ d ∈ tables_1, d.before a0 Z = true) (ws : List Jvm.Cond) (a1 : Addr) (v : Int64) (s_ : Int32) (h0 : Heap) (n0 : Nat) (Z0 : n0 ≤ h0.size) (B : BD Z n0 h0 a1 v s_) (hv : (0 : Int64) < v) (hTP : TPT Z) (O0 : Old Z n0 h0) :
    MetFree l (⟨"java/math/BigDecimal", "precision", "()I"⟩ : MethodName) (head1 (Jvm.Cond.code (⟨"java/math/BigDecimal", "precision", "()I"⟩ : MethodName) jdk_17_method_60_code 4 (some .int) :: ws) ({ frames := 3, cells := 0, slots := 0, locals := 44 } : Room)) (fun a U => a = #[(.ref a1)] ∧ Z.Warmed39 U.vm ∧ U.heap = h0) (fun _ _ _ _ _ => True) (fun _ U o U' => ∃ vr_ Lr_, o = .returned vr_ ∧ QPr Z a1 h0 n0 vr_ U'.heap Lr_ ∧ FrameEnd U o U' Lr_ 0 0) := by
  obtain ⟨e, f1, f2, ⟨pr, f3, q⟩, f4⟩ := B
  by_cases c : pr = (0 : Int32)
  · subst c
    exact rmPr0 l Z a0 hw ws a1 v h0 n0 Z0 e f3 f2 (q.resolve_left fun z => z rfl) hv hTP O0
  · exact rmPr1 l Z a0 hw ws a1 pr h0 n0 Z0 f3 c
theorem own_d_jdk_17_method_59_code_0 : decode jdk_17_method_59_code 0 = .ok (.aload_n 0, 1) := by decide +kernel
theorem own_d_jdk_17_method_59_code_1 : decode jdk_17_method_59_code 1 = .ok (.getfield 17, 3) := by decide +kernel
theorem own_d_jdk_17_method_59_code_4 : decode jdk_17_method_59_code 4 = .ok (.ireturn, 1) := by decide +kernel
theorem own_ef_jdk_17_method_59_code_x (m : MethodId) (x0 : Addr) : entryFrame m #[(.ref x0)] 1 = mkF m 0 #[.val (.ref x0)] [] := by first | (simp [entryFrame, mkF, argsToLocals, Value.category]; done) | rfl
set_option maxRecDepth 65536 in
set_option maxHeartbeats 40000000 in
theorem rmSc (l : Launch) (Z : State) (a0 : Array Value) (hw : ∀ d ∈ tables_1, d.before a0 Z = true) (ws : List Jvm.Cond) (a1 : Addr) (s_ : Int32) (h0 : Heap) (n0 : Nat) (Z0 : n0 ≤ h0.size) (F_scale_a1 : Fld Z h0 a1 "java/math/BigDecimal" "scale" "I" (.int s_)) :
    MetFree l (⟨"java/math/BigDecimal", "scale", "()I"⟩ : MethodName) (head1 (Jvm.Cond.code (⟨"java/math/BigDecimal", "scale", "()I"⟩ : MethodName) jdk_17_method_59_code 1 (some .int) :: ws) ({ frames := 0, cells := 0, slots := 0, locals := 0 } : Room)) (fun a U => a = #[(.ref a1)] ∧ Z.Warmed39 U.vm ∧ U.heap = h0) (fun _ _ _ _ _ => True) (fun _ U o U' => ∃ vr_ Lr_, o = .returned vr_ ∧ QI (.int s_) h0 n0 vr_ U'.heap Lr_ ∧ FrameEnd U o U' Lr_ 0 0) := by
  refine MetFree.of_bodySF (plainFor_of_name own_pn_java_math_BigDecimal) hisR ?_
  intro p e s m args below meth c s₁ Bd hml0 hP hK
  obtain ⟨rfl, hZ, hh⟩ := hP
  have hx := Bd.exec
  have hby := Bd.bytes
  have hml : c.maxLocals = 1 := hml0
  have hown : s.vm.findClass "java/math/BigDecimal" = some m.cls := findClass_of_methodNamed Bd.named
  have hnm := (name_of_methodNamed Bd.named Bd.method).1
  have X0 : Stand p l e ({ frames := 0, cells := 0, slots := 0, locals := 0 } : Room) s m #[(.ref a1)] below meth c s₁ [] 0 0 := Stand.of_body Bd
  have e0 : s₁.heap = h0 := by rw [← hh, Bd.state]; rfl
  have N0 := Fr.nil n0
  have pre0 : ∀ t, Steps p.tables e below (s₁.setTop (mkF m 0 #[.val (.ref a1)] [])) t → Steps p.tables e below (s₁.setTop (entryFrame m #[(.ref a1)] 1)) t := fun t k => castTop (own_ef_jdk_17_method_59_code_x m a1) k
  obtain ⟨T1, X1, e1, st1⟩ := getF X0 hx hZ hown (host := "") (Or.inl (hw _ (List.mem_of_getElem? (i := 26) rfl))) Via.refl e0 F_scale_a1 (g := (mkF m 1 #[.val (.ref a1)] [(.ref a1)])) rfl rfl (hb hby own_d_jdk_17_method_59_code_1)
  obtain ⟨fs, hr, hrun, hended, hW, hsame⟩ := X1.leave (v := some (.int s_)) (fun h => by rw [Bd.returns] at h; cases h)
  refine ⟨_, _, pre0 _ ?_, hrun, hended, _, _, rfl, ?_, ⟨_, rfl⟩, hW, hsame.mono (by decide) (by decide)⟩
  · show Steps p.tables e below (s₁.setTop (mkF m 0 #[.val (.ref a1)] [])) _
    refine XS.aloadN X0.here hx rfl (hb hby own_d_jdk_17_method_59_code_0) rfl rfl ?_
    show Steps p.tables e below (s₁.setTop (mkF m 1 #[.val (.ref a1)] [(.ref a1)])) _
    refine st1 _ ?_
    show Steps p.tables e below (T1.setTop (mkF m 4 #[.val (.ref a1)] [(.int s_)])) _
    exact retI X1 hx Bd.returns (hb hby own_d_jdk_17_method_59_code_4) hr
  · show QI (.int s_) h0 n0 _ T1.heap _
    rw [e1]
    exact ⟨rfl, N0, rfl⟩
theorem own_d_jdk_17_method_106_code_0 : decode jdk_17_method_106_code 0 = .ok (.lload_n 1, 1) := by decide +kernel
theorem own_d_jdk_17_method_106_code_1 : decode jdk_17_method_106_code 1 = .ok (.l2i, 1) := by decide +kernel
theorem own_d_jdk_17_method_106_code_2 : decode jdk_17_method_106_code 2 = .ok (.istore_n 3, 1) := by decide +kernel
theorem own_d_jdk_17_method_106_code_3 : decode jdk_17_method_106_code 3 = .ok (.iload_n 3, 1) := by decide +kernel
theorem own_d_jdk_17_method_106_code_4 : decode jdk_17_method_106_code 4 = .ok (.i2l, 1) := by decide +kernel
theorem own_d_jdk_17_method_106_code_5 : decode jdk_17_method_106_code 5 = .ok (.lload_n 1, 1) := by decide +kernel
theorem own_d_jdk_17_method_106_code_6 : decode jdk_17_method_106_code 6 = .ok (.lcmp, 1) := by decide +kernel
theorem own_d_jdk_17_method_106_code_7 : decode jdk_17_method_106_code 7 = .ok (.ifCond .eq 69, 3) := by decide +kernel
theorem own_d_jdk_17_method_106_code_76 : decode jdk_17_method_106_code 76 = .ok (.iload_n 3, 1) := by decide +kernel
theorem own_d_jdk_17_method_106_code_77 : decode jdk_17_method_106_code 77 = .ok (.ireturn, 1) := by decide +kernel
theorem own_ef_jdk_17_method_106_code_xx (m : MethodId) (x0 : Addr) (x1 : Int64) : entryFrame m #[(.ref x0), (.long x1)] 5 = mkF m 0 #[.val (.ref x0), .val (.long x1), .second, .unset, .unset] [] := by first | (simp [entryFrame, mkF, argsToLocals, Value.category]; done) | rfl
set_option maxRecDepth 65536 in
set_option maxHeartbeats 40000000 in
theorem rmCk (l : Launch) (Z : State) (a0 : Array Value) (hw : ∀ d ∈ tables_1, d.before a0 Z = true) (ws : List Jvm.Cond) (a1 : Addr) (h0 : Heap) (n0 : Nat) (Z0 : n0 ≤ h0.size)  :
    MetFree l (⟨"java/math/BigDecimal", "checkScale", "(J)I"⟩ : MethodName) (head1 (Jvm.Cond.code (⟨"java/math/BigDecimal", "checkScale", "(J)I"⟩ : MethodName) jdk_17_method_106_code 5 (some .int) :: ws) ({ frames := 0, cells := 0, slots := 0, locals := 0 } : Room)) (fun a U => a = #[(.ref a1), (.long (0 : Int64))] ∧ Z.Warmed39 U.vm ∧ U.heap = h0) (fun _ _ _ _ _ => True) (fun _ U o U' => ∃ vr_ Lr_, o = .returned vr_ ∧ QI (.int (0 : Int32)) h0 n0 vr_ U'.heap Lr_ ∧ FrameEnd U o U' Lr_ 0 0) := by
  refine MetFree.of_bodySF (plainFor_of_name own_pn_java_math_BigDecimal) hisR ?_
  intro p e s m args below meth c s₁ Bd hml0 hP hK
  obtain ⟨rfl, hZ, hh⟩ := hP
  have hx := Bd.exec
  have hby := Bd.bytes
  have hml : c.maxLocals = 5 := hml0
  have hown : s.vm.findClass "java/math/BigDecimal" = some m.cls := findClass_of_methodNamed Bd.named
  have hnm := (name_of_methodNamed Bd.named Bd.method).1
  have X0 : Stand p l e ({ frames := 0, cells := 0, slots := 0, locals := 0 } : Room) s m #[(.ref a1), (.long (0 : Int64))] below meth c s₁ [] 0 0 := Stand.of_body Bd
  have e0 : s₁.heap = h0 := by rw [← hh, Bd.state]; rfl
  have N0 := Fr.nil n0
  have pre0 : ∀ t, Steps p.tables e below (s₁.setTop (mkF m 0 #[.val (.ref a1), .val (.long (0 : Int64)), .second, .unset, .unset] [])) t → Steps p.tables e below (s₁.setTop (entryFrame m #[(.ref a1), (.long (0 : Int64))] 5)) t := fun t k => castTop (own_ef_jdk_17_method_106_code_xx m a1 (0 : Int64)) k
  obtain ⟨fs, hr, hrun, hended, hW, hsame⟩ := X0.leave (v := some (.int (0 : Int32))) (fun h => by rw [Bd.returns] at h; cases h)
  refine ⟨_, _, pre0 _ ?_, hrun, hended, _, _, rfl, ?_, ⟨_, rfl⟩, hW, hsame.mono (by decide) (by decide)⟩
  · show Steps p.tables e below (s₁.setTop (mkF m 0 #[.val (.ref a1), .val (.long (0 : Int64)), .second, .unset, .unset] [])) _
    refine XS.lloadN X0.here hx rfl (hb hby own_d_jdk_17_method_106_code_0) rfl ?_
    refine XS.l2i X0.here hx rfl (hb hby own_d_jdk_17_method_106_code_1) rfl ?_
    show Steps p.tables e below (s₁.setTop (mkF m 2 #[.val (.ref a1), .val (.long (0 : Int64)), .second, .unset, .unset] [(.int ((0 : Int64).toInt32))])) _
    rw [own_l2i0]
    refine XS.istoreN X0.here hx rfl (hb hby own_d_jdk_17_method_106_code_2) rfl (l' := #[.val (.ref a1), .val (.long (0 : Int64)), .second, .val (.int (0 : Int32)), .unset]) rfl ?_
    refine XS.iloadN X0.here hx rfl (hb hby own_d_jdk_17_method_106_code_3) rfl ?_
    show Steps p.tables e below (s₁.setTop (mkF m 4 #[.val (.ref a1), .val (.long (0 : Int64)), .second, .val (.int (0 : Int32)), .unset] [(.int (0 : Int32))])) _
    refine XS.i2l X0.here hx rfl (hb hby own_d_jdk_17_method_106_code_4) rfl ?_
    refine XS.lloadN X0.here hx rfl (hb hby own_d_jdk_17_method_106_code_5) rfl ?_
    refine XS.lcmp X0.here hx rfl (hb hby own_d_jdk_17_method_106_code_6) rfl ?_
    show Steps p.tables e below (s₁.setTop (mkF m 7 #[.val (.ref a1), .val (.long (0 : Int64)), .second, .val (.int (0 : Int32)), .unset] [(.int (lcmpW ((0 : Int32).toInt64) (0 : Int64)))])) _
    refine XS.ifYes X0.here hx rfl (pc0 := 7) (pc' := 76) rfl (hb hby own_d_jdk_17_method_106_code_7) rfl ((if0 _ _).trans (teq ((lw_eq _ _).mpr (by decide) : (lcmpW ((0 : Int32).toInt64) (0 : Int64)) = (0 : Int32))).1) (by decide) (by decide) ?_
    refine XS.iloadN X0.here hx rfl (hb hby own_d_jdk_17_method_106_code_76) rfl ?_
    show Steps p.tables e below (s₁.setTop (mkF m 77 #[.val (.ref a1), .val (.long (0 : Int64)), .second, .val (.int (0 : Int32)), .unset] [(.int (0 : Int32))])) _
    exact retI X0 hx Bd.returns (hb hby own_d_jdk_17_method_106_code_77) hr
  · show QI (.int (0 : Int32)) h0 n0 _ s₁.heap _
    rw [e0]
    exact ⟨rfl, N0, rfl⟩
theorem own_d_jdk_17_method_67_code_0 : decode jdk_17_method_67_code 0 = .ok (.iload_n 1, 1) := by decide +kernel
theorem own_d_jdk_17_method_67_code_1 : decode jdk_17_method_67_code 1 = .ok (.ifCond .ne 12, 3) := by decide +kernel
theorem own_d_jdk_17_method_67_code_4 : decode jdk_17_method_67_code 4 = .ok (.aload_n 0, 1) := by decide +kernel
theorem own_d_jdk_17_method_67_code_5 : decode jdk_17_method_67_code 5 = .ok (.getfield 17, 3) := by decide +kernel
theorem own_d_jdk_17_method_67_code_8 : decode jdk_17_method_67_code 8 = .ok (.ifCond .lt 5, 3) := by decide +kernel
theorem own_d_jdk_17_method_67_code_11 : decode jdk_17_method_67_code 11 = .ok (.aload_n 0, 1) := by decide +kernel
theorem own_d_jdk_17_method_67_code_12 : decode jdk_17_method_67_code 12 = .ok (.areturn, 1) := by decide +kernel
theorem own_ef_jdk_17_method_67_code_xx (m : MethodId) (x0 : Addr) (x1 : Int32) : entryFrame m #[(.ref x0), (.int x1)] 4 = mkF m 0 #[.val (.ref x0), .val (.int x1), .unset, .unset] [] := by first | (simp [entryFrame, mkF, argsToLocals, Value.category]; done) | rfl
set_option maxRecDepth 65536 in
set_option maxHeartbeats 40000000 in
theorem rmMp0 (l : Launch) (Z : State) (a0 : Array Value) (hw : ∀ d ∈ tables_1, d.before a0 Z = true) (ws : List Jvm.Cond) (a1 : Addr) (v : Int64) (h0 : Heap) (n0 : Nat) (Z0 : n0 ≤ h0.size) (E_a1 : Exa Z h0 a1 "java/math/BigDecimal") (F_scale_a1 : Fld Z h0 a1 "java/math/BigDecimal" "scale" "I" (.int (0 : Int32))) (F_intCompact_a1 : Fld Z h0 a1 "java/math/BigDecimal" "intCompact" "J" (.long v)) :
    MetFree l (⟨"java/math/BigDecimal", "movePointRight", "(I)Ljava/math/BigDecimal;"⟩ : MethodName) (head1 (Jvm.Cond.code (⟨"java/math/BigDecimal", "movePointRight", "(I)Ljava/math/BigDecimal;"⟩ : MethodName) jdk_17_method_67_code 4 (some (.object "java/math/BigDecimal")) :: ws) ({ frames := 3, cells := 1, slots := 5, locals := 42 } : Room)) (fun a U => a = #[(.ref a1), (.int (0 : Int32))] ∧ Z.Warmed39 U.vm ∧ U.heap = h0) (fun _ _ _ _ _ => True) (fun _ U o U' => ∃ vr_ Lr_, o = .returned vr_ ∧ QMp Z v h0 n0 vr_ U'.heap Lr_ ∧ FrameEnd U o U' Lr_ 1 5) := by
  refine MetFree.of_bodySF (plainFor_of_name own_pn_java_math_BigDecimal) hisR ?_
  intro p e s m args below meth c s₁ Bd hml0 hP hK
  obtain ⟨rfl, hZ, hh⟩ := hP
  have hx := Bd.exec
  have hby := Bd.bytes
  have hml : c.maxLocals = 4 := hml0
  have hown : s.vm.findClass "java/math/BigDecimal" = some m.cls := findClass_of_methodNamed Bd.named
  have hnm := (name_of_methodNamed Bd.named Bd.method).1
  have X0 : Stand p l e ({ frames := 3, cells := 1, slots := 5, locals := 42 } : Room) s m #[(.ref a1), (.int (0 : Int32))] below meth c s₁ [] 0 0 := Stand.of_body Bd
  have e0 : s₁.heap = h0 := by rw [← hh, Bd.state]; rfl
  have N0 := Fr.nil n0
  have pre0 : ∀ t, Steps p.tables e below (s₁.setTop (mkF m 0 #[.val (.ref a1), .val (.int (0 : Int32)), .unset, .unset] [])) t → Steps p.tables e below (s₁.setTop (entryFrame m #[(.ref a1), (.int (0 : Int32))] 4)) t := fun t k => castTop (own_ef_jdk_17_method_67_code_xx m a1 (0 : Int32)) k
  obtain ⟨T1, X1, e1, st1⟩ := getF X0 hx hZ hown (host := "") (Or.inl (hw _ (List.mem_of_getElem? (i := 26) rfl))) Via.refl e0 F_scale_a1 (g := (mkF m 5 #[.val (.ref a1), .val (.int (0 : Int32)), .unset, .unset] [(.ref a1)])) rfl rfl (hb hby own_d_jdk_17_method_67_code_5)
  obtain ⟨fs, hr, hrun, hended, hW, hsame⟩ := X1.leave (v := some (.ref a1)) (fun h => by rw [Bd.returns] at h; cases h)
  refine ⟨_, _, pre0 _ ?_, hrun, hended, _, _, rfl, ?_, ⟨_, rfl⟩, hW, hsame.mono (by decide) (by decide)⟩
  · show Steps p.tables e below (s₁.setTop (mkF m 0 #[.val (.ref a1), .val (.int (0 : Int32)), .unset, .unset] [])) _
    refine XS.iloadN X0.here hx rfl (hb hby own_d_jdk_17_method_67_code_0) rfl ?_
    show Steps p.tables e below (s₁.setTop (mkF m 1 #[.val (.ref a1), .val (.int (0 : Int32)), .unset, .unset] [(.int (0 : Int32))])) _
    refine XS.ifNo X0.here hx rfl (hb hby own_d_jdk_17_method_67_code_1) rfl ((if0 _ _).trans (teq (rfl : (0 : Int32) = (0 : Int32))).2) ?_
    refine XS.aloadN X0.here hx rfl (hb hby own_d_jdk_17_method_67_code_4) rfl rfl ?_
    show Steps p.tables e below (s₁.setTop (mkF m 5 #[.val (.ref a1), .val (.int (0 : Int32)), .unset, .unset] [(.ref a1)])) _
    refine st1 _ ?_
    show Steps p.tables e below (T1.setTop (mkF m 8 #[.val (.ref a1), .val (.int (0 : Int32)), .unset, .unset] [(.int (0 : Int32))])) _
    refine XS.ifNo X1.here hx rfl (hb hby own_d_jdk_17_method_67_code_8) rfl ((if0 _ _).trans (flt (by decide : ¬ ((0 : Int32) < (0 : Int32)))).1) ?_
    refine XS.aloadN X1.here hx rfl (hb hby own_d_jdk_17_method_67_code_11) rfl rfl ?_
    show Steps p.tables e below (T1.setTop (mkF m 12 #[.val (.ref a1), .val (.int (0 : Int32)), .unset, .unset] [(.ref a1)])) _
    jvm_step X1.here [X1.here.top, hx, (hb hby own_d_jdk_17_method_67_code_12), X1.method', Bd.returns, Value.isRef, FieldType.isReference]
    first | (intro acts; rw [hr _ acts rfl rfl rfl]) | rw [hr _ _ rfl rfl rfl]
    exact Steps.refl _
  · show QMp Z v h0 n0 _ T1.heap _
    rw [e1]
    exact ⟨a1, rfl, N0, (Keep.refl h0 []), E_a1, F_scale_a1, F_intCompact_a1⟩
theorem own_d_jdk_17_method_67_code_13 : decode jdk_17_method_67_code 13 = .ok (.aload_n 0, 1) := by decide +kernel
theorem own_d_jdk_17_method_67_code_14 : decode jdk_17_method_67_code 14 = .ok (.aload_n 0, 1) := by decide +kernel
theorem own_d_jdk_17_method_67_code_15 : decode jdk_17_method_67_code 15 = .ok (.getfield 17, 3) := by decide +kernel
theorem own_d_jdk_17_method_67_code_18 : decode jdk_17_method_67_code 18 = .ok (.i2l, 1) := by decide +kernel
theorem own_d_jdk_17_method_67_code_19 : decode jdk_17_method_67_code 19 = .ok (.iload_n 1, 1) := by decide +kernel
theorem own_d_jdk_17_method_67_code_20 : decode jdk_17_method_67_code 20 = .ok (.i2l, 1) := by decide +kernel
theorem own_d_jdk_17_method_67_code_21 : decode jdk_17_method_67_code 21 = .ok (.lsub, 1) := by decide +kernel
theorem own_d_jdk_17_method_67_code_22 : decode jdk_17_method_67_code 22 = .ok (.invokevirtual 325, 3) := by decide +kernel
theorem own_d_jdk_17_method_67_code_25 : decode jdk_17_method_67_code 25 = .ok (.istore_n 2, 1) := by decide +kernel
theorem own_d_jdk_17_method_67_code_26 : decode jdk_17_method_67_code 26 = .ok (.new 3, 3) := by decide +kernel
theorem own_d_jdk_17_method_67_code_29 : decode jdk_17_method_67_code 29 = .ok (.dup, 1) := by decide +kernel
theorem own_d_jdk_17_method_67_code_30 : decode jdk_17_method_67_code 30 = .ok (.aload_n 0, 1) := by decide +kernel
theorem own_d_jdk_17_method_67_code_31 : decode jdk_17_method_67_code 31 = .ok (.getfield 28, 3) := by decide +kernel
theorem own_d_jdk_17_method_67_code_34 : decode jdk_17_method_67_code 34 = .ok (.aload_n 0, 1) := by decide +kernel
theorem own_d_jdk_17_method_67_code_35 : decode jdk_17_method_67_code 35 = .ok (.getfield 24, 3) := by decide +kernel
theorem own_d_jdk_17_method_67_code_38 : decode jdk_17_method_67_code 38 = .ok (.iload_n 2, 1) := by decide +kernel
theorem own_d_jdk_17_method_67_code_39 : decode jdk_17_method_67_code 39 = .ok (.iconst 0, 1) := by decide +kernel
theorem own_d_jdk_17_method_67_code_40 : decode jdk_17_method_67_code 40 = .ok (.invokespecial 243, 3) := by decide +kernel
theorem own_d_jdk_17_method_67_code_43 : decode jdk_17_method_67_code 43 = .ok (.astore_n 3, 1) := by decide +kernel
theorem own_d_jdk_17_method_67_code_44 : decode jdk_17_method_67_code 44 = .ok (.aload_n 3, 1) := by decide +kernel
theorem own_d_jdk_17_method_67_code_45 : decode jdk_17_method_67_code 45 = .ok (.getfield 17, 3) := by decide +kernel
theorem own_d_jdk_17_method_67_code_48 : decode jdk_17_method_67_code 48 = .ok (.ifCond .ge 13, 3) := by decide +kernel
theorem own_d_jdk_17_method_67_code_61 : decode jdk_17_method_67_code 61 = .ok (.aload_n 3, 1) := by decide +kernel
theorem own_d_jdk_17_method_67_code_62 : decode jdk_17_method_67_code 62 = .ok (.areturn, 1) := by decide +kernel
set_option maxRecDepth 65536 in
set_option maxHeartbeats 40000000 in
theorem rmMp1 (l : Launch) (Z : State) (a0 : Array Value) (hw : ∀ d ∈ tables_1, d.before a0 Z = true) (ws : List Jvm.Cond) (a1 : Addr) (v : Int64) (s_ : Int32) (h0 : Heap) (n0 : Nat) (Z0 : n0 ≤ h0.size) (E_a1 : Exa Z h0 a1 "java/math/BigDecimal") (F_scale_a1 : Fld Z h0 a1 "java/math/BigDecimal" "scale" "I" (.int s_)) (F_intCompact_a1 : Fld Z h0 a1 "java/math/BigDecimal" "intCompact" "J" (.long v)) (F_intVal_a1 : Fld Z h0 a1 "java/math/BigDecimal" "intVal" "Ljava/math/BigInteger;" .null) (hs : ¬ (s_ = (0 : Int32))) :
    MetFree l (⟨"java/math/BigDecimal", "movePointRight", "(I)Ljava/math/BigDecimal;"⟩ : MethodName) (head1 (Jvm.Cond.code (⟨"java/math/BigDecimal", "movePointRight", "(I)Ljava/math/BigDecimal;"⟩ : MethodName) jdk_17_method_67_code 4 (some (.object "java/math/BigDecimal")) :: ws) ({ frames := 3, cells := 1, slots := 5, locals := 42 } : Room)) (fun a U => a = #[(.ref a1), (.int s_)] ∧ Z.Warmed39 U.vm ∧ U.heap = h0) (fun _ _ _ _ _ => True) (fun _ U o U' => ∃ vr_ Lr_, o = .returned vr_ ∧ QMp Z v h0 n0 vr_ U'.heap Lr_ ∧ FrameEnd U o U' Lr_ 1 5) := by
  refine MetFree.of_bodySF (plainFor_of_name own_pn_java_math_BigDecimal) hisR ?_
  intro p e s m args below meth c s₁ Bd hml0 hP hK
  obtain ⟨rfl, hZ, hh⟩ := hP
  have hx := Bd.exec
  have hby := Bd.bytes
  have hml : c.maxLocals = 4 := hml0
  have hown : s.vm.findClass "java/math/BigDecimal" = some m.cls := findClass_of_methodNamed Bd.named
  have hnm := (name_of_methodNamed Bd.named Bd.method).1
  have X0 : Stand p l e ({ frames := 3, cells := 1, slots := 5, locals := 42 } : Room) s m #[(.ref a1), (.int s_)] below meth c s₁ [] 0 0 := Stand.of_body Bd
  have e0 : s₁.heap = h0 := by rw [← hh, Bd.state]; rfl
  have N0 := Fr.nil n0
  have pre0 : ∀ t, Steps p.tables e below (s₁.setTop (mkF m 0 #[.val (.ref a1), .val (.int s_), .unset, .unset] [])) t → Steps p.tables e below (s₁.setTop (entryFrame m #[(.ref a1), (.int s_)] 4)) t := fun t k => castTop (own_ef_jdk_17_method_67_code_xx m a1 s_) k
  obtain ⟨T1, X1, e1, st1⟩ := getF X0 hx hZ hown (host := "") (Or.inl (hw _ (List.mem_of_getElem? (i := 26) rfl))) Via.refl e0 F_scale_a1 (g := (mkF m 15 #[.val (.ref a1), .val (.int s_), .unset, .unset] [(.ref a1), (.ref a1)])) rfl rfl (hb hby own_d_jdk_17_method_67_code_15)
  obtain ⟨cq2, q2, q2'⟩ := E_a1.cell
  obtain ⟨_, _, ⟨T2, L2, k2, n2⟩, -, X2, ⟨Lc2, hQ2, l2, y2, z2⟩, st2⟩ := X1.privateBack hx (y := (⟨"java/math/BigDecimal", "checkScale", "(J)I"⟩ : MethodName)) hown (mvT hZ (hw _ (List.mem_of_getElem? (i := 101) rfl))) (mvT hZ (hw _ (List.mem_of_getElem? (i := 102) rfl))) (mvT hZ (hw _ (List.mem_of_getElem? (i := 104) rfl))) (Cond.privateMethod_at (mvP hZ (hw _ (List.mem_of_getElem? (i := 103) rfl)) (args := #[]))) (mvT hZ (hw _ (List.mem_of_getElem? (i := 105) rfl))) (by decide) (backOf (W := 0) (rmCk l Z a0 hw [] a1 h0 n0 (Nat.le_trans Z0 (Keep.refl h0 []).1) ) hZ (hw _ (List.mem_of_getElem? (i := 105) rfl)) (hw _ (List.mem_of_getElem? (i := 8) rfl)) (by decide) (by decide)) (g := (mkF m 22 #[.val (.ref a1), .val (.int s_), .unset, .unset] [(.long (0 : Int64)), (.ref a1)])) rfl (by rw [hml]; rfl) (Steps.refl _) (a := a1) (by rw [e1]; exact q2) q2' (argsL := [(.long (0 : Int64))]) (rest := []) (lenOf own_pd__J_I rfl) rfl (by show 2 * 0 + _ ≤ _; exact Nat.le_of_eq rfl) (hb hby own_d_jdk_17_method_67_code_22) (fun _ _ => ⟨rfl, e1, (by decide : 0 + 0 ≤ _), (by decide : 0 + 0 ≤ _)⟩)
  dsimp only [Pt.U, Pt.locs, Pt.cells, Pt.slots] at X2 l2 y2 z2 st2 hQ2
  subst l2 y2 z2
  obtain ⟨rfl, N2q, e2q⟩ := hQ2
  have N2a := Fr.app N0 N2q
  obtain ⟨T3, h3, X3, e3, E3, A3, D3, -, st3⟩ := newO X2 hx hZ hown (hw _ (List.mem_of_getElem? (i := 10) rfl)) (hw _ (List.mem_of_getElem? (i := 11) rfl)) (hw _ (List.mem_of_getElem? (i := 8) rfl)) e2q (g := (mkF m 26 #[.val (.ref a1), .val (.int s_), .val (.int (0 : Int32)), .unset] [])) rfl (hb hby own_d_jdk_17_method_67_code_26) (by decide) (by decide)
  obtain ⟨b3, g3⟩ : ∃ z, z = h0.size := ⟨_, rfl⟩
  rw [← g3] at A3 D3 st3
  have sz_b3 : h0.size ≤ b3 := Nat.le_trans (Keep.refl h0 []).1 (Nat.le_of_eq g3.symm)
  have g_b3 : n0 ≤ b3 := Nat.le_trans Z0 sz_b3
  have K1 : Keep h0 h3 [] := (Keep.refl h0 []).ext E3
  have F_scale_b3 : Fld Z h3 b3 "java/math/BigDecimal" "scale" "I" (.int (0 : Int32)) := D3 (Or.inr (hw _ (List.mem_of_getElem? (i := 27) rfl))) (ty := .int) (by decide)
  have F_precision_b3 : Fld Z h3 b3 "java/math/BigDecimal" "precision" "I" (.int (0 : Int32)) := D3 (Or.inl (hw _ (List.mem_of_getElem? (i := 29) rfl))) (ty := .int) (by decide)
  have F_intCompact_b3 : Fld Z h3 b3 "java/math/BigDecimal" "intCompact" "J" (.long (0 : Int64)) := D3 (Or.inr (hw _ (List.mem_of_getElem? (i := 31) rfl))) (ty := .long) (by decide)
  have F_intVal_b3 : Fld Z h3 b3 "java/math/BigDecimal" "intVal" "Ljava/math/BigInteger;" .null := D3 (Or.inr (hw _ (List.mem_of_getElem? (i := 33) rfl))) (ty := (.object "java/math/BigInteger")) (by decide)
  have f4 : Fld Z h3 a1 "java/math/BigDecimal" "intVal" "Ljava/math/BigInteger;" .null := (F_intVal_a1.ext E3)
  obtain ⟨T5, X5, e5, st5⟩ := getF X3 hx hZ hown (host := "") (Or.inl (hw _ (List.mem_of_getElem? (i := 32) rfl))) Via.refl e3 f4 (g := (mkF m 31 #[.val (.ref a1), .val (.int s_), .val (.int (0 : Int32)), .unset] [(.ref a1), (.ref b3), (.ref b3)])) rfl rfl (hb hby own_d_jdk_17_method_67_code_31)
  have f6 : Fld Z h3 a1 "java/math/BigDecimal" "intCompact" "J" (.long v) := (F_intCompact_a1.ext E3)
  obtain ⟨T7, X7, e7, st7⟩ := getF X5 hx hZ hown (host := "") (Or.inl (hw _ (List.mem_of_getElem? (i := 30) rfl))) Via.refl e5 f6 (g := (mkF m 35 #[.val (.ref a1), .val (.int s_), .val (.int (0 : Int32)), .unset] [(.ref a1), .null, (.ref b3), (.ref b3)])) rfl rfl (hb hby own_d_jdk_17_method_67_code_35)
  obtain ⟨_, _, ⟨T8, L8, k8, n8⟩, -, X8, ⟨Lc8, hQ8, l8, y8, z8⟩, st8⟩ := X7.specialBack hx (y := (⟨"java/math/BigDecimal", "<init>", "(Ljava/math/BigInteger;JII)V"⟩ : MethodName)) rfl hown (mvT hZ (hw _ (List.mem_of_getElem? (i := 13) rfl))) (mvT hZ (hw _ (List.mem_of_getElem? (i := 14) rfl))) (mvT hZ (hw _ (List.mem_of_getElem? (i := 16) rfl))) (by decide) (backOf (W := 1) (rmBi l Z a0 hw [] b3 v (0 : Int32) h3 n0 (Nat.le_trans Z0 K1.1) A3 F_scale_b3 F_precision_b3 F_intCompact_b3 F_intVal_b3 g_b3) hZ (hw _ (List.mem_of_getElem? (i := 16) rfl)) (hw _ (List.mem_of_getElem? (i := 8) rfl)) (by decide) (by decide)) (g := (mkF m 40 #[.val (.ref a1), .val (.int s_), .val (.int (0 : Int32)), .unset] [(.int (0 : Int32)), (.int (0 : Int32)), (.long v), .null, (.ref b3), (.ref b3)])) rfl (by rw [hml]; rfl) (Steps.refl _) (a := b3) (argsL := [.null, (.long v), (.int (0 : Int32)), (.int (0 : Int32))]) (rest := [(.ref b3)]) (lenOf own_pd__Ljava_math_BigInteger_JII_V rfl) rfl (by show 2 * 0 + _ ≤ _; exact Nat.le_of_eq rfl) (hb hby own_d_jdk_17_method_67_code_40) (fun _ _ => ⟨rfl, e7, (by decide : 1 + 0 ≤ _), (by decide : 5 + 0 ≤ _)⟩)
  dsimp only [Pt.U, Pt.locs, Pt.cells, Pt.slots] at X8 l8 y8 z8 st8 hQ8
  subst l8 y8 z8
  obtain ⟨rfl, N8q, K8q, Bs8, Bp8, Bc8, Bv8⟩ := hQ8
  have N8a := Fr.app N2a N8q
  have K2 : Keep h0 T8.heap [] := K1.trans K8q (allS (Or.inr sz_b3) all0)
  obtain ⟨T9, X9, e9, st9⟩ := getF X8 hx hZ hown (host := "") (Or.inl (hw _ (List.mem_of_getElem? (i := 26) rfl))) Via.refl rfl Bs8 (g := (mkF m 45 #[.val (.ref a1), .val (.int s_), .val (.int (0 : Int32)), .val (.ref b3)] [(.ref b3)])) rfl rfl (hb hby own_d_jdk_17_method_67_code_45)
  have f10 : Exa Z T8.heap b3 "java/math/BigDecimal" := (A3.keep K8q)
  obtain ⟨fs, hr, hrun, hended, hW, hsame⟩ := X9.leave (v := some (.ref b3)) (fun h => by rw [Bd.returns] at h; cases h)
  refine ⟨_, _, pre0 _ ?_, hrun, hended, _, _, rfl, ?_, ⟨_, rfl⟩, hW, hsame.mono (by decide) (by decide)⟩
  · show Steps p.tables e below (s₁.setTop (mkF m 0 #[.val (.ref a1), .val (.int s_), .unset, .unset] [])) _
    refine XS.iloadN X0.here hx rfl (hb hby own_d_jdk_17_method_67_code_0) rfl ?_
    show Steps p.tables e below (s₁.setTop (mkF m 1 #[.val (.ref a1), .val (.int s_), .unset, .unset] [(.int s_)])) _
    refine XS.ifYes X0.here hx rfl (pc0 := 1) (pc' := 13) rfl (hb hby own_d_jdk_17_method_67_code_1) rfl ((if0 _ _).trans (feq (hs : ¬ (s_ = (0 : Int32)))).2) (by decide) (by decide) ?_
    refine XS.aloadN X0.here hx rfl (hb hby own_d_jdk_17_method_67_code_13) rfl rfl ?_
    refine XS.aloadN X0.here hx rfl (hb hby own_d_jdk_17_method_67_code_14) rfl rfl ?_
    show Steps p.tables e below (s₁.setTop (mkF m 15 #[.val (.ref a1), .val (.int s_), .unset, .unset] [(.ref a1), (.ref a1)])) _
    refine st1 _ ?_
    refine XS.i2l X1.here hx rfl (hb hby own_d_jdk_17_method_67_code_18) rfl ?_
    refine XS.iloadN X1.here hx rfl (hb hby own_d_jdk_17_method_67_code_19) rfl ?_
    show Steps p.tables e below (T1.setTop (mkF m 20 #[.val (.ref a1), .val (.int s_), .unset, .unset] [(.int s_), (.long (s_.toInt64)), (.ref a1)])) _
    refine XS.i2l X1.here hx rfl (hb hby own_d_jdk_17_method_67_code_20) rfl ?_
    refine XS.lsub X1.here hx rfl (hb hby own_d_jdk_17_method_67_code_21) rfl ?_
    show Steps p.tables e below (T1.setTop (mkF m 22 #[.val (.ref a1), .val (.int s_), .unset, .unset] [(.long ((s_.toInt64) - (s_.toInt64))), (.ref a1)])) _
    rw [Int64.sub_self]
    show Steps p.tables e below (T1.setTop (mkF m 22 #[.val (.ref a1), .val (.int s_), .unset, .unset] [(.long (0 : Int64)), (.ref a1)])) _
    refine st2.trans ?_
    refine XS.istoreN X2.here hx rfl (hb hby own_d_jdk_17_method_67_code_25) rfl (l' := #[.val (.ref a1), .val (.int s_), .val (.int (0 : Int32)), .unset]) rfl ?_
    show Steps p.tables e below (T2.setTop (mkF m 26 #[.val (.ref a1), .val (.int s_), .val (.int (0 : Int32)), .unset] [])) _
    refine st3 _ ?_
    refine XS.dup X3.here hx rfl (hb hby own_d_jdk_17_method_67_code_29) rfl rfl ?_
    refine XS.aloadN X3.here hx rfl (hb hby own_d_jdk_17_method_67_code_30) rfl rfl ?_
    show Steps p.tables e below (T3.setTop (mkF m 31 #[.val (.ref a1), .val (.int s_), .val (.int (0 : Int32)), .unset] [(.ref a1), (.ref b3), (.ref b3)])) _
    refine st5 _ ?_
    refine XS.aloadN X5.here hx rfl (hb hby own_d_jdk_17_method_67_code_34) rfl rfl ?_
    show Steps p.tables e below (T5.setTop (mkF m 35 #[.val (.ref a1), .val (.int s_), .val (.int (0 : Int32)), .unset] [(.ref a1), .null, (.ref b3), (.ref b3)])) _
    refine st7 _ ?_
    refine XS.iloadN X7.here hx rfl (hb hby own_d_jdk_17_method_67_code_38) rfl ?_
    refine XS.iconst X7.here hx rfl (hb hby own_d_jdk_17_method_67_code_39) ?_
    show Steps p.tables e below (T7.setTop (mkF m 40 #[.val (.ref a1), .val (.int s_), .val (.int (0 : Int32)), .unset] [(.int (0 : Int32)), (.int (0 : Int32)), (.long v), .null, (.ref b3), (.ref b3)])) _
    refine st8.trans ?_
    refine XS.astoreN X8.here hx rfl (hb hby own_d_jdk_17_method_67_code_43) rfl rfl (l' := #[.val (.ref a1), .val (.int s_), .val (.int (0 : Int32)), .val (.ref b3)]) rfl ?_
    refine XS.aloadN X8.here hx rfl (hb hby own_d_jdk_17_method_67_code_44) rfl rfl ?_
    show Steps p.tables e below (T8.setTop (mkF m 45 #[.val (.ref a1), .val (.int s_), .val (.int (0 : Int32)), .val (.ref b3)] [(.ref b3)])) _
    refine st9 _ ?_
    show Steps p.tables e below (T9.setTop (mkF m 48 #[.val (.ref a1), .val (.int s_), .val (.int (0 : Int32)), .val (.ref b3)] [(.int (0 : Int32))])) _
    refine XS.ifYes X9.here hx rfl (pc0 := 48) (pc' := 61) rfl (hb hby own_d_jdk_17_method_67_code_48) rfl ((if0 _ _).trans (flt (by decide : ¬ ((0 : Int32) < (0 : Int32)))).2.1) (by decide) (by decide) ?_
    refine XS.aloadN X9.here hx rfl (hb hby own_d_jdk_17_method_67_code_61) rfl rfl ?_
    show Steps p.tables e below (T9.setTop (mkF m 62 #[.val (.ref a1), .val (.int s_), .val (.int (0 : Int32)), .val (.ref b3)] [(.ref b3)])) _
    jvm_step X9.here [X9.here.top, hx, (hb hby own_d_jdk_17_method_67_code_62), X9.method', Bd.returns, Value.isRef, FieldType.isReference]
    first | (intro acts; rw [hr _ acts rfl rfl rfl]) | rw [hr _ _ rfl rfl rfl]
    exact Steps.refl _
  · show QMp Z v h0 n0 _ T9.heap _
    rw [e9]
    exact ⟨b3, rfl, N8a, K2, f10, Bs8, Bc8⟩
theorem rmMp (l : Launch) (Z : State) (a0 : Array Value) (hw : ∀ d ∈ tables_1, d.before a0 Z = true) (ws : List Jvm.Cond) (a1 : Addr) (v : Int64) (s_ : Int32) (h0 : Heap) (n0 : Nat) (Z0 : n0 ≤ h0.size) (B : BD Z n0 h0 a1 v s_) :
    MetFree l (⟨"java/math/BigDecimal", "movePointRight", "(I)Ljava/math/BigDecimal;"⟩ : MethodName) (head1 (Jvm.Cond.code (⟨"java/math/BigDecimal", "movePointRight", "(I)Ljava/math/BigDecimal;"⟩ : MethodName) jdk_17_method_67_code 4 (some (.object "java/math/BigDecimal")) :: ws) ({ frames := 3, cells := 1, slots := 5, locals := 42 } : Room)) (fun a U => a = #[(.ref a1), (.int s_)] ∧ Z.Warmed39 U.vm ∧ U.heap = h0) (fun _ _ _ _ _ => True) (fun _ U o U' => ∃ vr_ Lr_, o = .returned vr_ ∧ QMp Z v h0 n0 vr_ U'.heap Lr_ ∧ FrameEnd U o U' Lr_ 1 5) := by
  obtain ⟨e, f1, f2, -, f4⟩ := B
  by_cases c : s_ = (0 : Int32)
  · subst c
    exact rmMp0 l Z a0 hw ws a1 v h0 n0 Z0 e f1 f2
  · exact rmMp1 l Z a0 hw ws a1 v s_ h0 n0 Z0 e f1 f2 (f4.resolve_left c) c
theorem own_d_jdk_17_method_84_code_0 : decode jdk_17_method_84_code 0 = .ok (.aload_n 0, 1) := by decide +kernel
theorem own_d_jdk_17_method_84_code_1 : decode jdk_17_method_84_code 1 = .ok (.getfield 24, 3) := by decide +kernel
theorem own_d_jdk_17_method_84_code_4 : decode jdk_17_method_84_code 4 = .ok (.ldc2_w 125, 3) := by decide +kernel
theorem own_d_jdk_17_method_84_code_7 : decode jdk_17_method_84_code 7 = .ok (.lcmp, 1) := by decide +kernel
theorem own_d_jdk_17_method_84_code_8 : decode jdk_17_method_84_code 8 = .ok (.ifCond .eq 15, 3) := by decide +kernel
theorem own_d_jdk_17_method_84_code_11 : decode jdk_17_method_84_code 11 = .ok (.aload_n 0, 1) := by decide +kernel
theorem own_d_jdk_17_method_84_code_12 : decode jdk_17_method_84_code 12 = .ok (.getfield 17, 3) := by decide +kernel
theorem own_d_jdk_17_method_84_code_15 : decode jdk_17_method_84_code 15 = .ok (.ifCond .ne 8, 3) := by decide +kernel
theorem own_d_jdk_17_method_84_code_18 : decode jdk_17_method_84_code 18 = .ok (.aload_n 0, 1) := by decide +kernel
theorem own_d_jdk_17_method_84_code_19 : decode jdk_17_method_84_code 19 = .ok (.getfield 24, 3) := by decide +kernel
theorem own_d_jdk_17_method_84_code_22 : decode jdk_17_method_84_code 22 = .ok (.lreturn, 1) := by decide +kernel
theorem own_ef_jdk_17_method_84_code_x (m : MethodId) (x0 : Addr) : entryFrame m #[(.ref x0)] 2 = mkF m 0 #[.val (.ref x0), .unset] [] := by first | (simp [entryFrame, mkF, argsToLocals, Value.category]; done) | rfl
set_option maxRecDepth 65536 in
set_option maxHeartbeats 40000000 in
theorem rmLv (l : Launch) (Z : State) (a0 : Array Value) (hw : ∀ d ∈ tables_1, d.before a0 Z = true) (ws : List Jvm.Cond) (a1 : Addr) (v : Int64) (h0 : Heap) (n0 : Nat) (Z0 : n0 ≤ h0.size) (F_scale_a1 : Fld Z h0 a1 "java/math/BigDecimal" "scale" "I" (.int (0 : Int32))) (F_intCompact_a1 : Fld Z h0 a1 "java/math/BigDecimal" "intCompact" "J" (.long v)) (hv : (0 : Int64) < v) :
    MetFree l (⟨"java/math/BigDecimal", "longValueExact", "()J"⟩ : MethodName) (head1 (Jvm.Cond.code (⟨"java/math/BigDecimal", "longValueExact", "()J"⟩ : MethodName) jdk_17_method_84_code 2 (some .long) :: ws) ({ frames := 0, cells := 0, slots := 0, locals := 0 } : Room)) (fun a U => a = #[(.ref a1)] ∧ Z.Warmed39 U.vm ∧ U.heap = h0) (fun _ _ _ _ _ => True) (fun _ U o U' => ∃ vr_ Lr_, o = .returned vr_ ∧ QI (.long v) h0 n0 vr_ U'.heap Lr_ ∧ FrameEnd U o U' Lr_ 0 0) := by
  refine MetFree.of_bodySF (plainFor_of_name own_pn_java_math_BigDecimal) hisR ?_
  intro p e s m args below meth c s₁ Bd hml0 hP hK
  obtain ⟨rfl, hZ, hh⟩ := hP
  have hx := Bd.exec
  have hby := Bd.bytes
  have hml : c.maxLocals = 2 := hml0
  have hown : s.vm.findClass "java/math/BigDecimal" = some m.cls := findClass_of_methodNamed Bd.named
  have hnm := (name_of_methodNamed Bd.named Bd.method).1
  have X0 : Stand p l e ({ frames := 0, cells := 0, slots := 0, locals := 0 } : Room) s m #[(.ref a1)] below meth c s₁ [] 0 0 := Stand.of_body Bd
  have e0 : s₁.heap = h0 := by rw [← hh, Bd.state]; rfl
  have N0 := Fr.nil n0
  have pre0 : ∀ t, Steps p.tables e below (s₁.setTop (mkF m 0 #[.val (.ref a1), .unset] [])) t → Steps p.tables e below (s₁.setTop (entryFrame m #[(.ref a1)] 2)) t := fun t k => castTop (own_ef_jdk_17_method_84_code_x m a1) k
  obtain ⟨T1, X1, e1, st1⟩ := getF X0 hx hZ hown (host := "") (Or.inl (hw _ (List.mem_of_getElem? (i := 30) rfl))) Via.refl e0 F_intCompact_a1 (g := (mkF m 1 #[.val (.ref a1), .unset] [(.ref a1)])) rfl rfl (hb hby own_d_jdk_17_method_84_code_1)
  obtain ⟨T2, X2, e2, st2⟩ := getF X1 hx hZ hown (host := "") (Or.inl (hw _ (List.mem_of_getElem? (i := 26) rfl))) Via.refl e1 F_scale_a1 (g := (mkF m 12 #[.val (.ref a1), .unset] [(.ref a1)])) rfl rfl (hb hby own_d_jdk_17_method_84_code_12)
  obtain ⟨T3, X3, e3, st3⟩ := getF X2 hx hZ hown (host := "") (Or.inl (hw _ (List.mem_of_getElem? (i := 30) rfl))) Via.refl e2 F_intCompact_a1 (g := (mkF m 19 #[.val (.ref a1), .unset] [(.ref a1)])) rfl rfl (hb hby own_d_jdk_17_method_84_code_19)
  obtain ⟨fs, hr, hrun, hended, hW, hsame⟩ := X3.leave (v := some (.long v)) (fun h => by rw [Bd.returns] at h; cases h)
  refine ⟨_, _, pre0 _ ?_, hrun, hended, _, _, rfl, ?_, ⟨_, rfl⟩, hW, hsame.mono (by decide) (by decide)⟩
  · show Steps p.tables e below (s₁.setTop (mkF m 0 #[.val (.ref a1), .unset] [])) _
    refine XS.aloadN X0.here hx rfl (hb hby own_d_jdk_17_method_84_code_0) rfl rfl ?_
    show Steps p.tables e below (s₁.setTop (mkF m 1 #[.val (.ref a1), .unset] [(.ref a1)])) _
    refine st1 _ ?_
    show Steps p.tables e below (T1.setTop (mkF m 4 #[.val (.ref a1), .unset] [(.long v)])) _
    refine X1.ldc2Long hx hown (mvT hZ (hw _ (List.mem_of_getElem? (i := 12) rfl))) (g := (mkF m 4 #[.val (.ref a1), .unset] [(.long v)])) rfl (hb hby own_d_jdk_17_method_84_code_4) _ ?_
    refine XS.lcmp X1.here hx rfl (hb hby own_d_jdk_17_method_84_code_7) rfl ?_
    show Steps p.tables e below (T1.setTop (mkF m 8 #[.val (.ref a1), .unset] [(.int (lcmpW v (-9223372036854775808 : Int64)))])) _
    refine XS.ifNo X1.here hx rfl (hb hby own_d_jdk_17_method_84_code_8) rfl ((if0 _ _).trans (feq (fun q => own_neM hv ((lw_eq _ _).mp q) : ¬ ((lcmpW v (-9223372036854775808 : Int64)) = (0 : Int32)))).1) ?_
    refine XS.aloadN X1.here hx rfl (hb hby own_d_jdk_17_method_84_code_11) rfl rfl ?_
    show Steps p.tables e below (T1.setTop (mkF m 12 #[.val (.ref a1), .unset] [(.ref a1)])) _
    refine st2 _ ?_
    show Steps p.tables e below (T2.setTop (mkF m 15 #[.val (.ref a1), .unset] [(.int (0 : Int32))])) _
    refine XS.ifNo X2.here hx rfl (hb hby own_d_jdk_17_method_84_code_15) rfl ((if0 _ _).trans (teq (rfl : (0 : Int32) = (0 : Int32))).2) ?_
    refine XS.aloadN X2.here hx rfl (hb hby own_d_jdk_17_method_84_code_18) rfl rfl ?_
    show Steps p.tables e below (T2.setTop (mkF m 19 #[.val (.ref a1), .unset] [(.ref a1)])) _
    refine st3 _ ?_
    show Steps p.tables e below (T3.setTop (mkF m 22 #[.val (.ref a1), .unset] [(.long v)])) _
    jvm_step X3.here [X3.here.top, hx, (hb hby own_d_jdk_17_method_84_code_22), X3.method', Bd.returns, narrow]
    first | (intro acts; rw [hr _ acts rfl rfl rfl]) | rw [hr _ _ rfl rfl rfl]
    exact Steps.refl _
  · show QI (.long v) h0 n0 _ T3.heap _
    rw [e3]
    exact ⟨rfl, N0, rfl⟩
def own_sg (v : Int64) : Int32 := (((v >>> ((63 : Int32) &&& 0x3f).toInt64) ||| (((-v).toUInt64 >>> ((63 : Int32) &&& 0x3f).toInt64.toUInt64).toInt64)).toInt32)
theorem own_sg_pos {v : Int64} (h : (0 : Int64) < v) : (0 : Int32) < own_sg v := by
  have hx := Int64.toInt_lt v
  rw [Int64.lt_iff_toInt_lt] at h
  have e0 : (0 : Int64).toInt = 0 := rfl
  rw [e0] at h
  have hn : v.toInt = v.toBitVec.toInt := rfl
  rw [hn, BitVec.toInt_eq_toNat_cond] at h hx
  have s1 : v >>> ((63 : Int32) &&& 0x3f).toInt64 = 0 := by
    apply Int64.toInt_inj.mp
    show (v >>> ((63 : Int32) &&& 0x3f).toInt64).toBitVec.toInt = 0
    rw [Int64.toBitVec_shiftRight]
    have : (((63 : Int32) &&& 0x3f).toInt64.toBitVec.smod 64) = 63#64 := by decide
    rw [this, BitVec.sshiftRight', BitVec.toInt_sshiftRight, BitVec.toInt_eq_toNat_cond]
    have e63 : (63#64).toNat = 63 := rfl
    rw [e63]
    rw [Int.shiftRight_eq_div_pow]
    have h64 : (2:Nat) ^ 64 = 18446744073709551616 := rfl
    split at h <;> rename_i c <;> simp only [c, if_true, if_false] at * <;> omega
  have s2 : ((-v).toUInt64 >>> ((63 : Int32) &&& 0x3f).toInt64.toUInt64).toInt64 = 1 := by
    have : ((-v).toUInt64 >>> ((63 : Int32) &&& 0x3f).toInt64.toUInt64) = 1 := by
      apply UInt64.toNat_inj.mp
      rw [UInt64.toNat_shiftRight]
      have : ((63 : Int32) &&& 0x3f).toInt64.toUInt64.toNat % 64 = 63 := by decide
      rw [this, Nat.shiftRight_eq_div_pow]
      have e : (-v).toUInt64.toNat = (2 ^ 64 - v.toBitVec.toNat) % 2 ^ 64 := by
        show (-v).toBitVec.toNat = _
        rw [Int64.toBitVec_neg, BitVec.toNat_neg]
      rw [e]
      show _ = 1
      have h64 : (2:Nat) ^ 64 = 18446744073709551616 := rfl
      split at h <;> omega
    rw [this]; rfl
  unfold own_sg
  rw [s1, s2]; decide
theorem own_d_jdk_35_method_57_code_0 : decode jdk_35_method_57_code 0 = .ok (.lload_n 0, 1) := by decide +kernel
theorem own_d_jdk_35_method_57_code_1 : decode jdk_35_method_57_code 1 = .ok (.bipush 63, 2) := by decide +kernel
theorem own_d_jdk_35_method_57_code_3 : decode jdk_35_method_57_code 3 = .ok (.lshr, 1) := by decide +kernel
theorem own_d_jdk_35_method_57_code_4 : decode jdk_35_method_57_code 4 = .ok (.lload_n 0, 1) := by decide +kernel
theorem own_d_jdk_35_method_57_code_5 : decode jdk_35_method_57_code 5 = .ok (.lneg, 1) := by decide +kernel
theorem own_d_jdk_35_method_57_code_6 : decode jdk_35_method_57_code 6 = .ok (.bipush 63, 2) := by decide +kernel
theorem own_d_jdk_35_method_57_code_8 : decode jdk_35_method_57_code 8 = .ok (.lushr, 1) := by decide +kernel
theorem own_d_jdk_35_method_57_code_9 : decode jdk_35_method_57_code 9 = .ok (.lor, 1) := by decide +kernel
theorem own_d_jdk_35_method_57_code_10 : decode jdk_35_method_57_code 10 = .ok (.l2i, 1) := by decide +kernel
theorem own_d_jdk_35_method_57_code_11 : decode jdk_35_method_57_code 11 = .ok (.ireturn, 1) := by decide +kernel
theorem own_ef_jdk_35_method_57_code_x (m : MethodId) (x0 : Int64) : entryFrame m #[(.long x0)] 2 = mkF m 0 #[.val (.long x0), .second] [] := by first | (simp [entryFrame, mkF, argsToLocals, Value.category]; done) | rfl
set_option maxRecDepth 65536 in
set_option maxHeartbeats 40000000 in
theorem rmLs (l : Launch) (Z : State) (a0 : Array Value) (hw : ∀ d ∈ tables_1, d.before a0 Z = true) (ws : List Jvm.Cond) (v : Int64) (h0 : Heap) (n0 : Nat) (Z0 : n0 ≤ h0.size)  :
    MetFree l (⟨"java/lang/Long", "signum", "(J)I"⟩ : MethodName) (head1 (Jvm.Cond.code (⟨"java/lang/Long", "signum", "(J)I"⟩ : MethodName) jdk_35_method_57_code 2 (some .int) :: ws) ({ frames := 0, cells := 0, slots := 0, locals := 0 } : Room)) (fun a U => a = #[(.long v)] ∧ Z.Warmed39 U.vm ∧ U.heap = h0) (fun _ _ _ _ _ => True) (fun _ U o U' => ∃ vr_ Lr_, o = .returned vr_ ∧ QI (.int (own_sg v)) h0 n0 vr_ U'.heap Lr_ ∧ FrameEnd U o U' Lr_ 0 0) := by
  refine MetFree.of_bodySF (plainFor_of_name own_pn_java_lang_Long) hisR ?_
  intro p e s m args below meth c s₁ Bd hml0 hP hK
  obtain ⟨rfl, hZ, hh⟩ := hP
  have hx := Bd.exec
  have hby := Bd.bytes
  have hml : c.maxLocals = 2 := hml0
  have hown : s.vm.findClass "java/lang/Long" = some m.cls := findClass_of_methodNamed Bd.named
  have hnm := (name_of_methodNamed Bd.named Bd.method).1
  have X0 : Stand p l e ({ frames := 0, cells := 0, slots := 0, locals := 0 } : Room) s m #[(.long v)] below meth c s₁ [] 0 0 := Stand.of_body Bd
  have e0 : s₁.heap = h0 := by rw [← hh, Bd.state]; rfl
  have N0 := Fr.nil n0
  have pre0 : ∀ t, Steps p.tables e below (s₁.setTop (mkF m 0 #[.val (.long v), .second] [])) t → Steps p.tables e below (s₁.setTop (entryFrame m #[(.long v)] 2)) t := fun t k => castTop (own_ef_jdk_35_method_57_code_x m v) k
  obtain ⟨fs, hr, hrun, hended, hW, hsame⟩ := X0.leave (v := some (.int (((v >>> ((63 : Int32) &&& 0x3f).toInt64) ||| (((-v).toUInt64 >>> ((63 : Int32) &&& 0x3f).toInt64.toUInt64).toInt64)).toInt32))) (fun h => by rw [Bd.returns] at h; cases h)
  refine ⟨_, _, pre0 _ ?_, hrun, hended, _, _, rfl, ?_, ⟨_, rfl⟩, hW, hsame.mono (by decide) (by decide)⟩
  · show Steps p.tables e below (s₁.setTop (mkF m 0 #[.val (.long v), .second] [])) _
    refine XS.lloadN X0.here hx rfl (hb hby own_d_jdk_35_method_57_code_0) rfl ?_
    refine XS.bipush X0.here hx rfl (hb hby own_d_jdk_35_method_57_code_1) ?_
    refine XS.lshr X0.here hx rfl (hb hby own_d_jdk_35_method_57_code_3) rfl ?_
    show Steps p.tables e below (s₁.setTop (mkF m 4 #[.val (.long v), .second] [(.long (v >>> ((63 : Int32) &&& 0x3f).toInt64))])) _
    refine XS.lloadN X0.here hx rfl (hb hby own_d_jdk_35_method_57_code_4) rfl ?_
    refine XS.lneg X0.here hx rfl (hb hby own_d_jdk_35_method_57_code_5) rfl ?_
    refine XS.bipush X0.here hx rfl (hb hby own_d_jdk_35_method_57_code_6) ?_
    show Steps p.tables e below (s₁.setTop (mkF m 8 #[.val (.long v), .second] [(.int (63 : Int32)), (.long (-v)), (.long (v >>> ((63 : Int32) &&& 0x3f).toInt64))])) _
    refine XS.lushr X0.here hx rfl (hb hby own_d_jdk_35_method_57_code_8) rfl ?_
    refine XS.lor X0.here hx rfl (hb hby own_d_jdk_35_method_57_code_9) rfl ?_
    refine XS.l2i X0.here hx rfl (hb hby own_d_jdk_35_method_57_code_10) rfl ?_
    show Steps p.tables e below (s₁.setTop (mkF m 11 #[.val (.long v), .second] [(.int (((v >>> ((63 : Int32) &&& 0x3f).toInt64) ||| (((-v).toUInt64 >>> ((63 : Int32) &&& 0x3f).toInt64.toUInt64).toInt64)).toInt32))])) _
    exact retI X0 hx Bd.returns (hb hby own_d_jdk_35_method_57_code_11) hr
  · show QI (.int (own_sg v)) h0 n0 _ s₁.heap _
    rw [e0]
    exact ⟨rfl, N0, rfl⟩
theorem own_d_jdk_17_method_58_code_0 : decode jdk_17_method_58_code 0 = .ok (.aload_n 0, 1) := by decide +kernel
theorem own_d_jdk_17_method_58_code_1 : decode jdk_17_method_58_code 1 = .ok (.getfield 24, 3) := by decide +kernel
theorem own_d_jdk_17_method_58_code_4 : decode jdk_17_method_58_code 4 = .ok (.ldc2_w 125, 3) := by decide +kernel
theorem own_d_jdk_17_method_58_code_7 : decode jdk_17_method_58_code 7 = .ok (.lcmp, 1) := by decide +kernel
theorem own_d_jdk_17_method_58_code_8 : decode jdk_17_method_58_code 8 = .ok (.ifCond .eq 13, 3) := by decide +kernel
theorem own_d_jdk_17_method_58_code_11 : decode jdk_17_method_58_code 11 = .ok (.aload_n 0, 1) := by decide +kernel
theorem own_d_jdk_17_method_58_code_12 : decode jdk_17_method_58_code 12 = .ok (.getfield 24, 3) := by decide +kernel
theorem own_d_jdk_17_method_58_code_15 : decode jdk_17_method_58_code 15 = .ok (.invokestatic 596, 3) := by decide +kernel
theorem own_d_jdk_17_method_58_code_18 : decode jdk_17_method_58_code 18 = .ok (.goto 10, 3) := by decide +kernel
theorem own_d_jdk_17_method_58_code_28 : decode jdk_17_method_58_code 28 = .ok (.ireturn, 1) := by decide +kernel
theorem own_ef_jdk_17_method_58_code_x (m : MethodId) (x0 : Addr) : entryFrame m #[(.ref x0)] 1 = mkF m 0 #[.val (.ref x0)] [] := by first | (simp [entryFrame, mkF, argsToLocals, Value.category]; done) | rfl
set_option maxRecDepth 65536 in
set_option maxHeartbeats 40000000 in
theorem rmSg (l : Launch) (Z : State) (a0 : Array Value) (hw : ∀ d ∈ tables_1, d.before a0 Z = true) (ws : List Jvm.Cond) (a1 : Addr) (v : Int64) (h0 : Heap) (n0 : Nat) (Z0 : n0 ≤ h0.size) (F_intCompact_a1 : Fld Z h0 a1 "java/math/BigDecimal" "intCompact" "J" (.long v)) (hv : (0 : Int64) < v) :
    MetFree l (⟨"java/math/BigDecimal", "signum", "()I"⟩ : MethodName) (head1 (Jvm.Cond.code (⟨"java/math/BigDecimal", "signum", "()I"⟩ : MethodName) jdk_17_method_58_code 1 (some .int) :: ws) ({ frames := 1, cells := 0, slots := 0, locals := 13 } : Room)) (fun a U => a = #[(.ref a1)] ∧ Z.Warmed39 U.vm ∧ U.heap = h0) (fun _ _ _ _ _ => True) (fun _ U o U' => ∃ vr_ Lr_, o = .returned vr_ ∧ QI (.int (own_sg v)) h0 n0 vr_ U'.heap Lr_ ∧ FrameEnd U o U' Lr_ 0 0) := by
  refine MetFree.of_bodySF (plainFor_of_name own_pn_java_math_BigDecimal) hisR ?_
  intro p e s m args below meth c s₁ Bd hml0 hP hK
  obtain ⟨rfl, hZ, hh⟩ := hP
  have hx := Bd.exec
  have hby := Bd.bytes
  have hml : c.maxLocals = 1 := hml0
  have hown : s.vm.findClass "java/math/BigDecimal" = some m.cls := findClass_of_methodNamed Bd.named
  have hnm := (name_of_methodNamed Bd.named Bd.method).1
  have X0 : Stand p l e ({ frames := 1, cells := 0, slots := 0, locals := 13 } : Room) s m #[(.ref a1)] below meth c s₁ [] 0 0 := Stand.of_body Bd
  have e0 : s₁.heap = h0 := by rw [← hh, Bd.state]; rfl
  have N0 := Fr.nil n0
  have pre0 : ∀ t, Steps p.tables e below (s₁.setTop (mkF m 0 #[.val (.ref a1)] [])) t → Steps p.tables e below (s₁.setTop (entryFrame m #[(.ref a1)] 1)) t := fun t k => castTop (own_ef_jdk_17_method_58_code_x m a1) k
  obtain ⟨T1, X1, e1, st1⟩ := getF X0 hx hZ hown (host := "") (Or.inl (hw _ (List.mem_of_getElem? (i := 30) rfl))) Via.refl e0 F_intCompact_a1 (g := (mkF m 1 #[.val (.ref a1)] [(.ref a1)])) rfl rfl (hb hby own_d_jdk_17_method_58_code_1)
  obtain ⟨T2, X2, e2, st2⟩ := getF X1 hx hZ hown (host := "") (Or.inl (hw _ (List.mem_of_getElem? (i := 30) rfl))) Via.refl e1 F_intCompact_a1 (g := (mkF m 12 #[.val (.ref a1)] [(.ref a1)])) rfl rfl (hb hby own_d_jdk_17_method_58_code_12)
  obtain ⟨_, _, ⟨T3, L3, k3, n3⟩, -, X3, ⟨Lc3, hQ3, l3, y3, z3⟩, st3⟩ := Jvm.LawKit.callS X2 hx (y := (⟨"java/lang/Long", "signum", "(J)I"⟩ : MethodName)) hown (mvT hZ (hw _ (List.mem_of_getElem? (i := 77) rfl))) (mvT hZ (hw _ (List.mem_of_getElem? (i := 78) rfl))) (mvT hZ (hw _ (List.mem_of_getElem? (i := 79) rfl))) (mvT hZ (hw _ (List.mem_of_getElem? (i := 80) rfl))) (by decide) (backOf (W := 0) (rmLs l Z a0 hw [] v h0 n0 (Nat.le_trans Z0 (Keep.refl h0 []).1) ) hZ (hw _ (List.mem_of_getElem? (i := 80) rfl)) (hw _ (List.mem_of_getElem? (i := 79) rfl)) (by decide) (by decide)) (g := (mkF m 15 #[.val (.ref a1)] [(.long v)])) rfl (by rw [hml]; rfl) (argsL := [(.long v)]) (rest := []) (lenOf own_pd__J_I rfl) rfl (by show 2 * 0 + _ ≤ _; exact Nat.le_of_eq rfl) (hb hby own_d_jdk_17_method_58_code_15) (fun _ _ => ⟨rfl, e2, (by decide : 0 + 0 ≤ _), (by decide : 0 + 0 ≤ _)⟩)
  dsimp only [Pt.U, Pt.locs, Pt.cells, Pt.slots] at X3 l3 y3 z3 st3 hQ3
  subst l3 y3 z3
  obtain ⟨rfl, N3q, e3q⟩ := hQ3
  have N3a := Fr.app N0 N3q
  obtain ⟨fs, hr, hrun, hended, hW, hsame⟩ := X3.leave (v := some (.int (own_sg v))) (fun h => by rw [Bd.returns] at h; cases h)
  refine ⟨_, _, pre0 _ ?_, hrun, hended, _, _, rfl, ?_, ⟨_, rfl⟩, hW, hsame.mono (by decide) (by decide)⟩
  · show Steps p.tables e below (s₁.setTop (mkF m 0 #[.val (.ref a1)] [])) _
    refine XS.aloadN X0.here hx rfl (hb hby own_d_jdk_17_method_58_code_0) rfl rfl ?_
    show Steps p.tables e below (s₁.setTop (mkF m 1 #[.val (.ref a1)] [(.ref a1)])) _
    refine st1 _ ?_
    show Steps p.tables e below (T1.setTop (mkF m 4 #[.val (.ref a1)] [(.long v)])) _
    refine X1.ldc2Long hx hown (mvT hZ (hw _ (List.mem_of_getElem? (i := 12) rfl))) (g := (mkF m 4 #[.val (.ref a1)] [(.long v)])) rfl (hb hby own_d_jdk_17_method_58_code_4) _ ?_
    refine XS.lcmp X1.here hx rfl (hb hby own_d_jdk_17_method_58_code_7) rfl ?_
    show Steps p.tables e below (T1.setTop (mkF m 8 #[.val (.ref a1)] [(.int (lcmpW v (-9223372036854775808 : Int64)))])) _
    refine XS.ifNo X1.here hx rfl (hb hby own_d_jdk_17_method_58_code_8) rfl ((if0 _ _).trans (feq (fun q => own_neM hv ((lw_eq _ _).mp q) : ¬ ((lcmpW v (-9223372036854775808 : Int64)) = (0 : Int32)))).1) ?_
    refine XS.aloadN X1.here hx rfl (hb hby own_d_jdk_17_method_58_code_11) rfl rfl ?_
    show Steps p.tables e below (T1.setTop (mkF m 12 #[.val (.ref a1)] [(.ref a1)])) _
    refine st2 _ ?_
    show Steps p.tables e below (T2.setTop (mkF m 15 #[.val (.ref a1)] [(.long v)])) _
    refine st3 _ ?_
    refine XS.goto X3.here hx rfl (pc0 := 18) (pc' := 28) rfl (hb hby own_d_jdk_17_method_58_code_18) (by decide) (by decide) ?_
    show Steps p.tables e below (T3.setTop (mkF m 28 #[.val (.ref a1)] [(.int (own_sg v))])) _
    exact retI X3 hx Bd.returns (hb hby own_d_jdk_17_method_58_code_28) hr
  · show QI (.int (own_sg v)) h0 n0 _ T3.heap _
    rw [e3q]
    exact ⟨rfl, N3a, rfl⟩
theorem own_d_jdk_31_method_11_code_0 : decode jdk_31_method_11_code 0 = .ok (.aload_n 0, 1) := by decide +kernel
theorem own_d_jdk_31_method_11_code_1 : decode jdk_31_method_11_code 1 = .ok (.ifnonnull 12, 3) := by decide +kernel
theorem own_d_jdk_31_method_11_code_13 : decode jdk_31_method_11_code 13 = .ok (.aload_n 0, 1) := by decide +kernel
theorem own_d_jdk_31_method_11_code_14 : decode jdk_31_method_11_code 14 = .ok (.areturn, 1) := by decide +kernel
theorem own_pn_java_util_Objects : plainName "java/util/Objects" = true := by first | (simp [plainName, overriddenIn]; done) | decide +kernel
theorem own_ef_jdk_31_method_11_code_xx (m : MethodId) (x0 : Addr) (x1 : Addr) : entryFrame m #[(.ref x0), (.ref x1)] 2 = mkF m 0 #[.val (.ref x0), .val (.ref x1)] [] := by first | (simp [entryFrame, mkF, argsToLocals, Value.category]; done) | rfl
set_option maxRecDepth 65536 in
set_option maxHeartbeats 40000000 in
theorem rmRn (l : Launch) (Z : State) (a0 : Array Value) (hw : ∀ d ∈ tables_1, d.before a0 Z = true) (ws : List Jvm.Cond) (a1 a2 : Addr) (h0 : Heap) (n0 : Nat) (Z0 : n0 ≤ h0.size)  :
    MetFree l (⟨"java/util/Objects", "requireNonNull", "(Ljava/lang/Object;Ljava/lang/String;)Ljava/lang/Object;"⟩ : MethodName) (head1 (Jvm.Cond.code (⟨"java/util/Objects", "requireNonNull", "(Ljava/lang/Object;Ljava/lang/String;)Ljava/lang/Object;"⟩ : MethodName) jdk_31_method_11_code 2 (some (.object "java/lang/Object")) :: ws) ({ frames := 0, cells := 0, slots := 0, locals := 0 } : Room)) (fun a U => a = #[(.ref a1), (.ref a2)] ∧ Z.Warmed39 U.vm ∧ U.heap = h0) (fun _ _ _ _ _ => True) (fun _ U o U' => ∃ vr_ Lr_, o = .returned vr_ ∧ QI (.ref a1) h0 n0 vr_ U'.heap Lr_ ∧ FrameEnd U o U' Lr_ 0 0) := by
  refine MetFree.of_bodySF (plainFor_of_name own_pn_java_util_Objects) hisR ?_
  intro p e s m args below meth c s₁ Bd hml0 hP hK
  obtain ⟨rfl, hZ, hh⟩ := hP
  have hx := Bd.exec
  have hby := Bd.bytes
  have hml : c.maxLocals = 2 := hml0
  have hown : s.vm.findClass "java/util/Objects" = some m.cls := findClass_of_methodNamed Bd.named
  have hnm := (name_of_methodNamed Bd.named Bd.method).1
  have X0 : Stand p l e ({ frames := 0, cells := 0, slots := 0, locals := 0 } : Room) s m #[(.ref a1), (.ref a2)] below meth c s₁ [] 0 0 := Stand.of_body Bd
  have e0 : s₁.heap = h0 := by rw [← hh, Bd.state]; rfl
  have N0 := Fr.nil n0
  have pre0 : ∀ t, Steps p.tables e below (s₁.setTop (mkF m 0 #[.val (.ref a1), .val (.ref a2)] [])) t → Steps p.tables e below (s₁.setTop (entryFrame m #[(.ref a1), (.ref a2)] 2)) t := fun t k => castTop (own_ef_jdk_31_method_11_code_xx m a1 a2) k
  obtain ⟨fs, hr, hrun, hended, hW, hsame⟩ := X0.leave (v := some (.ref a1)) (fun h => by rw [Bd.returns] at h; cases h)
  refine ⟨_, _, pre0 _ ?_, hrun, hended, _, _, rfl, ?_, ⟨_, rfl⟩, hW, hsame.mono (by decide) (by decide)⟩
  · show Steps p.tables e below (s₁.setTop (mkF m 0 #[.val (.ref a1), .val (.ref a2)] [])) _
    refine XS.aloadN X0.here hx rfl (hb hby own_d_jdk_31_method_11_code_0) rfl rfl ?_
    show Steps p.tables e below (s₁.setTop (mkF m 1 #[.val (.ref a1), .val (.ref a2)] [(.ref a1)])) _
    refine XS.ifnonnullYes X0.here hx rfl (pc0 := 1) (pc' := 13) rfl (hb hby own_d_jdk_31_method_11_code_1) rfl (by decide) (by decide) ?_
    refine XS.aloadN X0.here hx rfl (hb hby own_d_jdk_31_method_11_code_13) rfl rfl ?_
    show Steps p.tables e below (s₁.setTop (mkF m 14 #[.val (.ref a1), .val (.ref a2)] [(.ref a1)])) _
    jvm_step X0.here [X0.here.top, hx, (hb hby own_d_jdk_31_method_11_code_14), X0.method', Bd.returns, Value.isRef, FieldType.isReference]
    first | (intro acts; rw [hr _ acts rfl rfl rfl]) | rw [hr _ _ rfl rfl rfl]
    exact Steps.refl _
  · show QI (.ref a1) h0 n0 _ s₁.heap _
    rw [e0]
    exact ⟨rfl, N0, rfl⟩
theorem own_d_prog_24_method_19_code_0 : decode prog_24_method_19_code 0 = .ok (.aload_n 1, 1) := by decide +kernel
theorem own_d_prog_24_method_19_code_1 : decode prog_24_method_19_code 1 = .ok (.aload_n 0, 1) := by decide +kernel
theorem own_d_prog_24_method_19_code_2 : decode prog_24_method_19_code 2 = .ok (.invokestatic 162, 3) := by decide +kernel
theorem own_d_prog_24_method_19_code_5 : decode prog_24_method_19_code 5 = .ok (.pop, 1) := by decide +kernel
theorem own_d_prog_24_method_19_code_6 : decode prog_24_method_19_code 6 = .ok (.aload_n 1, 1) := by decide +kernel
theorem own_d_prog_24_method_19_code_7 : decode prog_24_method_19_code 7 = .ok (.invokevirtual 168, 3) := by decide +kernel
theorem own_d_prog_24_method_19_code_10 : decode prog_24_method_19_code 10 = .ok (.ifCond .gt 21, 3) := by decide +kernel
theorem own_d_prog_24_method_19_code_31 : decode prog_24_method_19_code 31 = .ok (.aload_n 1, 1) := by decide +kernel
theorem own_d_prog_24_method_19_code_32 : decode prog_24_method_19_code 32 = .ok (.areturn, 1) := by decide +kernel
theorem own_pd__Ljava_lang_Object_Ljava_lang_String__Ljava_lang_Object_ : parseMethodDescriptor "(Ljava/lang/Object;Ljava/lang/String;)Ljava/lang/Object;" = some ⟨[(.object "java/lang/Object"), (.object "java/lang/String")], some (.object "java/lang/Object")⟩ := by decide +kernel
theorem own_pd___I : parseMethodDescriptor "()I" = some ⟨[], some .int⟩ := by decide +kernel
theorem own_pn_com_example_floatweight_floatweight_IndexArithmetic : plainName "com/example/floatweight/floatweight/IndexArithmetic" = true := by first | (simp [plainName, overriddenIn]; done) | decide +kernel
theorem own_ef_prog_24_method_19_code_xx (m : MethodId) (x0 : Addr) (x1 : Addr) : entryFrame m #[(.ref x0), (.ref x1)] 2 = mkF m 0 #[.val (.ref x0), .val (.ref x1)] [] := by first | (simp [entryFrame, mkF, argsToLocals, Value.category]; done) | rfl
set_option maxRecDepth 65536 in
set_option maxHeartbeats 40000000 in
theorem rmRp (l : Launch) (Z : State) (a0 : Array Value) (hw : ∀ d ∈ tables_1, d.before a0 Z = true) (ws : List Jvm.Cond) (a1 a2 : Addr) (v : Int64) (h0 : Heap) (n0 : Nat) (Z0 : n0 ≤ h0.size) (E_a2 : Exa Z h0 a2 "java/math/BigDecimal") (F_intCompact_a2 : Fld Z h0 a2 "java/math/BigDecimal" "intCompact" "J" (.long v)) (hv : (0 : Int64) < v) :
    MetFree l (⟨"com/example/floatweight/floatweight/IndexArithmetic", "requirePositive", "(Ljava/lang/String;Ljava/math/BigDecimal;)Ljava/math/BigDecimal;"⟩ : MethodName) (head1 (Jvm.Cond.code (⟨"com/example/floatweight/floatweight/IndexArithmetic", "requirePositive", "(Ljava/lang/String;Ljava/math/BigDecimal;)Ljava/math/BigDecimal;"⟩ : MethodName) prog_24_method_19_code 2 (some (.object "java/math/BigDecimal")) :: ws) ({ frames := 2, cells := 0, slots := 0, locals := 25 } : Room)) (fun a U => a = #[(.ref a1), (.ref a2)] ∧ Z.Warmed39 U.vm ∧ U.heap = h0) (fun _ _ _ _ _ => True) (fun _ U o U' => ∃ vr_ Lr_, o = .returned vr_ ∧ QI (.ref a2) h0 n0 vr_ U'.heap Lr_ ∧ FrameEnd U o U' Lr_ 0 0) := by
  refine MetFree.of_bodySF (plainFor_of_name own_pn_com_example_floatweight_floatweight_IndexArithmetic) hisR ?_
  intro p e s m args below meth c s₁ Bd hml0 hP hK
  obtain ⟨rfl, hZ, hh⟩ := hP
  have hx := Bd.exec
  have hby := Bd.bytes
  have hml : c.maxLocals = 2 := hml0
  have hown : s.vm.findClass "com/example/floatweight/floatweight/IndexArithmetic" = some m.cls := findClass_of_methodNamed Bd.named
  have hnm := (name_of_methodNamed Bd.named Bd.method).1
  have X0 : Stand p l e ({ frames := 2, cells := 0, slots := 0, locals := 25 } : Room) s m #[(.ref a1), (.ref a2)] below meth c s₁ [] 0 0 := Stand.of_body Bd
  have e0 : s₁.heap = h0 := by rw [← hh, Bd.state]; rfl
  have N0 := Fr.nil n0
  have pre0 : ∀ t, Steps p.tables e below (s₁.setTop (mkF m 0 #[.val (.ref a1), .val (.ref a2)] [])) t → Steps p.tables e below (s₁.setTop (entryFrame m #[(.ref a1), (.ref a2)] 2)) t := fun t k => castTop (own_ef_prog_24_method_19_code_xx m a1 a2) k
  obtain ⟨_, _, ⟨T1, L1, k1, n1⟩, -, X1, ⟨Lc1, hQ1, l1, y1, z1⟩, st1⟩ := Jvm.LawKit.callS X0 hx (y := (⟨"java/util/Objects", "requireNonNull", "(Ljava/lang/Object;Ljava/lang/String;)Ljava/lang/Object;"⟩ : MethodName)) hown (mvT hZ (hw _ (List.mem_of_getElem? (i := 68) rfl))) (mvT hZ (hw _ (List.mem_of_getElem? (i := 69) rfl))) (mvT hZ (hw _ (List.mem_of_getElem? (i := 70) rfl))) (mvT hZ (hw _ (List.mem_of_getElem? (i := 71) rfl))) (by decide) (backOf (W := 0) (rmRn l Z a0 hw [] a2 a1 h0 n0 (Nat.le_trans Z0 (Keep.refl h0 []).1) ) hZ (hw _ (List.mem_of_getElem? (i := 71) rfl)) (hw _ (List.mem_of_getElem? (i := 70) rfl)) (by decide) (by decide)) (g := (mkF m 2 #[.val (.ref a1), .val (.ref a2)] [(.ref a1), (.ref a2)])) rfl (by rw [hml]; rfl) (argsL := [(.ref a2), (.ref a1)]) (rest := []) (lenOf own_pd__Ljava_lang_Object_Ljava_lang_String__Ljava_lang_Object_ rfl) rfl (by show 2 * 0 + _ ≤ _; exact Nat.le_of_eq rfl) (hb hby own_d_prog_24_method_19_code_2) (fun _ _ => ⟨rfl, e0, (by decide : 0 + 0 ≤ _), (by decide : 0 + 0 ≤ _)⟩)
  dsimp only [Pt.U, Pt.locs, Pt.cells, Pt.slots] at X1 l1 y1 z1 st1 hQ1
  subst l1 y1 z1
  obtain ⟨rfl, N1q, e1q⟩ := hQ1
  have N1a := Fr.app N0 N1q
  obtain ⟨cq2, kq2, q2a, q2b, q2c⟩ := isOf hZ e1q E_a2
  obtain ⟨_, _, ⟨T2, L2, k2, n2⟩, -, X2, ⟨Lc2, hQ2, l2, y2, z2⟩, st2⟩ := X1.virtualBack hx (y := (⟨"java/math/BigDecimal", "signum", "()I"⟩ : MethodName)) (z := (⟨"java/math/BigDecimal", "signum", "()I"⟩ : MethodName)) hown (mvT hZ (hw _ (List.mem_of_getElem? (i := 72) rfl))) (mvT hZ (hw _ (List.mem_of_getElem? (i := 73) rfl))) (notFace_of_selects (args := #[]) (mvT hZ (hw _ (List.mem_of_getElem? (i := 75) rfl)))) (mvT hZ (hw _ (List.mem_of_getElem? (i := 75) rfl))) (mvT hZ (hw _ (List.mem_of_getElem? (i := 74) rfl))) (by decide) (backOf (W := 0) (rmSg l Z a0 hw [] a2 v h0 n0 (Nat.le_trans Z0 (Keep.refl h0 []).1) F_intCompact_a2 hv) hZ (hw _ (List.mem_of_getElem? (i := 76) rfl)) (hw _ (List.mem_of_getElem? (i := 8) rfl)) (by decide) (by decide)) q2a q2c (g := (mkF m 7 #[.val (.ref a1), .val (.ref a2)] [(.ref a2)])) rfl (by rw [hml]; rfl) (Steps.refl _) (argsL := []) (rest := []) (lenOf own_pd___I rfl) rfl (by show 2 * 0 + _ ≤ _; exact Nat.le_of_eq rfl) (hb hby own_d_prog_24_method_19_code_7) (fun _ _ => ⟨rfl, e1q, (by decide : 0 + 0 ≤ _), (by decide : 0 + 0 ≤ _)⟩)
  dsimp only [Pt.U, Pt.locs, Pt.cells, Pt.slots] at X2 l2 y2 z2 st2 hQ2
  subst l2 y2 z2
  obtain ⟨rfl, N2q, e2q⟩ := hQ2
  have N2a := Fr.app N1a N2q
  obtain ⟨fs, hr, hrun, hended, hW, hsame⟩ := X2.leave (v := some (.ref a2)) (fun h => by rw [Bd.returns] at h; cases h)
  refine ⟨_, _, pre0 _ ?_, hrun, hended, _, _, rfl, ?_, ⟨_, rfl⟩, hW, hsame.mono (by decide) (by decide)⟩
  · show Steps p.tables e below (s₁.setTop (mkF m 0 #[.val (.ref a1), .val (.ref a2)] [])) _
    refine XS.aloadN X0.here hx rfl (hb hby own_d_prog_24_method_19_code_0) rfl rfl ?_
    refine XS.aloadN X0.here hx rfl (hb hby own_d_prog_24_method_19_code_1) rfl rfl ?_
    show Steps p.tables e below (s₁.setTop (mkF m 2 #[.val (.ref a1), .val (.ref a2)] [(.ref a1), (.ref a2)])) _
    refine st1 _ ?_
    refine XS.pop X1.here hx rfl (hb hby own_d_prog_24_method_19_code_5) rfl rfl ?_
    refine XS.aloadN X1.here hx rfl (hb hby own_d_prog_24_method_19_code_6) rfl rfl ?_
    show Steps p.tables e below (T1.setTop (mkF m 7 #[.val (.ref a1), .val (.ref a2)] [(.ref a2)])) _
    refine st2.trans ?_
    show Steps p.tables e below (T2.setTop (mkF m 10 #[.val (.ref a1), .val (.ref a2)] [(.int (own_sg v))])) _
    refine XS.ifYes X2.here hx rfl (pc0 := 10) (pc' := 31) rfl (hb hby own_d_prog_24_method_19_code_10) rfl ((if0 _ _).trans (tlt (own_sg_pos hv : (0 : Int32) < (own_sg v))).2.2.1) (by decide) (by decide) ?_
    refine XS.aloadN X2.here hx rfl (hb hby own_d_prog_24_method_19_code_31) rfl rfl ?_
    show Steps p.tables e below (T2.setTop (mkF m 32 #[.val (.ref a1), .val (.ref a2)] [(.ref a2)])) _
    jvm_step X2.here [X2.here.top, hx, (hb hby own_d_prog_24_method_19_code_32), X2.method', Bd.returns, Value.isRef, FieldType.isReference]
    first | (intro acts; rw [hr _ acts rfl rfl rfl]) | rw [hr _ _ rfl rfl rfl]
    exact Steps.refl _
  · show QI (.ref a2) h0 n0 _ T2.heap _
    rw [e2q]
    exact ⟨rfl, N2a, rfl⟩
theorem own_d_prog_48_method_1_code_0 : decode prog_48_method_1_code 0 = .ok (.aload_n 0, 1) := by decide +kernel
theorem own_d_prog_48_method_1_code_1 : decode prog_48_method_1_code 1 = .ok (.invokespecial 1, 3) := by decide +kernel
theorem own_d_prog_48_method_1_code_4 : decode prog_48_method_1_code 4 = .ok (.aload_n 0, 1) := by decide +kernel
theorem own_d_prog_48_method_1_code_5 : decode prog_48_method_1_code 5 = .ok (.iload_n 1, 1) := by decide +kernel
theorem own_d_prog_48_method_1_code_6 : decode prog_48_method_1_code 6 = .ok (.newarray .long, 2) := by decide +kernel
theorem own_d_prog_48_method_1_code_8 : decode prog_48_method_1_code 8 = .ok (.putfield 7, 3) := by decide +kernel
theorem own_d_prog_48_method_1_code_11 : decode prog_48_method_1_code 11 = .ok (.aload_n 0, 1) := by decide +kernel
theorem own_d_prog_48_method_1_code_12 : decode prog_48_method_1_code 12 = .ok (.iload_n 1, 1) := by decide +kernel
theorem own_d_prog_48_method_1_code_13 : decode prog_48_method_1_code 13 = .ok (.newarray .int, 2) := by decide +kernel
theorem own_d_prog_48_method_1_code_15 : decode prog_48_method_1_code 15 = .ok (.putfield 13, 3) := by decide +kernel
theorem own_d_prog_48_method_1_code_18 : decode prog_48_method_1_code 18 = .ok (.return_, 1) := by decide +kernel
theorem own_pn_com_example_floatweight_floatweight_Prices : plainName "com/example/floatweight/floatweight/Prices" = true := by first | (simp [plainName, overriddenIn]; done) | decide +kernel
theorem own_ef_prog_48_method_1_code_xx (m : MethodId) (x0 : Addr) (x1 : Int32) : entryFrame m #[(.ref x0), (.int x1)] 2 = mkF m 0 #[.val (.ref x0), .val (.int x1)] [] := by first | (simp [entryFrame, mkF, argsToLocals, Value.category]; done) | rfl
set_option maxRecDepth 65536 in
set_option maxHeartbeats 40000000 in
theorem rmPi (l : Launch) (Z : State) (a0 : Array Value) (hw : ∀ d ∈ tables_1, d.before a0 Z = true) (ws : List Jvm.Cond) (a1 : Addr) (h0 : Heap) (n0 : Nat) (Z0 : n0 ≤ h0.size) (E_a1 : Exa Z h0 a1 "com/example/floatweight/floatweight/Prices") (g_a1 : n0 ≤ a1) (F_mUnscaled_a1 : Fld Z h0 a1 "com/example/floatweight/floatweight/Prices" "mUnscaled" "[J" .null) (F_mScales_a1 : Fld Z h0 a1 "com/example/floatweight/floatweight/Prices" "mScales" "[I" .null) (F_mWhole_a1 : Fld Z h0 a1 "com/example/floatweight/floatweight/Prices" "mWhole" "[Ljava/math/BigDecimal;" .null) :
    MetFree l (⟨"com/example/floatweight/floatweight/Prices", "<init>", "(I)V"⟩ : MethodName) (head1 (Jvm.Cond.code (⟨"com/example/floatweight/floatweight/Prices", "<init>", "(I)V"⟩ : MethodName) prog_48_method_1_code 2 none :: ws) ({ frames := 1, cells := 2, slots := 6, locals := 12 } : Room)) (fun a U => a = #[(.ref a1), (.int (3 : Int32))] ∧ Z.Warmed39 U.vm ∧ U.heap = h0) (fun _ _ _ _ _ => True) (fun _ U o U' => ∃ vr_ Lr_, o = .returned vr_ ∧ QPi Z a1 h0 n0 vr_ U'.heap Lr_ ∧ FrameEnd U o U' Lr_ 2 6) := by
  refine MetFree.of_bodySF (plainFor_of_name own_pn_com_example_floatweight_floatweight_Prices) hisR ?_
  intro p e s m args below meth c s₁ Bd hml0 hP hK
  obtain ⟨rfl, hZ, hh⟩ := hP
  have hx := Bd.exec
  have hby := Bd.bytes
  have hml : c.maxLocals = 2 := hml0
  have hown : s.vm.findClass "com/example/floatweight/floatweight/Prices" = some m.cls := findClass_of_methodNamed Bd.named
  have hnm := (name_of_methodNamed Bd.named Bd.method).1
  have X0 : Stand p l e ({ frames := 1, cells := 2, slots := 6, locals := 12 } : Room) s m #[(.ref a1), (.int (3 : Int32))] below meth c s₁ [] 0 0 := Stand.of_body Bd
  have e0 : s₁.heap = h0 := by rw [← hh, Bd.state]; rfl
  have N0 := Fr.nil n0
  have pre0 : ∀ t, Steps p.tables e below (s₁.setTop (mkF m 0 #[.val (.ref a1), .val (.int (3 : Int32))] [])) t → Steps p.tables e below (s₁.setTop (entryFrame m #[(.ref a1), (.int (3 : Int32))] 2)) t := fun t k => castTop (own_ef_prog_48_method_1_code_xx m a1 (3 : Int32)) k
  obtain ⟨T1, X1, e1, st1⟩ := initO X0 hx hZ hown (hw _ (List.mem_of_getElem? (i := 44) rfl)) (hw _ (List.mem_of_getElem? (i := 24) rfl)) (hw _ (List.mem_of_getElem? (i := 25) rfl)) e0 (g := (mkF m 1 #[.val (.ref a1), .val (.int (3 : Int32))] [(.ref a1)])) rfl (by rw [hml]; rfl) rfl (hb hby own_d_prog_48_method_1_code_1) (by decide) (W := 0) (by show 2 * 0 + _ ≤ _; exact Nat.le_of_eq rfl) (by decide)
  obtain ⟨T2, h2, ka2, X2, e2, E2, A2, st2⟩ := newP X1 hx hZ (hw _ (List.mem_of_getElem? (i := 45) rfl)) e1 (g := (mkF m 6 #[.val (.ref a1), .val (.int (3 : Int32))] [(.int (3 : Int32)), (.ref a1)])) rfl (hb hby own_d_prog_48_method_1_code_6) rfl (by decide) (cap := 3) (by decide) (by decide) (by decide) (by decide)
  obtain ⟨b2, g2⟩ : ∃ z, z = h0.size := ⟨_, rfl⟩
  rw [← g2] at A2 st2
  have sz_b2 : h0.size ≤ b2 := Nat.le_trans (Keep.refl h0 [a1]).1 (Nat.le_of_eq g2.symm)
  have g_b2 : n0 ≤ b2 := Nat.le_trans Z0 sz_b2
  have K1 : Keep h0 h2 [a1] := (Keep.refl h0 [a1]).ext E2
  have V_b2 : Arv Z h2 b2 ka2 .long (3 : Int32) [(.long (0 : Int64)), (.long (0 : Int64)), (.long (0 : Int64))] (.long (0 : Int64)) := (Arv.new A2 (by decide)).pad (pad_rep [] (.long (0 : Int64)) 3)
  have f3 : Fld Z h2 a1 "com/example/floatweight/floatweight/Prices" "mUnscaled" "[J" .null := (F_mUnscaled_a1.ext E2)
  have f4 : Exa Z h2 a1 "com/example/floatweight/floatweight/Prices" := (E_a1.ext E2)
  obtain ⟨T5, h5, X5, e5, W5, st5⟩ := putF X2 hx hZ hown (host := "") (Or.inl (hw _ (List.mem_of_getElem? (i := 46) rfl))) Via.refl e2 f3 f4 (Or.inr ⟨(hw _ (List.mem_of_getElem? (i := 47) rfl)), rfl, hnm⟩) (hw _ (List.mem_of_getElem? (i := 39) rfl)) (ty := (.array .long)) (by decide) rfl rfl (g := (mkF m 8 #[.val (.ref a1), .val (.int (3 : Int32))] [(.ref b2), (.ref a1)])) rfl rfl (hb hby own_d_prog_48_method_1_code_8)
  have Fw5 := f3.same W5
  have Nf5 := Fr.snoc X5 N0 g_a1
  have K2 : Keep h0 h5 [a1] := K1.wr W5 (Or.inl (List.mem_of_getElem? (i := 0) rfl))
  obtain ⟨T6, h6, ka6, X6, e6, E6, A6, st6⟩ := newP X5 hx hZ (hw _ (List.mem_of_getElem? (i := 48) rfl)) e5 (g := (mkF m 13 #[.val (.ref a1), .val (.int (3 : Int32))] [(.int (3 : Int32)), (.ref a1)])) rfl (hb hby own_d_prog_48_method_1_code_13) rfl (by decide) (cap := 3) (by decide) (by decide) (by decide) (by decide)
  obtain ⟨b6, g6⟩ : ∃ z, z = h5.size := ⟨_, rfl⟩
  rw [← g6] at A6 st6
  have sz_b6 : h0.size ≤ b6 := Nat.le_trans K2.1 (Nat.le_of_eq g6.symm)
  have g_b6 : n0 ≤ b6 := Nat.le_trans Z0 sz_b6
  have K3 : Keep h0 h6 [a1] := K2.ext E6
  have V_b6 : Arv Z h6 b6 ka6 .int (3 : Int32) [(.int (0 : Int32)), (.int (0 : Int32)), (.int (0 : Int32))] (.int (0 : Int32)) := (Arv.new A6 (by decide)).pad (pad_rep [] (.int (0 : Int32)) 3)
  have f7 : Fld Z h6 a1 "com/example/floatweight/floatweight/Prices" "mScales" "[I" .null := (((F_mScales_a1.ext E2).other W5 (Or.inr (slot_ne (Or.inr (hw _ (List.mem_of_getElem? (i := 50) rfl))) (Or.inr (hw _ (List.mem_of_getElem? (i := 47) rfl))) (by decide) (t := (.array .int)) (t' := (.array .long)) (by decide) (by decide)))).ext E6)
  have f8 : Exa Z h6 a1 "com/example/floatweight/floatweight/Prices" := ((f4.wr W5).ext E6)
  obtain ⟨T9, h9, X9, e9, W9, st9⟩ := putF X6 hx hZ hown (host := "") (Or.inl (hw _ (List.mem_of_getElem? (i := 49) rfl))) Via.refl e6 f7 f8 (Or.inr ⟨(hw _ (List.mem_of_getElem? (i := 50) rfl)), rfl, hnm⟩) (hw _ (List.mem_of_getElem? (i := 39) rfl)) (ty := (.array .int)) (by decide) rfl rfl (g := (mkF m 15 #[.val (.ref a1), .val (.int (3 : Int32))] [(.ref b6), (.ref a1)])) rfl rfl (hb hby own_d_prog_48_method_1_code_15)
  have Fw9 := f7.same W9
  have Nf9 := Fr.snoc X9 Nf5 g_a1
  have K4 : Keep h0 h9 [a1] := K3.wr W9 (Or.inl (List.mem_of_getElem? (i := 0) rfl))
  have f10 : Arv Z h5 b2 ka2 .long (3 : Int32) [(.long (0 : Int64)), (.long (0 : Int64)), (.long (0 : Int64))] (.long (0 : Int64)) := (V_b2.other W5 (Ne.symm (Nat.ne_of_lt (Nat.lt_of_lt_of_le E_a1.lt (Nat.le_of_eq g2.symm)))))
  have f11 : Exa Z h9 a1 "com/example/floatweight/floatweight/Prices" := (f8.wr W9)
  have f12 : Fld Z h9 a1 "com/example/floatweight/floatweight/Prices" "mUnscaled" "[J" (.ref b2) := ((Fw5.ext E6).other W9 (Or.inr (slot_ne (Or.inr (hw _ (List.mem_of_getElem? (i := 47) rfl))) (Or.inr (hw _ (List.mem_of_getElem? (i := 50) rfl))) (by decide) (t := (.array .long)) (t' := (.array .int)) (by decide) (by decide))))
  have f13 : Arv Z h9 b2 ka2 .long (3 : Int32) [(.long (0 : Int64)), (.long (0 : Int64)), (.long (0 : Int64))] (.long (0 : Int64)) := ((f10.ext E6).other W9 (Ne.symm (Nat.ne_of_lt (Nat.lt_of_lt_of_le E_a1.lt (Nat.le_of_eq g2.symm)))))
  have f14 : Exa Z h5 a1 "com/example/floatweight/floatweight/Prices" := (f4.wr W5)
  have f15 : Arv Z h9 b6 ka6 .int (3 : Int32) [(.int (0 : Int32)), (.int (0 : Int32)), (.int (0 : Int32))] (.int (0 : Int32)) := (V_b6.other W9 (Ne.symm (Nat.ne_of_lt (Nat.lt_of_lt_of_le f14.lt (Nat.le_of_eq g6.symm)))))
  have f16 : Fld Z h9 a1 "com/example/floatweight/floatweight/Prices" "mWhole" "[Ljava/math/BigDecimal;" .null := ((((F_mWhole_a1.ext E2).other W5 (Or.inr (slot_ne (Or.inl (hw _ (List.mem_of_getElem? (i := 121) rfl))) (Or.inr (hw _ (List.mem_of_getElem? (i := 47) rfl))) (by decide) (t := (.array (.object "java/math/BigDecimal"))) (t' := (.array .long)) (by decide) (by decide)))).ext E6).other W9 (Or.inr (slot_ne (Or.inl (hw _ (List.mem_of_getElem? (i := 121) rfl))) (Or.inr (hw _ (List.mem_of_getElem? (i := 50) rfl))) (by decide) (t := (.array (.object "java/math/BigDecimal"))) (t' := (.array .int)) (by decide) (by decide))))
  obtain ⟨fs, hr, hrun, hended, hW, hsame⟩ := X9.leave (v := none) (fun _ => rfl)
  refine ⟨_, _, pre0 _ ?_, hrun, hended, _, _, rfl, ?_, ⟨_, rfl⟩, hW, hsame.mono (by decide) (by decide)⟩
  · show Steps p.tables e below (s₁.setTop (mkF m 0 #[.val (.ref a1), .val (.int (3 : Int32))] [])) _
    refine XS.aloadN X0.here hx rfl (hb hby own_d_prog_48_method_1_code_0) rfl rfl ?_
    show Steps p.tables e below (s₁.setTop (mkF m 1 #[.val (.ref a1), .val (.int (3 : Int32))] [(.ref a1)])) _
    refine st1 _ ?_
    refine XS.aloadN X1.here hx rfl (hb hby own_d_prog_48_method_1_code_4) rfl rfl ?_
    refine XS.iloadN X1.here hx rfl (hb hby own_d_prog_48_method_1_code_5) rfl ?_
    show Steps p.tables e below (T1.setTop (mkF m 6 #[.val (.ref a1), .val (.int (3 : Int32))] [(.int (3 : Int32)), (.ref a1)])) _
    refine st2 _ ?_
    show Steps p.tables e below (T2.setTop (mkF m 8 #[.val (.ref a1), .val (.int (3 : Int32))] [(.ref b2), (.ref a1)])) _
    refine st5 _ ?_
    refine XS.aloadN X5.here hx rfl (hb hby own_d_prog_48_method_1_code_11) rfl rfl ?_
    refine XS.iloadN X5.here hx rfl (hb hby own_d_prog_48_method_1_code_12) rfl ?_
    show Steps p.tables e below (T5.setTop (mkF m 13 #[.val (.ref a1), .val (.int (3 : Int32))] [(.int (3 : Int32)), (.ref a1)])) _
    refine st6 _ ?_
    show Steps p.tables e below (T6.setTop (mkF m 15 #[.val (.ref a1), .val (.int (3 : Int32))] [(.ref b6), (.ref a1)])) _
    refine st9 _ ?_
    show Steps p.tables e below (T9.setTop (mkF m 18 #[.val (.ref a1), .val (.int (3 : Int32))] [])) _
    exact X9.returnOut hx Bd.returns (hb hby own_d_prog_48_method_1_code_18) hr
  · show QPi Z a1 h0 n0 _ T9.heap _
    rw [e9]
    exact ⟨rfl, Nf9, K4, b2, b6, ka2, ka6, g_a1, g_b2, g_b6, (Nat.ne_of_lt (Nat.lt_of_lt_of_le f10.lt (Nat.le_of_eq g6.symm))), f11, f12, Fw9, f13, f15, Or.inl ⟨f16, rfl, rfl, rfl⟩⟩
theorem own_d_prog_48_method_6_code_0 : decode prog_48_method_6_code 0 = .ok (.ldc 44, 2) := by decide +kernel
theorem own_d_prog_48_method_6_code_2 : decode prog_48_method_6_code 2 = .ok (.aload_n 2, 1) := by decide +kernel
theorem own_d_prog_48_method_6_code_3 : decode prog_48_method_6_code 3 = .ok (.invokestatic 46, 3) := by decide +kernel
theorem own_d_prog_48_method_6_code_6 : decode prog_48_method_6_code 6 = .ok (.pop, 1) := by decide +kernel
theorem own_d_prog_48_method_6_code_7 : decode prog_48_method_6_code 7 = .ok (.aload_n 2, 1) := by decide +kernel
theorem own_d_prog_48_method_6_code_8 : decode prog_48_method_6_code 8 = .ok (.invokevirtual 52, 3) := by decide +kernel
theorem own_d_prog_48_method_6_code_11 : decode prog_48_method_6_code 11 = .ok (.bipush 18, 2) := by decide +kernel
theorem own_d_prog_48_method_6_code_13 : decode prog_48_method_6_code 13 = .ok (.if_icmp .gt 33, 3) := by decide +kernel
theorem own_d_prog_48_method_6_code_16 : decode prog_48_method_6_code 16 = .ok (.aload_n 0, 1) := by decide +kernel
theorem own_d_prog_48_method_6_code_17 : decode prog_48_method_6_code 17 = .ok (.getfield 7, 3) := by decide +kernel
theorem own_d_prog_48_method_6_code_20 : decode prog_48_method_6_code 20 = .ok (.iload_n 1, 1) := by decide +kernel
theorem own_d_prog_48_method_6_code_21 : decode prog_48_method_6_code 21 = .ok (.aload_n 2, 1) := by decide +kernel
theorem own_d_prog_48_method_6_code_22 : decode prog_48_method_6_code 22 = .ok (.aload_n 2, 1) := by decide +kernel
theorem own_d_prog_48_method_6_code_23 : decode prog_48_method_6_code 23 = .ok (.invokevirtual 57, 3) := by decide +kernel
theorem own_d_prog_48_method_6_code_26 : decode prog_48_method_6_code 26 = .ok (.invokevirtual 60, 3) := by decide +kernel
theorem own_d_prog_48_method_6_code_29 : decode prog_48_method_6_code 29 = .ok (.invokevirtual 64, 3) := by decide +kernel
theorem own_d_prog_48_method_6_code_32 : decode prog_48_method_6_code 32 = .ok (.lastore, 1) := by decide +kernel
theorem own_d_prog_48_method_6_code_33 : decode prog_48_method_6_code 33 = .ok (.aload_n 0, 1) := by decide +kernel
theorem own_d_prog_48_method_6_code_34 : decode prog_48_method_6_code 34 = .ok (.getfield 13, 3) := by decide +kernel
theorem own_d_prog_48_method_6_code_37 : decode prog_48_method_6_code 37 = .ok (.iload_n 1, 1) := by decide +kernel
theorem own_d_prog_48_method_6_code_38 : decode prog_48_method_6_code 38 = .ok (.aload_n 2, 1) := by decide +kernel
theorem own_d_prog_48_method_6_code_39 : decode prog_48_method_6_code 39 = .ok (.invokevirtual 57, 3) := by decide +kernel
theorem own_d_prog_48_method_6_code_42 : decode prog_48_method_6_code 42 = .ok (.iastore, 1) := by decide +kernel
theorem own_d_prog_48_method_6_code_43 : decode prog_48_method_6_code 43 = .ok (.goto 43, 3) := by decide +kernel
theorem own_d_prog_48_method_6_code_46 : decode prog_48_method_6_code 46 = .ok (.aload_n 0, 1) := by decide +kernel
theorem own_d_prog_48_method_6_code_47 : decode prog_48_method_6_code 47 = .ok (.getfield 7, 3) := by decide +kernel
theorem own_d_prog_48_method_6_code_50 : decode prog_48_method_6_code 50 = .ok (.iload_n 1, 1) := by decide +kernel
theorem own_d_prog_48_method_6_code_51 : decode prog_48_method_6_code 51 = .ok (.lconst 0, 1) := by decide +kernel
theorem own_d_prog_48_method_6_code_52 : decode prog_48_method_6_code 52 = .ok (.lastore, 1) := by decide +kernel
theorem own_d_prog_48_method_6_code_53 : decode prog_48_method_6_code 53 = .ok (.aload_n 0, 1) := by decide +kernel
theorem own_d_prog_48_method_6_code_54 : decode prog_48_method_6_code 54 = .ok (.aload_n 0, 1) := by decide +kernel
theorem own_d_prog_48_method_6_code_55 : decode prog_48_method_6_code 55 = .ok (.getfield 36, 3) := by decide +kernel
theorem own_d_prog_48_method_6_code_58 : decode prog_48_method_6_code 58 = .ok (.ifnonnull 14, 3) := by decide +kernel
theorem own_d_prog_48_method_6_code_61 : decode prog_48_method_6_code 61 = .ok (.aload_n 0, 1) := by decide +kernel
theorem own_d_prog_48_method_6_code_62 : decode prog_48_method_6_code 62 = .ok (.getfield 7, 3) := by decide +kernel
theorem own_d_prog_48_method_6_code_65 : decode prog_48_method_6_code 65 = .ok (.arraylength, 1) := by decide +kernel
theorem own_d_prog_48_method_6_code_66 : decode prog_48_method_6_code 66 = .ok (.anewarray 30, 3) := by decide +kernel
theorem own_d_prog_48_method_6_code_69 : decode prog_48_method_6_code 69 = .ok (.goto 7, 3) := by decide +kernel
theorem own_d_prog_48_method_6_code_76 : decode prog_48_method_6_code 76 = .ok (.putfield 36, 3) := by decide +kernel
theorem own_d_prog_48_method_6_code_79 : decode prog_48_method_6_code 79 = .ok (.aload_n 0, 1) := by decide +kernel
theorem own_d_prog_48_method_6_code_80 : decode prog_48_method_6_code 80 = .ok (.getfield 36, 3) := by decide +kernel
theorem own_d_prog_48_method_6_code_83 : decode prog_48_method_6_code 83 = .ok (.iload_n 1, 1) := by decide +kernel
theorem own_d_prog_48_method_6_code_84 : decode prog_48_method_6_code 84 = .ok (.aload_n 2, 1) := by decide +kernel
theorem own_d_prog_48_method_6_code_85 : decode prog_48_method_6_code 85 = .ok (.aastore, 1) := by decide +kernel
theorem own_d_prog_48_method_6_code_86 : decode prog_48_method_6_code 86 = .ok (.return_, 1) := by decide +kernel
theorem own_pd__Ljava_lang_String_Ljava_math_BigDecimal__Ljava_math_BigDecimal_ : parseMethodDescriptor "(Ljava/lang/String;Ljava/math/BigDecimal;)Ljava/math/BigDecimal;" = some ⟨[(.object "java/lang/String"), (.object "java/math/BigDecimal")], some (.object "java/math/BigDecimal")⟩ := by decide +kernel
theorem own_pd__I_Ljava_math_BigDecimal_ : parseMethodDescriptor "(I)Ljava/math/BigDecimal;" = some ⟨[.int], some (.object "java/math/BigDecimal")⟩ := by decide +kernel
theorem own_pd___J : parseMethodDescriptor "()J" = some ⟨[], some .long⟩ := by decide +kernel
theorem own_ef_prog_48_method_6_code_xxx (m : MethodId) (x0 : Addr) (x1 : Int32) (x2 : Addr) : entryFrame m #[(.ref x0), (.int x1), (.ref x2)] 3 = mkF m 0 #[.val (.ref x0), .val (.int x1), .val (.ref x2)] [] := by first | (simp [entryFrame, mkF, argsToLocals, Value.category]; done) | rfl
set_option maxRecDepth 65536 in
set_option maxHeartbeats 40000000 in
theorem rs0n (l : Launch) (Z : State) (a0 : Array Value) (hw : ∀ d ∈ tables_1, d.before a0 Z = true) (ws : List Jvm.Cond) (hEL : EW Z a0 own_EL) (a1 a2 ua sa : Addr) (ka kb : ClassId) (u0 u1 u2 : Int64) (c0 c1 c2 : Int32) (w0 w1 w2 : Value) (v : Int64) (s_ : Int32) (h0 : Heap) (n0 : Nat) (Z0 : n0 ≤ h0.size) (E_a1 : Exa Z h0 a1 "com/example/floatweight/floatweight/Prices") (F_mUnscaled_a1 : Fld Z h0 a1 "com/example/floatweight/floatweight/Prices" "mUnscaled" "[J" (.ref ua)) (F_mScales_a1 : Fld Z h0 a1 "com/example/floatweight/floatweight/Prices" "mScales" "[I" (.ref sa)) (F_mWhole_a1 : Fld Z h0 a1 "com/example/floatweight/floatweight/Prices" "mWhole" "[Ljava/math/BigDecimal;" .null) (V_ua : Arv Z h0 ua ka .long (3 : Int32) [(.long u0), (.long u1), (.long u2)] (.long (0 : Int64))) (V_sa : Arv Z h0 sa kb .int (3 : Int32) [(.int c0), (.int c1), (.int c2)] (.int (0 : Int32))) (n_us : ua ≠ sa) (g_a1 : n0 ≤ a1) (g_ua : n0 ≤ ua) (g_sa : n0 ≤ sa) (B_a2 : BD Z n0 h0 a2 v s_) (hv : (0 : Int64) < v) (hTP : TPT Z) (O0 : Old Z n0 h0) (hw0 : w0 = .null) (hw1 : w1 = .null) (hw2 : w2 = .null) :
    MetFree l (⟨"com/example/floatweight/floatweight/Prices", "set", "(ILjava/math/BigDecimal;)V"⟩ : MethodName) (head1 (Jvm.Cond.code (⟨"com/example/floatweight/floatweight/Prices", "set", "(ILjava/math/BigDecimal;)V"⟩ : MethodName) prog_48_method_6_code 3 none :: ws) ({ frames := 4, cells := 3, slots := 29, locals := 59 } : Room)) (fun a U => a = #[(.ref a1), (.int (0 : Int32)), (.ref a2)] ∧ Z.Warmed39 U.vm ∧ U.heap = h0 ∧ CHv Z own_EL U.vm h0) (fun _ _ _ _ _ => True) (fun _ U o U' => ∃ vr_ Lr_, o = .returned vr_ ∧ QS0 Z a1 u1 u2 c1 c2 w1 w2 v s_ h0 n0 vr_ U'.heap Lr_ ∧ CHr Z own_EL U.vm U.heap U'.vm U'.heap ∧ ReturnedEndW U o U' Lr_ 3 29) := by
  refine MetFree.of_bodySF (plainFor_of_name own_pn_com_example_floatweight_floatweight_Prices) hisR ?_
  intro p e s m args below meth c s₁ Bd hml0 hP hK
  obtain ⟨rfl, hZ, hh, hCH0⟩ := hP
  have hx := Bd.exec
  have hby := Bd.bytes
  have hml : c.maxLocals = 3 := hml0
  have hown : s.vm.findClass "com/example/floatweight/floatweight/Prices" = some m.cls := findClass_of_methodNamed Bd.named
  have hnm := (name_of_methodNamed Bd.named Bd.method).1
  have X0 : Stand p l e ({ frames := 4, cells := 3, slots := 29, locals := 59 } : Room) (s.setVm s.vm) m #[(.ref a1), (.int (0 : Int32)), (.ref a2)] below meth c s₁ [] 0 0 := Stand.of_body Bd
  have e0 : s₁.heap = h0 := by rw [← hh, Bd.state]; rfl
  have N0 := Fr.nil n0
  have CH0 : CHr Z own_EL s.vm h0 s.vm h0 := CHr.refl hCH0
  have hS0 : s.Since s.vm 0 := State.WarmedH.since (State.WarmedH.refl s) 0
  have pre0 : ∀ t, Steps p.tables e below (s₁.setTop (mkF m 0 #[.val (.ref a1), .val (.int (0 : Int32)), .val (.ref a2)] [])) t → Steps p.tables e below (s₁.setTop (entryFrame m #[(.ref a1), (.int (0 : Int32)), (.ref a2)] 3)) t := fun t k => castTop (own_ef_prog_48_method_6_code_xxx m a1 (0 : Int32) a2) k
  obtain ⟨lit1, T1, h1, kl1, X1, e1, E1, hS1, hk1, hZ1, hown1, C1, Lt1, st1⟩ := ldcOH X0 hx hZ hown (hw _ (List.mem_of_getElem? (i := 56) rfl)) (own_wS hw) e0 hS0 (Nat.zero_le _) hEL CH0.1 (g := (mkF m 0 #[.val (.ref a1), .val (.int (0 : Int32)), .val (.ref a2)] [])) rfl (hb hby own_d_prog_48_method_6_code_0) (n := 20) (by decide) (by decide) (by decide) (by decide)
  have CH1 : CHr Z own_EL s.vm h0 T1.vm h1 := CH0.trans C1
  have K1 : Keep h0 h1 (own_fr n0 h0) := (Keep.refl h0 (own_fr n0 h0)).ext E1
  have f3 : BD Z n0 h1 a2 v s_ := ((Pres.ofExt E1) _ _ _ B_a2)
  obtain ⟨_, _, ⟨T2, L2, k2, n2⟩, -, X2, ⟨Lc2, hQ2, l2, y2, z2⟩, st2⟩ := Jvm.LawKit.callS X1 hx (y := (⟨"com/example/floatweight/floatweight/IndexArithmetic", "requirePositive", "(Ljava/lang/String;Ljava/math/BigDecimal;)Ljava/math/BigDecimal;"⟩ : MethodName)) hown1 (mvT hZ1 (hw _ (List.mem_of_getElem? (i := 64) rfl))) (mvT hZ1 (hw _ (List.mem_of_getElem? (i := 65) rfl))) (mvT hZ1 (hw _ (List.mem_of_getElem? (i := 66) rfl))) (mvT hZ1 (hw _ (List.mem_of_getElem? (i := 67) rfl))) (by decide) (backOf (W := 0) (rmRp l Z a0 hw [] lit1 a2 v h1 n0 (Nat.le_trans Z0 K1.1) f3.1 f3.2.2.1 hv) hZ1 (hw _ (List.mem_of_getElem? (i := 67) rfl)) (hw _ (List.mem_of_getElem? (i := 66) rfl)) (by decide) (by decide)) (g := (mkF m 3 #[.val (.ref a1), .val (.int (0 : Int32)), .val (.ref a2)] [(.ref a2), (.ref lit1)])) rfl (by rw [hml]; rfl) (argsL := [(.ref lit1), (.ref a2)]) (rest := []) (lenOf own_pd__Ljava_lang_String_Ljava_math_BigDecimal__Ljava_math_BigDecimal_ rfl) rfl (by show 2 * 0 + _ ≤ _; exact Nat.le_of_eq rfl) (hb hby own_d_prog_48_method_6_code_3) (fun _ _ => ⟨rfl, e1, (by decide : 2 + 0 ≤ _), (by decide : 24 + 0 ≤ _)⟩)
  dsimp only [Pt.U, Pt.locs, Pt.cells, Pt.slots] at X2 l2 y2 z2 st2 hQ2
  subst l2 y2 z2
  obtain ⟨rfl, N2q, e2q⟩ := hQ2
  have N2a := Fr.app N0 N2q
  have f5 : Old Z n0 h1 := (O0.ext E1)
  have f6 : Exa Z h1 a2 "java/math/BigDecimal" := (B_a2.1.ext E1)
  obtain ⟨cq4, kq4, q4a, q4b, q4c⟩ := isOf hZ1 e2q f6
  obtain ⟨_, _, ⟨T4, L4, k4, n4⟩, -, X4, ⟨Lc4, hQ4, l4, y4, z4⟩, st4⟩ := X2.virtualBack hx (y := (⟨"java/math/BigDecimal", "precision", "()I"⟩ : MethodName)) (z := (⟨"java/math/BigDecimal", "precision", "()I"⟩ : MethodName)) hown1 (mvT hZ1 (hw _ (List.mem_of_getElem? (i := 81) rfl))) (mvT hZ1 (hw _ (List.mem_of_getElem? (i := 82) rfl))) (notFace_of_selects (args := #[]) (mvT hZ1 (hw _ (List.mem_of_getElem? (i := 84) rfl)))) (mvT hZ1 (hw _ (List.mem_of_getElem? (i := 84) rfl))) (mvT hZ1 (hw _ (List.mem_of_getElem? (i := 83) rfl))) (by decide) (backOf (W := 0) (rmPr l Z a0 hw [] a2 v s_ h1 n0 (Nat.le_trans Z0 K1.1) f3 hv hTP f5) hZ1 (hw _ (List.mem_of_getElem? (i := 85) rfl)) (hw _ (List.mem_of_getElem? (i := 8) rfl)) (by decide) (by decide)) q4a q4c (g := (mkF m 8 #[.val (.ref a1), .val (.int (0 : Int32)), .val (.ref a2)] [(.ref a2)])) rfl (by rw [hml]; rfl) (Steps.refl _) (argsL := []) (rest := []) (lenOf own_pd___I rfl) rfl (by show 2 * 0 + _ ≤ _; exact Nat.le_of_eq rfl) (hb hby own_d_prog_48_method_6_code_8) (fun _ _ => ⟨rfl, e2q, (by decide : 2 + 0 ≤ _), (by decide : 24 + 0 ≤ _)⟩)
  dsimp only [Pt.U, Pt.locs, Pt.cells, Pt.slots] at X4 l4 y4 z4 st4 hQ4
  subst l4 y4 z4
  obtain ⟨r4, ws4, rfl, N4q, K4q, ge4, on4, Ps4⟩ := hQ4
  have N4a := Fr.app N2a N4q
  have CH2 : CHr Z own_EL s.vm h0 T1.vm T4.heap := CH1.trans (CHr.keep K4q (fun x_ hx_ => own_safe0 x_) CH1.1)
  have K2 : Keep h0 T4.heap (own_fr n0 h0) := K1.trans K4q (fun x_ hx_ => own_frq (ge4 x_ hx_))
  have cut7 : ∀ t, Steps p.tables e below (T4.setTop (mkF m 13 #[.val (.ref a1), .val (.int (0 : Int32)), .val (.ref a2)] [(.int (18 : Int32)), (.int r4)])) t → Steps p.tables e below (s₁.setTop (mkF m 0 #[.val (.ref a1), .val (.int (0 : Int32)), .val (.ref a2)] [])) t := fun t kk => by
    show Steps p.tables e below (s₁.setTop (mkF m 0 #[.val (.ref a1), .val (.int (0 : Int32)), .val (.ref a2)] [])) _
    refine st1 _ ?_
    refine XS.aloadN X1.here hx rfl (hb hby own_d_prog_48_method_6_code_2) rfl rfl ?_
    show Steps p.tables e below (T1.setTop (mkF m 3 #[.val (.ref a1), .val (.int (0 : Int32)), .val (.ref a2)] [(.ref a2), (.ref lit1)])) _
    refine st2 _ ?_
    refine XS.pop X2.here hx rfl (hb hby own_d_prog_48_method_6_code_6) rfl rfl ?_
    refine XS.aloadN X2.here hx rfl (hb hby own_d_prog_48_method_6_code_7) rfl rfl ?_
    show Steps p.tables e below (T2.setTop (mkF m 8 #[.val (.ref a1), .val (.int (0 : Int32)), .val (.ref a2)] [(.ref a2)])) _
    refine st4.trans ?_
    refine XS.bipush X4.here hx rfl (hb hby own_d_prog_48_method_6_code_11) ?_
    exact kk
  by_cases c18 : (18 : Int32) < r4
  · have f8 : Exa Z h1 a1 "com/example/floatweight/floatweight/Prices" := (E_a1.ext E1)
    have f9 : Fld Z T4.heap a1 "com/example/floatweight/floatweight/Prices" "mUnscaled" "[J" (.ref ua) := ((F_mUnscaled_a1.ext E1).keep K4q (fun hx_ => (Exa.ne f8 f6 (by decide)) (on4 _ hx_)))
    obtain ⟨T10, X10, e10, st10⟩ := getF X4 hx hZ1 hown1 (host := "") (Or.inl (hw _ (List.mem_of_getElem? (i := 46) rfl))) Via.refl rfl f9 (g := (mkF m 47 #[.val (.ref a1), .val (.int (0 : Int32)), .val (.ref a2)] [(.ref a1)])) rfl rfl (hb hby own_d_prog_48_method_6_code_47)
    have f11 : Arv Z h1 ua ka .long (3 : Int32) [(.long u0), (.long u1), (.long u2)] (.long (0 : Int64)) := (V_ua.ext E1)
    have f12 : Arv Z T4.heap ua ka .long (3 : Int32) [(.long u0), (.long u1), (.long u2)] (.long (0 : Int64)) := ((V_ua.ext E1).keep K4q (fun hx_ => (Ne.symm (Exa.neArv f6 f11 (hw _ (List.mem_of_getElem? (i := 11) rfl)))) (on4 _ hx_)))
    obtain ⟨cl13, Ar13, q13, S13, N_13, H_13, G13⟩ := id f12
    obtain ⟨T14, h14, X14, e14, W14, st14⟩ := stJ X10 hx hZ1 e10 Ar13 (j := (0 : Int32)) (inb_of S13 ⟨by decide, by decide⟩) (g := (mkF m 52 #[.val (.ref a1), .val (.int (0 : Int32)), .val (.ref a2)] [(.long (0 : Int64)), (.int (0 : Int32)), (.ref ua)])) rfl rfl (hb hby own_d_prog_48_method_6_code_52)
    have V14_ua : Arv Z h14 ua ka .long (3 : Int32) [(.long (0 : Int64)), (.long u1), (.long u2)] (.long (0 : Int64)) := Arv.set Ar13 q13 S13 N_13 H_13 G13 rfl W14 0 rfl (Nat.le_of_ble_eq_true rfl)
    have Nf14 := Fr.snoc X14 N4a g_ua
    have CH3 : CHr Z own_EL s.vm h0 T1.vm h14 := CH2.trans (CHr.wr W14 (own_safeV (hZ1 : Z.Warmed39 T1.vm).alike f12 (by decide)) CH2.1)
    have K3 : Keep h0 h14 (own_fr n0 h0) := K2.wr W14 (own_frq g_ua)
    have f15 : Exa Z T4.heap a1 "com/example/floatweight/floatweight/Prices" := (f8.keep K4q)
    have f16 : Fld Z h14 a1 "com/example/floatweight/floatweight/Prices" "mWhole" "[Ljava/math/BigDecimal;" .null := (((F_mWhole_a1.ext E1).keep K4q (fun hx_ => (Exa.ne f8 f6 (by decide)) (on4 _ hx_))).other W14 (Or.inl (Exa.neArv f15 f12 (hw _ (List.mem_of_getElem? (i := 39) rfl)))))
    obtain ⟨T17, X17, e17, st17⟩ := getF X14 hx hZ1 hown1 (host := "") (Or.inl (hw _ (List.mem_of_getElem? (i := 120) rfl))) Via.refl e14 f16 (g := (mkF m 55 #[.val (.ref a1), .val (.int (0 : Int32)), .val (.ref a2)] [(.ref a1), (.ref a1)])) rfl rfl (hb hby own_d_prog_48_method_6_code_55)
    have f18 : Fld Z h14 a1 "com/example/floatweight/floatweight/Prices" "mUnscaled" "[J" (.ref ua) := (f9.other W14 (Or.inl (Exa.neArv f15 f12 (hw _ (List.mem_of_getElem? (i := 39) rfl)))))
    obtain ⟨T19, X19, e19, st19⟩ := getF X17 hx hZ1 hown1 (host := "") (Or.inl (hw _ (List.mem_of_getElem? (i := 46) rfl))) Via.refl e17 f18 (g := (mkF m 62 #[.val (.ref a1), .val (.int (0 : Int32)), .val (.ref a2)] [(.ref a1), (.ref a1)])) rfl rfl (hb hby own_d_prog_48_method_6_code_62)
    obtain ⟨cl20, Ar20, q20, S20, N_20, H_20, G20⟩ := id V14_ua
    obtain ⟨T21, h21, ka21, X21, e21, E21, A21, O21, st21⟩ := newR X19 hx hZ1 hown1 (hw _ (List.mem_of_getElem? (i := 122) rfl)) (hw _ (List.mem_of_getElem? (i := 123) rfl)) e19 (g := (mkF m 66 #[.val (.ref a1), .val (.int (0 : Int32)), .val (.ref a2)] [(.int (3 : Int32)), (.ref a1)])) rfl (hb hby own_d_prog_48_method_6_code_66) rfl (by decide) (cap := 3) (by decide) (by decide) (by decide) (by decide)
    obtain ⟨b21, g21⟩ : ∃ z, z = h14.size := ⟨_, rfl⟩
    rw [← g21] at A21 st21
    have sz_b21 : h0.size ≤ b21 := Nat.le_trans K3.1 (Nat.le_of_eq g21.symm)
    have g_b21 : n0 ≤ b21 := Nat.le_trans Z0 sz_b21
    have CH4 : CHr Z own_EL s.vm h0 T1.vm h21 := CH3.trans (CHr.ext E21 CH3.1)
    have K4 : Keep h0 h21 (own_fr n0 h0) := K3.ext E21
    have V_b21 : Arv Z h21 b21 ka21 (.object "java/math/BigDecimal") (3 : Int32) [.null, .null, .null] .null := (Arv.new A21 (by decide)).pad (pad_rep [] .null 3)
    have f22 : Fld Z h21 a1 "com/example/floatweight/floatweight/Prices" "mWhole" "[Ljava/math/BigDecimal;" .null := (f16.ext E21)
    have f23 : Exa Z h21 a1 "com/example/floatweight/floatweight/Prices" := ((f15.wr W14).ext E21)
    obtain ⟨T24, h24, X24, e24, W24, st24⟩ := putF X21 hx hZ1 hown1 (host := "") (Or.inl (hw _ (List.mem_of_getElem? (i := 120) rfl))) Via.refl e21 f22 f23 (Or.inl (hw _ (List.mem_of_getElem? (i := 121) rfl))) (hw _ (List.mem_of_getElem? (i := 39) rfl)) (ty := (.array (.object "java/math/BigDecimal"))) (by decide) rfl rfl (g := (mkF m 76 #[.val (.ref a1), .val (.int (0 : Int32)), .val (.ref a2)] [(.ref b21), (.ref a1)])) rfl rfl (hb hby own_d_prog_48_method_6_code_76)
    have Fw24 := f22.same W24
    have Nf24 := Fr.snoc X24 Nf14 g_a1
    have CH5 : CHr Z own_EL s.vm h0 T1.vm h24 := CH4.trans (CHr.wr W24 (Safe.exa (hZ1 : Z.Warmed39 T1.vm).alike f23 (by decide) (by decide)) CH4.1)
    have K5 : Keep h0 h24 (own_fr n0 h0) := K4.wr W24 (own_frq g_a1)
    obtain ⟨T25, X25, e25, st25⟩ := getF X24 hx hZ1 hown1 (host := "") (Or.inl (hw _ (List.mem_of_getElem? (i := 120) rfl))) Via.refl e24 Fw24 (g := (mkF m 80 #[.val (.ref a1), .val (.int (0 : Int32)), .val (.ref a2)] [(.ref a1)])) rfl rfl (hb hby own_d_prog_48_method_6_code_80)
    have f26 : Exa Z h14 a1 "com/example/floatweight/floatweight/Prices" := (f15.wr W14)
    have f27 : Arv Z h24 b21 ka21 (.object "java/math/BigDecimal") (3 : Int32) [.null, .null, .null] .null := (V_b21.other W24 (Ne.symm (Nat.ne_of_lt (Nat.lt_of_lt_of_le f26.lt (Nat.le_of_eq g21.symm)))))
    obtain ⟨cl28, Ar28, q28, S28, N_28, H_28, G28⟩ := id f27
    have f30 : Exa Z h24 a2 "java/math/BigDecimal" := ((((f6.keep K4q).wr W14).ext E21).wr W24)
    obtain ⟨T29, h29, X29, e29, W29, st29⟩ := stR X25 hx hZ1 e25 Ar28 (j := (0 : Int32)) (v := (.ref a2)) (inb_of S28 ⟨by decide, by decide⟩) rfl (Sto.ofV Ar28 q28 O21 (Ins.self f30)) (g := (mkF m 85 #[.val (.ref a1), .val (.int (0 : Int32)), .val (.ref a2)] [(.ref a2), (.int (0 : Int32)), (.ref b21)])) rfl rfl (hb hby own_d_prog_48_method_6_code_85)
    have V29_b21 : Arv Z h29 b21 ka21 (.object "java/math/BigDecimal") (3 : Int32) [(.ref a2), .null, .null] .null := Arv.set Ar28 q28 S28 N_28 H_28 G28 rfl W29 0 rfl (Nat.le_of_ble_eq_true rfl)
    have Nf29 := Fr.snoc X29 Nf24 g_b21
    have CH6 : CHr Z own_EL s.vm h0 T1.vm h29 := CH5.trans (CHr.wr W29 (own_safeV (hZ1 : Z.Warmed39 T1.vm).alike f27 (by decide)) CH5.1)
    have K6 : Keep h0 h29 (own_fr n0 h0) := K5.wr W29 (own_frq g_b21)
    have f31 : BD Z n0 h29 a2 v s_ := ((Pres.ofWr W29 (NB.ofV f27 (hw _ (List.mem_of_getElem? (i := 11) rfl)))) _ _ _ ((Pres.ofWr W24 (NB.ofE f23 (by decide))) _ _ _ ((Pres.ofExt E21) _ _ _ ((Pres.ofWr W14 (NB.ofV f12 (hw _ (List.mem_of_getElem? (i := 11) rfl)))) _ _ _ (Ps4 _ _ _ f3)))))
    have f32 : Arv Z h1 sa kb .int (3 : Int32) [(.int c0), (.int c1), (.int c2)] (.int (0 : Int32)) := (V_sa.ext E1)
    have f33 : Arv Z h14 sa kb .int (3 : Int32) [(.int c0), (.int c1), (.int c2)] (.int (0 : Int32)) := (((V_sa.ext E1).keep K4q (fun hx_ => (Ne.symm (Exa.neArv f6 f32 (hw _ (List.mem_of_getElem? (i := 11) rfl)))) (on4 _ hx_))).other W14 (Ne.symm n_us))
    have f34 : Fld Z h29 a1 "com/example/floatweight/floatweight/Prices" "mWhole" "[Ljava/math/BigDecimal;" (.ref b21) := (Fw24.other W29 (Or.inl (Nat.ne_of_lt (Nat.lt_of_lt_of_le f26.lt (Nat.le_of_eq g21.symm)))))
    have f35 : Exa Z h29 a1 "com/example/floatweight/floatweight/Prices" := ((f23.wr W24).wr W29)
    have f36 : Fld Z h29 a1 "com/example/floatweight/floatweight/Prices" "mUnscaled" "[J" (.ref ua) := (((f18.ext E21).other W24 (Or.inr (slot_ne (Or.inr (hw _ (List.mem_of_getElem? (i := 47) rfl))) (Or.inl (hw _ (List.mem_of_getElem? (i := 121) rfl))) (by decide) (t := (.array .long)) (t' := (.array (.object "java/math/BigDecimal"))) (by decide) (by decide)))).other W29 (Or.inl (Nat.ne_of_lt (Nat.lt_of_lt_of_le f26.lt (Nat.le_of_eq g21.symm)))))
    have f37 : Fld Z h29 a1 "com/example/floatweight/floatweight/Prices" "mScales" "[I" (.ref sa) := ((((((F_mScales_a1.ext E1).keep K4q (fun hx_ => (Exa.ne f8 f6 (by decide)) (on4 _ hx_))).other W14 (Or.inl (Exa.neArv f15 f12 (hw _ (List.mem_of_getElem? (i := 39) rfl))))).ext E21).other W24 (Or.inr (slot_ne (Or.inr (hw _ (List.mem_of_getElem? (i := 50) rfl))) (Or.inl (hw _ (List.mem_of_getElem? (i := 121) rfl))) (by decide) (t := (.array .int)) (t' := (.array (.object "java/math/BigDecimal"))) (by decide) (by decide)))).other W29 (Or.inl (Nat.ne_of_lt (Nat.lt_of_lt_of_le f26.lt (Nat.le_of_eq g21.symm)))))
    have f38 : Arv Z h21 ua ka .long (3 : Int32) [(.long (0 : Int64)), (.long u1), (.long u2)] (.long (0 : Int64)) := (V14_ua.ext E21)
    have f39 : Arv Z h29 ua ka .long (3 : Int32) [(.long (0 : Int64)), (.long u1), (.long u2)] (.long (0 : Int64)) := (((V14_ua.ext E21).other W24 (Ne.symm (Exa.neArv f23 f38 (hw _ (List.mem_of_getElem? (i := 39) rfl))))).other W29 (Nat.ne_of_lt (Nat.lt_of_lt_of_le V14_ua.lt (Nat.le_of_eq g21.symm))))
    have f40 : Arv Z h21 sa kb .int (3 : Int32) [(.int c0), (.int c1), (.int c2)] (.int (0 : Int32)) := (f33.ext E21)
    have f41 : Arv Z h29 sa kb .int (3 : Int32) [(.int c0), (.int c1), (.int c2)] (.int (0 : Int32)) := (((f33.ext E21).other W24 (Ne.symm (Exa.neArv f23 f40 (hw _ (List.mem_of_getElem? (i := 39) rfl))))).other W29 (Nat.ne_of_lt (Nat.lt_of_lt_of_le f33.lt (Nat.le_of_eq g21.symm))))
    have hk_42 := (Nat.le_trans (Nat.le_trans (Nat.le_trans (Nat.le_trans (Nat.le_trans hk1 K4q.1) (Keep.of_wr W14).1) E21.1) (Keep.of_wr W24).1) (Keep.of_wr W29).1)
    obtain ⟨fs, hr, hrun, hended, hend⟩ := X29.leaveW hS1 (by rw [e29]; exact hk_42) (v := none) (fun _ => rfl)
    refine ⟨_, _, pre0 _ ?_, hrun, hended, _, _, rfl, ?_, ?_, hend.1, hend.2.1, hend.2.2.1, hend.2.2.2.mono (by decide) (by decide)⟩
    · refine cut7 _ ?_
      show Steps p.tables e below (T4.setTop (mkF m 13 #[.val (.ref a1), .val (.int (0 : Int32)), .val (.ref a2)] [(.int (18 : Int32)), (.int r4)])) _
      refine XS.icmpYes X4.here hx rfl (pc0 := 13) (pc' := 46) rfl (hb hby own_d_prog_48_method_6_code_13) rfl (tlt (c18 : (18 : Int32) < r4)).2.2.1 (by decide) (by decide) ?_
      refine XS.aloadN X4.here hx rfl (hb hby own_d_prog_48_method_6_code_46) rfl rfl ?_
      show Steps p.tables e below (T4.setTop (mkF m 47 #[.val (.ref a1), .val (.int (0 : Int32)), .val (.ref a2)] [(.ref a1)])) _
      refine st10 _ ?_
      refine XS.iloadN X10.here hx rfl (hb hby own_d_prog_48_method_6_code_50) rfl ?_
      refine XS.lconst X10.here hx rfl (hb hby own_d_prog_48_method_6_code_51) ?_
      show Steps p.tables e below (T10.setTop (mkF m 52 #[.val (.ref a1), .val (.int (0 : Int32)), .val (.ref a2)] [(.long (0 : Int64)), (.int (0 : Int32)), (.ref ua)])) _
      refine st14 _ ?_
      refine XS.aloadN X14.here hx rfl (hb hby own_d_prog_48_method_6_code_53) rfl rfl ?_
      refine XS.aloadN X14.here hx rfl (hb hby own_d_prog_48_method_6_code_54) rfl rfl ?_
      show Steps p.tables e below (T14.setTop (mkF m 55 #[.val (.ref a1), .val (.int (0 : Int32)), .val (.ref a2)] [(.ref a1), (.ref a1)])) _
      refine st17 _ ?_
      show Steps p.tables e below (T17.setTop (mkF m 58 #[.val (.ref a1), .val (.int (0 : Int32)), .val (.ref a2)] [.null, (.ref a1)])) _
      refine XS.ifnonnullNo X17.here hx rfl (hb hby own_d_prog_48_method_6_code_58) rfl ?_
      refine XS.aloadN X17.here hx rfl (hb hby own_d_prog_48_method_6_code_61) rfl rfl ?_
      show Steps p.tables e below (T17.setTop (mkF m 62 #[.val (.ref a1), .val (.int (0 : Int32)), .val (.ref a2)] [(.ref a1), (.ref a1)])) _
      refine st19 _ ?_
      show Steps p.tables e below (T19.setTop (mkF m 65 #[.val (.ref a1), .val (.int (0 : Int32)), .val (.ref a2)] [(.ref ua), (.ref a1)])) _
      refine X19.arraylength hx (by rw [e19]; exact Ar20.1) (State.isArrayOf_alike hZ1.alike Ar20.2.1) (g := (mkF m 65 #[.val (.ref a1), .val (.int (0 : Int32)), .val (.ref a2)] [(.ref ua), (.ref a1)])) rfl rfl (hb hby own_d_prog_48_method_6_code_65) _ ?_
      rw [len_of S20 N_20]
      show Steps p.tables e below (T19.setTop (mkF m 66 #[.val (.ref a1), .val (.int (0 : Int32)), .val (.ref a2)] [(.int (3 : Int32)), (.ref a1)])) _
      refine st21 _ ?_
      refine XS.goto X21.here hx rfl (pc0 := 69) (pc' := 76) rfl (hb hby own_d_prog_48_method_6_code_69) (by decide) (by decide) ?_
      show Steps p.tables e below (T21.setTop (mkF m 76 #[.val (.ref a1), .val (.int (0 : Int32)), .val (.ref a2)] [(.ref b21), (.ref a1)])) _
      refine st24 _ ?_
      refine XS.aloadN X24.here hx rfl (hb hby own_d_prog_48_method_6_code_79) rfl rfl ?_
      show Steps p.tables e below (T24.setTop (mkF m 80 #[.val (.ref a1), .val (.int (0 : Int32)), .val (.ref a2)] [(.ref a1)])) _
      refine st25 _ ?_
      refine XS.iloadN X25.here hx rfl (hb hby own_d_prog_48_method_6_code_83) rfl ?_
      refine XS.aloadN X25.here hx rfl (hb hby own_d_prog_48_method_6_code_84) rfl rfl ?_
      show Steps p.tables e below (T25.setTop (mkF m 85 #[.val (.ref a1), .val (.int (0 : Int32)), .val (.ref a2)] [(.ref a2), (.int (0 : Int32)), (.ref b21)])) _
      refine st29 _ ?_
      show Steps p.tables e below (T29.setTop (mkF m 86 #[.val (.ref a1), .val (.int (0 : Int32)), .val (.ref a2)] [])) _
      exact X29.returnOut hx Bd.returns (hb hby own_d_prog_48_method_6_code_86) hr
    · show QS0 Z a1 u1 u2 c1 c2 w1 w2 v s_ h0 n0 _ T29.heap _
      rw [e29]
      exact ⟨(0 : Int64), c0, (.ref a2), rfl, Nf29, K6, ⟨ua, sa, ka, kb, g_a1, g_ua, g_sa, n_us, f35, f36, f37, f39, f41, (by subst hw0 hw1 hw2; exact Or.inr ⟨b21, ka21, g_b21, (Ne.symm (Nat.ne_of_lt (Nat.lt_of_lt_of_le V14_ua.lt (Nat.le_of_eq g21.symm)))), (Ne.symm (Nat.ne_of_lt (Nat.lt_of_lt_of_le f33.lt (Nat.le_of_eq g21.symm)))), f34, V29_b21, O21⟩)⟩, Or.inr ⟨rfl, a2, rfl, f31⟩, (fun x_ v_ s_' b_ => ((Pres.ofWr W29 (NB.ofV f27 (hw _ (List.mem_of_getElem? (i := 11) rfl)))) _ _ _ ((Pres.ofWr W24 (NB.ofE f23 (by decide))) _ _ _ ((Pres.ofExt E21) _ _ _ ((Pres.ofWr W14 (NB.ofV f12 (hw _ (List.mem_of_getElem? (i := 11) rfl)))) _ _ _ (Ps4 _ _ _ ((Pres.ofExt E1) _ _ _ b_)))))))⟩
    · show CHr Z own_EL s.vm s.heap T29.vm T29.heap
      rw [hh, e29]
      exact CH6.trans (CHv.at X29 hZ1 hEL CH6.1)
  · have f8 : Exa Z h1 a1 "com/example/floatweight/floatweight/Prices" := (E_a1.ext E1)
    have f9 : Fld Z T4.heap a1 "com/example/floatweight/floatweight/Prices" "mUnscaled" "[J" (.ref ua) := ((F_mUnscaled_a1.ext E1).keep K4q (fun hx_ => (Exa.ne f8 f6 (by decide)) (on4 _ hx_)))
    obtain ⟨T10, X10, e10, st10⟩ := getF X4 hx hZ1 hown1 (host := "") (Or.inl (hw _ (List.mem_of_getElem? (i := 46) rfl))) Via.refl rfl f9 (g := (mkF m 17 #[.val (.ref a1), .val (.int (0 : Int32)), .val (.ref a2)] [(.ref a1)])) rfl rfl (hb hby own_d_prog_48_method_6_code_17)
    have f12 : BD Z n0 T4.heap a2 v s_ := (Ps4 _ _ _ f3)
    have f13 : Exa Z T4.heap a2 "java/math/BigDecimal" := (f6.keep K4q)
    obtain ⟨cq11, kq11, q11a, q11b, q11c⟩ := isOf hZ1 e10 f13
    obtain ⟨_, _, ⟨T11, L11, k11, n11⟩, -, X11, ⟨Lc11, hQ11, l11, y11, z11⟩, st11⟩ := X10.virtualBack hx (y := (⟨"java/math/BigDecimal", "scale", "()I"⟩ : MethodName)) (z := (⟨"java/math/BigDecimal", "scale", "()I"⟩ : MethodName)) hown1 (mvT hZ1 (hw _ (List.mem_of_getElem? (i := 91) rfl))) (mvT hZ1 (hw _ (List.mem_of_getElem? (i := 92) rfl))) (notFace_of_selects (args := #[]) (mvT hZ1 (hw _ (List.mem_of_getElem? (i := 94) rfl)))) (mvT hZ1 (hw _ (List.mem_of_getElem? (i := 94) rfl))) (mvT hZ1 (hw _ (List.mem_of_getElem? (i := 93) rfl))) (by decide) (backOf (W := 3) (rmSc l Z a0 hw [] a2 s_ T4.heap n0 (Nat.le_trans Z0 K2.1) f12.2.1) hZ1 (hw _ (List.mem_of_getElem? (i := 95) rfl)) (hw _ (List.mem_of_getElem? (i := 8) rfl)) (by decide) (by decide)) q11a q11c (g := (mkF m 23 #[.val (.ref a1), .val (.int (0 : Int32)), .val (.ref a2)] [(.ref a2), (.ref a2), (.int (0 : Int32)), (.ref ua)])) rfl (by rw [hml]; rfl) (Steps.refl _) (argsL := []) (rest := [(.ref a2), (.int (0 : Int32)), (.ref ua)]) (lenOf own_pd___I rfl) rfl (by show 2 * 0 + _ ≤ _; exact Nat.le_of_eq rfl) (hb hby own_d_prog_48_method_6_code_23) (fun _ _ => ⟨rfl, e10, (by decide : 2 + 0 ≤ _), (by decide : 24 + 0 ≤ _)⟩)
    dsimp only [Pt.U, Pt.locs, Pt.cells, Pt.slots] at X11 l11 y11 z11 st11 hQ11
    subst l11 y11 z11
    obtain ⟨rfl, N11q, e11q⟩ := hQ11
    have N11a := Fr.app N4a N11q
    obtain ⟨cq14, kq14, q14a, q14b, q14c⟩ := isOf hZ1 e11q f13
    obtain ⟨_, _, ⟨T14, L14, k14, n14⟩, -, X14, ⟨Lc14, hQ14, l14, y14, z14⟩, st14⟩ := X11.virtualBack hx (y := (⟨"java/math/BigDecimal", "movePointRight", "(I)Ljava/math/BigDecimal;"⟩ : MethodName)) (z := (⟨"java/math/BigDecimal", "movePointRight", "(I)Ljava/math/BigDecimal;"⟩ : MethodName)) hown1 (mvT hZ1 (hw _ (List.mem_of_getElem? (i := 96) rfl))) (mvT hZ1 (hw _ (List.mem_of_getElem? (i := 97) rfl))) (notFace_of_selects (args := #[]) (mvT hZ1 (hw _ (List.mem_of_getElem? (i := 99) rfl)))) (mvT hZ1 (hw _ (List.mem_of_getElem? (i := 99) rfl))) (mvT hZ1 (hw _ (List.mem_of_getElem? (i := 98) rfl))) (by decide) (backOf (W := 2) (rmMp l Z a0 hw [] a2 v s_ T4.heap n0 (Nat.le_trans Z0 K2.1) f12) hZ1 (hw _ (List.mem_of_getElem? (i := 100) rfl)) (hw _ (List.mem_of_getElem? (i := 8) rfl)) (by decide) (by decide)) q14a q14c (g := (mkF m 26 #[.val (.ref a1), .val (.int (0 : Int32)), .val (.ref a2)] [(.int s_), (.ref a2), (.int (0 : Int32)), (.ref ua)])) rfl (by rw [hml]; rfl) (Steps.refl _) (argsL := [(.int s_)]) (rest := [(.int (0 : Int32)), (.ref ua)]) (lenOf own_pd__I_Ljava_math_BigDecimal_ rfl) rfl (by show 2 * 0 + _ ≤ _; exact Nat.le_of_eq rfl) (hb hby own_d_prog_48_method_6_code_26) (fun _ _ => ⟨rfl, e11q, (by decide : 2 + 1 ≤ _), (by decide : 24 + 5 ≤ _)⟩)
    dsimp only [Pt.U, Pt.locs, Pt.cells, Pt.slots] at X14 l14 y14 z14 st14 hQ14
    subst l14 y14 z14
    obtain ⟨m14, rfl, N14q, K14q, mE14, mS14, mC14⟩ := hQ14
    have N14a := Fr.app N11a N14q
    have CH3 : CHr Z own_EL s.vm h0 T1.vm T14.heap := CH2.trans (CHr.keep K14q all0 CH2.1)
    have K3 : Keep h0 T14.heap (own_fr n0 h0) := K2.trans K14q all0
    obtain ⟨cq15, kq15, q15a, q15b, q15c⟩ := isOf hZ1 rfl mE14
    obtain ⟨_, _, ⟨T15, L15, k15, n15⟩, -, X15, ⟨Lc15, hQ15, l15, y15, z15⟩, st15⟩ := X14.virtualBack hx (y := (⟨"java/math/BigDecimal", "longValueExact", "()J"⟩ : MethodName)) (z := (⟨"java/math/BigDecimal", "longValueExact", "()J"⟩ : MethodName)) hown1 (mvT hZ1 (hw _ (List.mem_of_getElem? (i := 106) rfl))) (mvT hZ1 (hw _ (List.mem_of_getElem? (i := 107) rfl))) (notFace_of_selects (args := #[]) (mvT hZ1 (hw _ (List.mem_of_getElem? (i := 109) rfl)))) (mvT hZ1 (hw _ (List.mem_of_getElem? (i := 109) rfl))) (mvT hZ1 (hw _ (List.mem_of_getElem? (i := 108) rfl))) (by decide) (backOf (W := 2) (rmLv l Z a0 hw [] m14 v T14.heap n0 (Nat.le_trans Z0 K3.1) mS14 mC14 hv) hZ1 (hw _ (List.mem_of_getElem? (i := 110) rfl)) (hw _ (List.mem_of_getElem? (i := 8) rfl)) (by decide) (by decide)) q15a q15c (g := (mkF m 29 #[.val (.ref a1), .val (.int (0 : Int32)), .val (.ref a2)] [(.ref m14), (.int (0 : Int32)), (.ref ua)])) rfl (by rw [hml]; rfl) (Steps.refl _) (argsL := []) (rest := [(.int (0 : Int32)), (.ref ua)]) (lenOf own_pd___J rfl) rfl (by show 2 * 0 + _ ≤ _; exact Nat.le_of_eq rfl) (hb hby own_d_prog_48_method_6_code_29) (fun _ _ => ⟨rfl, rfl, (by decide : 3 + 0 ≤ _), (by decide : 29 + 0 ≤ _)⟩)
    dsimp only [Pt.U, Pt.locs, Pt.cells, Pt.slots] at X15 l15 y15 z15 st15 hQ15
    subst l15 y15 z15
    obtain ⟨rfl, N15q, e15q⟩ := hQ15
    have N15a := Fr.app N14a N15q
    have f16 : Arv Z h1 ua ka .long (3 : Int32) [(.long u0), (.long u1), (.long u2)] (.long (0 : Int64)) := (V_ua.ext E1)
    have f17 : Arv Z T14.heap ua ka .long (3 : Int32) [(.long u0), (.long u1), (.long u2)] (.long (0 : Int64)) := (((V_ua.ext E1).keep K4q (fun hx_ => (Ne.symm (Exa.neArv f6 f16 (hw _ (List.mem_of_getElem? (i := 11) rfl)))) (on4 _ hx_))).keep K14q nin0)
    obtain ⟨cl18, Ar18, q18, S18, N_18, H_18, G18⟩ := id f17
    obtain ⟨T19, h19, X19, e19, W19, st19⟩ := stJ X15 hx hZ1 e15q Ar18 (j := (0 : Int32)) (inb_of S18 ⟨by decide, by decide⟩) (g := (mkF m 32 #[.val (.ref a1), .val (.int (0 : Int32)), .val (.ref a2)] [(.long v), (.int (0 : Int32)), (.ref ua)])) rfl rfl (hb hby own_d_prog_48_method_6_code_32)
    have V19_ua : Arv Z h19 ua ka .long (3 : Int32) [(.long v), (.long u1), (.long u2)] (.long (0 : Int64)) := Arv.set Ar18 q18 S18 N_18 H_18 G18 rfl W19 0 rfl (Nat.le_of_ble_eq_true rfl)
    have Nf19 := Fr.snoc X19 N15a g_ua
    have CH4 : CHr Z own_EL s.vm h0 T1.vm h19 := CH3.trans (CHr.wr W19 (own_safeV (hZ1 : Z.Warmed39 T1.vm).alike f17 (by decide)) CH3.1)
    have K4 : Keep h0 h19 (own_fr n0 h0) := K3.wr W19 (own_frq g_ua)
    have f20 : Exa Z T14.heap a1 "com/example/floatweight/floatweight/Prices" := ((f8.keep K4q).keep K14q)
    have f21 : Fld Z h19 a1 "com/example/floatweight/floatweight/Prices" "mScales" "[I" (.ref sa) := ((((F_mScales_a1.ext E1).keep K4q (fun hx_ => (Exa.ne f8 f6 (by decide)) (on4 _ hx_))).keep K14q nin0).other W19 (Or.inl (Exa.neArv f20 f17 (hw _ (List.mem_of_getElem? (i := 39) rfl)))))
    obtain ⟨T22, X22, e22, st22⟩ := getF X19 hx hZ1 hown1 (host := "") (Or.inl (hw _ (List.mem_of_getElem? (i := 49) rfl))) Via.refl e19 f21 (g := (mkF m 34 #[.val (.ref a1), .val (.int (0 : Int32)), .val (.ref a2)] [(.ref a1)])) rfl rfl (hb hby own_d_prog_48_method_6_code_34)
    have f24 : BD Z n0 h19 a2 v s_ := ((Pres.ofWr W19 (NB.ofV f17 (hw _ (List.mem_of_getElem? (i := 11) rfl)))) _ _ _ ((Pres.ofKeep K14q all0) _ _ _ f12))
    have f25 : Exa Z h19 a2 "java/math/BigDecimal" := ((f13.keep K14q).wr W19)
    obtain ⟨cq23, kq23, q23a, q23b, q23c⟩ := isOf hZ1 e22 f25
    obtain ⟨_, _, ⟨T23, L23, k23, n23⟩, -, X23, ⟨Lc23, hQ23, l23, y23, z23⟩, st23⟩ := X22.virtualBack hx (y := (⟨"java/math/BigDecimal", "scale", "()I"⟩ : MethodName)) (z := (⟨"java/math/BigDecimal", "scale", "()I"⟩ : MethodName)) hown1 (mvT hZ1 (hw _ (List.mem_of_getElem? (i := 91) rfl))) (mvT hZ1 (hw _ (List.mem_of_getElem? (i := 92) rfl))) (notFace_of_selects (args := #[]) (mvT hZ1 (hw _ (List.mem_of_getElem? (i := 94) rfl)))) (mvT hZ1 (hw _ (List.mem_of_getElem? (i := 94) rfl))) (mvT hZ1 (hw _ (List.mem_of_getElem? (i := 93) rfl))) (by decide) (backOf (W := 2) (rmSc l Z a0 hw [] a2 s_ h19 n0 (Nat.le_trans Z0 K4.1) f24.2.1) hZ1 (hw _ (List.mem_of_getElem? (i := 95) rfl)) (hw _ (List.mem_of_getElem? (i := 8) rfl)) (by decide) (by decide)) q23a q23c (g := (mkF m 39 #[.val (.ref a1), .val (.int (0 : Int32)), .val (.ref a2)] [(.ref a2), (.int (0 : Int32)), (.ref sa)])) rfl (by rw [hml]; rfl) (Steps.refl _) (argsL := []) (rest := [(.int (0 : Int32)), (.ref sa)]) (lenOf own_pd___I rfl) rfl (by show 2 * 0 + _ ≤ _; exact Nat.le_of_eq rfl) (hb hby own_d_prog_48_method_6_code_39) (fun _ _ => ⟨rfl, e22, (by decide : 3 + 0 ≤ _), (by decide : 29 + 0 ≤ _)⟩)
    dsimp only [Pt.U, Pt.locs, Pt.cells, Pt.slots] at X23 l23 y23 z23 st23 hQ23
    subst l23 y23 z23
    obtain ⟨rfl, N23q, e23q⟩ := hQ23
    have N23a := Fr.app Nf19 N23q
    have f26 : Arv Z h1 sa kb .int (3 : Int32) [(.int c0), (.int c1), (.int c2)] (.int (0 : Int32)) := (V_sa.ext E1)
    have f27 : Arv Z h19 sa kb .int (3 : Int32) [(.int c0), (.int c1), (.int c2)] (.int (0 : Int32)) := ((((V_sa.ext E1).keep K4q (fun hx_ => (Ne.symm (Exa.neArv f6 f26 (hw _ (List.mem_of_getElem? (i := 11) rfl)))) (on4 _ hx_))).keep K14q nin0).other W19 (Ne.symm n_us))
    obtain ⟨cl28, Ar28, q28, S28, N_28, H_28, G28⟩ := id f27
    obtain ⟨T29, h29, X29, e29, W29, st29⟩ := stI X23 hx hZ1 e23q Ar28 (j := (0 : Int32)) (inb_of S28 ⟨by decide, by decide⟩) (g := (mkF m 42 #[.val (.ref a1), .val (.int (0 : Int32)), .val (.ref a2)] [(.int s_), (.int (0 : Int32)), (.ref sa)])) rfl rfl (hb hby own_d_prog_48_method_6_code_42)
    have V29_sa : Arv Z h29 sa kb .int (3 : Int32) [(.int s_), (.int c1), (.int c2)] (.int (0 : Int32)) := Arv.set Ar28 q28 S28 N_28 H_28 G28 rfl W29 0 rfl (Nat.le_of_ble_eq_true rfl)
    have Nf29 := Fr.snoc X29 N23a g_sa
    have CH5 : CHr Z own_EL s.vm h0 T1.vm h29 := CH4.trans (CHr.wr W29 (own_safeV (hZ1 : Z.Warmed39 T1.vm).alike f27 (by decide)) CH4.1)
    have K5 : Keep h0 h29 (own_fr n0 h0) := K4.wr W29 (own_frq g_sa)
    have f30 : Exa Z h19 a1 "com/example/floatweight/floatweight/Prices" := (f20.wr W19)
    have f31 : Fld Z h29 a1 "com/example/floatweight/floatweight/Prices" "mWhole" "[Ljava/math/BigDecimal;" .null := (((((F_mWhole_a1.ext E1).keep K4q (fun hx_ => (Exa.ne f8 f6 (by decide)) (on4 _ hx_))).keep K14q nin0).other W19 (Or.inl (Exa.neArv f20 f17 (hw _ (List.mem_of_getElem? (i := 39) rfl))))).other W29 (Or.inl (Exa.neArv f30 f27 (hw _ (List.mem_of_getElem? (i := 39) rfl)))))
    have f32 : Exa Z h29 a1 "com/example/floatweight/floatweight/Prices" := (f30.wr W29)
    have f33 : Fld Z h29 a1 "com/example/floatweight/floatweight/Prices" "mUnscaled" "[J" (.ref ua) := (((f9.keep K14q nin0).other W19 (Or.inl (Exa.neArv f20 f17 (hw _ (List.mem_of_getElem? (i := 39) rfl))))).other W29 (Or.inl (Exa.neArv f30 f27 (hw _ (List.mem_of_getElem? (i := 39) rfl)))))
    have f34 : Fld Z h29 a1 "com/example/floatweight/floatweight/Prices" "mScales" "[I" (.ref sa) := (f21.other W29 (Or.inl (Exa.neArv f30 f27 (hw _ (List.mem_of_getElem? (i := 39) rfl)))))
    have f35 : Arv Z h29 ua ka .long (3 : Int32) [(.long v), (.long u1), (.long u2)] (.long (0 : Int64)) := (V19_ua.other W29 n_us)
    have hk_36 := (Nat.le_trans (Nat.le_trans (Nat.le_trans (Nat.le_trans hk1 K4q.1) K14q.1) (Keep.of_wr W19).1) (Keep.of_wr W29).1)
    obtain ⟨fs, hr, hrun, hended, hend⟩ := X29.leaveW hS1 (by rw [e29]; exact hk_36) (v := none) (fun _ => rfl)
    refine ⟨_, _, pre0 _ ?_, hrun, hended, _, _, rfl, ?_, ?_, hend.1, hend.2.1, hend.2.2.1, hend.2.2.2.mono (by decide) (by decide)⟩
    · refine cut7 _ ?_
      show Steps p.tables e below (T4.setTop (mkF m 13 #[.val (.ref a1), .val (.int (0 : Int32)), .val (.ref a2)] [(.int (18 : Int32)), (.int r4)])) _
      refine XS.icmpNo X4.here hx rfl (hb hby own_d_prog_48_method_6_code_13) rfl (flt (c18 : ¬ ((18 : Int32) < r4))).2.2.1 ?_
      refine XS.aloadN X4.here hx rfl (hb hby own_d_prog_48_method_6_code_16) rfl rfl ?_
      show Steps p.tables e below (T4.setTop (mkF m 17 #[.val (.ref a1), .val (.int (0 : Int32)), .val (.ref a2)] [(.ref a1)])) _
      refine st10 _ ?_
      refine XS.iloadN X10.here hx rfl (hb hby own_d_prog_48_method_6_code_20) rfl ?_
      refine XS.aloadN X10.here hx rfl (hb hby own_d_prog_48_method_6_code_21) rfl rfl ?_
      show Steps p.tables e below (T10.setTop (mkF m 22 #[.val (.ref a1), .val (.int (0 : Int32)), .val (.ref a2)] [(.ref a2), (.int (0 : Int32)), (.ref ua)])) _
      refine XS.aloadN X10.here hx rfl (hb hby own_d_prog_48_method_6_code_22) rfl rfl ?_
      show Steps p.tables e below (T10.setTop (mkF m 23 #[.val (.ref a1), .val (.int (0 : Int32)), .val (.ref a2)] [(.ref a2), (.ref a2), (.int (0 : Int32)), (.ref ua)])) _
      refine st11.trans ?_
      show Steps p.tables e below (T11.setTop (mkF m 26 #[.val (.ref a1), .val (.int (0 : Int32)), .val (.ref a2)] [(.int s_), (.ref a2), (.int (0 : Int32)), (.ref ua)])) _
      refine st14.trans ?_
      show Steps p.tables e below (T14.setTop (mkF m 29 #[.val (.ref a1), .val (.int (0 : Int32)), .val (.ref a2)] [(.ref m14), (.int (0 : Int32)), (.ref ua)])) _
      refine st15.trans ?_
      show Steps p.tables e below (T15.setTop (mkF m 32 #[.val (.ref a1), .val (.int (0 : Int32)), .val (.ref a2)] [(.long v), (.int (0 : Int32)), (.ref ua)])) _
      refine st19 _ ?_
      refine XS.aloadN X19.here hx rfl (hb hby own_d_prog_48_method_6_code_33) rfl rfl ?_
      show Steps p.tables e below (T19.setTop (mkF m 34 #[.val (.ref a1), .val (.int (0 : Int32)), .val (.ref a2)] [(.ref a1)])) _
      refine st22 _ ?_
      refine XS.iloadN X22.here hx rfl (hb hby own_d_prog_48_method_6_code_37) rfl ?_
      refine XS.aloadN X22.here hx rfl (hb hby own_d_prog_48_method_6_code_38) rfl rfl ?_
      show Steps p.tables e below (T22.setTop (mkF m 39 #[.val (.ref a1), .val (.int (0 : Int32)), .val (.ref a2)] [(.ref a2), (.int (0 : Int32)), (.ref sa)])) _
      refine st23.trans ?_
      show Steps p.tables e below (T23.setTop (mkF m 42 #[.val (.ref a1), .val (.int (0 : Int32)), .val (.ref a2)] [(.int s_), (.int (0 : Int32)), (.ref sa)])) _
      refine st29 _ ?_
      refine XS.goto X29.here hx rfl (pc0 := 43) (pc' := 86) rfl (hb hby own_d_prog_48_method_6_code_43) (by decide) (by decide) ?_
      show Steps p.tables e below (T29.setTop (mkF m 86 #[.val (.ref a1), .val (.int (0 : Int32)), .val (.ref a2)] [])) _
      exact X29.returnOut hx Bd.returns (hb hby own_d_prog_48_method_6_code_86) hr
    · show QS0 Z a1 u1 u2 c1 c2 w1 w2 v s_ h0 n0 _ T29.heap _
      rw [e29]
      exact ⟨v, s_, w0, rfl, Nf29, K5, ⟨ua, sa, ka, kb, g_a1, g_ua, g_sa, n_us, f32, f33, f34, f35, V29_sa, Or.inl ⟨f31, hw0, hw1, hw2⟩⟩, Or.inl ⟨rfl, rfl⟩, (fun x_ v_ s_' b_ => ((Pres.ofWr W29 (NB.ofV f27 (hw _ (List.mem_of_getElem? (i := 11) rfl)))) _ _ _ ((Pres.ofWr W19 (NB.ofV f17 (hw _ (List.mem_of_getElem? (i := 11) rfl)))) _ _ _ ((Pres.ofKeep K14q all0) _ _ _ (Ps4 _ _ _ ((Pres.ofExt E1) _ _ _ b_))))))⟩
    · show CHr Z own_EL s.vm s.heap T29.vm T29.heap
      rw [hh, e29]
      exact CH5.trans (CHv.at X29 hZ1 hEL CH5.1)
theorem own_d_prog_48_method_6_code_72 : decode prog_48_method_6_code 72 = .ok (.aload_n 0, 1) := by decide +kernel
theorem own_d_prog_48_method_6_code_73 : decode prog_48_method_6_code 73 = .ok (.getfield 36, 3) := by decide +kernel
set_option maxRecDepth 65536 in
set_option maxHeartbeats 40000000 in
theorem rs0w (l : Launch) (Z : State) (a0 : Array Value) (hw : ∀ d ∈ tables_1, d.before a0 Z = true) (ws : List Jvm.Cond) (hEL : EW Z a0 own_EL) (a1 a2 ua sa : Addr) (ka kb : ClassId) (u0 u1 u2 : Int64) (c0 c1 c2 : Int32) (w0 w1 w2 : Value) (wa : Addr) (kc : ClassId) (v : Int64) (s_ : Int32) (h0 : Heap) (n0 : Nat) (Z0 : n0 ≤ h0.size) (E_a1 : Exa Z h0 a1 "com/example/floatweight/floatweight/Prices") (F_mUnscaled_a1 : Fld Z h0 a1 "com/example/floatweight/floatweight/Prices" "mUnscaled" "[J" (.ref ua)) (F_mScales_a1 : Fld Z h0 a1 "com/example/floatweight/floatweight/Prices" "mScales" "[I" (.ref sa)) (F_mWhole_a1 : Fld Z h0 a1 "com/example/floatweight/floatweight/Prices" "mWhole" "[Ljava/math/BigDecimal;" (.ref wa)) (V_ua : Arv Z h0 ua ka .long (3 : Int32) [(.long u0), (.long u1), (.long u2)] (.long (0 : Int64))) (V_sa : Arv Z h0 sa kb .int (3 : Int32) [(.int c0), (.int c1), (.int c2)] (.int (0 : Int32))) (n_us : ua ≠ sa) (V_wa : Arv Z h0 wa kc (.object "java/math/BigDecimal") (3 : Int32) [w0, w1, w2] .null) (n_wu : wa ≠ ua) (n_ws : wa ≠ sa) (ov : Ovr Z kc "java/math/BigDecimal") (g_a1 : n0 ≤ a1) (g_ua : n0 ≤ ua) (g_sa : n0 ≤ sa) (g_wa : n0 ≤ wa) (B_a2 : BD Z n0 h0 a2 v s_) (hv : (0 : Int64) < v) (hTP : TPT Z) (O0 : Old Z n0 h0) :
    MetFree l (⟨"com/example/floatweight/floatweight/Prices", "set", "(ILjava/math/BigDecimal;)V"⟩ : MethodName) (head1 (Jvm.Cond.code (⟨"com/example/floatweight/floatweight/Prices", "set", "(ILjava/math/BigDecimal;)V"⟩ : MethodName) prog_48_method_6_code 3 none :: ws) ({ frames := 4, cells := 3, slots := 29, locals := 59 } : Room)) (fun a U => a = #[(.ref a1), (.int (0 : Int32)), (.ref a2)] ∧ Z.Warmed39 U.vm ∧ U.heap = h0 ∧ CHv Z own_EL U.vm h0) (fun _ _ _ _ _ => True) (fun _ U o U' => ∃ vr_ Lr_, o = .returned vr_ ∧ QS0 Z a1 u1 u2 c1 c2 w1 w2 v s_ h0 n0 vr_ U'.heap Lr_ ∧ CHr Z own_EL U.vm U.heap U'.vm U'.heap ∧ ReturnedEndW U o U' Lr_ 3 29) := by
  refine MetFree.of_bodySF (plainFor_of_name own_pn_com_example_floatweight_floatweight_Prices) hisR ?_
  intro p e s m args below meth c s₁ Bd hml0 hP hK
  obtain ⟨rfl, hZ, hh, hCH0⟩ := hP
  have hx := Bd.exec
  have hby := Bd.bytes
  have hml : c.maxLocals = 3 := hml0
  have hown : s.vm.findClass "com/example/floatweight/floatweight/Prices" = some m.cls := findClass_of_methodNamed Bd.named
  have hnm := (name_of_methodNamed Bd.named Bd.method).1
  have X0 : Stand p l e ({ frames := 4, cells := 3, slots := 29, locals := 59 } : Room) (s.setVm s.vm) m #[(.ref a1), (.int (0 : Int32)), (.ref a2)] below meth c s₁ [] 0 0 := Stand.of_body Bd
  have e0 : s₁.heap = h0 := by rw [← hh, Bd.state]; rfl
  have N0 := Fr.nil n0
  have CH0 : CHr Z own_EL s.vm h0 s.vm h0 := CHr.refl hCH0
  have hS0 : s.Since s.vm 0 := State.WarmedH.since (State.WarmedH.refl s) 0
  have pre0 : ∀ t, Steps p.tables e below (s₁.setTop (mkF m 0 #[.val (.ref a1), .val (.int (0 : Int32)), .val (.ref a2)] [])) t → Steps p.tables e below (s₁.setTop (entryFrame m #[(.ref a1), (.int (0 : Int32)), (.ref a2)] 3)) t := fun t k => castTop (own_ef_prog_48_method_6_code_xxx m a1 (0 : Int32) a2) k
  obtain ⟨lit1, T1, h1, kl1, X1, e1, E1, hS1, hk1, hZ1, hown1, C1, Lt1, st1⟩ := ldcOH X0 hx hZ hown (hw _ (List.mem_of_getElem? (i := 56) rfl)) (own_wS hw) e0 hS0 (Nat.zero_le _) hEL CH0.1 (g := (mkF m 0 #[.val (.ref a1), .val (.int (0 : Int32)), .val (.ref a2)] [])) rfl (hb hby own_d_prog_48_method_6_code_0) (n := 20) (by decide) (by decide) (by decide) (by decide)
  have CH1 : CHr Z own_EL s.vm h0 T1.vm h1 := CH0.trans C1
  have K1 : Keep h0 h1 (own_fr n0 h0) := (Keep.refl h0 (own_fr n0 h0)).ext E1
  have f3 : BD Z n0 h1 a2 v s_ := ((Pres.ofExt E1) _ _ _ B_a2)
  obtain ⟨_, _, ⟨T2, L2, k2, n2⟩, -, X2, ⟨Lc2, hQ2, l2, y2, z2⟩, st2⟩ := Jvm.LawKit.callS X1 hx (y := (⟨"com/example/floatweight/floatweight/IndexArithmetic", "requirePositive", "(Ljava/lang/String;Ljava/math/BigDecimal;)Ljava/math/BigDecimal;"⟩ : MethodName)) hown1 (mvT hZ1 (hw _ (List.mem_of_getElem? (i := 64) rfl))) (mvT hZ1 (hw _ (List.mem_of_getElem? (i := 65) rfl))) (mvT hZ1 (hw _ (List.mem_of_getElem? (i := 66) rfl))) (mvT hZ1 (hw _ (List.mem_of_getElem? (i := 67) rfl))) (by decide) (backOf (W := 0) (rmRp l Z a0 hw [] lit1 a2 v h1 n0 (Nat.le_trans Z0 K1.1) f3.1 f3.2.2.1 hv) hZ1 (hw _ (List.mem_of_getElem? (i := 67) rfl)) (hw _ (List.mem_of_getElem? (i := 66) rfl)) (by decide) (by decide)) (g := (mkF m 3 #[.val (.ref a1), .val (.int (0 : Int32)), .val (.ref a2)] [(.ref a2), (.ref lit1)])) rfl (by rw [hml]; rfl) (argsL := [(.ref lit1), (.ref a2)]) (rest := []) (lenOf own_pd__Ljava_lang_String_Ljava_math_BigDecimal__Ljava_math_BigDecimal_ rfl) rfl (by show 2 * 0 + _ ≤ _; exact Nat.le_of_eq rfl) (hb hby own_d_prog_48_method_6_code_3) (fun _ _ => ⟨rfl, e1, (by decide : 2 + 0 ≤ _), (by decide : 24 + 0 ≤ _)⟩)
  dsimp only [Pt.U, Pt.locs, Pt.cells, Pt.slots] at X2 l2 y2 z2 st2 hQ2
  subst l2 y2 z2
  obtain ⟨rfl, N2q, e2q⟩ := hQ2
  have N2a := Fr.app N0 N2q
  have f5 : Old Z n0 h1 := (O0.ext E1)
  have f6 : Exa Z h1 a2 "java/math/BigDecimal" := (B_a2.1.ext E1)
  obtain ⟨cq4, kq4, q4a, q4b, q4c⟩ := isOf hZ1 e2q f6
  obtain ⟨_, _, ⟨T4, L4, k4, n4⟩, -, X4, ⟨Lc4, hQ4, l4, y4, z4⟩, st4⟩ := X2.virtualBack hx (y := (⟨"java/math/BigDecimal", "precision", "()I"⟩ : MethodName)) (z := (⟨"java/math/BigDecimal", "precision", "()I"⟩ : MethodName)) hown1 (mvT hZ1 (hw _ (List.mem_of_getElem? (i := 81) rfl))) (mvT hZ1 (hw _ (List.mem_of_getElem? (i := 82) rfl))) (notFace_of_selects (args := #[]) (mvT hZ1 (hw _ (List.mem_of_getElem? (i := 84) rfl)))) (mvT hZ1 (hw _ (List.mem_of_getElem? (i := 84) rfl))) (mvT hZ1 (hw _ (List.mem_of_getElem? (i := 83) rfl))) (by decide) (backOf (W := 0) (rmPr l Z a0 hw [] a2 v s_ h1 n0 (Nat.le_trans Z0 K1.1) f3 hv hTP f5) hZ1 (hw _ (List.mem_of_getElem? (i := 85) rfl)) (hw _ (List.mem_of_getElem? (i := 8) rfl)) (by decide) (by decide)) q4a q4c (g := (mkF m 8 #[.val (.ref a1), .val (.int (0 : Int32)), .val (.ref a2)] [(.ref a2)])) rfl (by rw [hml]; rfl) (Steps.refl _) (argsL := []) (rest := []) (lenOf own_pd___I rfl) rfl (by show 2 * 0 + _ ≤ _; exact Nat.le_of_eq rfl) (hb hby own_d_prog_48_method_6_code_8) (fun _ _ => ⟨rfl, e2q, (by decide : 2 + 0 ≤ _), (by decide : 24 + 0 ≤ _)⟩)
  dsimp only [Pt.U, Pt.locs, Pt.cells, Pt.slots] at X4 l4 y4 z4 st4 hQ4
  subst l4 y4 z4
  obtain ⟨r4, ws4, rfl, N4q, K4q, ge4, on4, Ps4⟩ := hQ4
  have N4a := Fr.app N2a N4q
  have CH2 : CHr Z own_EL s.vm h0 T1.vm T4.heap := CH1.trans (CHr.keep K4q (fun x_ hx_ => own_safe0 x_) CH1.1)
  have K2 : Keep h0 T4.heap (own_fr n0 h0) := K1.trans K4q (fun x_ hx_ => own_frq (ge4 x_ hx_))
  have cut7 : ∀ t, Steps p.tables e below (T4.setTop (mkF m 13 #[.val (.ref a1), .val (.int (0 : Int32)), .val (.ref a2)] [(.int (18 : Int32)), (.int r4)])) t → Steps p.tables e below (s₁.setTop (mkF m 0 #[.val (.ref a1), .val (.int (0 : Int32)), .val (.ref a2)] [])) t := fun t kk => by
    show Steps p.tables e below (s₁.setTop (mkF m 0 #[.val (.ref a1), .val (.int (0 : Int32)), .val (.ref a2)] [])) _
    refine st1 _ ?_
    refine XS.aloadN X1.here hx rfl (hb hby own_d_prog_48_method_6_code_2) rfl rfl ?_
    show Steps p.tables e below (T1.setTop (mkF m 3 #[.val (.ref a1), .val (.int (0 : Int32)), .val (.ref a2)] [(.ref a2), (.ref lit1)])) _
    refine st2 _ ?_
    refine XS.pop X2.here hx rfl (hb hby own_d_prog_48_method_6_code_6) rfl rfl ?_
    refine XS.aloadN X2.here hx rfl (hb hby own_d_prog_48_method_6_code_7) rfl rfl ?_
    show Steps p.tables e below (T2.setTop (mkF m 8 #[.val (.ref a1), .val (.int (0 : Int32)), .val (.ref a2)] [(.ref a2)])) _
    refine st4.trans ?_
    refine XS.bipush X4.here hx rfl (hb hby own_d_prog_48_method_6_code_11) ?_
    exact kk
  by_cases c18 : (18 : Int32) < r4
  · have f8 : Exa Z h1 a1 "com/example/floatweight/floatweight/Prices" := (E_a1.ext E1)
    have f9 : Fld Z T4.heap a1 "com/example/floatweight/floatweight/Prices" "mUnscaled" "[J" (.ref ua) := ((F_mUnscaled_a1.ext E1).keep K4q (fun hx_ => (Exa.ne f8 f6 (by decide)) (on4 _ hx_)))
    obtain ⟨T10, X10, e10, st10⟩ := getF X4 hx hZ1 hown1 (host := "") (Or.inl (hw _ (List.mem_of_getElem? (i := 46) rfl))) Via.refl rfl f9 (g := (mkF m 47 #[.val (.ref a1), .val (.int (0 : Int32)), .val (.ref a2)] [(.ref a1)])) rfl rfl (hb hby own_d_prog_48_method_6_code_47)
    have f11 : Arv Z h1 ua ka .long (3 : Int32) [(.long u0), (.long u1), (.long u2)] (.long (0 : Int64)) := (V_ua.ext E1)
    have f12 : Arv Z T4.heap ua ka .long (3 : Int32) [(.long u0), (.long u1), (.long u2)] (.long (0 : Int64)) := ((V_ua.ext E1).keep K4q (fun hx_ => (Ne.symm (Exa.neArv f6 f11 (hw _ (List.mem_of_getElem? (i := 11) rfl)))) (on4 _ hx_)))
    obtain ⟨cl13, Ar13, q13, S13, N_13, H_13, G13⟩ := id f12
    obtain ⟨T14, h14, X14, e14, W14, st14⟩ := stJ X10 hx hZ1 e10 Ar13 (j := (0 : Int32)) (inb_of S13 ⟨by decide, by decide⟩) (g := (mkF m 52 #[.val (.ref a1), .val (.int (0 : Int32)), .val (.ref a2)] [(.long (0 : Int64)), (.int (0 : Int32)), (.ref ua)])) rfl rfl (hb hby own_d_prog_48_method_6_code_52)
    have V14_ua : Arv Z h14 ua ka .long (3 : Int32) [(.long (0 : Int64)), (.long u1), (.long u2)] (.long (0 : Int64)) := Arv.set Ar13 q13 S13 N_13 H_13 G13 rfl W14 0 rfl (Nat.le_of_ble_eq_true rfl)
    have Nf14 := Fr.snoc X14 N4a g_ua
    have CH3 : CHr Z own_EL s.vm h0 T1.vm h14 := CH2.trans (CHr.wr W14 (own_safeV (hZ1 : Z.Warmed39 T1.vm).alike f12 (by decide)) CH2.1)
    have K3 : Keep h0 h14 (own_fr n0 h0) := K2.wr W14 (own_frq g_ua)
    have f15 : Exa Z T4.heap a1 "com/example/floatweight/floatweight/Prices" := (f8.keep K4q)
    have f16 : Fld Z h14 a1 "com/example/floatweight/floatweight/Prices" "mWhole" "[Ljava/math/BigDecimal;" (.ref wa) := (((F_mWhole_a1.ext E1).keep K4q (fun hx_ => (Exa.ne f8 f6 (by decide)) (on4 _ hx_))).other W14 (Or.inl (Exa.neArv f15 f12 (hw _ (List.mem_of_getElem? (i := 39) rfl)))))
    obtain ⟨T17, X17, e17, st17⟩ := getF X14 hx hZ1 hown1 (host := "") (Or.inl (hw _ (List.mem_of_getElem? (i := 120) rfl))) Via.refl e14 f16 (g := (mkF m 55 #[.val (.ref a1), .val (.int (0 : Int32)), .val (.ref a2)] [(.ref a1), (.ref a1)])) rfl rfl (hb hby own_d_prog_48_method_6_code_55)
    obtain ⟨T18, X18, e18, st18⟩ := getF X17 hx hZ1 hown1 (host := "") (Or.inl (hw _ (List.mem_of_getElem? (i := 120) rfl))) Via.refl e17 f16 (g := (mkF m 73 #[.val (.ref a1), .val (.int (0 : Int32)), .val (.ref a2)] [(.ref a1), (.ref a1)])) rfl rfl (hb hby own_d_prog_48_method_6_code_73)
    have f19 : Exa Z h14 a1 "com/example/floatweight/floatweight/Prices" := (f15.wr W14)
    obtain ⟨T20, h20, X20, e20, W20, st20⟩ := putF X18 hx hZ1 hown1 (host := "") (Or.inl (hw _ (List.mem_of_getElem? (i := 120) rfl))) Via.refl e18 f16 f19 (Or.inl (hw _ (List.mem_of_getElem? (i := 121) rfl))) (hw _ (List.mem_of_getElem? (i := 39) rfl)) (ty := (.array (.object "java/math/BigDecimal"))) (by decide) rfl rfl (g := (mkF m 76 #[.val (.ref a1), .val (.int (0 : Int32)), .val (.ref a2)] [(.ref wa), (.ref a1)])) rfl rfl (hb hby own_d_prog_48_method_6_code_76)
    have Fw20 := f16.same W20
    have Nf20 := Fr.snoc X20 Nf14 g_a1
    have CH4 : CHr Z own_EL s.vm h0 T1.vm h20 := CH3.trans (CHr.wr W20 (Safe.exa (hZ1 : Z.Warmed39 T1.vm).alike f19 (by decide) (by decide)) CH3.1)
    have K4 : Keep h0 h20 (own_fr n0 h0) := K3.wr W20 (own_frq g_a1)
    obtain ⟨T21, X21, e21, st21⟩ := getF X20 hx hZ1 hown1 (host := "") (Or.inl (hw _ (List.mem_of_getElem? (i := 120) rfl))) Via.refl e20 Fw20 (g := (mkF m 80 #[.val (.ref a1), .val (.int (0 : Int32)), .val (.ref a2)] [(.ref a1)])) rfl rfl (hb hby own_d_prog_48_method_6_code_80)
    have f22 : Arv Z h1 wa kc (.object "java/math/BigDecimal") (3 : Int32) [w0, w1, w2] .null := (V_wa.ext E1)
    have f23 : Arv Z h14 wa kc (.object "java/math/BigDecimal") (3 : Int32) [w0, w1, w2] .null := ((f22.keep K4q (fun hx_ => (Ne.symm (Exa.neArv f6 f22 (hw _ (List.mem_of_getElem? (i := 11) rfl)))) (on4 _ hx_))).other W14 n_wu)
    have f24 : Arv Z h20 wa kc (.object "java/math/BigDecimal") (3 : Int32) [w0, w1, w2] .null := ((((V_wa.ext E1).keep K4q (fun hx_ => (Ne.symm (Exa.neArv f6 f22 (hw _ (List.mem_of_getElem? (i := 11) rfl)))) (on4 _ hx_))).other W14 n_wu).other W20 (Ne.symm (Exa.neArv f19 f23 (hw _ (List.mem_of_getElem? (i := 39) rfl)))))
    obtain ⟨cl25, Ar25, q25, S25, N_25, H_25, G25⟩ := id f24
    have f27 : Exa Z h20 a2 "java/math/BigDecimal" := (((f6.keep K4q).wr W14).wr W20)
    obtain ⟨T26, h26, X26, e26, W26, st26⟩ := stR X21 hx hZ1 e21 Ar25 (j := (0 : Int32)) (v := (.ref a2)) (inb_of S25 ⟨by decide, by decide⟩) rfl (Sto.ofV Ar25 q25 ov (Ins.self f27)) (g := (mkF m 85 #[.val (.ref a1), .val (.int (0 : Int32)), .val (.ref a2)] [(.ref a2), (.int (0 : Int32)), (.ref wa)])) rfl rfl (hb hby own_d_prog_48_method_6_code_85)
    have V26_wa : Arv Z h26 wa kc (.object "java/math/BigDecimal") (3 : Int32) [(.ref a2), w1, w2] .null := Arv.set Ar25 q25 S25 N_25 H_25 G25 rfl W26 0 rfl (Nat.le_of_ble_eq_true rfl)
    have Nf26 := Fr.snoc X26 Nf20 g_wa
    have CH5 : CHr Z own_EL s.vm h0 T1.vm h26 := CH4.trans (CHr.wr W26 (own_safeV (hZ1 : Z.Warmed39 T1.vm).alike f24 (by decide)) CH4.1)
    have K5 : Keep h0 h26 (own_fr n0 h0) := K4.wr W26 (own_frq g_wa)
    have f28 : BD Z n0 h26 a2 v s_ := ((Pres.ofWr W26 (NB.ofV f24 (hw _ (List.mem_of_getElem? (i := 11) rfl)))) _ _ _ ((Pres.ofWr W20 (NB.ofE f19 (by decide))) _ _ _ ((Pres.ofWr W14 (NB.ofV f12 (hw _ (List.mem_of_getElem? (i := 11) rfl)))) _ _ _ (Ps4 _ _ _ f3))))
    have f29 : Exa Z h20 a1 "com/example/floatweight/floatweight/Prices" := (f19.wr W20)
    have f30 : Fld Z h26 a1 "com/example/floatweight/floatweight/Prices" "mWhole" "[Ljava/math/BigDecimal;" (.ref wa) := (Fw20.other W26 (Or.inl (Exa.neArv f29 f24 (hw _ (List.mem_of_getElem? (i := 39) rfl)))))
    have f31 : Exa Z h26 a1 "com/example/floatweight/floatweight/Prices" := (f29.wr W26)
    have f32 : Fld Z h26 a1 "com/example/floatweight/floatweight/Prices" "mUnscaled" "[J" (.ref ua) := (((f9.other W14 (Or.inl (Exa.neArv f15 f12 (hw _ (List.mem_of_getElem? (i := 39) rfl))))).other W20 (Or.inr (slot_ne (Or.inr (hw _ (List.mem_of_getElem? (i := 47) rfl))) (Or.inl (hw _ (List.mem_of_getElem? (i := 121) rfl))) (by decide) (t := (.array .long)) (t' := (.array (.object "java/math/BigDecimal"))) (by decide) (by decide)))).other W26 (Or.inl (Exa.neArv f29 f24 (hw _ (List.mem_of_getElem? (i := 39) rfl)))))
    have f33 : Fld Z h26 a1 "com/example/floatweight/floatweight/Prices" "mScales" "[I" (.ref sa) := (((((F_mScales_a1.ext E1).keep K4q (fun hx_ => (Exa.ne f8 f6 (by decide)) (on4 _ hx_))).other W14 (Or.inl (Exa.neArv f15 f12 (hw _ (List.mem_of_getElem? (i := 39) rfl))))).other W20 (Or.inr (slot_ne (Or.inr (hw _ (List.mem_of_getElem? (i := 50) rfl))) (Or.inl (hw _ (List.mem_of_getElem? (i := 121) rfl))) (by decide) (t := (.array .int)) (t' := (.array (.object "java/math/BigDecimal"))) (by decide) (by decide)))).other W26 (Or.inl (Exa.neArv f29 f24 (hw _ (List.mem_of_getElem? (i := 39) rfl)))))
    have f34 : Arv Z h26 ua ka .long (3 : Int32) [(.long (0 : Int64)), (.long u1), (.long u2)] (.long (0 : Int64)) := ((V14_ua.other W20 (Ne.symm (Exa.neArv f19 V14_ua (hw _ (List.mem_of_getElem? (i := 39) rfl))))).other W26 (Ne.symm n_wu))
    have f35 : Arv Z h1 sa kb .int (3 : Int32) [(.int c0), (.int c1), (.int c2)] (.int (0 : Int32)) := (V_sa.ext E1)
    have f36 : Arv Z h14 sa kb .int (3 : Int32) [(.int c0), (.int c1), (.int c2)] (.int (0 : Int32)) := ((f35.keep K4q (fun hx_ => (Ne.symm (Exa.neArv f6 f35 (hw _ (List.mem_of_getElem? (i := 11) rfl)))) (on4 _ hx_))).other W14 (Ne.symm n_us))
    have f37 : Arv Z h26 sa kb .int (3 : Int32) [(.int c0), (.int c1), (.int c2)] (.int (0 : Int32)) := (((((V_sa.ext E1).keep K4q (fun hx_ => (Ne.symm (Exa.neArv f6 f35 (hw _ (List.mem_of_getElem? (i := 11) rfl)))) (on4 _ hx_))).other W14 (Ne.symm n_us)).other W20 (Ne.symm (Exa.neArv f19 f36 (hw _ (List.mem_of_getElem? (i := 39) rfl))))).other W26 (Ne.symm n_ws))
    have hk_38 := (Nat.le_trans (Nat.le_trans (Nat.le_trans (Nat.le_trans hk1 K4q.1) (Keep.of_wr W14).1) (Keep.of_wr W20).1) (Keep.of_wr W26).1)
    obtain ⟨fs, hr, hrun, hended, hend⟩ := X26.leaveW hS1 (by rw [e26]; exact hk_38) (v := none) (fun _ => rfl)
    refine ⟨_, _, pre0 _ ?_, hrun, hended, _, _, rfl, ?_, ?_, hend.1, hend.2.1, hend.2.2.1, hend.2.2.2.mono (by decide) (by decide)⟩
    · refine cut7 _ ?_
      show Steps p.tables e below (T4.setTop (mkF m 13 #[.val (.ref a1), .val (.int (0 : Int32)), .val (.ref a2)] [(.int (18 : Int32)), (.int r4)])) _
      refine XS.icmpYes X4.here hx rfl (pc0 := 13) (pc' := 46) rfl (hb hby own_d_prog_48_method_6_code_13) rfl (tlt (c18 : (18 : Int32) < r4)).2.2.1 (by decide) (by decide) ?_
      refine XS.aloadN X4.here hx rfl (hb hby own_d_prog_48_method_6_code_46) rfl rfl ?_
      show Steps p.tables e below (T4.setTop (mkF m 47 #[.val (.ref a1), .val (.int (0 : Int32)), .val (.ref a2)] [(.ref a1)])) _
      refine st10 _ ?_
      refine XS.iloadN X10.here hx rfl (hb hby own_d_prog_48_method_6_code_50) rfl ?_
      refine XS.lconst X10.here hx rfl (hb hby own_d_prog_48_method_6_code_51) ?_
      show Steps p.tables e below (T10.setTop (mkF m 52 #[.val (.ref a1), .val (.int (0 : Int32)), .val (.ref a2)] [(.long (0 : Int64)), (.int (0 : Int32)), (.ref ua)])) _
      refine st14 _ ?_
      refine XS.aloadN X14.here hx rfl (hb hby own_d_prog_48_method_6_code_53) rfl rfl ?_
      refine XS.aloadN X14.here hx rfl (hb hby own_d_prog_48_method_6_code_54) rfl rfl ?_
      show Steps p.tables e below (T14.setTop (mkF m 55 #[.val (.ref a1), .val (.int (0 : Int32)), .val (.ref a2)] [(.ref a1), (.ref a1)])) _
      refine st17 _ ?_
      show Steps p.tables e below (T17.setTop (mkF m 58 #[.val (.ref a1), .val (.int (0 : Int32)), .val (.ref a2)] [(.ref wa), (.ref a1)])) _
      refine XS.ifnonnullYes X17.here hx rfl (pc0 := 58) (pc' := 72) rfl (hb hby own_d_prog_48_method_6_code_58) rfl (by decide) (by decide) ?_
      refine XS.aloadN X17.here hx rfl (hb hby own_d_prog_48_method_6_code_72) rfl rfl ?_
      show Steps p.tables e below (T17.setTop (mkF m 73 #[.val (.ref a1), .val (.int (0 : Int32)), .val (.ref a2)] [(.ref a1), (.ref a1)])) _
      refine st18 _ ?_
      show Steps p.tables e below (T18.setTop (mkF m 76 #[.val (.ref a1), .val (.int (0 : Int32)), .val (.ref a2)] [(.ref wa), (.ref a1)])) _
      refine st20 _ ?_
      refine XS.aloadN X20.here hx rfl (hb hby own_d_prog_48_method_6_code_79) rfl rfl ?_
      show Steps p.tables e below (T20.setTop (mkF m 80 #[.val (.ref a1), .val (.int (0 : Int32)), .val (.ref a2)] [(.ref a1)])) _
      refine st21 _ ?_
      refine XS.iloadN X21.here hx rfl (hb hby own_d_prog_48_method_6_code_83) rfl ?_
      refine XS.aloadN X21.here hx rfl (hb hby own_d_prog_48_method_6_code_84) rfl rfl ?_
      show Steps p.tables e below (T21.setTop (mkF m 85 #[.val (.ref a1), .val (.int (0 : Int32)), .val (.ref a2)] [(.ref a2), (.int (0 : Int32)), (.ref wa)])) _
      refine st26 _ ?_
      show Steps p.tables e below (T26.setTop (mkF m 86 #[.val (.ref a1), .val (.int (0 : Int32)), .val (.ref a2)] [])) _
      exact X26.returnOut hx Bd.returns (hb hby own_d_prog_48_method_6_code_86) hr
    · show QS0 Z a1 u1 u2 c1 c2 w1 w2 v s_ h0 n0 _ T26.heap _
      rw [e26]
      exact ⟨(0 : Int64), c0, (.ref a2), rfl, Nf26, K5, ⟨ua, sa, ka, kb, g_a1, g_ua, g_sa, n_us, f31, f32, f33, f34, f37, Or.inr ⟨wa, kc, g_wa, n_wu, n_ws, f30, V26_wa, ov⟩⟩, Or.inr ⟨rfl, a2, rfl, f28⟩, (fun x_ v_ s_' b_ => ((Pres.ofWr W26 (NB.ofV f24 (hw _ (List.mem_of_getElem? (i := 11) rfl)))) _ _ _ ((Pres.ofWr W20 (NB.ofE f19 (by decide))) _ _ _ ((Pres.ofWr W14 (NB.ofV f12 (hw _ (List.mem_of_getElem? (i := 11) rfl)))) _ _ _ (Ps4 _ _ _ ((Pres.ofExt E1) _ _ _ b_))))))⟩
    · show CHr Z own_EL s.vm s.heap T26.vm T26.heap
      rw [hh, e26]
      exact CH5.trans (CHv.at X26 hZ1 hEL CH5.1)
  · have f8 : Exa Z h1 a1 "com/example/floatweight/floatweight/Prices" := (E_a1.ext E1)
    have f9 : Fld Z T4.heap a1 "com/example/floatweight/floatweight/Prices" "mUnscaled" "[J" (.ref ua) := ((F_mUnscaled_a1.ext E1).keep K4q (fun hx_ => (Exa.ne f8 f6 (by decide)) (on4 _ hx_)))
    obtain ⟨T10, X10, e10, st10⟩ := getF X4 hx hZ1 hown1 (host := "") (Or.inl (hw _ (List.mem_of_getElem? (i := 46) rfl))) Via.refl rfl f9 (g := (mkF m 17 #[.val (.ref a1), .val (.int (0 : Int32)), .val (.ref a2)] [(.ref a1)])) rfl rfl (hb hby own_d_prog_48_method_6_code_17)
    have f12 : BD Z n0 T4.heap a2 v s_ := (Ps4 _ _ _ f3)
    have f13 : Exa Z T4.heap a2 "java/math/BigDecimal" := (f6.keep K4q)
    obtain ⟨cq11, kq11, q11a, q11b, q11c⟩ := isOf hZ1 e10 f13
    obtain ⟨_, _, ⟨T11, L11, k11, n11⟩, -, X11, ⟨Lc11, hQ11, l11, y11, z11⟩, st11⟩ := X10.virtualBack hx (y := (⟨"java/math/BigDecimal", "scale", "()I"⟩ : MethodName)) (z := (⟨"java/math/BigDecimal", "scale", "()I"⟩ : MethodName)) hown1 (mvT hZ1 (hw _ (List.mem_of_getElem? (i := 91) rfl))) (mvT hZ1 (hw _ (List.mem_of_getElem? (i := 92) rfl))) (notFace_of_selects (args := #[]) (mvT hZ1 (hw _ (List.mem_of_getElem? (i := 94) rfl)))) (mvT hZ1 (hw _ (List.mem_of_getElem? (i := 94) rfl))) (mvT hZ1 (hw _ (List.mem_of_getElem? (i := 93) rfl))) (by decide) (backOf (W := 3) (rmSc l Z a0 hw [] a2 s_ T4.heap n0 (Nat.le_trans Z0 K2.1) f12.2.1) hZ1 (hw _ (List.mem_of_getElem? (i := 95) rfl)) (hw _ (List.mem_of_getElem? (i := 8) rfl)) (by decide) (by decide)) q11a q11c (g := (mkF m 23 #[.val (.ref a1), .val (.int (0 : Int32)), .val (.ref a2)] [(.ref a2), (.ref a2), (.int (0 : Int32)), (.ref ua)])) rfl (by rw [hml]; rfl) (Steps.refl _) (argsL := []) (rest := [(.ref a2), (.int (0 : Int32)), (.ref ua)]) (lenOf own_pd___I rfl) rfl (by show 2 * 0 + _ ≤ _; exact Nat.le_of_eq rfl) (hb hby own_d_prog_48_method_6_code_23) (fun _ _ => ⟨rfl, e10, (by decide : 2 + 0 ≤ _), (by decide : 24 + 0 ≤ _)⟩)
    dsimp only [Pt.U, Pt.locs, Pt.cells, Pt.slots] at X11 l11 y11 z11 st11 hQ11
    subst l11 y11 z11
    obtain ⟨rfl, N11q, e11q⟩ := hQ11
    have N11a := Fr.app N4a N11q
    obtain ⟨cq14, kq14, q14a, q14b, q14c⟩ := isOf hZ1 e11q f13
    obtain ⟨_, _, ⟨T14, L14, k14, n14⟩, -, X14, ⟨Lc14, hQ14, l14, y14, z14⟩, st14⟩ := X11.virtualBack hx (y := (⟨"java/math/BigDecimal", "movePointRight", "(I)Ljava/math/BigDecimal;"⟩ : MethodName)) (z := (⟨"java/math/BigDecimal", "movePointRight", "(I)Ljava/math/BigDecimal;"⟩ : MethodName)) hown1 (mvT hZ1 (hw _ (List.mem_of_getElem? (i := 96) rfl))) (mvT hZ1 (hw _ (List.mem_of_getElem? (i := 97) rfl))) (notFace_of_selects (args := #[]) (mvT hZ1 (hw _ (List.mem_of_getElem? (i := 99) rfl)))) (mvT hZ1 (hw _ (List.mem_of_getElem? (i := 99) rfl))) (mvT hZ1 (hw _ (List.mem_of_getElem? (i := 98) rfl))) (by decide) (backOf (W := 2) (rmMp l Z a0 hw [] a2 v s_ T4.heap n0 (Nat.le_trans Z0 K2.1) f12) hZ1 (hw _ (List.mem_of_getElem? (i := 100) rfl)) (hw _ (List.mem_of_getElem? (i := 8) rfl)) (by decide) (by decide)) q14a q14c (g := (mkF m 26 #[.val (.ref a1), .val (.int (0 : Int32)), .val (.ref a2)] [(.int s_), (.ref a2), (.int (0 : Int32)), (.ref ua)])) rfl (by rw [hml]; rfl) (Steps.refl _) (argsL := [(.int s_)]) (rest := [(.int (0 : Int32)), (.ref ua)]) (lenOf own_pd__I_Ljava_math_BigDecimal_ rfl) rfl (by show 2 * 0 + _ ≤ _; exact Nat.le_of_eq rfl) (hb hby own_d_prog_48_method_6_code_26) (fun _ _ => ⟨rfl, e11q, (by decide : 2 + 1 ≤ _), (by decide : 24 + 5 ≤ _)⟩)
    dsimp only [Pt.U, Pt.locs, Pt.cells, Pt.slots] at X14 l14 y14 z14 st14 hQ14
    subst l14 y14 z14
    obtain ⟨m14, rfl, N14q, K14q, mE14, mS14, mC14⟩ := hQ14
    have N14a := Fr.app N11a N14q
    have CH3 : CHr Z own_EL s.vm h0 T1.vm T14.heap := CH2.trans (CHr.keep K14q all0 CH2.1)
    have K3 : Keep h0 T14.heap (own_fr n0 h0) := K2.trans K14q all0
    obtain ⟨cq15, kq15, q15a, q15b, q15c⟩ := isOf hZ1 rfl mE14
    obtain ⟨_, _, ⟨T15, L15, k15, n15⟩, -, X15, ⟨Lc15, hQ15, l15, y15, z15⟩, st15⟩ := X14.virtualBack hx (y := (⟨"java/math/BigDecimal", "longValueExact", "()J"⟩ : MethodName)) (z := (⟨"java/math/BigDecimal", "longValueExact", "()J"⟩ : MethodName)) hown1 (mvT hZ1 (hw _ (List.mem_of_getElem? (i := 106) rfl))) (mvT hZ1 (hw _ (List.mem_of_getElem? (i := 107) rfl))) (notFace_of_selects (args := #[]) (mvT hZ1 (hw _ (List.mem_of_getElem? (i := 109) rfl)))) (mvT hZ1 (hw _ (List.mem_of_getElem? (i := 109) rfl))) (mvT hZ1 (hw _ (List.mem_of_getElem? (i := 108) rfl))) (by decide) (backOf (W := 2) (rmLv l Z a0 hw [] m14 v T14.heap n0 (Nat.le_trans Z0 K3.1) mS14 mC14 hv) hZ1 (hw _ (List.mem_of_getElem? (i := 110) rfl)) (hw _ (List.mem_of_getElem? (i := 8) rfl)) (by decide) (by decide)) q15a q15c (g := (mkF m 29 #[.val (.ref a1), .val (.int (0 : Int32)), .val (.ref a2)] [(.ref m14), (.int (0 : Int32)), (.ref ua)])) rfl (by rw [hml]; rfl) (Steps.refl _) (argsL := []) (rest := [(.int (0 : Int32)), (.ref ua)]) (lenOf own_pd___J rfl) rfl (by show 2 * 0 + _ ≤ _; exact Nat.le_of_eq rfl) (hb hby own_d_prog_48_method_6_code_29) (fun _ _ => ⟨rfl, rfl, (by decide : 3 + 0 ≤ _), (by decide : 29 + 0 ≤ _)⟩)
    dsimp only [Pt.U, Pt.locs, Pt.cells, Pt.slots] at X15 l15 y15 z15 st15 hQ15
    subst l15 y15 z15
    obtain ⟨rfl, N15q, e15q⟩ := hQ15
    have N15a := Fr.app N14a N15q
    have f16 : Arv Z h1 ua ka .long (3 : Int32) [(.long u0), (.long u1), (.long u2)] (.long (0 : Int64)) := (V_ua.ext E1)
    have f17 : Arv Z T14.heap ua ka .long (3 : Int32) [(.long u0), (.long u1), (.long u2)] (.long (0 : Int64)) := (((V_ua.ext E1).keep K4q (fun hx_ => (Ne.symm (Exa.neArv f6 f16 (hw _ (List.mem_of_getElem? (i := 11) rfl)))) (on4 _ hx_))).keep K14q nin0)
    obtain ⟨cl18, Ar18, q18, S18, N_18, H_18, G18⟩ := id f17
    obtain ⟨T19, h19, X19, e19, W19, st19⟩ := stJ X15 hx hZ1 e15q Ar18 (j := (0 : Int32)) (inb_of S18 ⟨by decide, by decide⟩) (g := (mkF m 32 #[.val (.ref a1), .val (.int (0 : Int32)), .val (.ref a2)] [(.long v), (.int (0 : Int32)), (.ref ua)])) rfl rfl (hb hby own_d_prog_48_method_6_code_32)
    have V19_ua : Arv Z h19 ua ka .long (3 : Int32) [(.long v), (.long u1), (.long u2)] (.long (0 : Int64)) := Arv.set Ar18 q18 S18 N_18 H_18 G18 rfl W19 0 rfl (Nat.le_of_ble_eq_true rfl)
    have Nf19 := Fr.snoc X19 N15a g_ua
    have CH4 : CHr Z own_EL s.vm h0 T1.vm h19 := CH3.trans (CHr.wr W19 (own_safeV (hZ1 : Z.Warmed39 T1.vm).alike f17 (by decide)) CH3.1)
    have K4 : Keep h0 h19 (own_fr n0 h0) := K3.wr W19 (own_frq g_ua)
    have f20 : Exa Z T14.heap a1 "com/example/floatweight/floatweight/Prices" := ((f8.keep K4q).keep K14q)
    have f21 : Fld Z h19 a1 "com/example/floatweight/floatweight/Prices" "mScales" "[I" (.ref sa) := ((((F_mScales_a1.ext E1).keep K4q (fun hx_ => (Exa.ne f8 f6 (by decide)) (on4 _ hx_))).keep K14q nin0).other W19 (Or.inl (Exa.neArv f20 f17 (hw _ (List.mem_of_getElem? (i := 39) rfl)))))
    obtain ⟨T22, X22, e22, st22⟩ := getF X19 hx hZ1 hown1 (host := "") (Or.inl (hw _ (List.mem_of_getElem? (i := 49) rfl))) Via.refl e19 f21 (g := (mkF m 34 #[.val (.ref a1), .val (.int (0 : Int32)), .val (.ref a2)] [(.ref a1)])) rfl rfl (hb hby own_d_prog_48_method_6_code_34)
    have f24 : BD Z n0 h19 a2 v s_ := ((Pres.ofWr W19 (NB.ofV f17 (hw _ (List.mem_of_getElem? (i := 11) rfl)))) _ _ _ ((Pres.ofKeep K14q all0) _ _ _ f12))
    have f25 : Exa Z h19 a2 "java/math/BigDecimal" := ((f13.keep K14q).wr W19)
    obtain ⟨cq23, kq23, q23a, q23b, q23c⟩ := isOf hZ1 e22 f25
    obtain ⟨_, _, ⟨T23, L23, k23, n23⟩, -, X23, ⟨Lc23, hQ23, l23, y23, z23⟩, st23⟩ := X22.virtualBack hx (y := (⟨"java/math/BigDecimal", "scale", "()I"⟩ : MethodName)) (z := (⟨"java/math/BigDecimal", "scale", "()I"⟩ : MethodName)) hown1 (mvT hZ1 (hw _ (List.mem_of_getElem? (i := 91) rfl))) (mvT hZ1 (hw _ (List.mem_of_getElem? (i := 92) rfl))) (notFace_of_selects (args := #[]) (mvT hZ1 (hw _ (List.mem_of_getElem? (i := 94) rfl)))) (mvT hZ1 (hw _ (List.mem_of_getElem? (i := 94) rfl))) (mvT hZ1 (hw _ (List.mem_of_getElem? (i := 93) rfl))) (by decide) (backOf (W := 2) (rmSc l Z a0 hw [] a2 s_ h19 n0 (Nat.le_trans Z0 K4.1) f24.2.1) hZ1 (hw _ (List.mem_of_getElem? (i := 95) rfl)) (hw _ (List.mem_of_getElem? (i := 8) rfl)) (by decide) (by decide)) q23a q23c (g := (mkF m 39 #[.val (.ref a1), .val (.int (0 : Int32)), .val (.ref a2)] [(.ref a2), (.int (0 : Int32)), (.ref sa)])) rfl (by rw [hml]; rfl) (Steps.refl _) (argsL := []) (rest := [(.int (0 : Int32)), (.ref sa)]) (lenOf own_pd___I rfl) rfl (by show 2 * 0 + _ ≤ _; exact Nat.le_of_eq rfl) (hb hby own_d_prog_48_method_6_code_39) (fun _ _ => ⟨rfl, e22, (by decide : 3 + 0 ≤ _), (by decide : 29 + 0 ≤ _)⟩)
    dsimp only [Pt.U, Pt.locs, Pt.cells, Pt.slots] at X23 l23 y23 z23 st23 hQ23
    subst l23 y23 z23
    obtain ⟨rfl, N23q, e23q⟩ := hQ23
    have N23a := Fr.app Nf19 N23q
    have f26 : Arv Z h1 sa kb .int (3 : Int32) [(.int c0), (.int c1), (.int c2)] (.int (0 : Int32)) := (V_sa.ext E1)
    have f27 : Arv Z h19 sa kb .int (3 : Int32) [(.int c0), (.int c1), (.int c2)] (.int (0 : Int32)) := ((((V_sa.ext E1).keep K4q (fun hx_ => (Ne.symm (Exa.neArv f6 f26 (hw _ (List.mem_of_getElem? (i := 11) rfl)))) (on4 _ hx_))).keep K14q nin0).other W19 (Ne.symm n_us))
    obtain ⟨cl28, Ar28, q28, S28, N_28, H_28, G28⟩ := id f27
    obtain ⟨T29, h29, X29, e29, W29, st29⟩ := stI X23 hx hZ1 e23q Ar28 (j := (0 : Int32)) (inb_of S28 ⟨by decide, by decide⟩) (g := (mkF m 42 #[.val (.ref a1), .val (.int (0 : Int32)), .val (.ref a2)] [(.int s_), (.int (0 : Int32)), (.ref sa)])) rfl rfl (hb hby own_d_prog_48_method_6_code_42)
    have V29_sa : Arv Z h29 sa kb .int (3 : Int32) [(.int s_), (.int c1), (.int c2)] (.int (0 : Int32)) := Arv.set Ar28 q28 S28 N_28 H_28 G28 rfl W29 0 rfl (Nat.le_of_ble_eq_true rfl)
    have Nf29 := Fr.snoc X29 N23a g_sa
    have CH5 : CHr Z own_EL s.vm h0 T1.vm h29 := CH4.trans (CHr.wr W29 (own_safeV (hZ1 : Z.Warmed39 T1.vm).alike f27 (by decide)) CH4.1)
    have K5 : Keep h0 h29 (own_fr n0 h0) := K4.wr W29 (own_frq g_sa)
    have f30 : Exa Z h19 a1 "com/example/floatweight/floatweight/Prices" := (f20.wr W19)
    have f31 : Fld Z h29 a1 "com/example/floatweight/floatweight/Prices" "mWhole" "[Ljava/math/BigDecimal;" (.ref wa) := (((((F_mWhole_a1.ext E1).keep K4q (fun hx_ => (Exa.ne f8 f6 (by decide)) (on4 _ hx_))).keep K14q nin0).other W19 (Or.inl (Exa.neArv f20 f17 (hw _ (List.mem_of_getElem? (i := 39) rfl))))).other W29 (Or.inl (Exa.neArv f30 f27 (hw _ (List.mem_of_getElem? (i := 39) rfl)))))
    have f32 : Arv Z h1 wa kc (.object "java/math/BigDecimal") (3 : Int32) [w0, w1, w2] .null := (V_wa.ext E1)
    have f33 : Arv Z h29 wa kc (.object "java/math/BigDecimal") (3 : Int32) [w0, w1, w2] .null := (((((V_wa.ext E1).keep K4q (fun hx_ => (Ne.symm (Exa.neArv f6 f32 (hw _ (List.mem_of_getElem? (i := 11) rfl)))) (on4 _ hx_))).keep K14q nin0).other W19 n_wu).other W29 n_ws)
    have f34 : Exa Z h29 a1 "com/example/floatweight/floatweight/Prices" := (f30.wr W29)
    have f35 : Fld Z h29 a1 "com/example/floatweight/floatweight/Prices" "mUnscaled" "[J" (.ref ua) := (((f9.keep K14q nin0).other W19 (Or.inl (Exa.neArv f20 f17 (hw _ (List.mem_of_getElem? (i := 39) rfl))))).other W29 (Or.inl (Exa.neArv f30 f27 (hw _ (List.mem_of_getElem? (i := 39) rfl)))))
    have f36 : Fld Z h29 a1 "com/example/floatweight/floatweight/Prices" "mScales" "[I" (.ref sa) := (f21.other W29 (Or.inl (Exa.neArv f30 f27 (hw _ (List.mem_of_getElem? (i := 39) rfl)))))
    have f37 : Arv Z h29 ua ka .long (3 : Int32) [(.long v), (.long u1), (.long u2)] (.long (0 : Int64)) := (V19_ua.other W29 n_us)
    have hk_38 := (Nat.le_trans (Nat.le_trans (Nat.le_trans (Nat.le_trans hk1 K4q.1) K14q.1) (Keep.of_wr W19).1) (Keep.of_wr W29).1)
    obtain ⟨fs, hr, hrun, hended, hend⟩ := X29.leaveW hS1 (by rw [e29]; exact hk_38) (v := none) (fun _ => rfl)
    refine ⟨_, _, pre0 _ ?_, hrun, hended, _, _, rfl, ?_, ?_, hend.1, hend.2.1, hend.2.2.1, hend.2.2.2.mono (by decide) (by decide)⟩
    · refine cut7 _ ?_
      show Steps p.tables e below (T4.setTop (mkF m 13 #[.val (.ref a1), .val (.int (0 : Int32)), .val (.ref a2)] [(.int (18 : Int32)), (.int r4)])) _
      refine XS.icmpNo X4.here hx rfl (hb hby own_d_prog_48_method_6_code_13) rfl (flt (c18 : ¬ ((18 : Int32) < r4))).2.2.1 ?_
      refine XS.aloadN X4.here hx rfl (hb hby own_d_prog_48_method_6_code_16) rfl rfl ?_
      show Steps p.tables e below (T4.setTop (mkF m 17 #[.val (.ref a1), .val (.int (0 : Int32)), .val (.ref a2)] [(.ref a1)])) _
      refine st10 _ ?_
      refine XS.iloadN X10.here hx rfl (hb hby own_d_prog_48_method_6_code_20) rfl ?_
      refine XS.aloadN X10.here hx rfl (hb hby own_d_prog_48_method_6_code_21) rfl rfl ?_
      show Steps p.tables e below (T10.setTop (mkF m 22 #[.val (.ref a1), .val (.int (0 : Int32)), .val (.ref a2)] [(.ref a2), (.int (0 : Int32)), (.ref ua)])) _
      refine XS.aloadN X10.here hx rfl (hb hby own_d_prog_48_method_6_code_22) rfl rfl ?_
      show Steps p.tables e below (T10.setTop (mkF m 23 #[.val (.ref a1), .val (.int (0 : Int32)), .val (.ref a2)] [(.ref a2), (.ref a2), (.int (0 : Int32)), (.ref ua)])) _
      refine st11.trans ?_
      show Steps p.tables e below (T11.setTop (mkF m 26 #[.val (.ref a1), .val (.int (0 : Int32)), .val (.ref a2)] [(.int s_), (.ref a2), (.int (0 : Int32)), (.ref ua)])) _
      refine st14.trans ?_
      show Steps p.tables e below (T14.setTop (mkF m 29 #[.val (.ref a1), .val (.int (0 : Int32)), .val (.ref a2)] [(.ref m14), (.int (0 : Int32)), (.ref ua)])) _
      refine st15.trans ?_
      show Steps p.tables e below (T15.setTop (mkF m 32 #[.val (.ref a1), .val (.int (0 : Int32)), .val (.ref a2)] [(.long v), (.int (0 : Int32)), (.ref ua)])) _
      refine st19 _ ?_
      refine XS.aloadN X19.here hx rfl (hb hby own_d_prog_48_method_6_code_33) rfl rfl ?_
      show Steps p.tables e below (T19.setTop (mkF m 34 #[.val (.ref a1), .val (.int (0 : Int32)), .val (.ref a2)] [(.ref a1)])) _
      refine st22 _ ?_
      refine XS.iloadN X22.here hx rfl (hb hby own_d_prog_48_method_6_code_37) rfl ?_
      refine XS.aloadN X22.here hx rfl (hb hby own_d_prog_48_method_6_code_38) rfl rfl ?_
      show Steps p.tables e below (T22.setTop (mkF m 39 #[.val (.ref a1), .val (.int (0 : Int32)), .val (.ref a2)] [(.ref a2), (.int (0 : Int32)), (.ref sa)])) _
      refine st23.trans ?_
      show Steps p.tables e below (T23.setTop (mkF m 42 #[.val (.ref a1), .val (.int (0 : Int32)), .val (.ref a2)] [(.int s_), (.int (0 : Int32)), (.ref sa)])) _
      refine st29 _ ?_
      refine XS.goto X29.here hx rfl (pc0 := 43) (pc' := 86) rfl (hb hby own_d_prog_48_method_6_code_43) (by decide) (by decide) ?_
      show Steps p.tables e below (T29.setTop (mkF m 86 #[.val (.ref a1), .val (.int (0 : Int32)), .val (.ref a2)] [])) _
      exact X29.returnOut hx Bd.returns (hb hby own_d_prog_48_method_6_code_86) hr
    · show QS0 Z a1 u1 u2 c1 c2 w1 w2 v s_ h0 n0 _ T29.heap _
      rw [e29]
      exact ⟨v, s_, w0, rfl, Nf29, K5, ⟨ua, sa, ka, kb, g_a1, g_ua, g_sa, n_us, f34, f35, f36, f37, V29_sa, Or.inr ⟨wa, kc, g_wa, n_wu, n_ws, f31, f33, ov⟩⟩, Or.inl ⟨rfl, rfl⟩, (fun x_ v_ s_' b_ => ((Pres.ofWr W29 (NB.ofV f27 (hw _ (List.mem_of_getElem? (i := 11) rfl)))) _ _ _ ((Pres.ofWr W19 (NB.ofV f17 (hw _ (List.mem_of_getElem? (i := 11) rfl)))) _ _ _ ((Pres.ofKeep K14q all0) _ _ _ (Ps4 _ _ _ ((Pres.ofExt E1) _ _ _ b_))))))⟩
    · show CHr Z own_EL s.vm s.heap T29.vm T29.heap
      rw [hh, e29]
      exact CH5.trans (CHv.at X29 hZ1 hEL CH5.1)
theorem rmS0 (l : Launch) (Z : State) (a0 : Array Value) (hw : ∀ d ∈ tables_1, d.before a0 Z = true) (ws : List Jvm.Cond) (hEL : EW Z a0 own_EL) (a1 a2 : Addr) (u0 u1 u2 : Int64) (c0 c1 c2 : Int32) (w0 w1 w2 : Value) (v : Int64) (s_ : Int32) (h0 : Heap) (n0 : Nat) (Z0 : n0 ≤ h0.size) (R : PRS Z n0 h0 a1 u0 u1 u2 c0 c1 c2 w0 w1 w2) (B_a2 : BD Z n0 h0 a2 v s_) (hv : (0 : Int64) < v) (hTP : TPT Z) (O0 : Old Z n0 h0) :
    MetFree l (⟨"com/example/floatweight/floatweight/Prices", "set", "(ILjava/math/BigDecimal;)V"⟩ : MethodName) (head1 (Jvm.Cond.code (⟨"com/example/floatweight/floatweight/Prices", "set", "(ILjava/math/BigDecimal;)V"⟩ : MethodName) prog_48_method_6_code 3 none :: ws) ({ frames := 4, cells := 3, slots := 29, locals := 59 } : Room)) (fun a U => a = #[(.ref a1), (.int (0 : Int32)), (.ref a2)] ∧ Z.Warmed39 U.vm ∧ U.heap = h0 ∧ CHv Z own_EL U.vm h0) (fun _ _ _ _ _ => True) (fun _ U o U' => ∃ v' L, o = .returned v' ∧ QS0 Z a1 u1 u2 c1 c2 w1 w2 v s_ h0 n0 v' U'.heap L ∧ CHr Z own_EL U.vm U.heap U'.vm U'.heap ∧ ReturnedEndW U o U' L 3 29) := by
  obtain ⟨ua, sa, ka, kb, g1, g2, g3, g4, e, f1, f2, A1, A2, w⟩ := R
  rcases w with ⟨f3, q0, q1, q2⟩ | ⟨wa, kc, g5, g6, g7, f3, A3, ov⟩
  · exact rs0n l Z a0 hw ws hEL a1 a2 ua sa ka kb u0 u1 u2 c0 c1 c2 w0 w1 w2 v s_ h0 n0 Z0 e f1 f2 f3 A1 A2 g4 g1 g2 g3 B_a2 hv hTP O0 q0 q1 q2
  · exact rs0w l Z a0 hw ws hEL a1 a2 ua sa ka kb u0 u1 u2 c0 c1 c2 w0 w1 w2 wa kc v s_ h0 n0 Z0 e f1 f2 f3 A1 A2 g4 A3 g6 g7 ov g1 g2 g3 g5 B_a2 hv hTP O0
set_option maxRecDepth 65536 in
set_option maxHeartbeats 40000000 in
theorem rs1n (l : Launch) (Z : State) (a0 : Array Value) (hw : ∀ d ∈ tables_1, d.before a0 Z = true) (ws : List Jvm.Cond) (hEL : EW Z a0 own_EL) (a1 a2 ua sa : Addr) (ka kb : ClassId) (u0 u1 u2 : Int64) (c0 c1 c2 : Int32) (w0 w1 w2 : Value) (v : Int64) (s_ : Int32) (h0 : Heap) (n0 : Nat) (Z0 : n0 ≤ h0.size) (E_a1 : Exa Z h0 a1 "com/example/floatweight/floatweight/Prices") (F_mUnscaled_a1 : Fld Z h0 a1 "com/example/floatweight/floatweight/Prices" "mUnscaled" "[J" (.ref ua)) (F_mScales_a1 : Fld Z h0 a1 "com/example/floatweight/floatweight/Prices" "mScales" "[I" (.ref sa)) (F_mWhole_a1 : Fld Z h0 a1 "com/example/floatweight/floatweight/Prices" "mWhole" "[Ljava/math/BigDecimal;" .null) (V_ua : Arv Z h0 ua ka .long (3 : Int32) [(.long u0), (.long u1), (.long u2)] (.long (0 : Int64))) (V_sa : Arv Z h0 sa kb .int (3 : Int32) [(.int c0), (.int c1), (.int c2)] (.int (0 : Int32))) (n_us : ua ≠ sa) (g_a1 : n0 ≤ a1) (g_ua : n0 ≤ ua) (g_sa : n0 ≤ sa) (B_a2 : BD Z n0 h0 a2 v s_) (hv : (0 : Int64) < v) (hTP : TPT Z) (O0 : Old Z n0 h0) (hw0 : w0 = .null) (hw1 : w1 = .null) (hw2 : w2 = .null) :
    MetFree l (⟨"com/example/floatweight/floatweight/Prices", "set", "(ILjava/math/BigDecimal;)V"⟩ : MethodName) (head1 (Jvm.Cond.code (⟨"com/example/floatweight/floatweight/Prices", "set", "(ILjava/math/BigDecimal;)V"⟩ : MethodName) prog_48_method_6_code 3 none :: ws) ({ frames := 4, cells := 3, slots := 29, locals := 59 } : Room)) (fun a U => a = #[(.ref a1), (.int (1 : Int32)), (.ref a2)] ∧ Z.Warmed39 U.vm ∧ U.heap = h0 ∧ CHv Z own_EL U.vm h0) (fun _ _ _ _ _ => True) (fun _ U o U' => ∃ vr_ Lr_, o = .returned vr_ ∧ QS1 Z a1 u0 u2 c0 c2 w0 w2 v s_ h0 n0 vr_ U'.heap Lr_ ∧ CHr Z own_EL U.vm U.heap U'.vm U'.heap ∧ ReturnedEndW U o U' Lr_ 3 29) := by
  refine MetFree.of_bodySF (plainFor_of_name own_pn_com_example_floatweight_floatweight_Prices) hisR ?_
  intro p e s m args below meth c s₁ Bd hml0 hP hK
  obtain ⟨rfl, hZ, hh, hCH0⟩ := hP
  have hx := Bd.exec
  have hby := Bd.bytes
  have hml : c.maxLocals = 3 := hml0
  have hown : s.vm.findClass "com/example/floatweight/floatweight/Prices" = some m.cls := findClass_of_methodNamed Bd.named
  have hnm := (name_of_methodNamed Bd.named Bd.method).1
  have X0 : Stand p l e ({ frames := 4, cells := 3, slots := 29, locals := 59 } : Room) (s.setVm s.vm) m #[(.ref a1), (.int (1 : Int32)), (.ref a2)] below meth c s₁ [] 0 0 := Stand.of_body Bd
  have e0 : s₁.heap = h0 := by rw [← hh, Bd.state]; rfl
  have N0 := Fr.nil n0
  have CH0 : CHr Z own_EL s.vm h0 s.vm h0 := CHr.refl hCH0
  have hS0 : s.Since s.vm 0 := State.WarmedH.since (State.WarmedH.refl s) 0
  have pre0 : ∀ t, Steps p.tables e below (s₁.setTop (mkF m 0 #[.val (.ref a1), .val (.int (1 : Int32)), .val (.ref a2)] [])) t → Steps p.tables e below (s₁.setTop (entryFrame m #[(.ref a1), (.int (1 : Int32)), (.ref a2)] 3)) t := fun t k => castTop (own_ef_prog_48_method_6_code_xxx m a1 (1 : Int32) a2) k
  obtain ⟨lit1, T1, h1, kl1, X1, e1, E1, hS1, hk1, hZ1, hown1, C1, Lt1, st1⟩ := ldcOH X0 hx hZ hown (hw _ (List.mem_of_getElem? (i := 56) rfl)) (own_wS hw) e0 hS0 (Nat.zero_le _) hEL CH0.1 (g := (mkF m 0 #[.val (.ref a1), .val (.int (1 : Int32)), .val (.ref a2)] [])) rfl (hb hby own_d_prog_48_method_6_code_0) (n := 20) (by decide) (by decide) (by decide) (by decide)
  have CH1 : CHr Z own_EL s.vm h0 T1.vm h1 := CH0.trans C1
  have K1 : Keep h0 h1 (own_fr n0 h0) := (Keep.refl h0 (own_fr n0 h0)).ext E1
  have f3 : BD Z n0 h1 a2 v s_ := ((Pres.ofExt E1) _ _ _ B_a2)
  obtain ⟨_, _, ⟨T2, L2, k2, n2⟩, -, X2, ⟨Lc2, hQ2, l2, y2, z2⟩, st2⟩ := Jvm.LawKit.callS X1 hx (y := (⟨"com/example/floatweight/floatweight/IndexArithmetic", "requirePositive", "(Ljava/lang/String;Ljava/math/BigDecimal;)Ljava/math/BigDecimal;"⟩ : MethodName)) hown1 (mvT hZ1 (hw _ (List.mem_of_getElem? (i := 64) rfl))) (mvT hZ1 (hw _ (List.mem_of_getElem? (i := 65) rfl))) (mvT hZ1 (hw _ (List.mem_of_getElem? (i := 66) rfl))) (mvT hZ1 (hw _ (List.mem_of_getElem? (i := 67) rfl))) (by decide) (backOf (W := 0) (rmRp l Z a0 hw [] lit1 a2 v h1 n0 (Nat.le_trans Z0 K1.1) f3.1 f3.2.2.1 hv) hZ1 (hw _ (List.mem_of_getElem? (i := 67) rfl)) (hw _ (List.mem_of_getElem? (i := 66) rfl)) (by decide) (by decide)) (g := (mkF m 3 #[.val (.ref a1), .val (.int (1 : Int32)), .val (.ref a2)] [(.ref a2), (.ref lit1)])) rfl (by rw [hml]; rfl) (argsL := [(.ref lit1), (.ref a2)]) (rest := []) (lenOf own_pd__Ljava_lang_String_Ljava_math_BigDecimal__Ljava_math_BigDecimal_ rfl) rfl (by show 2 * 0 + _ ≤ _; exact Nat.le_of_eq rfl) (hb hby own_d_prog_48_method_6_code_3) (fun _ _ => ⟨rfl, e1, (by decide : 2 + 0 ≤ _), (by decide : 24 + 0 ≤ _)⟩)
  dsimp only [Pt.U, Pt.locs, Pt.cells, Pt.slots] at X2 l2 y2 z2 st2 hQ2
  subst l2 y2 z2
  obtain ⟨rfl, N2q, e2q⟩ := hQ2
  have N2a := Fr.app N0 N2q
  have f5 : Old Z n0 h1 := (O0.ext E1)
  have f6 : Exa Z h1 a2 "java/math/BigDecimal" := (B_a2.1.ext E1)
  obtain ⟨cq4, kq4, q4a, q4b, q4c⟩ := isOf hZ1 e2q f6
  obtain ⟨_, _, ⟨T4, L4, k4, n4⟩, -, X4, ⟨Lc4, hQ4, l4, y4, z4⟩, st4⟩ := X2.virtualBack hx (y := (⟨"java/math/BigDecimal", "precision", "()I"⟩ : MethodName)) (z := (⟨"java/math/BigDecimal", "precision", "()I"⟩ : MethodName)) hown1 (mvT hZ1 (hw _ (List.mem_of_getElem? (i := 81) rfl))) (mvT hZ1 (hw _ (List.mem_of_getElem? (i := 82) rfl))) (notFace_of_selects (args := #[]) (mvT hZ1 (hw _ (List.mem_of_getElem? (i := 84) rfl)))) (mvT hZ1 (hw _ (List.mem_of_getElem? (i := 84) rfl))) (mvT hZ1 (hw _ (List.mem_of_getElem? (i := 83) rfl))) (by decide) (backOf (W := 0) (rmPr l Z a0 hw [] a2 v s_ h1 n0 (Nat.le_trans Z0 K1.1) f3 hv hTP f5) hZ1 (hw _ (List.mem_of_getElem? (i := 85) rfl)) (hw _ (List.mem_of_getElem? (i := 8) rfl)) (by decide) (by decide)) q4a q4c (g := (mkF m 8 #[.val (.ref a1), .val (.int (1 : Int32)), .val (.ref a2)] [(.ref a2)])) rfl (by rw [hml]; rfl) (Steps.refl _) (argsL := []) (rest := []) (lenOf own_pd___I rfl) rfl (by show 2 * 0 + _ ≤ _; exact Nat.le_of_eq rfl) (hb hby own_d_prog_48_method_6_code_8) (fun _ _ => ⟨rfl, e2q, (by decide : 2 + 0 ≤ _), (by decide : 24 + 0 ≤ _)⟩)
  dsimp only [Pt.U, Pt.locs, Pt.cells, Pt.slots] at X4 l4 y4 z4 st4 hQ4
  subst l4 y4 z4
  obtain ⟨r4, ws4, rfl, N4q, K4q, ge4, on4, Ps4⟩ := hQ4
  have N4a := Fr.app N2a N4q
  have CH2 : CHr Z own_EL s.vm h0 T1.vm T4.heap := CH1.trans (CHr.keep K4q (fun x_ hx_ => own_safe0 x_) CH1.1)
  have K2 : Keep h0 T4.heap (own_fr n0 h0) := K1.trans K4q (fun x_ hx_ => own_frq (ge4 x_ hx_))
  have cut7 : ∀ t, Steps p.tables e below (T4.setTop (mkF m 13 #[.val (.ref a1), .val (.int (1 : Int32)), .val (.ref a2)] [(.int (18 : Int32)), (.int r4)])) t → Steps p.tables e below (s₁.setTop (mkF m 0 #[.val (.ref a1), .val (.int (1 : Int32)), .val (.ref a2)] [])) t := fun t kk => by
    show Steps p.tables e below (s₁.setTop (mkF m 0 #[.val (.ref a1), .val (.int (1 : Int32)), .val (.ref a2)] [])) _
    refine st1 _ ?_
    refine XS.aloadN X1.here hx rfl (hb hby own_d_prog_48_method_6_code_2) rfl rfl ?_
    show Steps p.tables e below (T1.setTop (mkF m 3 #[.val (.ref a1), .val (.int (1 : Int32)), .val (.ref a2)] [(.ref a2), (.ref lit1)])) _
    refine st2 _ ?_
    refine XS.pop X2.here hx rfl (hb hby own_d_prog_48_method_6_code_6) rfl rfl ?_
    refine XS.aloadN X2.here hx rfl (hb hby own_d_prog_48_method_6_code_7) rfl rfl ?_
    show Steps p.tables e below (T2.setTop (mkF m 8 #[.val (.ref a1), .val (.int (1 : Int32)), .val (.ref a2)] [(.ref a2)])) _
    refine st4.trans ?_
    refine XS.bipush X4.here hx rfl (hb hby own_d_prog_48_method_6_code_11) ?_
    exact kk
  by_cases c18 : (18 : Int32) < r4
  · have f8 : Exa Z h1 a1 "com/example/floatweight/floatweight/Prices" := (E_a1.ext E1)
    have f9 : Fld Z T4.heap a1 "com/example/floatweight/floatweight/Prices" "mUnscaled" "[J" (.ref ua) := ((F_mUnscaled_a1.ext E1).keep K4q (fun hx_ => (Exa.ne f8 f6 (by decide)) (on4 _ hx_)))
    obtain ⟨T10, X10, e10, st10⟩ := getF X4 hx hZ1 hown1 (host := "") (Or.inl (hw _ (List.mem_of_getElem? (i := 46) rfl))) Via.refl rfl f9 (g := (mkF m 47 #[.val (.ref a1), .val (.int (1 : Int32)), .val (.ref a2)] [(.ref a1)])) rfl rfl (hb hby own_d_prog_48_method_6_code_47)
    have f11 : Arv Z h1 ua ka .long (3 : Int32) [(.long u0), (.long u1), (.long u2)] (.long (0 : Int64)) := (V_ua.ext E1)
    have f12 : Arv Z T4.heap ua ka .long (3 : Int32) [(.long u0), (.long u1), (.long u2)] (.long (0 : Int64)) := ((V_ua.ext E1).keep K4q (fun hx_ => (Ne.symm (Exa.neArv f6 f11 (hw _ (List.mem_of_getElem? (i := 11) rfl)))) (on4 _ hx_)))
    obtain ⟨cl13, Ar13, q13, S13, N_13, H_13, G13⟩ := id f12
    obtain ⟨T14, h14, X14, e14, W14, st14⟩ := stJ X10 hx hZ1 e10 Ar13 (j := (1 : Int32)) (inb_of S13 ⟨by decide, by decide⟩) (g := (mkF m 52 #[.val (.ref a1), .val (.int (1 : Int32)), .val (.ref a2)] [(.long (0 : Int64)), (.int (1 : Int32)), (.ref ua)])) rfl rfl (hb hby own_d_prog_48_method_6_code_52)
    have V14_ua : Arv Z h14 ua ka .long (3 : Int32) [(.long u0), (.long (0 : Int64)), (.long u2)] (.long (0 : Int64)) := Arv.set Ar13 q13 S13 N_13 H_13 G13 rfl W14 1 rfl (Nat.le_of_ble_eq_true rfl)
    have Nf14 := Fr.snoc X14 N4a g_ua
    have CH3 : CHr Z own_EL s.vm h0 T1.vm h14 := CH2.trans (CHr.wr W14 (own_safeV (hZ1 : Z.Warmed39 T1.vm).alike f12 (by decide)) CH2.1)
    have K3 : Keep h0 h14 (own_fr n0 h0) := K2.wr W14 (own_frq g_ua)
    have f15 : Exa Z T4.heap a1 "com/example/floatweight/floatweight/Prices" := (f8.keep K4q)
    have f16 : Fld Z h14 a1 "com/example/floatweight/floatweight/Prices" "mWhole" "[Ljava/math/BigDecimal;" .null := (((F_mWhole_a1.ext E1).keep K4q (fun hx_ => (Exa.ne f8 f6 (by decide)) (on4 _ hx_))).other W14 (Or.inl (Exa.neArv f15 f12 (hw _ (List.mem_of_getElem? (i := 39) rfl)))))
    obtain ⟨T17, X17, e17, st17⟩ := getF X14 hx hZ1 hown1 (host := "") (Or.inl (hw _ (List.mem_of_getElem? (i := 120) rfl))) Via.refl e14 f16 (g := (mkF m 55 #[.val (.ref a1), .val (.int (1 : Int32)), .val (.ref a2)] [(.ref a1), (.ref a1)])) rfl rfl (hb hby own_d_prog_48_method_6_code_55)
    have f18 : Fld Z h14 a1 "com/example/floatweight/floatweight/Prices" "mUnscaled" "[J" (.ref ua) := (f9.other W14 (Or.inl (Exa.neArv f15 f12 (hw _ (List.mem_of_getElem? (i := 39) rfl)))))
    obtain ⟨T19, X19, e19, st19⟩ := getF X17 hx hZ1 hown1 (host := "") (Or.inl (hw _ (List.mem_of_getElem? (i := 46) rfl))) Via.refl e17 f18 (g := (mkF m 62 #[.val (.ref a1), .val (.int (1 : Int32)), .val (.ref a2)] [(.ref a1), (.ref a1)])) rfl rfl (hb hby own_d_prog_48_method_6_code_62)
    obtain ⟨cl20, Ar20, q20, S20, N_20, H_20, G20⟩ := id V14_ua
    obtain ⟨T21, h21, ka21, X21, e21, E21, A21, O21, st21⟩ := newR X19 hx hZ1 hown1 (hw _ (List.mem_of_getElem? (i := 122) rfl)) (hw _ (List.mem_of_getElem? (i := 123) rfl)) e19 (g := (mkF m 66 #[.val (.ref a1), .val (.int (1 : Int32)), .val (.ref a2)] [(.int (3 : Int32)), (.ref a1)])) rfl (hb hby own_d_prog_48_method_6_code_66) rfl (by decide) (cap := 3) (by decide) (by decide) (by decide) (by decide)
    obtain ⟨b21, g21⟩ : ∃ z, z = h14.size := ⟨_, rfl⟩
    rw [← g21] at A21 st21
    have sz_b21 : h0.size ≤ b21 := Nat.le_trans K3.1 (Nat.le_of_eq g21.symm)
    have g_b21 : n0 ≤ b21 := Nat.le_trans Z0 sz_b21
    have CH4 : CHr Z own_EL s.vm h0 T1.vm h21 := CH3.trans (CHr.ext E21 CH3.1)
    have K4 : Keep h0 h21 (own_fr n0 h0) := K3.ext E21
    have V_b21 : Arv Z h21 b21 ka21 (.object "java/math/BigDecimal") (3 : Int32) [.null, .null, .null] .null := (Arv.new A21 (by decide)).pad (pad_rep [] .null 3)
    have f22 : Fld Z h21 a1 "com/example/floatweight/floatweight/Prices" "mWhole" "[Ljava/math/BigDecimal;" .null := (f16.ext E21)
    have f23 : Exa Z h21 a1 "com/example/floatweight/floatweight/Prices" := ((f15.wr W14).ext E21)
    obtain ⟨T24, h24, X24, e24, W24, st24⟩ := putF X21 hx hZ1 hown1 (host := "") (Or.inl (hw _ (List.mem_of_getElem? (i := 120) rfl))) Via.refl e21 f22 f23 (Or.inl (hw _ (List.mem_of_getElem? (i := 121) rfl))) (hw _ (List.mem_of_getElem? (i := 39) rfl)) (ty := (.array (.object "java/math/BigDecimal"))) (by decide) rfl rfl (g := (mkF m 76 #[.val (.ref a1), .val (.int (1 : Int32)), .val (.ref a2)] [(.ref b21), (.ref a1)])) rfl rfl (hb hby own_d_prog_48_method_6_code_76)
    have Fw24 := f22.same W24
    have Nf24 := Fr.snoc X24 Nf14 g_a1
    have CH5 : CHr Z own_EL s.vm h0 T1.vm h24 := CH4.trans (CHr.wr W24 (Safe.exa (hZ1 : Z.Warmed39 T1.vm).alike f23 (by decide) (by decide)) CH4.1)
    have K5 : Keep h0 h24 (own_fr n0 h0) := K4.wr W24 (own_frq g_a1)
    obtain ⟨T25, X25, e25, st25⟩ := getF X24 hx hZ1 hown1 (host := "") (Or.inl (hw _ (List.mem_of_getElem? (i := 120) rfl))) Via.refl e24 Fw24 (g := (mkF m 80 #[.val (.ref a1), .val (.int (1 : Int32)), .val (.ref a2)] [(.ref a1)])) rfl rfl (hb hby own_d_prog_48_method_6_code_80)
    have f26 : Exa Z h14 a1 "com/example/floatweight/floatweight/Prices" := (f15.wr W14)
    have f27 : Arv Z h24 b21 ka21 (.object "java/math/BigDecimal") (3 : Int32) [.null, .null, .null] .null := (V_b21.other W24 (Ne.symm (Nat.ne_of_lt (Nat.lt_of_lt_of_le f26.lt (Nat.le_of_eq g21.symm)))))
    obtain ⟨cl28, Ar28, q28, S28, N_28, H_28, G28⟩ := id f27
    have f30 : Exa Z h24 a2 "java/math/BigDecimal" := ((((f6.keep K4q).wr W14).ext E21).wr W24)
    obtain ⟨T29, h29, X29, e29, W29, st29⟩ := stR X25 hx hZ1 e25 Ar28 (j := (1 : Int32)) (v := (.ref a2)) (inb_of S28 ⟨by decide, by decide⟩) rfl (Sto.ofV Ar28 q28 O21 (Ins.self f30)) (g := (mkF m 85 #[.val (.ref a1), .val (.int (1 : Int32)), .val (.ref a2)] [(.ref a2), (.int (1 : Int32)), (.ref b21)])) rfl rfl (hb hby own_d_prog_48_method_6_code_85)
    have V29_b21 : Arv Z h29 b21 ka21 (.object "java/math/BigDecimal") (3 : Int32) [.null, (.ref a2), .null] .null := Arv.set Ar28 q28 S28 N_28 H_28 G28 rfl W29 1 rfl (Nat.le_of_ble_eq_true rfl)
    have Nf29 := Fr.snoc X29 Nf24 g_b21
    have CH6 : CHr Z own_EL s.vm h0 T1.vm h29 := CH5.trans (CHr.wr W29 (own_safeV (hZ1 : Z.Warmed39 T1.vm).alike f27 (by decide)) CH5.1)
    have K6 : Keep h0 h29 (own_fr n0 h0) := K5.wr W29 (own_frq g_b21)
    have f31 : BD Z n0 h29 a2 v s_ := ((Pres.ofWr W29 (NB.ofV f27 (hw _ (List.mem_of_getElem? (i := 11) rfl)))) _ _ _ ((Pres.ofWr W24 (NB.ofE f23 (by decide))) _ _ _ ((Pres.ofExt E21) _ _ _ ((Pres.ofWr W14 (NB.ofV f12 (hw _ (List.mem_of_getElem? (i := 11) rfl)))) _ _ _ (Ps4 _ _ _ f3)))))
    have f32 : Arv Z h1 sa kb .int (3 : Int32) [(.int c0), (.int c1), (.int c2)] (.int (0 : Int32)) := (V_sa.ext E1)
    have f33 : Arv Z h14 sa kb .int (3 : Int32) [(.int c0), (.int c1), (.int c2)] (.int (0 : Int32)) := (((V_sa.ext E1).keep K4q (fun hx_ => (Ne.symm (Exa.neArv f6 f32 (hw _ (List.mem_of_getElem? (i := 11) rfl)))) (on4 _ hx_))).other W14 (Ne.symm n_us))
    have f34 : Fld Z h29 a1 "com/example/floatweight/floatweight/Prices" "mWhole" "[Ljava/math/BigDecimal;" (.ref b21) := (Fw24.other W29 (Or.inl (Nat.ne_of_lt (Nat.lt_of_lt_of_le f26.lt (Nat.le_of_eq g21.symm)))))
    have f35 : Exa Z h29 a1 "com/example/floatweight/floatweight/Prices" := ((f23.wr W24).wr W29)
    have f36 : Fld Z h29 a1 "com/example/floatweight/floatweight/Prices" "mUnscaled" "[J" (.ref ua) := (((f18.ext E21).other W24 (Or.inr (slot_ne (Or.inr (hw _ (List.mem_of_getElem? (i := 47) rfl))) (Or.inl (hw _ (List.mem_of_getElem? (i := 121) rfl))) (by decide) (t := (.array .long)) (t' := (.array (.object "java/math/BigDecimal"))) (by decide) (by decide)))).other W29 (Or.inl (Nat.ne_of_lt (Nat.lt_of_lt_of_le f26.lt (Nat.le_of_eq g21.symm)))))
    have f37 : Fld Z h29 a1 "com/example/floatweight/floatweight/Prices" "mScales" "[I" (.ref sa) := ((((((F_mScales_a1.ext E1).keep K4q (fun hx_ => (Exa.ne f8 f6 (by decide)) (on4 _ hx_))).other W14 (Or.inl (Exa.neArv f15 f12 (hw _ (List.mem_of_getElem? (i := 39) rfl))))).ext E21).other W24 (Or.inr (slot_ne (Or.inr (hw _ (List.mem_of_getElem? (i := 50) rfl))) (Or.inl (hw _ (List.mem_of_getElem? (i := 121) rfl))) (by decide) (t := (.array .int)) (t' := (.array (.object "java/math/BigDecimal"))) (by decide) (by decide)))).other W29 (Or.inl (Nat.ne_of_lt (Nat.lt_of_lt_of_le f26.lt (Nat.le_of_eq g21.symm)))))
    have f38 : Arv Z h21 ua ka .long (3 : Int32) [(.long u0), (.long (0 : Int64)), (.long u2)] (.long (0 : Int64)) := (V14_ua.ext E21)
    have f39 : Arv Z h29 ua ka .long (3 : Int32) [(.long u0), (.long (0 : Int64)), (.long u2)] (.long (0 : Int64)) := (((V14_ua.ext E21).other W24 (Ne.symm (Exa.neArv f23 f38 (hw _ (List.mem_of_getElem? (i := 39) rfl))))).other W29 (Nat.ne_of_lt (Nat.lt_of_lt_of_le V14_ua.lt (Nat.le_of_eq g21.symm))))
    have f40 : Arv Z h21 sa kb .int (3 : Int32) [(.int c0), (.int c1), (.int c2)] (.int (0 : Int32)) := (f33.ext E21)
    have f41 : Arv Z h29 sa kb .int (3 : Int32) [(.int c0), (.int c1), (.int c2)] (.int (0 : Int32)) := (((f33.ext E21).other W24 (Ne.symm (Exa.neArv f23 f40 (hw _ (List.mem_of_getElem? (i := 39) rfl))))).other W29 (Nat.ne_of_lt (Nat.lt_of_lt_of_le f33.lt (Nat.le_of_eq g21.symm))))
    have hk_42 := (Nat.le_trans (Nat.le_trans (Nat.le_trans (Nat.le_trans (Nat.le_trans hk1 K4q.1) (Keep.of_wr W14).1) E21.1) (Keep.of_wr W24).1) (Keep.of_wr W29).1)
    obtain ⟨fs, hr, hrun, hended, hend⟩ := X29.leaveW hS1 (by rw [e29]; exact hk_42) (v := none) (fun _ => rfl)
    refine ⟨_, _, pre0 _ ?_, hrun, hended, _, _, rfl, ?_, ?_, hend.1, hend.2.1, hend.2.2.1, hend.2.2.2.mono (by decide) (by decide)⟩
    · refine cut7 _ ?_
      show Steps p.tables e below (T4.setTop (mkF m 13 #[.val (.ref a1), .val (.int (1 : Int32)), .val (.ref a2)] [(.int (18 : Int32)), (.int r4)])) _
      refine XS.icmpYes X4.here hx rfl (pc0 := 13) (pc' := 46) rfl (hb hby own_d_prog_48_method_6_code_13) rfl (tlt (c18 : (18 : Int32) < r4)).2.2.1 (by decide) (by decide) ?_
      refine XS.aloadN X4.here hx rfl (hb hby own_d_prog_48_method_6_code_46) rfl rfl ?_
      show Steps p.tables e below (T4.setTop (mkF m 47 #[.val (.ref a1), .val (.int (1 : Int32)), .val (.ref a2)] [(.ref a1)])) _
      refine st10 _ ?_
      refine XS.iloadN X10.here hx rfl (hb hby own_d_prog_48_method_6_code_50) rfl ?_
      refine XS.lconst X10.here hx rfl (hb hby own_d_prog_48_method_6_code_51) ?_
      show Steps p.tables e below (T10.setTop (mkF m 52 #[.val (.ref a1), .val (.int (1 : Int32)), .val (.ref a2)] [(.long (0 : Int64)), (.int (1 : Int32)), (.ref ua)])) _
      refine st14 _ ?_
      refine XS.aloadN X14.here hx rfl (hb hby own_d_prog_48_method_6_code_53) rfl rfl ?_
      refine XS.aloadN X14.here hx rfl (hb hby own_d_prog_48_method_6_code_54) rfl rfl ?_
      show Steps p.tables e below (T14.setTop (mkF m 55 #[.val (.ref a1), .val (.int (1 : Int32)), .val (.ref a2)] [(.ref a1), (.ref a1)])) _
      refine st17 _ ?_
      show Steps p.tables e below (T17.setTop (mkF m 58 #[.val (.ref a1), .val (.int (1 : Int32)), .val (.ref a2)] [.null, (.ref a1)])) _
      refine XS.ifnonnullNo X17.here hx rfl (hb hby own_d_prog_48_method_6_code_58) rfl ?_
      refine XS.aloadN X17.here hx rfl (hb hby own_d_prog_48_method_6_code_61) rfl rfl ?_
      show Steps p.tables e below (T17.setTop (mkF m 62 #[.val (.ref a1), .val (.int (1 : Int32)), .val (.ref a2)] [(.ref a1), (.ref a1)])) _
      refine st19 _ ?_
      show Steps p.tables e below (T19.setTop (mkF m 65 #[.val (.ref a1), .val (.int (1 : Int32)), .val (.ref a2)] [(.ref ua), (.ref a1)])) _
      refine X19.arraylength hx (by rw [e19]; exact Ar20.1) (State.isArrayOf_alike hZ1.alike Ar20.2.1) (g := (mkF m 65 #[.val (.ref a1), .val (.int (1 : Int32)), .val (.ref a2)] [(.ref ua), (.ref a1)])) rfl rfl (hb hby own_d_prog_48_method_6_code_65) _ ?_
      rw [len_of S20 N_20]
      show Steps p.tables e below (T19.setTop (mkF m 66 #[.val (.ref a1), .val (.int (1 : Int32)), .val (.ref a2)] [(.int (3 : Int32)), (.ref a1)])) _
      refine st21 _ ?_
      refine XS.goto X21.here hx rfl (pc0 := 69) (pc' := 76) rfl (hb hby own_d_prog_48_method_6_code_69) (by decide) (by decide) ?_
      show Steps p.tables e below (T21.setTop (mkF m 76 #[.val (.ref a1), .val (.int (1 : Int32)), .val (.ref a2)] [(.ref b21), (.ref a1)])) _
      refine st24 _ ?_
      refine XS.aloadN X24.here hx rfl (hb hby own_d_prog_48_method_6_code_79) rfl rfl ?_
      show Steps p.tables e below (T24.setTop (mkF m 80 #[.val (.ref a1), .val (.int (1 : Int32)), .val (.ref a2)] [(.ref a1)])) _
      refine st25 _ ?_
      refine XS.iloadN X25.here hx rfl (hb hby own_d_prog_48_method_6_code_83) rfl ?_
      refine XS.aloadN X25.here hx rfl (hb hby own_d_prog_48_method_6_code_84) rfl rfl ?_
      show Steps p.tables e below (T25.setTop (mkF m 85 #[.val (.ref a1), .val (.int (1 : Int32)), .val (.ref a2)] [(.ref a2), (.int (1 : Int32)), (.ref b21)])) _
      refine st29 _ ?_
      show Steps p.tables e below (T29.setTop (mkF m 86 #[.val (.ref a1), .val (.int (1 : Int32)), .val (.ref a2)] [])) _
      exact X29.returnOut hx Bd.returns (hb hby own_d_prog_48_method_6_code_86) hr
    · show QS1 Z a1 u0 u2 c0 c2 w0 w2 v s_ h0 n0 _ T29.heap _
      rw [e29]
      exact ⟨(0 : Int64), c1, (.ref a2), rfl, Nf29, K6, ⟨ua, sa, ka, kb, g_a1, g_ua, g_sa, n_us, f35, f36, f37, f39, f41, (by subst hw0 hw1 hw2; exact Or.inr ⟨b21, ka21, g_b21, (Ne.symm (Nat.ne_of_lt (Nat.lt_of_lt_of_le V14_ua.lt (Nat.le_of_eq g21.symm)))), (Ne.symm (Nat.ne_of_lt (Nat.lt_of_lt_of_le f33.lt (Nat.le_of_eq g21.symm)))), f34, V29_b21, O21⟩)⟩, Or.inr ⟨rfl, a2, rfl, f31⟩, (fun x_ v_ s_' b_ => ((Pres.ofWr W29 (NB.ofV f27 (hw _ (List.mem_of_getElem? (i := 11) rfl)))) _ _ _ ((Pres.ofWr W24 (NB.ofE f23 (by decide))) _ _ _ ((Pres.ofExt E21) _ _ _ ((Pres.ofWr W14 (NB.ofV f12 (hw _ (List.mem_of_getElem? (i := 11) rfl)))) _ _ _ (Ps4 _ _ _ ((Pres.ofExt E1) _ _ _ b_)))))))⟩
    · show CHr Z own_EL s.vm s.heap T29.vm T29.heap
      rw [hh, e29]
      exact CH6.trans (CHv.at X29 hZ1 hEL CH6.1)
  · have f8 : Exa Z h1 a1 "com/example/floatweight/floatweight/Prices" := (E_a1.ext E1)
    have f9 : Fld Z T4.heap a1 "com/example/floatweight/floatweight/Prices" "mUnscaled" "[J" (.ref ua) := ((F_mUnscaled_a1.ext E1).keep K4q (fun hx_ => (Exa.ne f8 f6 (by decide)) (on4 _ hx_)))
    obtain ⟨T10, X10, e10, st10⟩ := getF X4 hx hZ1 hown1 (host := "") (Or.inl (hw _ (List.mem_of_getElem? (i := 46) rfl))) Via.refl rfl f9 (g := (mkF m 17 #[.val (.ref a1), .val (.int (1 : Int32)), .val (.ref a2)] [(.ref a1)])) rfl rfl (hb hby own_d_prog_48_method_6_code_17)
    have f12 : BD Z n0 T4.heap a2 v s_ := (Ps4 _ _ _ f3)
    have f13 : Exa Z T4.heap a2 "java/math/BigDecimal" := (f6.keep K4q)
    obtain ⟨cq11, kq11, q11a, q11b, q11c⟩ := isOf hZ1 e10 f13
    obtain ⟨_, _, ⟨T11, L11, k11, n11⟩, -, X11, ⟨Lc11, hQ11, l11, y11, z11⟩, st11⟩ := X10.virtualBack hx (y := (⟨"java/math/BigDecimal", "scale", "()I"⟩ : MethodName)) (z := (⟨"java/math/BigDecimal", "scale", "()I"⟩ : MethodName)) hown1 (mvT hZ1 (hw _ (List.mem_of_getElem? (i := 91) rfl))) (mvT hZ1 (hw _ (List.mem_of_getElem? (i := 92) rfl))) (notFace_of_selects (args := #[]) (mvT hZ1 (hw _ (List.mem_of_getElem? (i := 94) rfl)))) (mvT hZ1 (hw _ (List.mem_of_getElem? (i := 94) rfl))) (mvT hZ1 (hw _ (List.mem_of_getElem? (i := 93) rfl))) (by decide) (backOf (W := 3) (rmSc l Z a0 hw [] a2 s_ T4.heap n0 (Nat.le_trans Z0 K2.1) f12.2.1) hZ1 (hw _ (List.mem_of_getElem? (i := 95) rfl)) (hw _ (List.mem_of_getElem? (i := 8) rfl)) (by decide) (by decide)) q11a q11c (g := (mkF m 23 #[.val (.ref a1), .val (.int (1 : Int32)), .val (.ref a2)] [(.ref a2), (.ref a2), (.int (1 : Int32)), (.ref ua)])) rfl (by rw [hml]; rfl) (Steps.refl _) (argsL := []) (rest := [(.ref a2), (.int (1 : Int32)), (.ref ua)]) (lenOf own_pd___I rfl) rfl (by show 2 * 0 + _ ≤ _; exact Nat.le_of_eq rfl) (hb hby own_d_prog_48_method_6_code_23) (fun _ _ => ⟨rfl, e10, (by decide : 2 + 0 ≤ _), (by decide : 24 + 0 ≤ _)⟩)
    dsimp only [Pt.U, Pt.locs, Pt.cells, Pt.slots] at X11 l11 y11 z11 st11 hQ11
    subst l11 y11 z11
    obtain ⟨rfl, N11q, e11q⟩ := hQ11
    have N11a := Fr.app N4a N11q
    obtain ⟨cq14, kq14, q14a, q14b, q14c⟩ := isOf hZ1 e11q f13
    obtain ⟨_, _, ⟨T14, L14, k14, n14⟩, -, X14, ⟨Lc14, hQ14, l14, y14, z14⟩, st14⟩ := X11.virtualBack hx (y := (⟨"java/math/BigDecimal", "movePointRight", "(I)Ljava/math/BigDecimal;"⟩ : MethodName)) (z := (⟨"java/math/BigDecimal", "movePointRight", "(I)Ljava/math/BigDecimal;"⟩ : MethodName)) hown1 (mvT hZ1 (hw _ (List.mem_of_getElem? (i := 96) rfl))) (mvT hZ1 (hw _ (List.mem_of_getElem? (i := 97) rfl))) (notFace_of_selects (args := #[]) (mvT hZ1 (hw _ (List.mem_of_getElem? (i := 99) rfl)))) (mvT hZ1 (hw _ (List.mem_of_getElem? (i := 99) rfl))) (mvT hZ1 (hw _ (List.mem_of_getElem? (i := 98) rfl))) (by decide) (backOf (W := 2) (rmMp l Z a0 hw [] a2 v s_ T4.heap n0 (Nat.le_trans Z0 K2.1) f12) hZ1 (hw _ (List.mem_of_getElem? (i := 100) rfl)) (hw _ (List.mem_of_getElem? (i := 8) rfl)) (by decide) (by decide)) q14a q14c (g := (mkF m 26 #[.val (.ref a1), .val (.int (1 : Int32)), .val (.ref a2)] [(.int s_), (.ref a2), (.int (1 : Int32)), (.ref ua)])) rfl (by rw [hml]; rfl) (Steps.refl _) (argsL := [(.int s_)]) (rest := [(.int (1 : Int32)), (.ref ua)]) (lenOf own_pd__I_Ljava_math_BigDecimal_ rfl) rfl (by show 2 * 0 + _ ≤ _; exact Nat.le_of_eq rfl) (hb hby own_d_prog_48_method_6_code_26) (fun _ _ => ⟨rfl, e11q, (by decide : 2 + 1 ≤ _), (by decide : 24 + 5 ≤ _)⟩)
    dsimp only [Pt.U, Pt.locs, Pt.cells, Pt.slots] at X14 l14 y14 z14 st14 hQ14
    subst l14 y14 z14
    obtain ⟨m14, rfl, N14q, K14q, mE14, mS14, mC14⟩ := hQ14
    have N14a := Fr.app N11a N14q
    have CH3 : CHr Z own_EL s.vm h0 T1.vm T14.heap := CH2.trans (CHr.keep K14q all0 CH2.1)
    have K3 : Keep h0 T14.heap (own_fr n0 h0) := K2.trans K14q all0
    obtain ⟨cq15, kq15, q15a, q15b, q15c⟩ := isOf hZ1 rfl mE14
    obtain ⟨_, _, ⟨T15, L15, k15, n15⟩, -, X15, ⟨Lc15, hQ15, l15, y15, z15⟩, st15⟩ := X14.virtualBack hx (y := (⟨"java/math/BigDecimal", "longValueExact", "()J"⟩ : MethodName)) (z := (⟨"java/math/BigDecimal", "longValueExact", "()J"⟩ : MethodName)) hown1 (mvT hZ1 (hw _ (List.mem_of_getElem? (i := 106) rfl))) (mvT hZ1 (hw _ (List.mem_of_getElem? (i := 107) rfl))) (notFace_of_selects (args := #[]) (mvT hZ1 (hw _ (List.mem_of_getElem? (i := 109) rfl)))) (mvT hZ1 (hw _ (List.mem_of_getElem? (i := 109) rfl))) (mvT hZ1 (hw _ (List.mem_of_getElem? (i := 108) rfl))) (by decide) (backOf (W := 2) (rmLv l Z a0 hw [] m14 v T14.heap n0 (Nat.le_trans Z0 K3.1) mS14 mC14 hv) hZ1 (hw _ (List.mem_of_getElem? (i := 110) rfl)) (hw _ (List.mem_of_getElem? (i := 8) rfl)) (by decide) (by decide)) q15a q15c (g := (mkF m 29 #[.val (.ref a1), .val (.int (1 : Int32)), .val (.ref a2)] [(.ref m14), (.int (1 : Int32)), (.ref ua)])) rfl (by rw [hml]; rfl) (Steps.refl _) (argsL := []) (rest := [(.int (1 : Int32)), (.ref ua)]) (lenOf own_pd___J rfl) rfl (by show 2 * 0 + _ ≤ _; exact Nat.le_of_eq rfl) (hb hby own_d_prog_48_method_6_code_29) (fun _ _ => ⟨rfl, rfl, (by decide : 3 + 0 ≤ _), (by decide : 29 + 0 ≤ _)⟩)
    dsimp only [Pt.U, Pt.locs, Pt.cells, Pt.slots] at X15 l15 y15 z15 st15 hQ15
    subst l15 y15 z15
    obtain ⟨rfl, N15q, e15q⟩ := hQ15
    have N15a := Fr.app N14a N15q
    have f16 : Arv Z h1 ua ka .long (3 : Int32) [(.long u0), (.long u1), (.long u2)] (.long (0 : Int64)) := (V_ua.ext E1)
    have f17 : Arv Z T14.heap ua ka .long (3 : Int32) [(.long u0), (.long u1), (.long u2)] (.long (0 : Int64)) := (((V_ua.ext E1).keep K4q (fun hx_ => (Ne.symm (Exa.neArv f6 f16 (hw _ (List.mem_of_getElem? (i := 11) rfl)))) (on4 _ hx_))).keep K14q nin0)
    obtain ⟨cl18, Ar18, q18, S18, N_18, H_18, G18⟩ := id f17
    obtain ⟨T19, h19, X19, e19, W19, st19⟩ := stJ X15 hx hZ1 e15q Ar18 (j := (1 : Int32)) (inb_of S18 ⟨by decide, by decide⟩) (g := (mkF m 32 #[.val (.ref a1), .val (.int (1 : Int32)), .val (.ref a2)] [(.long v), (.int (1 : Int32)), (.ref ua)])) rfl rfl (hb hby own_d_prog_48_method_6_code_32)
    have V19_ua : Arv Z h19 ua ka .long (3 : Int32) [(.long u0), (.long v), (.long u2)] (.long (0 : Int64)) := Arv.set Ar18 q18 S18 N_18 H_18 G18 rfl W19 1 rfl (Nat.le_of_ble_eq_true rfl)
    have Nf19 := Fr.snoc X19 N15a g_ua
    have CH4 : CHr Z own_EL s.vm h0 T1.vm h19 := CH3.trans (CHr.wr W19 (own_safeV (hZ1 : Z.Warmed39 T1.vm).alike f17 (by decide)) CH3.1)
    have K4 : Keep h0 h19 (own_fr n0 h0) := K3.wr W19 (own_frq g_ua)
    have f20 : Exa Z T14.heap a1 "com/example/floatweight/floatweight/Prices" := ((f8.keep K4q).keep K14q)
    have f21 : Fld Z h19 a1 "com/example/floatweight/floatweight/Prices" "mScales" "[I" (.ref sa) := ((((F_mScales_a1.ext E1).keep K4q (fun hx_ => (Exa.ne f8 f6 (by decide)) (on4 _ hx_))).keep K14q nin0).other W19 (Or.inl (Exa.neArv f20 f17 (hw _ (List.mem_of_getElem? (i := 39) rfl)))))
    obtain ⟨T22, X22, e22, st22⟩ := getF X19 hx hZ1 hown1 (host := "") (Or.inl (hw _ (List.mem_of_getElem? (i := 49) rfl))) Via.refl e19 f21 (g := (mkF m 34 #[.val (.ref a1), .val (.int (1 : Int32)), .val (.ref a2)] [(.ref a1)])) rfl rfl (hb hby own_d_prog_48_method_6_code_34)
    have f24 : BD Z n0 h19 a2 v s_ := ((Pres.ofWr W19 (NB.ofV f17 (hw _ (List.mem_of_getElem? (i := 11) rfl)))) _ _ _ ((Pres.ofKeep K14q all0) _ _ _ f12))
    have f25 : Exa Z h19 a2 "java/math/BigDecimal" := ((f13.keep K14q).wr W19)
    obtain ⟨cq23, kq23, q23a, q23b, q23c⟩ := isOf hZ1 e22 f25
    obtain ⟨_, _, ⟨T23, L23, k23, n23⟩, -, X23, ⟨Lc23, hQ23, l23, y23, z23⟩, st23⟩ := X22.virtualBack hx (y := (⟨"java/math/BigDecimal", "scale", "()I"⟩ : MethodName)) (z := (⟨"java/math/BigDecimal", "scale", "()I"⟩ : MethodName)) hown1 (mvT hZ1 (hw _ (List.mem_of_getElem? (i := 91) rfl))) (mvT hZ1 (hw _ (List.mem_of_getElem? (i := 92) rfl))) (notFace_of_selects (args := #[]) (mvT hZ1 (hw _ (List.mem_of_getElem? (i := 94) rfl)))) (mvT hZ1 (hw _ (List.mem_of_getElem? (i := 94) rfl))) (mvT hZ1 (hw _ (List.mem_of_getElem? (i := 93) rfl))) (by decide) (backOf (W := 2) (rmSc l Z a0 hw [] a2 s_ h19 n0 (Nat.le_trans Z0 K4.1) f24.2.1) hZ1 (hw _ (List.mem_of_getElem? (i := 95) rfl)) (hw _ (List.mem_of_getElem? (i := 8) rfl)) (by decide) (by decide)) q23a q23c (g := (mkF m 39 #[.val (.ref a1), .val (.int (1 : Int32)), .val (.ref a2)] [(.ref a2), (.int (1 : Int32)), (.ref sa)])) rfl (by rw [hml]; rfl) (Steps.refl _) (argsL := []) (rest := [(.int (1 : Int32)), (.ref sa)]) (lenOf own_pd___I rfl) rfl (by show 2 * 0 + _ ≤ _; exact Nat.le_of_eq rfl) (hb hby own_d_prog_48_method_6_code_39) (fun _ _ => ⟨rfl, e22, (by decide : 3 + 0 ≤ _), (by decide : 29 + 0 ≤ _)⟩)
    dsimp only [Pt.U, Pt.locs, Pt.cells, Pt.slots] at X23 l23 y23 z23 st23 hQ23
    subst l23 y23 z23
    obtain ⟨rfl, N23q, e23q⟩ := hQ23
    have N23a := Fr.app Nf19 N23q
    have f26 : Arv Z h1 sa kb .int (3 : Int32) [(.int c0), (.int c1), (.int c2)] (.int (0 : Int32)) := (V_sa.ext E1)
    have f27 : Arv Z h19 sa kb .int (3 : Int32) [(.int c0), (.int c1), (.int c2)] (.int (0 : Int32)) := ((((V_sa.ext E1).keep K4q (fun hx_ => (Ne.symm (Exa.neArv f6 f26 (hw _ (List.mem_of_getElem? (i := 11) rfl)))) (on4 _ hx_))).keep K14q nin0).other W19 (Ne.symm n_us))
    obtain ⟨cl28, Ar28, q28, S28, N_28, H_28, G28⟩ := id f27
    obtain ⟨T29, h29, X29, e29, W29, st29⟩ := stI X23 hx hZ1 e23q Ar28 (j := (1 : Int32)) (inb_of S28 ⟨by decide, by decide⟩) (g := (mkF m 42 #[.val (.ref a1), .val (.int (1 : Int32)), .val (.ref a2)] [(.int s_), (.int (1 : Int32)), (.ref sa)])) rfl rfl (hb hby own_d_prog_48_method_6_code_42)
    have V29_sa : Arv Z h29 sa kb .int (3 : Int32) [(.int c0), (.int s_), (.int c2)] (.int (0 : Int32)) := Arv.set Ar28 q28 S28 N_28 H_28 G28 rfl W29 1 rfl (Nat.le_of_ble_eq_true rfl)
    have Nf29 := Fr.snoc X29 N23a g_sa
    have CH5 : CHr Z own_EL s.vm h0 T1.vm h29 := CH4.trans (CHr.wr W29 (own_safeV (hZ1 : Z.Warmed39 T1.vm).alike f27 (by decide)) CH4.1)
    have K5 : Keep h0 h29 (own_fr n0 h0) := K4.wr W29 (own_frq g_sa)
    have f30 : Exa Z h19 a1 "com/example/floatweight/floatweight/Prices" := (f20.wr W19)
    have f31 : Fld Z h29 a1 "com/example/floatweight/floatweight/Prices" "mWhole" "[Ljava/math/BigDecimal;" .null := (((((F_mWhole_a1.ext E1).keep K4q (fun hx_ => (Exa.ne f8 f6 (by decide)) (on4 _ hx_))).keep K14q nin0).other W19 (Or.inl (Exa.neArv f20 f17 (hw _ (List.mem_of_getElem? (i := 39) rfl))))).other W29 (Or.inl (Exa.neArv f30 f27 (hw _ (List.mem_of_getElem? (i := 39) rfl)))))
    have f32 : Exa Z h29 a1 "com/example/floatweight/floatweight/Prices" := (f30.wr W29)
    have f33 : Fld Z h29 a1 "com/example/floatweight/floatweight/Prices" "mUnscaled" "[J" (.ref ua) := (((f9.keep K14q nin0).other W19 (Or.inl (Exa.neArv f20 f17 (hw _ (List.mem_of_getElem? (i := 39) rfl))))).other W29 (Or.inl (Exa.neArv f30 f27 (hw _ (List.mem_of_getElem? (i := 39) rfl)))))
    have f34 : Fld Z h29 a1 "com/example/floatweight/floatweight/Prices" "mScales" "[I" (.ref sa) := (f21.other W29 (Or.inl (Exa.neArv f30 f27 (hw _ (List.mem_of_getElem? (i := 39) rfl)))))
    have f35 : Arv Z h29 ua ka .long (3 : Int32) [(.long u0), (.long v), (.long u2)] (.long (0 : Int64)) := (V19_ua.other W29 n_us)
    have hk_36 := (Nat.le_trans (Nat.le_trans (Nat.le_trans (Nat.le_trans hk1 K4q.1) K14q.1) (Keep.of_wr W19).1) (Keep.of_wr W29).1)
    obtain ⟨fs, hr, hrun, hended, hend⟩ := X29.leaveW hS1 (by rw [e29]; exact hk_36) (v := none) (fun _ => rfl)
    refine ⟨_, _, pre0 _ ?_, hrun, hended, _, _, rfl, ?_, ?_, hend.1, hend.2.1, hend.2.2.1, hend.2.2.2.mono (by decide) (by decide)⟩
    · refine cut7 _ ?_
      show Steps p.tables e below (T4.setTop (mkF m 13 #[.val (.ref a1), .val (.int (1 : Int32)), .val (.ref a2)] [(.int (18 : Int32)), (.int r4)])) _
      refine XS.icmpNo X4.here hx rfl (hb hby own_d_prog_48_method_6_code_13) rfl (flt (c18 : ¬ ((18 : Int32) < r4))).2.2.1 ?_
      refine XS.aloadN X4.here hx rfl (hb hby own_d_prog_48_method_6_code_16) rfl rfl ?_
      show Steps p.tables e below (T4.setTop (mkF m 17 #[.val (.ref a1), .val (.int (1 : Int32)), .val (.ref a2)] [(.ref a1)])) _
      refine st10 _ ?_
      refine XS.iloadN X10.here hx rfl (hb hby own_d_prog_48_method_6_code_20) rfl ?_
      refine XS.aloadN X10.here hx rfl (hb hby own_d_prog_48_method_6_code_21) rfl rfl ?_
      show Steps p.tables e below (T10.setTop (mkF m 22 #[.val (.ref a1), .val (.int (1 : Int32)), .val (.ref a2)] [(.ref a2), (.int (1 : Int32)), (.ref ua)])) _
      refine XS.aloadN X10.here hx rfl (hb hby own_d_prog_48_method_6_code_22) rfl rfl ?_
      show Steps p.tables e below (T10.setTop (mkF m 23 #[.val (.ref a1), .val (.int (1 : Int32)), .val (.ref a2)] [(.ref a2), (.ref a2), (.int (1 : Int32)), (.ref ua)])) _
      refine st11.trans ?_
      show Steps p.tables e below (T11.setTop (mkF m 26 #[.val (.ref a1), .val (.int (1 : Int32)), .val (.ref a2)] [(.int s_), (.ref a2), (.int (1 : Int32)), (.ref ua)])) _
      refine st14.trans ?_
      show Steps p.tables e below (T14.setTop (mkF m 29 #[.val (.ref a1), .val (.int (1 : Int32)), .val (.ref a2)] [(.ref m14), (.int (1 : Int32)), (.ref ua)])) _
      refine st15.trans ?_
      show Steps p.tables e below (T15.setTop (mkF m 32 #[.val (.ref a1), .val (.int (1 : Int32)), .val (.ref a2)] [(.long v), (.int (1 : Int32)), (.ref ua)])) _
      refine st19 _ ?_
      refine XS.aloadN X19.here hx rfl (hb hby own_d_prog_48_method_6_code_33) rfl rfl ?_
      show Steps p.tables e below (T19.setTop (mkF m 34 #[.val (.ref a1), .val (.int (1 : Int32)), .val (.ref a2)] [(.ref a1)])) _
      refine st22 _ ?_
      refine XS.iloadN X22.here hx rfl (hb hby own_d_prog_48_method_6_code_37) rfl ?_
      refine XS.aloadN X22.here hx rfl (hb hby own_d_prog_48_method_6_code_38) rfl rfl ?_
      show Steps p.tables e below (T22.setTop (mkF m 39 #[.val (.ref a1), .val (.int (1 : Int32)), .val (.ref a2)] [(.ref a2), (.int (1 : Int32)), (.ref sa)])) _
      refine st23.trans ?_
      show Steps p.tables e below (T23.setTop (mkF m 42 #[.val (.ref a1), .val (.int (1 : Int32)), .val (.ref a2)] [(.int s_), (.int (1 : Int32)), (.ref sa)])) _
      refine st29 _ ?_
      refine XS.goto X29.here hx rfl (pc0 := 43) (pc' := 86) rfl (hb hby own_d_prog_48_method_6_code_43) (by decide) (by decide) ?_
      show Steps p.tables e below (T29.setTop (mkF m 86 #[.val (.ref a1), .val (.int (1 : Int32)), .val (.ref a2)] [])) _
      exact X29.returnOut hx Bd.returns (hb hby own_d_prog_48_method_6_code_86) hr
    · show QS1 Z a1 u0 u2 c0 c2 w0 w2 v s_ h0 n0 _ T29.heap _
      rw [e29]
      exact ⟨v, s_, w1, rfl, Nf29, K5, ⟨ua, sa, ka, kb, g_a1, g_ua, g_sa, n_us, f32, f33, f34, f35, V29_sa, Or.inl ⟨f31, hw0, hw1, hw2⟩⟩, Or.inl ⟨rfl, rfl⟩, (fun x_ v_ s_' b_ => ((Pres.ofWr W29 (NB.ofV f27 (hw _ (List.mem_of_getElem? (i := 11) rfl)))) _ _ _ ((Pres.ofWr W19 (NB.ofV f17 (hw _ (List.mem_of_getElem? (i := 11) rfl)))) _ _ _ ((Pres.ofKeep K14q all0) _ _ _ (Ps4 _ _ _ ((Pres.ofExt E1) _ _ _ b_))))))⟩
    · show CHr Z own_EL s.vm s.heap T29.vm T29.heap
      rw [hh, e29]
      exact CH5.trans (CHv.at X29 hZ1 hEL CH5.1)
set_option maxRecDepth 65536 in
set_option maxHeartbeats 40000000 in
theorem rs1w (l : Launch) (Z : State) (a0 : Array Value) (hw : ∀ d ∈ tables_1, d.before a0 Z = true) (ws : List Jvm.Cond) (hEL : EW Z a0 own_EL) (a1 a2 ua sa : Addr) (ka kb : ClassId) (u0 u1 u2 : Int64) (c0 c1 c2 : Int32) (w0 w1 w2 : Value) (wa : Addr) (kc : ClassId) (v : Int64) (s_ : Int32) (h0 : Heap) (n0 : Nat) (Z0 : n0 ≤ h0.size) (E_a1 : Exa Z h0 a1 "com/example/floatweight/floatweight/Prices") (F_mUnscaled_a1 : Fld Z h0 a1 "com/example/floatweight/floatweight/Prices" "mUnscaled" "[J" (.ref ua)) (F_mScales_a1 : Fld Z h0 a1 "com/example/floatweight/floatweight/Prices" "mScales" "[I" (.ref sa)) (F_mWhole_a1 : Fld Z h0 a1 "com/example/floatweight/floatweight/Prices" "mWhole" "[Ljava/math/BigDecimal;" (.ref wa)) (V_ua : Arv Z h0 ua ka .long (3 : Int32) [(.long u0), (.long u1), (.long u2)] (.long (0 : Int64))) (V_sa : Arv Z h0 sa kb .int (3 : Int32) [(.int c0), (.int c1), (.int c2)] (.int (0 : Int32))) (n_us : ua ≠ sa) (V_wa : Arv Z h0 wa kc (.object "java/math/BigDecimal") (3 : Int32) [w0, w1, w2] .null) (n_wu : wa ≠ ua) (n_ws : wa ≠ sa) (ov : Ovr Z kc "java/math/BigDecimal") (g_a1 : n0 ≤ a1) (g_ua : n0 ≤ ua) (g_sa : n0 ≤ sa) (g_wa : n0 ≤ wa) (B_a2 : BD Z n0 h0 a2 v s_) (hv : (0 : Int64) < v) (hTP : TPT Z) (O0 : Old Z n0 h0) :
    MetFree l (⟨"com/example/floatweight/floatweight/Prices", "set", "(ILjava/math/BigDecimal;)V"⟩ : MethodName) (head1 (Jvm.Cond.code (⟨"com/example/floatweight/floatweight/Prices", "set", "(ILjava/math/BigDecimal;)V"⟩ : MethodName) prog_48_method_6_code 3 none :: ws) ({ frames := 4, cells := 3, slots := 29, locals := 59 } : Room)) (fun a U => a = #[(.ref a1), (.int (1 : Int32)), (.ref a2)] ∧ Z.Warmed39 U.vm ∧ U.heap = h0 ∧ CHv Z own_EL U.vm h0) (fun _ _ _ _ _ => True) (fun _ U o U' => ∃ vr_ Lr_, o = .returned vr_ ∧ QS1 Z a1 u0 u2 c0 c2 w0 w2 v s_ h0 n0 vr_ U'.heap Lr_ ∧ CHr Z own_EL U.vm U.heap U'.vm U'.heap ∧ ReturnedEndW U o U' Lr_ 3 29) := by
  refine MetFree.of_bodySF (plainFor_of_name own_pn_com_example_floatweight_floatweight_Prices) hisR ?_
  intro p e s m args below meth c s₁ Bd hml0 hP hK
  obtain ⟨rfl, hZ, hh, hCH0⟩ := hP
  have hx := Bd.exec
  have hby := Bd.bytes
  have hml : c.maxLocals = 3 := hml0
  have hown : s.vm.findClass "com/example/floatweight/floatweight/Prices" = some m.cls := findClass_of_methodNamed Bd.named
  have hnm := (name_of_methodNamed Bd.named Bd.method).1
  have X0 : Stand p l e ({ frames := 4, cells := 3, slots := 29, locals := 59 } : Room) (s.setVm s.vm) m #[(.ref a1), (.int (1 : Int32)), (.ref a2)] below meth c s₁ [] 0 0 := Stand.of_body Bd
  have e0 : s₁.heap = h0 := by rw [← hh, Bd.state]; rfl
  have N0 := Fr.nil n0
  have CH0 : CHr Z own_EL s.vm h0 s.vm h0 := CHr.refl hCH0
  have hS0 : s.Since s.vm 0 := State.WarmedH.since (State.WarmedH.refl s) 0
  have pre0 : ∀ t, Steps p.tables e below (s₁.setTop (mkF m 0 #[.val (.ref a1), .val (.int (1 : Int32)), .val (.ref a2)] [])) t → Steps p.tables e below (s₁.setTop (entryFrame m #[(.ref a1), (.int (1 : Int32)), (.ref a2)] 3)) t := fun t k => castTop (own_ef_prog_48_method_6_code_xxx m a1 (1 : Int32) a2) k
  obtain ⟨lit1, T1, h1, kl1, X1, e1, E1, hS1, hk1, hZ1, hown1, C1, Lt1, st1⟩ := ldcOH X0 hx hZ hown (hw _ (List.mem_of_getElem? (i := 56) rfl)) (own_wS hw) e0 hS0 (Nat.zero_le _) hEL CH0.1 (g := (mkF m 0 #[.val (.ref a1), .val (.int (1 : Int32)), .val (.ref a2)] [])) rfl (hb hby own_d_prog_48_method_6_code_0) (n := 20) (by decide) (by decide) (by decide) (by decide)
  have CH1 : CHr Z own_EL s.vm h0 T1.vm h1 := CH0.trans C1
  have K1 : Keep h0 h1 (own_fr n0 h0) := (Keep.refl h0 (own_fr n0 h0)).ext E1
  have f3 : BD Z n0 h1 a2 v s_ := ((Pres.ofExt E1) _ _ _ B_a2)
  obtain ⟨_, _, ⟨T2, L2, k2, n2⟩, -, X2, ⟨Lc2, hQ2, l2, y2, z2⟩, st2⟩ := Jvm.LawKit.callS X1 hx (y := (⟨"com/example/floatweight/floatweight/IndexArithmetic", "requirePositive", "(Ljava/lang/String;Ljava/math/BigDecimal;)Ljava/math/BigDecimal;"⟩ : MethodName)) hown1 (mvT hZ1 (hw _ (List.mem_of_getElem? (i := 64) rfl))) (mvT hZ1 (hw _ (List.mem_of_getElem? (i := 65) rfl))) (mvT hZ1 (hw _ (List.mem_of_getElem? (i := 66) rfl))) (mvT hZ1 (hw _ (List.mem_of_getElem? (i := 67) rfl))) (by decide) (backOf (W := 0) (rmRp l Z a0 hw [] lit1 a2 v h1 n0 (Nat.le_trans Z0 K1.1) f3.1 f3.2.2.1 hv) hZ1 (hw _ (List.mem_of_getElem? (i := 67) rfl)) (hw _ (List.mem_of_getElem? (i := 66) rfl)) (by decide) (by decide)) (g := (mkF m 3 #[.val (.ref a1), .val (.int (1 : Int32)), .val (.ref a2)] [(.ref a2), (.ref lit1)])) rfl (by rw [hml]; rfl) (argsL := [(.ref lit1), (.ref a2)]) (rest := []) (lenOf own_pd__Ljava_lang_String_Ljava_math_BigDecimal__Ljava_math_BigDecimal_ rfl) rfl (by show 2 * 0 + _ ≤ _; exact Nat.le_of_eq rfl) (hb hby own_d_prog_48_method_6_code_3) (fun _ _ => ⟨rfl, e1, (by decide : 2 + 0 ≤ _), (by decide : 24 + 0 ≤ _)⟩)
  dsimp only [Pt.U, Pt.locs, Pt.cells, Pt.slots] at X2 l2 y2 z2 st2 hQ2
  subst l2 y2 z2
  obtain ⟨rfl, N2q, e2q⟩ := hQ2
  have N2a := Fr.app N0 N2q
  have f5 : Old Z n0 h1 := (O0.ext E1)
  have f6 : Exa Z h1 a2 "java/math/BigDecimal" := (B_a2.1.ext E1)
  obtain ⟨cq4, kq4, q4a, q4b, q4c⟩ := isOf hZ1 e2q f6
  obtain ⟨_, _, ⟨T4, L4, k4, n4⟩, -, X4, ⟨Lc4, hQ4, l4, y4, z4⟩, st4⟩ := X2.virtualBack hx (y := (⟨"java/math/BigDecimal", "precision", "()I"⟩ : MethodName)) (z := (⟨"java/math/BigDecimal", "precision", "()I"⟩ : MethodName)) hown1 (mvT hZ1 (hw _ (List.mem_of_getElem? (i := 81) rfl))) (mvT hZ1 (hw _ (List.mem_of_getElem? (i := 82) rfl))) (notFace_of_selects (args := #[]) (mvT hZ1 (hw _ (List.mem_of_getElem? (i := 84) rfl)))) (mvT hZ1 (hw _ (List.mem_of_getElem? (i := 84) rfl))) (mvT hZ1 (hw _ (List.mem_of_getElem? (i := 83) rfl))) (by decide) (backOf (W := 0) (rmPr l Z a0 hw [] a2 v s_ h1 n0 (Nat.le_trans Z0 K1.1) f3 hv hTP f5) hZ1 (hw _ (List.mem_of_getElem? (i := 85) rfl)) (hw _ (List.mem_of_getElem? (i := 8) rfl)) (by decide) (by decide)) q4a q4c (g := (mkF m 8 #[.val (.ref a1), .val (.int (1 : Int32)), .val (.ref a2)] [(.ref a2)])) rfl (by rw [hml]; rfl) (Steps.refl _) (argsL := []) (rest := []) (lenOf own_pd___I rfl) rfl (by show 2 * 0 + _ ≤ _; exact Nat.le_of_eq rfl) (hb hby own_d_prog_48_method_6_code_8) (fun _ _ => ⟨rfl, e2q, (by decide : 2 + 0 ≤ _), (by decide : 24 + 0 ≤ _)⟩)
  dsimp only [Pt.U, Pt.locs, Pt.cells, Pt.slots] at X4 l4 y4 z4 st4 hQ4
  subst l4 y4 z4
  obtain ⟨r4, ws4, rfl, N4q, K4q, ge4, on4, Ps4⟩ := hQ4
  have N4a := Fr.app N2a N4q
  have CH2 : CHr Z own_EL s.vm h0 T1.vm T4.heap := CH1.trans (CHr.keep K4q (fun x_ hx_ => own_safe0 x_) CH1.1)
  have K2 : Keep h0 T4.heap (own_fr n0 h0) := K1.trans K4q (fun x_ hx_ => own_frq (ge4 x_ hx_))
  have cut7 : ∀ t, Steps p.tables e below (T4.setTop (mkF m 13 #[.val (.ref a1), .val (.int (1 : Int32)), .val (.ref a2)] [(.int (18 : Int32)), (.int r4)])) t → Steps p.tables e below (s₁.setTop (mkF m 0 #[.val (.ref a1), .val (.int (1 : Int32)), .val (.ref a2)] [])) t := fun t kk => by
    show Steps p.tables e below (s₁.setTop (mkF m 0 #[.val (.ref a1), .val (.int (1 : Int32)), .val (.ref a2)] [])) _
    refine st1 _ ?_
    refine XS.aloadN X1.here hx rfl (hb hby own_d_prog_48_method_6_code_2) rfl rfl ?_
    show Steps p.tables e below (T1.setTop (mkF m 3 #[.val (.ref a1), .val (.int (1 : Int32)), .val (.ref a2)] [(.ref a2), (.ref lit1)])) _
    refine st2 _ ?_
    refine XS.pop X2.here hx rfl (hb hby own_d_prog_48_method_6_code_6) rfl rfl ?_
    refine XS.aloadN X2.here hx rfl (hb hby own_d_prog_48_method_6_code_7) rfl rfl ?_
    show Steps p.tables e below (T2.setTop (mkF m 8 #[.val (.ref a1), .val (.int (1 : Int32)), .val (.ref a2)] [(.ref a2)])) _
    refine st4.trans ?_
    refine XS.bipush X4.here hx rfl (hb hby own_d_prog_48_method_6_code_11) ?_
    exact kk
  by_cases c18 : (18 : Int32) < r4
  · have f8 : Exa Z h1 a1 "com/example/floatweight/floatweight/Prices" := (E_a1.ext E1)
    have f9 : Fld Z T4.heap a1 "com/example/floatweight/floatweight/Prices" "mUnscaled" "[J" (.ref ua) := ((F_mUnscaled_a1.ext E1).keep K4q (fun hx_ => (Exa.ne f8 f6 (by decide)) (on4 _ hx_)))
    obtain ⟨T10, X10, e10, st10⟩ := getF X4 hx hZ1 hown1 (host := "") (Or.inl (hw _ (List.mem_of_getElem? (i := 46) rfl))) Via.refl rfl f9 (g := (mkF m 47 #[.val (.ref a1), .val (.int (1 : Int32)), .val (.ref a2)] [(.ref a1)])) rfl rfl (hb hby own_d_prog_48_method_6_code_47)
    have f11 : Arv Z h1 ua ka .long (3 : Int32) [(.long u0), (.long u1), (.long u2)] (.long (0 : Int64)) := (V_ua.ext E1)
    have f12 : Arv Z T4.heap ua ka .long (3 : Int32) [(.long u0), (.long u1), (.long u2)] (.long (0 : Int64)) := ((V_ua.ext E1).keep K4q (fun hx_ => (Ne.symm (Exa.neArv f6 f11 (hw _ (List.mem_of_getElem? (i := 11) rfl)))) (on4 _ hx_)))
    obtain ⟨cl13, Ar13, q13, S13, N_13, H_13, G13⟩ := id f12
    obtain ⟨T14, h14, X14, e14, W14, st14⟩ := stJ X10 hx hZ1 e10 Ar13 (j := (1 : Int32)) (inb_of S13 ⟨by decide, by decide⟩) (g := (mkF m 52 #[.val (.ref a1), .val (.int (1 : Int32)), .val (.ref a2)] [(.long (0 : Int64)), (.int (1 : Int32)), (.ref ua)])) rfl rfl (hb hby own_d_prog_48_method_6_code_52)
    have V14_ua : Arv Z h14 ua ka .long (3 : Int32) [(.long u0), (.long (0 : Int64)), (.long u2)] (.long (0 : Int64)) := Arv.set Ar13 q13 S13 N_13 H_13 G13 rfl W14 1 rfl (Nat.le_of_ble_eq_true rfl)
    have Nf14 := Fr.snoc X14 N4a g_ua
    have CH3 : CHr Z own_EL s.vm h0 T1.vm h14 := CH2.trans (CHr.wr W14 (own_safeV (hZ1 : Z.Warmed39 T1.vm).alike f12 (by decide)) CH2.1)
    have K3 : Keep h0 h14 (own_fr n0 h0) := K2.wr W14 (own_frq g_ua)
    have f15 : Exa Z T4.heap a1 "com/example/floatweight/floatweight/Prices" := (f8.keep K4q)
    have f16 : Fld Z h14 a1 "com/example/floatweight/floatweight/Prices" "mWhole" "[Ljava/math/BigDecimal;" (.ref wa) := (((F_mWhole_a1.ext E1).keep K4q (fun hx_ => (Exa.ne f8 f6 (by decide)) (on4 _ hx_))).other W14 (Or.inl (Exa.neArv f15 f12 (hw _ (List.mem_of_getElem? (i := 39) rfl)))))
    obtain ⟨T17, X17, e17, st17⟩ := getF X14 hx hZ1 hown1 (host := "") (Or.inl (hw _ (List.mem_of_getElem? (i := 120) rfl))) Via.refl e14 f16 (g := (mkF m 55 #[.val (.ref a1), .val (.int (1 : Int32)), .val (.ref a2)] [(.ref a1), (.ref a1)])) rfl rfl (hb hby own_d_prog_48_method_6_code_55)
    obtain ⟨T18, X18, e18, st18⟩ := getF X17 hx hZ1 hown1 (host := "") (Or.inl (hw _ (List.mem_of_getElem? (i := 120) rfl))) Via.refl e17 f16 (g := (mkF m 73 #[.val (.ref a1), .val (.int (1 : Int32)), .val (.ref a2)] [(.ref a1), (.ref a1)])) rfl rfl (hb hby own_d_prog_48_method_6_code_73)
    have f19 : Exa Z h14 a1 "com/example/floatweight/floatweight/Prices" := (f15.wr W14)
    obtain ⟨T20, h20, X20, e20, W20, st20⟩ := putF X18 hx hZ1 hown1 (host := "") (Or.inl (hw _ (List.mem_of_getElem? (i := 120) rfl))) Via.refl e18 f16 f19 (Or.inl (hw _ (List.mem_of_getElem? (i := 121) rfl))) (hw _ (List.mem_of_getElem? (i := 39) rfl)) (ty := (.array (.object "java/math/BigDecimal"))) (by decide) rfl rfl (g := (mkF m 76 #[.val (.ref a1), .val (.int (1 : Int32)), .val (.ref a2)] [(.ref wa), (.ref a1)])) rfl rfl (hb hby own_d_prog_48_method_6_code_76)
    have Fw20 := f16.same W20
    have Nf20 := Fr.snoc X20 Nf14 g_a1
    have CH4 : CHr Z own_EL s.vm h0 T1.vm h20 := CH3.trans (CHr.wr W20 (Safe.exa (hZ1 : Z.Warmed39 T1.vm).alike f19 (by decide) (by decide)) CH3.1)
    have K4 : Keep h0 h20 (own_fr n0 h0) := K3.wr W20 (own_frq g_a1)
    obtain ⟨T21, X21, e21, st21⟩ := getF X20 hx hZ1 hown1 (host := "") (Or.inl (hw _ (List.mem_of_getElem? (i := 120) rfl))) Via.refl e20 Fw20 (g := (mkF m 80 #[.val (.ref a1), .val (.int (1 : Int32)), .val (.ref a2)] [(.ref a1)])) rfl rfl (hb hby own_d_prog_48_method_6_code_80)
    have f22 : Arv Z h1 wa kc (.object "java/math/BigDecimal") (3 : Int32) [w0, w1, w2] .null := (V_wa.ext E1)
    have f23 : Arv Z h14 wa kc (.object "java/math/BigDecimal") (3 : Int32) [w0, w1, w2] .null := ((f22.keep K4q (fun hx_ => (Ne.symm (Exa.neArv f6 f22 (hw _ (List.mem_of_getElem? (i := 11) rfl)))) (on4 _ hx_))).other W14 n_wu)
    have f24 : Arv Z h20 wa kc (.object "java/math/BigDecimal") (3 : Int32) [w0, w1, w2] .null := ((((V_wa.ext E1).keep K4q (fun hx_ => (Ne.symm (Exa.neArv f6 f22 (hw _ (List.mem_of_getElem? (i := 11) rfl)))) (on4 _ hx_))).other W14 n_wu).other W20 (Ne.symm (Exa.neArv f19 f23 (hw _ (List.mem_of_getElem? (i := 39) rfl)))))
    obtain ⟨cl25, Ar25, q25, S25, N_25, H_25, G25⟩ := id f24
    have f27 : Exa Z h20 a2 "java/math/BigDecimal" := (((f6.keep K4q).wr W14).wr W20)
    obtain ⟨T26, h26, X26, e26, W26, st26⟩ := stR X21 hx hZ1 e21 Ar25 (j := (1 : Int32)) (v := (.ref a2)) (inb_of S25 ⟨by decide, by decide⟩) rfl (Sto.ofV Ar25 q25 ov (Ins.self f27)) (g := (mkF m 85 #[.val (.ref a1), .val (.int (1 : Int32)), .val (.ref a2)] [(.ref a2), (.int (1 : Int32)), (.ref wa)])) rfl rfl (hb hby own_d_prog_48_method_6_code_85)
    have V26_wa : Arv Z h26 wa kc (.object "java/math/BigDecimal") (3 : Int32) [w0, (.ref a2), w2] .null := Arv.set Ar25 q25 S25 N_25 H_25 G25 rfl W26 1 rfl (Nat.le_of_ble_eq_true rfl)
    have Nf26 := Fr.snoc X26 Nf20 g_wa
    have CH5 : CHr Z own_EL s.vm h0 T1.vm h26 := CH4.trans (CHr.wr W26 (own_safeV (hZ1 : Z.Warmed39 T1.vm).alike f24 (by decide)) CH4.1)
    have K5 : Keep h0 h26 (own_fr n0 h0) := K4.wr W26 (own_frq g_wa)
    have f28 : BD Z n0 h26 a2 v s_ := ((Pres.ofWr W26 (NB.ofV f24 (hw _ (List.mem_of_getElem? (i := 11) rfl)))) _ _ _ ((Pres.ofWr W20 (NB.ofE f19 (by decide))) _ _ _ ((Pres.ofWr W14 (NB.ofV f12 (hw _ (List.mem_of_getElem? (i := 11) rfl)))) _ _ _ (Ps4 _ _ _ f3))))
    have f29 : Exa Z h20 a1 "com/example/floatweight/floatweight/Prices" := (f19.wr W20)
    have f30 : Fld Z h26 a1 "com/example/floatweight/floatweight/Prices" "mWhole" "[Ljava/math/BigDecimal;" (.ref wa) := (Fw20.other W26 (Or.inl (Exa.neArv f29 f24 (hw _ (List.mem_of_getElem? (i := 39) rfl)))))
    have f31 : Exa Z h26 a1 "com/example/floatweight/floatweight/Prices" := (f29.wr W26)
    have f32 : Fld Z h26 a1 "com/example/floatweight/floatweight/Prices" "mUnscaled" "[J" (.ref ua) := (((f9.other W14 (Or.inl (Exa.neArv f15 f12 (hw _ (List.mem_of_getElem? (i := 39) rfl))))).other W20 (Or.inr (slot_ne (Or.inr (hw _ (List.mem_of_getElem? (i := 47) rfl))) (Or.inl (hw _ (List.mem_of_getElem? (i := 121) rfl))) (by decide) (t := (.array .long)) (t' := (.array (.object "java/math/BigDecimal"))) (by decide) (by decide)))).other W26 (Or.inl (Exa.neArv f29 f24 (hw _ (List.mem_of_getElem? (i := 39) rfl)))))
    have f33 : Fld Z h26 a1 "com/example/floatweight/floatweight/Prices" "mScales" "[I" (.ref sa) := (((((F_mScales_a1.ext E1).keep K4q (fun hx_ => (Exa.ne f8 f6 (by decide)) (on4 _ hx_))).other W14 (Or.inl (Exa.neArv f15 f12 (hw _ (List.mem_of_getElem? (i := 39) rfl))))).other W20 (Or.inr (slot_ne (Or.inr (hw _ (List.mem_of_getElem? (i := 50) rfl))) (Or.inl (hw _ (List.mem_of_getElem? (i := 121) rfl))) (by decide) (t := (.array .int)) (t' := (.array (.object "java/math/BigDecimal"))) (by decide) (by decide)))).other W26 (Or.inl (Exa.neArv f29 f24 (hw _ (List.mem_of_getElem? (i := 39) rfl)))))
    have f34 : Arv Z h26 ua ka .long (3 : Int32) [(.long u0), (.long (0 : Int64)), (.long u2)] (.long (0 : Int64)) := ((V14_ua.other W20 (Ne.symm (Exa.neArv f19 V14_ua (hw _ (List.mem_of_getElem? (i := 39) rfl))))).other W26 (Ne.symm n_wu))
    have f35 : Arv Z h1 sa kb .int (3 : Int32) [(.int c0), (.int c1), (.int c2)] (.int (0 : Int32)) := (V_sa.ext E1)
    have f36 : Arv Z h14 sa kb .int (3 : Int32) [(.int c0), (.int c1), (.int c2)] (.int (0 : Int32)) := ((f35.keep K4q (fun hx_ => (Ne.symm (Exa.neArv f6 f35 (hw _ (List.mem_of_getElem? (i := 11) rfl)))) (on4 _ hx_))).other W14 (Ne.symm n_us))
    have f37 : Arv Z h26 sa kb .int (3 : Int32) [(.int c0), (.int c1), (.int c2)] (.int (0 : Int32)) := (((((V_sa.ext E1).keep K4q (fun hx_ => (Ne.symm (Exa.neArv f6 f35 (hw _ (List.mem_of_getElem? (i := 11) rfl)))) (on4 _ hx_))).other W14 (Ne.symm n_us)).other W20 (Ne.symm (Exa.neArv f19 f36 (hw _ (List.mem_of_getElem? (i := 39) rfl))))).other W26 (Ne.symm n_ws))
    have hk_38 := (Nat.le_trans (Nat.le_trans (Nat.le_trans (Nat.le_trans hk1 K4q.1) (Keep.of_wr W14).1) (Keep.of_wr W20).1) (Keep.of_wr W26).1)
    obtain ⟨fs, hr, hrun, hended, hend⟩ := X26.leaveW hS1 (by rw [e26]; exact hk_38) (v := none) (fun _ => rfl)
    refine ⟨_, _, pre0 _ ?_, hrun, hended, _, _, rfl, ?_, ?_, hend.1, hend.2.1, hend.2.2.1, hend.2.2.2.mono (by decide) (by decide)⟩
    · refine cut7 _ ?_
      show Steps p.tables e below (T4.setTop (mkF m 13 #[.val (.ref a1), .val (.int (1 : Int32)), .val (.ref a2)] [(.int (18 : Int32)), (.int r4)])) _
      refine XS.icmpYes X4.here hx rfl (pc0 := 13) (pc' := 46) rfl (hb hby own_d_prog_48_method_6_code_13) rfl (tlt (c18 : (18 : Int32) < r4)).2.2.1 (by decide) (by decide) ?_
      refine XS.aloadN X4.here hx rfl (hb hby own_d_prog_48_method_6_code_46) rfl rfl ?_
      show Steps p.tables e below (T4.setTop (mkF m 47 #[.val (.ref a1), .val (.int (1 : Int32)), .val (.ref a2)] [(.ref a1)])) _
      refine st10 _ ?_
      refine XS.iloadN X10.here hx rfl (hb hby own_d_prog_48_method_6_code_50) rfl ?_
      refine XS.lconst X10.here hx rfl (hb hby own_d_prog_48_method_6_code_51) ?_
      show Steps p.tables e below (T10.setTop (mkF m 52 #[.val (.ref a1), .val (.int (1 : Int32)), .val (.ref a2)] [(.long (0 : Int64)), (.int (1 : Int32)), (.ref ua)])) _
      refine st14 _ ?_
      refine XS.aloadN X14.here hx rfl (hb hby own_d_prog_48_method_6_code_53) rfl rfl ?_
      refine XS.aloadN X14.here hx rfl (hb hby own_d_prog_48_method_6_code_54) rfl rfl ?_
      show Steps p.tables e below (T14.setTop (mkF m 55 #[.val (.ref a1), .val (.int (1 : Int32)), .val (.ref a2)] [(.ref a1), (.ref a1)])) _
      refine st17 _ ?_
      show Steps p.tables e below (T17.setTop (mkF m 58 #[.val (.ref a1), .val (.int (1 : Int32)), .val (.ref a2)] [(.ref wa), (.ref a1)])) _
      refine XS.ifnonnullYes X17.here hx rfl (pc0 := 58) (pc' := 72) rfl (hb hby own_d_prog_48_method_6_code_58) rfl (by decide) (by decide) ?_
      refine XS.aloadN X17.here hx rfl (hb hby own_d_prog_48_method_6_code_72) rfl rfl ?_
      show Steps p.tables e below (T17.setTop (mkF m 73 #[.val (.ref a1), .val (.int (1 : Int32)), .val (.ref a2)] [(.ref a1), (.ref a1)])) _
      refine st18 _ ?_
      show Steps p.tables e below (T18.setTop (mkF m 76 #[.val (.ref a1), .val (.int (1 : Int32)), .val (.ref a2)] [(.ref wa), (.ref a1)])) _
      refine st20 _ ?_
      refine XS.aloadN X20.here hx rfl (hb hby own_d_prog_48_method_6_code_79) rfl rfl ?_
      show Steps p.tables e below (T20.setTop (mkF m 80 #[.val (.ref a1), .val (.int (1 : Int32)), .val (.ref a2)] [(.ref a1)])) _
      refine st21 _ ?_
      refine XS.iloadN X21.here hx rfl (hb hby own_d_prog_48_method_6_code_83) rfl ?_
      refine XS.aloadN X21.here hx rfl (hb hby own_d_prog_48_method_6_code_84) rfl rfl ?_
      show Steps p.tables e below (T21.setTop (mkF m 85 #[.val (.ref a1), .val (.int (1 : Int32)), .val (.ref a2)] [(.ref a2), (.int (1 : Int32)), (.ref wa)])) _
      refine st26 _ ?_
      show Steps p.tables e below (T26.setTop (mkF m 86 #[.val (.ref a1), .val (.int (1 : Int32)), .val (.ref a2)] [])) _
      exact X26.returnOut hx Bd.returns (hb hby own_d_prog_48_method_6_code_86) hr
    · show QS1 Z a1 u0 u2 c0 c2 w0 w2 v s_ h0 n0 _ T26.heap _
      rw [e26]
      exact ⟨(0 : Int64), c1, (.ref a2), rfl, Nf26, K5, ⟨ua, sa, ka, kb, g_a1, g_ua, g_sa, n_us, f31, f32, f33, f34, f37, Or.inr ⟨wa, kc, g_wa, n_wu, n_ws, f30, V26_wa, ov⟩⟩, Or.inr ⟨rfl, a2, rfl, f28⟩, (fun x_ v_ s_' b_ => ((Pres.ofWr W26 (NB.ofV f24 (hw _ (List.mem_of_getElem? (i := 11) rfl)))) _ _ _ ((Pres.ofWr W20 (NB.ofE f19 (by decide))) _ _ _ ((Pres.ofWr W14 (NB.ofV f12 (hw _ (List.mem_of_getElem? (i := 11) rfl)))) _ _ _ (Ps4 _ _ _ ((Pres.ofExt E1) _ _ _ b_))))))⟩
    · show CHr Z own_EL s.vm s.heap T26.vm T26.heap
      rw [hh, e26]
      exact CH5.trans (CHv.at X26 hZ1 hEL CH5.1)
  · have f8 : Exa Z h1 a1 "com/example/floatweight/floatweight/Prices" := (E_a1.ext E1)
    have f9 : Fld Z T4.heap a1 "com/example/floatweight/floatweight/Prices" "mUnscaled" "[J" (.ref ua) := ((F_mUnscaled_a1.ext E1).keep K4q (fun hx_ => (Exa.ne f8 f6 (by decide)) (on4 _ hx_)))
    obtain ⟨T10, X10, e10, st10⟩ := getF X4 hx hZ1 hown1 (host := "") (Or.inl (hw _ (List.mem_of_getElem? (i := 46) rfl))) Via.refl rfl f9 (g := (mkF m 17 #[.val (.ref a1), .val (.int (1 : Int32)), .val (.ref a2)] [(.ref a1)])) rfl rfl (hb hby own_d_prog_48_method_6_code_17)
    have f12 : BD Z n0 T4.heap a2 v s_ := (Ps4 _ _ _ f3)
    have f13 : Exa Z T4.heap a2 "java/math/BigDecimal" := (f6.keep K4q)
    obtain ⟨cq11, kq11, q11a, q11b, q11c⟩ := isOf hZ1 e10 f13
    obtain ⟨_, _, ⟨T11, L11, k11, n11⟩, -, X11, ⟨Lc11, hQ11, l11, y11, z11⟩, st11⟩ := X10.virtualBack hx (y := (⟨"java/math/BigDecimal", "scale", "()I"⟩ : MethodName)) (z := (⟨"java/math/BigDecimal", "scale", "()I"⟩ : MethodName)) hown1 (mvT hZ1 (hw _ (List.mem_of_getElem? (i := 91) rfl))) (mvT hZ1 (hw _ (List.mem_of_getElem? (i := 92) rfl))) (notFace_of_selects (args := #[]) (mvT hZ1 (hw _ (List.mem_of_getElem? (i := 94) rfl)))) (mvT hZ1 (hw _ (List.mem_of_getElem? (i := 94) rfl))) (mvT hZ1 (hw _ (List.mem_of_getElem? (i := 93) rfl))) (by decide) (backOf (W := 3) (rmSc l Z a0 hw [] a2 s_ T4.heap n0 (Nat.le_trans Z0 K2.1) f12.2.1) hZ1 (hw _ (List.mem_of_getElem? (i := 95) rfl)) (hw _ (List.mem_of_getElem? (i := 8) rfl)) (by decide) (by decide)) q11a q11c (g := (mkF m 23 #[.val (.ref a1), .val (.int (1 : Int32)), .val (.ref a2)] [(.ref a2), (.ref a2), (.int (1 : Int32)), (.ref ua)])) rfl (by rw [hml]; rfl) (Steps.refl _) (argsL := []) (rest := [(.ref a2), (.int (1 : Int32)), (.ref ua)]) (lenOf own_pd___I rfl) rfl (by show 2 * 0 + _ ≤ _; exact Nat.le_of_eq rfl) (hb hby own_d_prog_48_method_6_code_23) (fun _ _ => ⟨rfl, e10, (by decide : 2 + 0 ≤ _), (by decide : 24 + 0 ≤ _)⟩)
    dsimp only [Pt.U, Pt.locs, Pt.cells, Pt.slots] at X11 l11 y11 z11 st11 hQ11
    subst l11 y11 z11
    obtain ⟨rfl, N11q, e11q⟩ := hQ11
    have N11a := Fr.app N4a N11q
    obtain ⟨cq14, kq14, q14a, q14b, q14c⟩ := isOf hZ1 e11q f13
    obtain ⟨_, _, ⟨T14, L14, k14, n14⟩, -, X14, ⟨Lc14, hQ14, l14, y14, z14⟩, st14⟩ := X11.virtualBack hx (y := (⟨"java/math/BigDecimal", "movePointRight", "(I)Ljava/math/BigDecimal;"⟩ : MethodName)) (z := (⟨"java/math/BigDecimal", "movePointRight", "(I)Ljava/math/BigDecimal;"⟩ : MethodName)) hown1 (mvT hZ1 (hw _ (List.mem_of_getElem? (i := 96) rfl))) (mvT hZ1 (hw _ (List.mem_of_getElem? (i := 97) rfl))) (notFace_of_selects (args := #[]) (mvT hZ1 (hw _ (List.mem_of_getElem? (i := 99) rfl)))) (mvT hZ1 (hw _ (List.mem_of_getElem? (i := 99) rfl))) (mvT hZ1 (hw _ (List.mem_of_getElem? (i := 98) rfl))) (by decide) (backOf (W := 2) (rmMp l Z a0 hw [] a2 v s_ T4.heap n0 (Nat.le_trans Z0 K2.1) f12) hZ1 (hw _ (List.mem_of_getElem? (i := 100) rfl)) (hw _ (List.mem_of_getElem? (i := 8) rfl)) (by decide) (by decide)) q14a q14c (g := (mkF m 26 #[.val (.ref a1), .val (.int (1 : Int32)), .val (.ref a2)] [(.int s_), (.ref a2), (.int (1 : Int32)), (.ref ua)])) rfl (by rw [hml]; rfl) (Steps.refl _) (argsL := [(.int s_)]) (rest := [(.int (1 : Int32)), (.ref ua)]) (lenOf own_pd__I_Ljava_math_BigDecimal_ rfl) rfl (by show 2 * 0 + _ ≤ _; exact Nat.le_of_eq rfl) (hb hby own_d_prog_48_method_6_code_26) (fun _ _ => ⟨rfl, e11q, (by decide : 2 + 1 ≤ _), (by decide : 24 + 5 ≤ _)⟩)
    dsimp only [Pt.U, Pt.locs, Pt.cells, Pt.slots] at X14 l14 y14 z14 st14 hQ14
    subst l14 y14 z14
    obtain ⟨m14, rfl, N14q, K14q, mE14, mS14, mC14⟩ := hQ14
    have N14a := Fr.app N11a N14q
    have CH3 : CHr Z own_EL s.vm h0 T1.vm T14.heap := CH2.trans (CHr.keep K14q all0 CH2.1)
    have K3 : Keep h0 T14.heap (own_fr n0 h0) := K2.trans K14q all0
    obtain ⟨cq15, kq15, q15a, q15b, q15c⟩ := isOf hZ1 rfl mE14
    obtain ⟨_, _, ⟨T15, L15, k15, n15⟩, -, X15, ⟨Lc15, hQ15, l15, y15, z15⟩, st15⟩ := X14.virtualBack hx (y := (⟨"java/math/BigDecimal", "longValueExact", "()J"⟩ : MethodName)) (z := (⟨"java/math/BigDecimal", "longValueExact", "()J"⟩ : MethodName)) hown1 (mvT hZ1 (hw _ (List.mem_of_getElem? (i := 106) rfl))) (mvT hZ1 (hw _ (List.mem_of_getElem? (i := 107) rfl))) (notFace_of_selects (args := #[]) (mvT hZ1 (hw _ (List.mem_of_getElem? (i := 109) rfl)))) (mvT hZ1 (hw _ (List.mem_of_getElem? (i := 109) rfl))) (mvT hZ1 (hw _ (List.mem_of_getElem? (i := 108) rfl))) (by decide) (backOf (W := 2) (rmLv l Z a0 hw [] m14 v T14.heap n0 (Nat.le_trans Z0 K3.1) mS14 mC14 hv) hZ1 (hw _ (List.mem_of_getElem? (i := 110) rfl)) (hw _ (List.mem_of_getElem? (i := 8) rfl)) (by decide) (by decide)) q15a q15c (g := (mkF m 29 #[.val (.ref a1), .val (.int (1 : Int32)), .val (.ref a2)] [(.ref m14), (.int (1 : Int32)), (.ref ua)])) rfl (by rw [hml]; rfl) (Steps.refl _) (argsL := []) (rest := [(.int (1 : Int32)), (.ref ua)]) (lenOf own_pd___J rfl) rfl (by show 2 * 0 + _ ≤ _; exact Nat.le_of_eq rfl) (hb hby own_d_prog_48_method_6_code_29) (fun _ _ => ⟨rfl, rfl, (by decide : 3 + 0 ≤ _), (by decide : 29 + 0 ≤ _)⟩)
    dsimp only [Pt.U, Pt.locs, Pt.cells, Pt.slots] at X15 l15 y15 z15 st15 hQ15
    subst l15 y15 z15
    obtain ⟨rfl, N15q, e15q⟩ := hQ15
    have N15a := Fr.app N14a N15q
    have f16 : Arv Z h1 ua ka .long (3 : Int32) [(.long u0), (.long u1), (.long u2)] (.long (0 : Int64)) := (V_ua.ext E1)
    have f17 : Arv Z T14.heap ua ka .long (3 : Int32) [(.long u0), (.long u1), (.long u2)] (.long (0 : Int64)) := (((V_ua.ext E1).keep K4q (fun hx_ => (Ne.symm (Exa.neArv f6 f16 (hw _ (List.mem_of_getElem? (i := 11) rfl)))) (on4 _ hx_))).keep K14q nin0)
    obtain ⟨cl18, Ar18, q18, S18, N_18, H_18, G18⟩ := id f17
    obtain ⟨T19, h19, X19, e19, W19, st19⟩ := stJ X15 hx hZ1 e15q Ar18 (j := (1 : Int32)) (inb_of S18 ⟨by decide, by decide⟩) (g := (mkF m 32 #[.val (.ref a1), .val (.int (1 : Int32)), .val (.ref a2)] [(.long v), (.int (1 : Int32)), (.ref ua)])) rfl rfl (hb hby own_d_prog_48_method_6_code_32)
    have V19_ua : Arv Z h19 ua ka .long (3 : Int32) [(.long u0), (.long v), (.long u2)] (.long (0 : Int64)) := Arv.set Ar18 q18 S18 N_18 H_18 G18 rfl W19 1 rfl (Nat.le_of_ble_eq_true rfl)
    have Nf19 := Fr.snoc X19 N15a g_ua
    have CH4 : CHr Z own_EL s.vm h0 T1.vm h19 := CH3.trans (CHr.wr W19 (own_safeV (hZ1 : Z.Warmed39 T1.vm).alike f17 (by decide)) CH3.1)
    have K4 : Keep h0 h19 (own_fr n0 h0) := K3.wr W19 (own_frq g_ua)
    have f20 : Exa Z T14.heap a1 "com/example/floatweight/floatweight/Prices" := ((f8.keep K4q).keep K14q)
    have f21 : Fld Z h19 a1 "com/example/floatweight/floatweight/Prices" "mScales" "[I" (.ref sa) := ((((F_mScales_a1.ext E1).keep K4q (fun hx_ => (Exa.ne f8 f6 (by decide)) (on4 _ hx_))).keep K14q nin0).other W19 (Or.inl (Exa.neArv f20 f17 (hw _ (List.mem_of_getElem? (i := 39) rfl)))))
    obtain ⟨T22, X22, e22, st22⟩ := getF X19 hx hZ1 hown1 (host := "") (Or.inl (hw _ (List.mem_of_getElem? (i := 49) rfl))) Via.refl e19 f21 (g := (mkF m 34 #[.val (.ref a1), .val (.int (1 : Int32)), .val (.ref a2)] [(.ref a1)])) rfl rfl (hb hby own_d_prog_48_method_6_code_34)
    have f24 : BD Z n0 h19 a2 v s_ := ((Pres.ofWr W19 (NB.ofV f17 (hw _ (List.mem_of_getElem? (i := 11) rfl)))) _ _ _ ((Pres.ofKeep K14q all0) _ _ _ f12))
    have f25 : Exa Z h19 a2 "java/math/BigDecimal" := ((f13.keep K14q).wr W19)
    obtain ⟨cq23, kq23, q23a, q23b, q23c⟩ := isOf hZ1 e22 f25
    obtain ⟨_, _, ⟨T23, L23, k23, n23⟩, -, X23, ⟨Lc23, hQ23, l23, y23, z23⟩, st23⟩ := X22.virtualBack hx (y := (⟨"java/math/BigDecimal", "scale", "()I"⟩ : MethodName)) (z := (⟨"java/math/BigDecimal", "scale", "()I"⟩ : MethodName)) hown1 (mvT hZ1 (hw _ (List.mem_of_getElem? (i := 91) rfl))) (mvT hZ1 (hw _ (List.mem_of_getElem? (i := 92) rfl))) (notFace_of_selects (args := #[]) (mvT hZ1 (hw _ (List.mem_of_getElem? (i := 94) rfl)))) (mvT hZ1 (hw _ (List.mem_of_getElem? (i := 94) rfl))) (mvT hZ1 (hw _ (List.mem_of_getElem? (i := 93) rfl))) (by decide) (backOf (W := 2) (rmSc l Z a0 hw [] a2 s_ h19 n0 (Nat.le_trans Z0 K4.1) f24.2.1) hZ1 (hw _ (List.mem_of_getElem? (i := 95) rfl)) (hw _ (List.mem_of_getElem? (i := 8) rfl)) (by decide) (by decide)) q23a q23c (g := (mkF m 39 #[.val (.ref a1), .val (.int (1 : Int32)), .val (.ref a2)] [(.ref a2), (.int (1 : Int32)), (.ref sa)])) rfl (by rw [hml]; rfl) (Steps.refl _) (argsL := []) (rest := [(.int (1 : Int32)), (.ref sa)]) (lenOf own_pd___I rfl) rfl (by show 2 * 0 + _ ≤ _; exact Nat.le_of_eq rfl) (hb hby own_d_prog_48_method_6_code_39) (fun _ _ => ⟨rfl, e22, (by decide : 3 + 0 ≤ _), (by decide : 29 + 0 ≤ _)⟩)
    dsimp only [Pt.U, Pt.locs, Pt.cells, Pt.slots] at X23 l23 y23 z23 st23 hQ23
    subst l23 y23 z23
    obtain ⟨rfl, N23q, e23q⟩ := hQ23
    have N23a := Fr.app Nf19 N23q
    have f26 : Arv Z h1 sa kb .int (3 : Int32) [(.int c0), (.int c1), (.int c2)] (.int (0 : Int32)) := (V_sa.ext E1)
    have f27 : Arv Z h19 sa kb .int (3 : Int32) [(.int c0), (.int c1), (.int c2)] (.int (0 : Int32)) := ((((V_sa.ext E1).keep K4q (fun hx_ => (Ne.symm (Exa.neArv f6 f26 (hw _ (List.mem_of_getElem? (i := 11) rfl)))) (on4 _ hx_))).keep K14q nin0).other W19 (Ne.symm n_us))
    obtain ⟨cl28, Ar28, q28, S28, N_28, H_28, G28⟩ := id f27
    obtain ⟨T29, h29, X29, e29, W29, st29⟩ := stI X23 hx hZ1 e23q Ar28 (j := (1 : Int32)) (inb_of S28 ⟨by decide, by decide⟩) (g := (mkF m 42 #[.val (.ref a1), .val (.int (1 : Int32)), .val (.ref a2)] [(.int s_), (.int (1 : Int32)), (.ref sa)])) rfl rfl (hb hby own_d_prog_48_method_6_code_42)
    have V29_sa : Arv Z h29 sa kb .int (3 : Int32) [(.int c0), (.int s_), (.int c2)] (.int (0 : Int32)) := Arv.set Ar28 q28 S28 N_28 H_28 G28 rfl W29 1 rfl (Nat.le_of_ble_eq_true rfl)
    have Nf29 := Fr.snoc X29 N23a g_sa
    have CH5 : CHr Z own_EL s.vm h0 T1.vm h29 := CH4.trans (CHr.wr W29 (own_safeV (hZ1 : Z.Warmed39 T1.vm).alike f27 (by decide)) CH4.1)
    have K5 : Keep h0 h29 (own_fr n0 h0) := K4.wr W29 (own_frq g_sa)
    have f30 : Exa Z h19 a1 "com/example/floatweight/floatweight/Prices" := (f20.wr W19)
    have f31 : Fld Z h29 a1 "com/example/floatweight/floatweight/Prices" "mWhole" "[Ljava/math/BigDecimal;" (.ref wa) := (((((F_mWhole_a1.ext E1).keep K4q (fun hx_ => (Exa.ne f8 f6 (by decide)) (on4 _ hx_))).keep K14q nin0).other W19 (Or.inl (Exa.neArv f20 f17 (hw _ (List.mem_of_getElem? (i := 39) rfl))))).other W29 (Or.inl (Exa.neArv f30 f27 (hw _ (List.mem_of_getElem? (i := 39) rfl)))))
    have f32 : Arv Z h1 wa kc (.object "java/math/BigDecimal") (3 : Int32) [w0, w1, w2] .null := (V_wa.ext E1)
    have f33 : Arv Z h29 wa kc (.object "java/math/BigDecimal") (3 : Int32) [w0, w1, w2] .null := (((((V_wa.ext E1).keep K4q (fun hx_ => (Ne.symm (Exa.neArv f6 f32 (hw _ (List.mem_of_getElem? (i := 11) rfl)))) (on4 _ hx_))).keep K14q nin0).other W19 n_wu).other W29 n_ws)
    have f34 : Exa Z h29 a1 "com/example/floatweight/floatweight/Prices" := (f30.wr W29)
    have f35 : Fld Z h29 a1 "com/example/floatweight/floatweight/Prices" "mUnscaled" "[J" (.ref ua) := (((f9.keep K14q nin0).other W19 (Or.inl (Exa.neArv f20 f17 (hw _ (List.mem_of_getElem? (i := 39) rfl))))).other W29 (Or.inl (Exa.neArv f30 f27 (hw _ (List.mem_of_getElem? (i := 39) rfl)))))
    have f36 : Fld Z h29 a1 "com/example/floatweight/floatweight/Prices" "mScales" "[I" (.ref sa) := (f21.other W29 (Or.inl (Exa.neArv f30 f27 (hw _ (List.mem_of_getElem? (i := 39) rfl)))))
    have f37 : Arv Z h29 ua ka .long (3 : Int32) [(.long u0), (.long v), (.long u2)] (.long (0 : Int64)) := (V19_ua.other W29 n_us)
    have hk_38 := (Nat.le_trans (Nat.le_trans (Nat.le_trans (Nat.le_trans hk1 K4q.1) K14q.1) (Keep.of_wr W19).1) (Keep.of_wr W29).1)
    obtain ⟨fs, hr, hrun, hended, hend⟩ := X29.leaveW hS1 (by rw [e29]; exact hk_38) (v := none) (fun _ => rfl)
    refine ⟨_, _, pre0 _ ?_, hrun, hended, _, _, rfl, ?_, ?_, hend.1, hend.2.1, hend.2.2.1, hend.2.2.2.mono (by decide) (by decide)⟩
    · refine cut7 _ ?_
      show Steps p.tables e below (T4.setTop (mkF m 13 #[.val (.ref a1), .val (.int (1 : Int32)), .val (.ref a2)] [(.int (18 : Int32)), (.int r4)])) _
      refine XS.icmpNo X4.here hx rfl (hb hby own_d_prog_48_method_6_code_13) rfl (flt (c18 : ¬ ((18 : Int32) < r4))).2.2.1 ?_
      refine XS.aloadN X4.here hx rfl (hb hby own_d_prog_48_method_6_code_16) rfl rfl ?_
      show Steps p.tables e below (T4.setTop (mkF m 17 #[.val (.ref a1), .val (.int (1 : Int32)), .val (.ref a2)] [(.ref a1)])) _
      refine st10 _ ?_
      refine XS.iloadN X10.here hx rfl (hb hby own_d_prog_48_method_6_code_20) rfl ?_
      refine XS.aloadN X10.here hx rfl (hb hby own_d_prog_48_method_6_code_21) rfl rfl ?_
      show Steps p.tables e below (T10.setTop (mkF m 22 #[.val (.ref a1), .val (.int (1 : Int32)), .val (.ref a2)] [(.ref a2), (.int (1 : Int32)), (.ref ua)])) _
      refine XS.aloadN X10.here hx rfl (hb hby own_d_prog_48_method_6_code_22) rfl rfl ?_
      show Steps p.tables e below (T10.setTop (mkF m 23 #[.val (.ref a1), .val (.int (1 : Int32)), .val (.ref a2)] [(.ref a2), (.ref a2), (.int (1 : Int32)), (.ref ua)])) _
      refine st11.trans ?_
      show Steps p.tables e below (T11.setTop (mkF m 26 #[.val (.ref a1), .val (.int (1 : Int32)), .val (.ref a2)] [(.int s_), (.ref a2), (.int (1 : Int32)), (.ref ua)])) _
      refine st14.trans ?_
      show Steps p.tables e below (T14.setTop (mkF m 29 #[.val (.ref a1), .val (.int (1 : Int32)), .val (.ref a2)] [(.ref m14), (.int (1 : Int32)), (.ref ua)])) _
      refine st15.trans ?_
      show Steps p.tables e below (T15.setTop (mkF m 32 #[.val (.ref a1), .val (.int (1 : Int32)), .val (.ref a2)] [(.long v), (.int (1 : Int32)), (.ref ua)])) _
      refine st19 _ ?_
      refine XS.aloadN X19.here hx rfl (hb hby own_d_prog_48_method_6_code_33) rfl rfl ?_
      show Steps p.tables e below (T19.setTop (mkF m 34 #[.val (.ref a1), .val (.int (1 : Int32)), .val (.ref a2)] [(.ref a1)])) _
      refine st22 _ ?_
      refine XS.iloadN X22.here hx rfl (hb hby own_d_prog_48_method_6_code_37) rfl ?_
      refine XS.aloadN X22.here hx rfl (hb hby own_d_prog_48_method_6_code_38) rfl rfl ?_
      show Steps p.tables e below (T22.setTop (mkF m 39 #[.val (.ref a1), .val (.int (1 : Int32)), .val (.ref a2)] [(.ref a2), (.int (1 : Int32)), (.ref sa)])) _
      refine st23.trans ?_
      show Steps p.tables e below (T23.setTop (mkF m 42 #[.val (.ref a1), .val (.int (1 : Int32)), .val (.ref a2)] [(.int s_), (.int (1 : Int32)), (.ref sa)])) _
      refine st29 _ ?_
      refine XS.goto X29.here hx rfl (pc0 := 43) (pc' := 86) rfl (hb hby own_d_prog_48_method_6_code_43) (by decide) (by decide) ?_
      show Steps p.tables e below (T29.setTop (mkF m 86 #[.val (.ref a1), .val (.int (1 : Int32)), .val (.ref a2)] [])) _
      exact X29.returnOut hx Bd.returns (hb hby own_d_prog_48_method_6_code_86) hr
    · show QS1 Z a1 u0 u2 c0 c2 w0 w2 v s_ h0 n0 _ T29.heap _
      rw [e29]
      exact ⟨v, s_, w1, rfl, Nf29, K5, ⟨ua, sa, ka, kb, g_a1, g_ua, g_sa, n_us, f34, f35, f36, f37, V29_sa, Or.inr ⟨wa, kc, g_wa, n_wu, n_ws, f31, f33, ov⟩⟩, Or.inl ⟨rfl, rfl⟩, (fun x_ v_ s_' b_ => ((Pres.ofWr W29 (NB.ofV f27 (hw _ (List.mem_of_getElem? (i := 11) rfl)))) _ _ _ ((Pres.ofWr W19 (NB.ofV f17 (hw _ (List.mem_of_getElem? (i := 11) rfl)))) _ _ _ ((Pres.ofKeep K14q all0) _ _ _ (Ps4 _ _ _ ((Pres.ofExt E1) _ _ _ b_))))))⟩
    · show CHr Z own_EL s.vm s.heap T29.vm T29.heap
      rw [hh, e29]
      exact CH5.trans (CHv.at X29 hZ1 hEL CH5.1)
theorem rmS1 (l : Launch) (Z : State) (a0 : Array Value) (hw : ∀ d ∈ tables_1, d.before a0 Z = true) (ws : List Jvm.Cond) (hEL : EW Z a0 own_EL) (a1 a2 : Addr) (u0 u1 u2 : Int64) (c0 c1 c2 : Int32) (w0 w1 w2 : Value) (v : Int64) (s_ : Int32) (h0 : Heap) (n0 : Nat) (Z0 : n0 ≤ h0.size) (R : PRS Z n0 h0 a1 u0 u1 u2 c0 c1 c2 w0 w1 w2) (B_a2 : BD Z n0 h0 a2 v s_) (hv : (0 : Int64) < v) (hTP : TPT Z) (O0 : Old Z n0 h0) :
    MetFree l (⟨"com/example/floatweight/floatweight/Prices", "set", "(ILjava/math/BigDecimal;)V"⟩ : MethodName) (head1 (Jvm.Cond.code (⟨"com/example/floatweight/floatweight/Prices", "set", "(ILjava/math/BigDecimal;)V"⟩ : MethodName) prog_48_method_6_code 3 none :: ws) ({ frames := 4, cells := 3, slots := 29, locals := 59 } : Room)) (fun a U => a = #[(.ref a1), (.int (1 : Int32)), (.ref a2)] ∧ Z.Warmed39 U.vm ∧ U.heap = h0 ∧ CHv Z own_EL U.vm h0) (fun _ _ _ _ _ => True) (fun _ U o U' => ∃ v' L, o = .returned v' ∧ QS1 Z a1 u0 u2 c0 c2 w0 w2 v s_ h0 n0 v' U'.heap L ∧ CHr Z own_EL U.vm U.heap U'.vm U'.heap ∧ ReturnedEndW U o U' L 3 29) := by
  obtain ⟨ua, sa, ka, kb, g1, g2, g3, g4, e, f1, f2, A1, A2, w⟩ := R
  rcases w with ⟨f3, q0, q1, q2⟩ | ⟨wa, kc, g5, g6, g7, f3, A3, ov⟩
  · exact rs1n l Z a0 hw ws hEL a1 a2 ua sa ka kb u0 u1 u2 c0 c1 c2 w0 w1 w2 v s_ h0 n0 Z0 e f1 f2 f3 A1 A2 g4 g1 g2 g3 B_a2 hv hTP O0 q0 q1 q2
  · exact rs1w l Z a0 hw ws hEL a1 a2 ua sa ka kb u0 u1 u2 c0 c1 c2 w0 w1 w2 wa kc v s_ h0 n0 Z0 e f1 f2 f3 A1 A2 g4 A3 g6 g7 ov g1 g2 g3 g5 B_a2 hv hTP O0
theorem own_d_prog_48_method_5_code_0 : decode prog_48_method_5_code 0 = .ok (.aload_n 0, 1) := by decide +kernel
theorem own_d_prog_48_method_5_code_1 : decode prog_48_method_5_code 1 = .ok (.getfield 7, 3) := by decide +kernel
theorem own_d_prog_48_method_5_code_4 : decode prog_48_method_5_code 4 = .ok (.iload_n 1, 1) := by decide +kernel
theorem own_d_prog_48_method_5_code_5 : decode prog_48_method_5_code 5 = .ok (.laload, 1) := by decide +kernel
theorem own_d_prog_48_method_5_code_6 : decode prog_48_method_5_code 6 = .ok (.lconst 0, 1) := by decide +kernel
theorem own_d_prog_48_method_5_code_7 : decode prog_48_method_5_code 7 = .ok (.lcmp, 1) := by decide +kernel
theorem own_d_prog_48_method_5_code_8 : decode prog_48_method_5_code 8 = .ok (.ifCond .eq 22, 3) := by decide +kernel
theorem own_d_prog_48_method_5_code_11 : decode prog_48_method_5_code 11 = .ok (.aload_n 0, 1) := by decide +kernel
theorem own_d_prog_48_method_5_code_12 : decode prog_48_method_5_code 12 = .ok (.getfield 7, 3) := by decide +kernel
theorem own_d_prog_48_method_5_code_15 : decode prog_48_method_5_code 15 = .ok (.iload_n 1, 1) := by decide +kernel
theorem own_d_prog_48_method_5_code_16 : decode prog_48_method_5_code 16 = .ok (.laload, 1) := by decide +kernel
theorem own_d_prog_48_method_5_code_17 : decode prog_48_method_5_code 17 = .ok (.aload_n 0, 1) := by decide +kernel
theorem own_d_prog_48_method_5_code_18 : decode prog_48_method_5_code 18 = .ok (.getfield 13, 3) := by decide +kernel
theorem own_d_prog_48_method_5_code_21 : decode prog_48_method_5_code 21 = .ok (.iload_n 1, 1) := by decide +kernel
theorem own_d_prog_48_method_5_code_22 : decode prog_48_method_5_code 22 = .ok (.iaload, 1) := by decide +kernel
theorem own_d_prog_48_method_5_code_23 : decode prog_48_method_5_code 23 = .ok (.invokestatic 40, 3) := by decide +kernel
theorem own_d_prog_48_method_5_code_26 : decode prog_48_method_5_code 26 = .ok (.astore_n 2, 1) := by decide +kernel
theorem own_d_prog_48_method_5_code_27 : decode prog_48_method_5_code 27 = .ok (.goto 21, 3) := by decide +kernel
theorem own_d_prog_48_method_5_code_48 : decode prog_48_method_5_code 48 = .ok (.aload_n 2, 1) := by decide +kernel
theorem own_d_prog_48_method_5_code_49 : decode prog_48_method_5_code 49 = .ok (.areturn, 1) := by decide +kernel
theorem own_pd__JI_Ljava_math_BigDecimal_ : parseMethodDescriptor "(JI)Ljava/math/BigDecimal;" = some ⟨[.long, .int], some (.object "java/math/BigDecimal")⟩ := by decide +kernel
theorem own_ef_prog_48_method_5_code_xx (m : MethodId) (x0 : Addr) (x1 : Int32) : entryFrame m #[(.ref x0), (.int x1)] 3 = mkF m 0 #[.val (.ref x0), .val (.int x1), .unset] [] := by first | (simp [entryFrame, mkF, argsToLocals, Value.category]; done) | rfl
set_option maxRecDepth 65536 in
set_option maxHeartbeats 40000000 in
theorem rg0a (l : Launch) (Z : State) (a0 : Array Value) (hw : ∀ d ∈ tables_1, d.before a0 Z = true) (ws : List Jvm.Cond) (a1 ua sa : Addr) (ka kb : ClassId) (u0 u1 u2 : Int64) (c0 c1 c2 : Int32) (w0 w1 w2 : Value) (h0 : Heap) (n0 : Nat) (Z0 : n0 ≤ h0.size) (E_a1 : Exa Z h0 a1 "com/example/floatweight/floatweight/Prices") (F_mUnscaled_a1 : Fld Z h0 a1 "com/example/floatweight/floatweight/Prices" "mUnscaled" "[J" (.ref ua)) (F_mScales_a1 : Fld Z h0 a1 "com/example/floatweight/floatweight/Prices" "mScales" "[I" (.ref sa)) (F_mWhole_a1 : Fld Z h0 a1 "com/example/floatweight/floatweight/Prices" "mWhole" "[Ljava/math/BigDecimal;" .null) (V_ua : Arv Z h0 ua ka .long (3 : Int32) [(.long u0), (.long u1), (.long u2)] (.long (0 : Int64))) (V_sa : Arv Z h0 sa kb .int (3 : Int32) [(.int c0), (.int c1), (.int c2)] (.int (0 : Int32))) (n_us : ua ≠ sa) (hZT : ZTT Z) (O0 : Old Z n0 h0) (hv : (0 : Int64) < u0) :
    MetFree l (⟨"com/example/floatweight/floatweight/Prices", "get", "(I)Ljava/math/BigDecimal;"⟩ : MethodName) (head1 (Jvm.Cond.code (⟨"com/example/floatweight/floatweight/Prices", "get", "(I)Ljava/math/BigDecimal;"⟩ : MethodName) prog_48_method_5_code 3 (some (.object "java/math/BigDecimal")) :: ws) ({ frames := 5, cells := 1, slots := 5, locals := 69 } : Room)) (fun a U => a = #[(.ref a1), (.int (0 : Int32))] ∧ Z.Warmed39 U.vm ∧ U.heap = h0) (fun _ _ _ _ _ => True) (fun _ U o U' => ∃ vr_ Lr_, o = .returned vr_ ∧ QVo Z u0 c0 h0 n0 vr_ U'.heap Lr_ ∧ FrameEnd U o U' Lr_ 1 5) := by
  refine MetFree.of_bodySF (plainFor_of_name own_pn_com_example_floatweight_floatweight_Prices) hisR ?_
  intro p e s m args below meth c s₁ Bd hml0 hP hK
  obtain ⟨rfl, hZ, hh⟩ := hP
  have hx := Bd.exec
  have hby := Bd.bytes
  have hml : c.maxLocals = 3 := hml0
  have hown : s.vm.findClass "com/example/floatweight/floatweight/Prices" = some m.cls := findClass_of_methodNamed Bd.named
  have hnm := (name_of_methodNamed Bd.named Bd.method).1
  have X0 : Stand p l e ({ frames := 5, cells := 1, slots := 5, locals := 69 } : Room) s m #[(.ref a1), (.int (0 : Int32))] below meth c s₁ [] 0 0 := Stand.of_body Bd
  have e0 : s₁.heap = h0 := by rw [← hh, Bd.state]; rfl
  have N0 := Fr.nil n0
  have pre0 : ∀ t, Steps p.tables e below (s₁.setTop (mkF m 0 #[.val (.ref a1), .val (.int (0 : Int32)), .unset] [])) t → Steps p.tables e below (s₁.setTop (entryFrame m #[(.ref a1), (.int (0 : Int32))] 3)) t := fun t k => castTop (own_ef_prog_48_method_5_code_xx m a1 (0 : Int32)) k
  obtain ⟨T1, X1, e1, st1⟩ := getF X0 hx hZ hown (host := "") (Or.inl (hw _ (List.mem_of_getElem? (i := 46) rfl))) Via.refl e0 F_mUnscaled_a1 (g := (mkF m 1 #[.val (.ref a1), .val (.int (0 : Int32)), .unset] [(.ref a1)])) rfl rfl (hb hby own_d_prog_48_method_5_code_1)
  obtain ⟨cl2, Ar2, q2, S2, N_2, H_2, G2⟩ := id V_ua
  have hin2 : ¬ ((0 : Int32) < 0 ∨ cl2.slots.size ≤ ((0 : Int32)).toNatClampNeg) := inb_of S2 ⟨by decide, by decide⟩
  have hat2 : cl2.slots[((0 : Int32)).toNatClampNeg]? = some (.long u0) := H_2.at hin2 rfl
  obtain ⟨T3, X3, e3, st3⟩ := getF X1 hx hZ hown (host := "") (Or.inl (hw _ (List.mem_of_getElem? (i := 46) rfl))) Via.refl e1 F_mUnscaled_a1 (g := (mkF m 12 #[.val (.ref a1), .val (.int (0 : Int32)), .unset] [(.ref a1)])) rfl rfl (hb hby own_d_prog_48_method_5_code_12)
  obtain ⟨cl4, Ar4, q4, S4, N_4, H_4, G4⟩ := id V_ua
  have hin4 : ¬ ((0 : Int32) < 0 ∨ cl4.slots.size ≤ ((0 : Int32)).toNatClampNeg) := inb_of S4 ⟨by decide, by decide⟩
  have hat4 : cl4.slots[((0 : Int32)).toNatClampNeg]? = some (.long u0) := H_4.at hin4 rfl
  obtain ⟨T5, X5, e5, st5⟩ := getF X3 hx hZ hown (host := "") (Or.inl (hw _ (List.mem_of_getElem? (i := 49) rfl))) Via.refl e3 F_mScales_a1 (g := (mkF m 18 #[.val (.ref a1), .val (.int (0 : Int32)), .unset] [(.ref a1), (.long u0)])) rfl rfl (hb hby own_d_prog_48_method_5_code_18)
  obtain ⟨cl6, Ar6, q6, S6, N_6, H_6, G6⟩ := id V_sa
  have hin6 : ¬ ((0 : Int32) < 0 ∨ cl6.slots.size ≤ ((0 : Int32)).toNatClampNeg) := inb_of S6 ⟨by decide, by decide⟩
  have hat6 : cl6.slots[((0 : Int32)).toNatClampNeg]? = some (.int c0) := H_6.at hin6 rfl
  obtain ⟨_, _, ⟨T7, L7, k7, n7⟩, -, X7, ⟨Lc7, hQ7, l7, y7, z7⟩, st7⟩ := Jvm.LawKit.callS X5 hx (y := (⟨"java/math/BigDecimal", "valueOf", "(JI)Ljava/math/BigDecimal;"⟩ : MethodName)) hown (mvT hZ (hw _ (List.mem_of_getElem? (i := 137) rfl))) (mvT hZ (hw _ (List.mem_of_getElem? (i := 7) rfl))) (mvT hZ (hw _ (List.mem_of_getElem? (i := 8) rfl))) (mvT hZ (hw _ (List.mem_of_getElem? (i := 9) rfl))) (by decide) (backOf (W := 0) (rmVo l Z a0 hw [] u0 c0 h0 n0 (Nat.le_trans Z0 (Keep.refl h0 []).1) hv hZT O0) hZ (hw _ (List.mem_of_getElem? (i := 9) rfl)) (hw _ (List.mem_of_getElem? (i := 8) rfl)) (by decide) (by decide)) (g := (mkF m 23 #[.val (.ref a1), .val (.int (0 : Int32)), .unset] [(.int c0), (.long u0)])) rfl (by rw [hml]; rfl) (argsL := [(.long u0), (.int c0)]) (rest := []) (lenOf own_pd__JI_Ljava_math_BigDecimal_ rfl) rfl (by show 2 * 0 + _ ≤ _; exact Nat.le_of_eq rfl) (hb hby own_d_prog_48_method_5_code_23) (fun _ _ => ⟨rfl, e5, (by decide : 0 + 1 ≤ _), (by decide : 0 + 5 ≤ _)⟩)
  dsimp only [Pt.U, Pt.locs, Pt.cells, Pt.slots] at X7 l7 y7 z7 st7 hQ7
  subst l7 y7 z7
  obtain ⟨b7, rfl, N7q, K7q, Bd7⟩ := hQ7
  have N7a := Fr.app N0 N7q
  have K1 : Keep h0 T7.heap [] := (Keep.refl h0 []).trans K7q all0
  obtain ⟨fs, hr, hrun, hended, hW, hsame⟩ := X7.leave (v := some (.ref b7)) (fun h => by rw [Bd.returns] at h; cases h)
  refine ⟨_, _, pre0 _ ?_, hrun, hended, _, _, rfl, ?_, ⟨_, rfl⟩, hW, hsame.mono (by decide) (by decide)⟩
  · show Steps p.tables e below (s₁.setTop (mkF m 0 #[.val (.ref a1), .val (.int (0 : Int32)), .unset] [])) _
    refine XS.aloadN X0.here hx rfl (hb hby own_d_prog_48_method_5_code_0) rfl rfl ?_
    show Steps p.tables e below (s₁.setTop (mkF m 1 #[.val (.ref a1), .val (.int (0 : Int32)), .unset] [(.ref a1)])) _
    refine st1 _ ?_
    refine XS.iloadN X1.here hx rfl (hb hby own_d_prog_48_method_5_code_4) rfl ?_
    show Steps p.tables e below (T1.setTop (mkF m 5 #[.val (.ref a1), .val (.int (0 : Int32)), .unset] [(.int (0 : Int32)), (.ref ua)])) _
    refine X1.laload hx (j := (0 : Int32)) (v := (.long u0)) (by rw [e1]; exact Ar2.1) (State.isArrayOf_alike hZ.alike Ar2.2.1) Ar2.2.2 hin2 hat2 (g := (mkF m 5 #[.val (.ref a1), .val (.int (0 : Int32)), .unset] [(.int (0 : Int32)), (.ref ua)])) rfl rfl (hb hby own_d_prog_48_method_5_code_5) _ ?_
    refine XS.lconst X1.here hx rfl (hb hby own_d_prog_48_method_5_code_6) ?_
    refine XS.lcmp X1.here hx rfl (hb hby own_d_prog_48_method_5_code_7) rfl ?_
    show Steps p.tables e below (T1.setTop (mkF m 8 #[.val (.ref a1), .val (.int (0 : Int32)), .unset] [(.int (lcmpW u0 (0 : Int64)))])) _
    refine XS.ifNo X1.here hx rfl (hb hby own_d_prog_48_method_5_code_8) rfl ((if0 _ _).trans (feq (fun q => own_ne0 hv ((lw_eq _ _).mp q) : ¬ ((lcmpW u0 (0 : Int64)) = (0 : Int32)))).1) ?_
    refine XS.aloadN X1.here hx rfl (hb hby own_d_prog_48_method_5_code_11) rfl rfl ?_
    show Steps p.tables e below (T1.setTop (mkF m 12 #[.val (.ref a1), .val (.int (0 : Int32)), .unset] [(.ref a1)])) _
    refine st3 _ ?_
    refine XS.iloadN X3.here hx rfl (hb hby own_d_prog_48_method_5_code_15) rfl ?_
    show Steps p.tables e below (T3.setTop (mkF m 16 #[.val (.ref a1), .val (.int (0 : Int32)), .unset] [(.int (0 : Int32)), (.ref ua)])) _
    refine X3.laload hx (j := (0 : Int32)) (v := (.long u0)) (by rw [e3]; exact Ar4.1) (State.isArrayOf_alike hZ.alike Ar4.2.1) Ar4.2.2 hin4 hat4 (g := (mkF m 16 #[.val (.ref a1), .val (.int (0 : Int32)), .unset] [(.int (0 : Int32)), (.ref ua)])) rfl rfl (hb hby own_d_prog_48_method_5_code_16) _ ?_
    refine XS.aloadN X3.here hx rfl (hb hby own_d_prog_48_method_5_code_17) rfl rfl ?_
    show Steps p.tables e below (T3.setTop (mkF m 18 #[.val (.ref a1), .val (.int (0 : Int32)), .unset] [(.ref a1), (.long u0)])) _
    refine st5 _ ?_
    refine XS.iloadN X5.here hx rfl (hb hby own_d_prog_48_method_5_code_21) rfl ?_
    show Steps p.tables e below (T5.setTop (mkF m 22 #[.val (.ref a1), .val (.int (0 : Int32)), .unset] [(.int (0 : Int32)), (.ref sa), (.long u0)])) _
    refine X5.iaload hx (j := (0 : Int32)) (v := (.int c0)) (by rw [e5]; exact Ar6.1) (State.isArrayOf_alike hZ.alike Ar6.2.1) Ar6.2.2 hin6 hat6 (g := (mkF m 22 #[.val (.ref a1), .val (.int (0 : Int32)), .unset] [(.int (0 : Int32)), (.ref sa), (.long u0)])) rfl rfl (hb hby own_d_prog_48_method_5_code_22) _ ?_
    show Steps p.tables e below (T5.setTop (mkF m 23 #[.val (.ref a1), .val (.int (0 : Int32)), .unset] [(.int c0), (.long u0)])) _
    refine st7 _ ?_
    refine XS.astoreN X7.here hx rfl (hb hby own_d_prog_48_method_5_code_26) rfl rfl (l' := #[.val (.ref a1), .val (.int (0 : Int32)), .val (.ref b7)]) rfl ?_
    refine XS.goto X7.here hx rfl (pc0 := 27) (pc' := 48) rfl (hb hby own_d_prog_48_method_5_code_27) (by decide) (by decide) ?_
    show Steps p.tables e below (T7.setTop (mkF m 48 #[.val (.ref a1), .val (.int (0 : Int32)), .val (.ref b7)] [])) _
    refine XS.aloadN X7.here hx rfl (hb hby own_d_prog_48_method_5_code_48) rfl rfl ?_
    show Steps p.tables e below (T7.setTop (mkF m 49 #[.val (.ref a1), .val (.int (0 : Int32)), .val (.ref b7)] [(.ref b7)])) _
    jvm_step X7.here [X7.here.top, hx, (hb hby own_d_prog_48_method_5_code_49), X7.method', Bd.returns, Value.isRef, FieldType.isReference]
    first | (intro acts; rw [hr _ acts rfl rfl rfl]) | rw [hr _ _ rfl rfl rfl]
    exact Steps.refl _
  · show QVo Z u0 c0 h0 n0 _ T7.heap _
    exact ⟨b7, rfl, N7a, K1, Bd7⟩
set_option maxRecDepth 65536 in
set_option maxHeartbeats 40000000 in
theorem rg0b (l : Launch) (Z : State) (a0 : Array Value) (hw : ∀ d ∈ tables_1, d.before a0 Z = true) (ws : List Jvm.Cond) (a1 ua sa : Addr) (ka kb : ClassId) (u0 u1 u2 : Int64) (c0 c1 c2 : Int32) (w0 w1 w2 : Value) (wa : Addr) (kc : ClassId) (h0 : Heap) (n0 : Nat) (Z0 : n0 ≤ h0.size) (E_a1 : Exa Z h0 a1 "com/example/floatweight/floatweight/Prices") (F_mUnscaled_a1 : Fld Z h0 a1 "com/example/floatweight/floatweight/Prices" "mUnscaled" "[J" (.ref ua)) (F_mScales_a1 : Fld Z h0 a1 "com/example/floatweight/floatweight/Prices" "mScales" "[I" (.ref sa)) (F_mWhole_a1 : Fld Z h0 a1 "com/example/floatweight/floatweight/Prices" "mWhole" "[Ljava/math/BigDecimal;" (.ref wa)) (V_ua : Arv Z h0 ua ka .long (3 : Int32) [(.long u0), (.long u1), (.long u2)] (.long (0 : Int64))) (V_sa : Arv Z h0 sa kb .int (3 : Int32) [(.int c0), (.int c1), (.int c2)] (.int (0 : Int32))) (n_us : ua ≠ sa) (V_wa : Arv Z h0 wa kc (.object "java/math/BigDecimal") (3 : Int32) [w0, w1, w2] .null) (n_wu : wa ≠ ua) (n_ws : wa ≠ sa) (ov : Ovr Z kc "java/math/BigDecimal") (hZT : ZTT Z) (O0 : Old Z n0 h0) (hv : (0 : Int64) < u0) :
    MetFree l (⟨"com/example/floatweight/floatweight/Prices", "get", "(I)Ljava/math/BigDecimal;"⟩ : MethodName) (head1 (Jvm.Cond.code (⟨"com/example/floatweight/floatweight/Prices", "get", "(I)Ljava/math/BigDecimal;"⟩ : MethodName) prog_48_method_5_code 3 (some (.object "java/math/BigDecimal")) :: ws) ({ frames := 5, cells := 1, slots := 5, locals := 69 } : Room)) (fun a U => a = #[(.ref a1), (.int (0 : Int32))] ∧ Z.Warmed39 U.vm ∧ U.heap = h0) (fun _ _ _ _ _ => True) (fun _ U o U' => ∃ vr_ Lr_, o = .returned vr_ ∧ QVo Z u0 c0 h0 n0 vr_ U'.heap Lr_ ∧ FrameEnd U o U' Lr_ 1 5) := by
  refine MetFree.of_bodySF (plainFor_of_name own_pn_com_example_floatweight_floatweight_Prices) hisR ?_
  intro p e s m args below meth c s₁ Bd hml0 hP hK
  obtain ⟨rfl, hZ, hh⟩ := hP
  have hx := Bd.exec
  have hby := Bd.bytes
  have hml : c.maxLocals = 3 := hml0
  have hown : s.vm.findClass "com/example/floatweight/floatweight/Prices" = some m.cls := findClass_of_methodNamed Bd.named
  have hnm := (name_of_methodNamed Bd.named Bd.method).1
  have X0 : Stand p l e ({ frames := 5, cells := 1, slots := 5, locals := 69 } : Room) s m #[(.ref a1), (.int (0 : Int32))] below meth c s₁ [] 0 0 := Stand.of_body Bd
  have e0 : s₁.heap = h0 := by rw [← hh, Bd.state]; rfl
  have N0 := Fr.nil n0
  have pre0 : ∀ t, Steps p.tables e below (s₁.setTop (mkF m 0 #[.val (.ref a1), .val (.int (0 : Int32)), .unset] [])) t → Steps p.tables e below (s₁.setTop (entryFrame m #[(.ref a1), (.int (0 : Int32))] 3)) t := fun t k => castTop (own_ef_prog_48_method_5_code_xx m a1 (0 : Int32)) k
  obtain ⟨T1, X1, e1, st1⟩ := getF X0 hx hZ hown (host := "") (Or.inl (hw _ (List.mem_of_getElem? (i := 46) rfl))) Via.refl e0 F_mUnscaled_a1 (g := (mkF m 1 #[.val (.ref a1), .val (.int (0 : Int32)), .unset] [(.ref a1)])) rfl rfl (hb hby own_d_prog_48_method_5_code_1)
  obtain ⟨cl2, Ar2, q2, S2, N_2, H_2, G2⟩ := id V_ua
  have hin2 : ¬ ((0 : Int32) < 0 ∨ cl2.slots.size ≤ ((0 : Int32)).toNatClampNeg) := inb_of S2 ⟨by decide, by decide⟩
  have hat2 : cl2.slots[((0 : Int32)).toNatClampNeg]? = some (.long u0) := H_2.at hin2 rfl
  obtain ⟨T3, X3, e3, st3⟩ := getF X1 hx hZ hown (host := "") (Or.inl (hw _ (List.mem_of_getElem? (i := 46) rfl))) Via.refl e1 F_mUnscaled_a1 (g := (mkF m 12 #[.val (.ref a1), .val (.int (0 : Int32)), .unset] [(.ref a1)])) rfl rfl (hb hby own_d_prog_48_method_5_code_12)
  obtain ⟨cl4, Ar4, q4, S4, N_4, H_4, G4⟩ := id V_ua
  have hin4 : ¬ ((0 : Int32) < 0 ∨ cl4.slots.size ≤ ((0 : Int32)).toNatClampNeg) := inb_of S4 ⟨by decide, by decide⟩
  have hat4 : cl4.slots[((0 : Int32)).toNatClampNeg]? = some (.long u0) := H_4.at hin4 rfl
  obtain ⟨T5, X5, e5, st5⟩ := getF X3 hx hZ hown (host := "") (Or.inl (hw _ (List.mem_of_getElem? (i := 49) rfl))) Via.refl e3 F_mScales_a1 (g := (mkF m 18 #[.val (.ref a1), .val (.int (0 : Int32)), .unset] [(.ref a1), (.long u0)])) rfl rfl (hb hby own_d_prog_48_method_5_code_18)
  obtain ⟨cl6, Ar6, q6, S6, N_6, H_6, G6⟩ := id V_sa
  have hin6 : ¬ ((0 : Int32) < 0 ∨ cl6.slots.size ≤ ((0 : Int32)).toNatClampNeg) := inb_of S6 ⟨by decide, by decide⟩
  have hat6 : cl6.slots[((0 : Int32)).toNatClampNeg]? = some (.int c0) := H_6.at hin6 rfl
  obtain ⟨_, _, ⟨T7, L7, k7, n7⟩, -, X7, ⟨Lc7, hQ7, l7, y7, z7⟩, st7⟩ := Jvm.LawKit.callS X5 hx (y := (⟨"java/math/BigDecimal", "valueOf", "(JI)Ljava/math/BigDecimal;"⟩ : MethodName)) hown (mvT hZ (hw _ (List.mem_of_getElem? (i := 137) rfl))) (mvT hZ (hw _ (List.mem_of_getElem? (i := 7) rfl))) (mvT hZ (hw _ (List.mem_of_getElem? (i := 8) rfl))) (mvT hZ (hw _ (List.mem_of_getElem? (i := 9) rfl))) (by decide) (backOf (W := 0) (rmVo l Z a0 hw [] u0 c0 h0 n0 (Nat.le_trans Z0 (Keep.refl h0 []).1) hv hZT O0) hZ (hw _ (List.mem_of_getElem? (i := 9) rfl)) (hw _ (List.mem_of_getElem? (i := 8) rfl)) (by decide) (by decide)) (g := (mkF m 23 #[.val (.ref a1), .val (.int (0 : Int32)), .unset] [(.int c0), (.long u0)])) rfl (by rw [hml]; rfl) (argsL := [(.long u0), (.int c0)]) (rest := []) (lenOf own_pd__JI_Ljava_math_BigDecimal_ rfl) rfl (by show 2 * 0 + _ ≤ _; exact Nat.le_of_eq rfl) (hb hby own_d_prog_48_method_5_code_23) (fun _ _ => ⟨rfl, e5, (by decide : 0 + 1 ≤ _), (by decide : 0 + 5 ≤ _)⟩)
  dsimp only [Pt.U, Pt.locs, Pt.cells, Pt.slots] at X7 l7 y7 z7 st7 hQ7
  subst l7 y7 z7
  obtain ⟨b7, rfl, N7q, K7q, Bd7⟩ := hQ7
  have N7a := Fr.app N0 N7q
  have K1 : Keep h0 T7.heap [] := (Keep.refl h0 []).trans K7q all0
  obtain ⟨fs, hr, hrun, hended, hW, hsame⟩ := X7.leave (v := some (.ref b7)) (fun h => by rw [Bd.returns] at h; cases h)
  refine ⟨_, _, pre0 _ ?_, hrun, hended, _, _, rfl, ?_, ⟨_, rfl⟩, hW, hsame.mono (by decide) (by decide)⟩
  · show Steps p.tables e below (s₁.setTop (mkF m 0 #[.val (.ref a1), .val (.int (0 : Int32)), .unset] [])) _
    refine XS.aloadN X0.here hx rfl (hb hby own_d_prog_48_method_5_code_0) rfl rfl ?_
    show Steps p.tables e below (s₁.setTop (mkF m 1 #[.val (.ref a1), .val (.int (0 : Int32)), .unset] [(.ref a1)])) _
    refine st1 _ ?_
    refine XS.iloadN X1.here hx rfl (hb hby own_d_prog_48_method_5_code_4) rfl ?_
    show Steps p.tables e below (T1.setTop (mkF m 5 #[.val (.ref a1), .val (.int (0 : Int32)), .unset] [(.int (0 : Int32)), (.ref ua)])) _
    refine X1.laload hx (j := (0 : Int32)) (v := (.long u0)) (by rw [e1]; exact Ar2.1) (State.isArrayOf_alike hZ.alike Ar2.2.1) Ar2.2.2 hin2 hat2 (g := (mkF m 5 #[.val (.ref a1), .val (.int (0 : Int32)), .unset] [(.int (0 : Int32)), (.ref ua)])) rfl rfl (hb hby own_d_prog_48_method_5_code_5) _ ?_
    refine XS.lconst X1.here hx rfl (hb hby own_d_prog_48_method_5_code_6) ?_
    refine XS.lcmp X1.here hx rfl (hb hby own_d_prog_48_method_5_code_7) rfl ?_
    show Steps p.tables e below (T1.setTop (mkF m 8 #[.val (.ref a1), .val (.int (0 : Int32)), .unset] [(.int (lcmpW u0 (0 : Int64)))])) _
    refine XS.ifNo X1.here hx rfl (hb hby own_d_prog_48_method_5_code_8) rfl ((if0 _ _).trans (feq (fun q => own_ne0 hv ((lw_eq _ _).mp q) : ¬ ((lcmpW u0 (0 : Int64)) = (0 : Int32)))).1) ?_
    refine XS.aloadN X1.here hx rfl (hb hby own_d_prog_48_method_5_code_11) rfl rfl ?_
    show Steps p.tables e below (T1.setTop (mkF m 12 #[.val (.ref a1), .val (.int (0 : Int32)), .unset] [(.ref a1)])) _
    refine st3 _ ?_
    refine XS.iloadN X3.here hx rfl (hb hby own_d_prog_48_method_5_code_15) rfl ?_
    show Steps p.tables e below (T3.setTop (mkF m 16 #[.val (.ref a1), .val (.int (0 : Int32)), .unset] [(.int (0 : Int32)), (.ref ua)])) _
    refine X3.laload hx (j := (0 : Int32)) (v := (.long u0)) (by rw [e3]; exact Ar4.1) (State.isArrayOf_alike hZ.alike Ar4.2.1) Ar4.2.2 hin4 hat4 (g := (mkF m 16 #[.val (.ref a1), .val (.int (0 : Int32)), .unset] [(.int (0 : Int32)), (.ref ua)])) rfl rfl (hb hby own_d_prog_48_method_5_code_16) _ ?_
    refine XS.aloadN X3.here hx rfl (hb hby own_d_prog_48_method_5_code_17) rfl rfl ?_
    show Steps p.tables e below (T3.setTop (mkF m 18 #[.val (.ref a1), .val (.int (0 : Int32)), .unset] [(.ref a1), (.long u0)])) _
    refine st5 _ ?_
    refine XS.iloadN X5.here hx rfl (hb hby own_d_prog_48_method_5_code_21) rfl ?_
    show Steps p.tables e below (T5.setTop (mkF m 22 #[.val (.ref a1), .val (.int (0 : Int32)), .unset] [(.int (0 : Int32)), (.ref sa), (.long u0)])) _
    refine X5.iaload hx (j := (0 : Int32)) (v := (.int c0)) (by rw [e5]; exact Ar6.1) (State.isArrayOf_alike hZ.alike Ar6.2.1) Ar6.2.2 hin6 hat6 (g := (mkF m 22 #[.val (.ref a1), .val (.int (0 : Int32)), .unset] [(.int (0 : Int32)), (.ref sa), (.long u0)])) rfl rfl (hb hby own_d_prog_48_method_5_code_22) _ ?_
    show Steps p.tables e below (T5.setTop (mkF m 23 #[.val (.ref a1), .val (.int (0 : Int32)), .unset] [(.int c0), (.long u0)])) _
    refine st7 _ ?_
    refine XS.astoreN X7.here hx rfl (hb hby own_d_prog_48_method_5_code_26) rfl rfl (l' := #[.val (.ref a1), .val (.int (0 : Int32)), .val (.ref b7)]) rfl ?_
    refine XS.goto X7.here hx rfl (pc0 := 27) (pc' := 48) rfl (hb hby own_d_prog_48_method_5_code_27) (by decide) (by decide) ?_
    show Steps p.tables e below (T7.setTop (mkF m 48 #[.val (.ref a1), .val (.int (0 : Int32)), .val (.ref b7)] [])) _
    refine XS.aloadN X7.here hx rfl (hb hby own_d_prog_48_method_5_code_48) rfl rfl ?_
    show Steps p.tables e below (T7.setTop (mkF m 49 #[.val (.ref a1), .val (.int (0 : Int32)), .val (.ref b7)] [(.ref b7)])) _
    jvm_step X7.here [X7.here.top, hx, (hb hby own_d_prog_48_method_5_code_49), X7.method', Bd.returns, Value.isRef, FieldType.isReference]
    first | (intro acts; rw [hr _ acts rfl rfl rfl]) | rw [hr _ _ rfl rfl rfl]
    exact Steps.refl _
  · show QVo Z u0 c0 h0 n0 _ T7.heap _
    exact ⟨b7, rfl, N7a, K1, Bd7⟩
set_option maxRecDepth 65536 in
set_option maxHeartbeats 40000000 in
theorem rg1a (l : Launch) (Z : State) (a0 : Array Value) (hw : ∀ d ∈ tables_1, d.before a0 Z = true) (ws : List Jvm.Cond) (a1 ua sa : Addr) (ka kb : ClassId) (u0 u1 u2 : Int64) (c0 c1 c2 : Int32) (w0 w1 w2 : Value) (h0 : Heap) (n0 : Nat) (Z0 : n0 ≤ h0.size) (E_a1 : Exa Z h0 a1 "com/example/floatweight/floatweight/Prices") (F_mUnscaled_a1 : Fld Z h0 a1 "com/example/floatweight/floatweight/Prices" "mUnscaled" "[J" (.ref ua)) (F_mScales_a1 : Fld Z h0 a1 "com/example/floatweight/floatweight/Prices" "mScales" "[I" (.ref sa)) (F_mWhole_a1 : Fld Z h0 a1 "com/example/floatweight/floatweight/Prices" "mWhole" "[Ljava/math/BigDecimal;" .null) (V_ua : Arv Z h0 ua ka .long (3 : Int32) [(.long u0), (.long u1), (.long u2)] (.long (0 : Int64))) (V_sa : Arv Z h0 sa kb .int (3 : Int32) [(.int c0), (.int c1), (.int c2)] (.int (0 : Int32))) (n_us : ua ≠ sa) (hZT : ZTT Z) (O0 : Old Z n0 h0) (hv : (0 : Int64) < u1) :
    MetFree l (⟨"com/example/floatweight/floatweight/Prices", "get", "(I)Ljava/math/BigDecimal;"⟩ : MethodName) (head1 (Jvm.Cond.code (⟨"com/example/floatweight/floatweight/Prices", "get", "(I)Ljava/math/BigDecimal;"⟩ : MethodName) prog_48_method_5_code 3 (some (.object "java/math/BigDecimal")) :: ws) ({ frames := 5, cells := 1, slots := 5, locals := 69 } : Room)) (fun a U => a = #[(.ref a1), (.int (1 : Int32))] ∧ Z.Warmed39 U.vm ∧ U.heap = h0) (fun _ _ _ _ _ => True) (fun _ U o U' => ∃ vr_ Lr_, o = .returned vr_ ∧ QVo Z u1 c1 h0 n0 vr_ U'.heap Lr_ ∧ FrameEnd U o U' Lr_ 1 5) := by
  refine MetFree.of_bodySF (plainFor_of_name own_pn_com_example_floatweight_floatweight_Prices) hisR ?_
  intro p e s m args below meth c s₁ Bd hml0 hP hK
  obtain ⟨rfl, hZ, hh⟩ := hP
  have hx := Bd.exec
  have hby := Bd.bytes
  have hml : c.maxLocals = 3 := hml0
  have hown : s.vm.findClass "com/example/floatweight/floatweight/Prices" = some m.cls := findClass_of_methodNamed Bd.named
  have hnm := (name_of_methodNamed Bd.named Bd.method).1
  have X0 : Stand p l e ({ frames := 5, cells := 1, slots := 5, locals := 69 } : Room) s m #[(.ref a1), (.int (1 : Int32))] below meth c s₁ [] 0 0 := Stand.of_body Bd
  have e0 : s₁.heap = h0 := by rw [← hh, Bd.state]; rfl
  have N0 := Fr.nil n0
  have pre0 : ∀ t, Steps p.tables e below (s₁.setTop (mkF m 0 #[.val (.ref a1), .val (.int (1 : Int32)), .unset] [])) t → Steps p.tables e below (s₁.setTop (entryFrame m #[(.ref a1), (.int (1 : Int32))] 3)) t := fun t k => castTop (own_ef_prog_48_method_5_code_xx m a1 (1 : Int32)) k
  obtain ⟨T1, X1, e1, st1⟩ := getF X0 hx hZ hown (host := "") (Or.inl (hw _ (List.mem_of_getElem? (i := 46) rfl))) Via.refl e0 F_mUnscaled_a1 (g := (mkF m 1 #[.val (.ref a1), .val (.int (1 : Int32)), .unset] [(.ref a1)])) rfl rfl (hb hby own_d_prog_48_method_5_code_1)
  obtain ⟨cl2, Ar2, q2, S2, N_2, H_2, G2⟩ := id V_ua
  have hin2 : ¬ ((1 : Int32) < 0 ∨ cl2.slots.size ≤ ((1 : Int32)).toNatClampNeg) := inb_of S2 ⟨by decide, by decide⟩
  have hat2 : cl2.slots[((1 : Int32)).toNatClampNeg]? = some (.long u1) := H_2.at hin2 rfl
  obtain ⟨T3, X3, e3, st3⟩ := getF X1 hx hZ hown (host := "") (Or.inl (hw _ (List.mem_of_getElem? (i := 46) rfl))) Via.refl e1 F_mUnscaled_a1 (g := (mkF m 12 #[.val (.ref a1), .val (.int (1 : Int32)), .unset] [(.ref a1)])) rfl rfl (hb hby own_d_prog_48_method_5_code_12)
  obtain ⟨cl4, Ar4, q4, S4, N_4, H_4, G4⟩ := id V_ua
  have hin4 : ¬ ((1 : Int32) < 0 ∨ cl4.slots.size ≤ ((1 : Int32)).toNatClampNeg) := inb_of S4 ⟨by decide, by decide⟩
  have hat4 : cl4.slots[((1 : Int32)).toNatClampNeg]? = some (.long u1) := H_4.at hin4 rfl
  obtain ⟨T5, X5, e5, st5⟩ := getF X3 hx hZ hown (host := "") (Or.inl (hw _ (List.mem_of_getElem? (i := 49) rfl))) Via.refl e3 F_mScales_a1 (g := (mkF m 18 #[.val (.ref a1), .val (.int (1 : Int32)), .unset] [(.ref a1), (.long u1)])) rfl rfl (hb hby own_d_prog_48_method_5_code_18)
  obtain ⟨cl6, Ar6, q6, S6, N_6, H_6, G6⟩ := id V_sa
  have hin6 : ¬ ((1 : Int32) < 0 ∨ cl6.slots.size ≤ ((1 : Int32)).toNatClampNeg) := inb_of S6 ⟨by decide, by decide⟩
  have hat6 : cl6.slots[((1 : Int32)).toNatClampNeg]? = some (.int c1) := H_6.at hin6 rfl
  obtain ⟨_, _, ⟨T7, L7, k7, n7⟩, -, X7, ⟨Lc7, hQ7, l7, y7, z7⟩, st7⟩ := Jvm.LawKit.callS X5 hx (y := (⟨"java/math/BigDecimal", "valueOf", "(JI)Ljava/math/BigDecimal;"⟩ : MethodName)) hown (mvT hZ (hw _ (List.mem_of_getElem? (i := 137) rfl))) (mvT hZ (hw _ (List.mem_of_getElem? (i := 7) rfl))) (mvT hZ (hw _ (List.mem_of_getElem? (i := 8) rfl))) (mvT hZ (hw _ (List.mem_of_getElem? (i := 9) rfl))) (by decide) (backOf (W := 0) (rmVo l Z a0 hw [] u1 c1 h0 n0 (Nat.le_trans Z0 (Keep.refl h0 []).1) hv hZT O0) hZ (hw _ (List.mem_of_getElem? (i := 9) rfl)) (hw _ (List.mem_of_getElem? (i := 8) rfl)) (by decide) (by decide)) (g := (mkF m 23 #[.val (.ref a1), .val (.int (1 : Int32)), .unset] [(.int c1), (.long u1)])) rfl (by rw [hml]; rfl) (argsL := [(.long u1), (.int c1)]) (rest := []) (lenOf own_pd__JI_Ljava_math_BigDecimal_ rfl) rfl (by show 2 * 0 + _ ≤ _; exact Nat.le_of_eq rfl) (hb hby own_d_prog_48_method_5_code_23) (fun _ _ => ⟨rfl, e5, (by decide : 0 + 1 ≤ _), (by decide : 0 + 5 ≤ _)⟩)
  dsimp only [Pt.U, Pt.locs, Pt.cells, Pt.slots] at X7 l7 y7 z7 st7 hQ7
  subst l7 y7 z7
  obtain ⟨b7, rfl, N7q, K7q, Bd7⟩ := hQ7
  have N7a := Fr.app N0 N7q
  have K1 : Keep h0 T7.heap [] := (Keep.refl h0 []).trans K7q all0
  obtain ⟨fs, hr, hrun, hended, hW, hsame⟩ := X7.leave (v := some (.ref b7)) (fun h => by rw [Bd.returns] at h; cases h)
  refine ⟨_, _, pre0 _ ?_, hrun, hended, _, _, rfl, ?_, ⟨_, rfl⟩, hW, hsame.mono (by decide) (by decide)⟩
  · show Steps p.tables e below (s₁.setTop (mkF m 0 #[.val (.ref a1), .val (.int (1 : Int32)), .unset] [])) _
    refine XS.aloadN X0.here hx rfl (hb hby own_d_prog_48_method_5_code_0) rfl rfl ?_
    show Steps p.tables e below (s₁.setTop (mkF m 1 #[.val (.ref a1), .val (.int (1 : Int32)), .unset] [(.ref a1)])) _
    refine st1 _ ?_
    refine XS.iloadN X1.here hx rfl (hb hby own_d_prog_48_method_5_code_4) rfl ?_
    show Steps p.tables e below (T1.setTop (mkF m 5 #[.val (.ref a1), .val (.int (1 : Int32)), .unset] [(.int (1 : Int32)), (.ref ua)])) _
    refine X1.laload hx (j := (1 : Int32)) (v := (.long u1)) (by rw [e1]; exact Ar2.1) (State.isArrayOf_alike hZ.alike Ar2.2.1) Ar2.2.2 hin2 hat2 (g := (mkF m 5 #[.val (.ref a1), .val (.int (1 : Int32)), .unset] [(.int (1 : Int32)), (.ref ua)])) rfl rfl (hb hby own_d_prog_48_method_5_code_5) _ ?_
    refine XS.lconst X1.here hx rfl (hb hby own_d_prog_48_method_5_code_6) ?_
    refine XS.lcmp X1.here hx rfl (hb hby own_d_prog_48_method_5_code_7) rfl ?_
    show Steps p.tables e below (T1.setTop (mkF m 8 #[.val (.ref a1), .val (.int (1 : Int32)), .unset] [(.int (lcmpW u1 (0 : Int64)))])) _
    refine XS.ifNo X1.here hx rfl (hb hby own_d_prog_48_method_5_code_8) rfl ((if0 _ _).trans (feq (fun q => own_ne0 hv ((lw_eq _ _).mp q) : ¬ ((lcmpW u1 (0 : Int64)) = (0 : Int32)))).1) ?_
    refine XS.aloadN X1.here hx rfl (hb hby own_d_prog_48_method_5_code_11) rfl rfl ?_
    show Steps p.tables e below (T1.setTop (mkF m 12 #[.val (.ref a1), .val (.int (1 : Int32)), .unset] [(.ref a1)])) _
    refine st3 _ ?_
    refine XS.iloadN X3.here hx rfl (hb hby own_d_prog_48_method_5_code_15) rfl ?_
    show Steps p.tables e below (T3.setTop (mkF m 16 #[.val (.ref a1), .val (.int (1 : Int32)), .unset] [(.int (1 : Int32)), (.ref ua)])) _
    refine X3.laload hx (j := (1 : Int32)) (v := (.long u1)) (by rw [e3]; exact Ar4.1) (State.isArrayOf_alike hZ.alike Ar4.2.1) Ar4.2.2 hin4 hat4 (g := (mkF m 16 #[.val (.ref a1), .val (.int (1 : Int32)), .unset] [(.int (1 : Int32)), (.ref ua)])) rfl rfl (hb hby own_d_prog_48_method_5_code_16) _ ?_
    refine XS.aloadN X3.here hx rfl (hb hby own_d_prog_48_method_5_code_17) rfl rfl ?_
    show Steps p.tables e below (T3.setTop (mkF m 18 #[.val (.ref a1), .val (.int (1 : Int32)), .unset] [(.ref a1), (.long u1)])) _
    refine st5 _ ?_
    refine XS.iloadN X5.here hx rfl (hb hby own_d_prog_48_method_5_code_21) rfl ?_
    show Steps p.tables e below (T5.setTop (mkF m 22 #[.val (.ref a1), .val (.int (1 : Int32)), .unset] [(.int (1 : Int32)), (.ref sa), (.long u1)])) _
    refine X5.iaload hx (j := (1 : Int32)) (v := (.int c1)) (by rw [e5]; exact Ar6.1) (State.isArrayOf_alike hZ.alike Ar6.2.1) Ar6.2.2 hin6 hat6 (g := (mkF m 22 #[.val (.ref a1), .val (.int (1 : Int32)), .unset] [(.int (1 : Int32)), (.ref sa), (.long u1)])) rfl rfl (hb hby own_d_prog_48_method_5_code_22) _ ?_
    show Steps p.tables e below (T5.setTop (mkF m 23 #[.val (.ref a1), .val (.int (1 : Int32)), .unset] [(.int c1), (.long u1)])) _
    refine st7 _ ?_
    refine XS.astoreN X7.here hx rfl (hb hby own_d_prog_48_method_5_code_26) rfl rfl (l' := #[.val (.ref a1), .val (.int (1 : Int32)), .val (.ref b7)]) rfl ?_
    refine XS.goto X7.here hx rfl (pc0 := 27) (pc' := 48) rfl (hb hby own_d_prog_48_method_5_code_27) (by decide) (by decide) ?_
    show Steps p.tables e below (T7.setTop (mkF m 48 #[.val (.ref a1), .val (.int (1 : Int32)), .val (.ref b7)] [])) _
    refine XS.aloadN X7.here hx rfl (hb hby own_d_prog_48_method_5_code_48) rfl rfl ?_
    show Steps p.tables e below (T7.setTop (mkF m 49 #[.val (.ref a1), .val (.int (1 : Int32)), .val (.ref b7)] [(.ref b7)])) _
    jvm_step X7.here [X7.here.top, hx, (hb hby own_d_prog_48_method_5_code_49), X7.method', Bd.returns, Value.isRef, FieldType.isReference]
    first | (intro acts; rw [hr _ acts rfl rfl rfl]) | rw [hr _ _ rfl rfl rfl]
    exact Steps.refl _
  · show QVo Z u1 c1 h0 n0 _ T7.heap _
    exact ⟨b7, rfl, N7a, K1, Bd7⟩
set_option maxRecDepth 65536 in
set_option maxHeartbeats 40000000 in
theorem rg1b (l : Launch) (Z : State) (a0 : Array Value) (hw : ∀ d ∈ tables_1, d.before a0 Z = true) (ws : List Jvm.Cond) (a1 ua sa : Addr) (ka kb : ClassId) (u0 u1 u2 : Int64) (c0 c1 c2 : Int32) (w0 w1 w2 : Value) (wa : Addr) (kc : ClassId) (h0 : Heap) (n0 : Nat) (Z0 : n0 ≤ h0.size) (E_a1 : Exa Z h0 a1 "com/example/floatweight/floatweight/Prices") (F_mUnscaled_a1 : Fld Z h0 a1 "com/example/floatweight/floatweight/Prices" "mUnscaled" "[J" (.ref ua)) (F_mScales_a1 : Fld Z h0 a1 "com/example/floatweight/floatweight/Prices" "mScales" "[I" (.ref sa)) (F_mWhole_a1 : Fld Z h0 a1 "com/example/floatweight/floatweight/Prices" "mWhole" "[Ljava/math/BigDecimal;" (.ref wa)) (V_ua : Arv Z h0 ua ka .long (3 : Int32) [(.long u0), (.long u1), (.long u2)] (.long (0 : Int64))) (V_sa : Arv Z h0 sa kb .int (3 : Int32) [(.int c0), (.int c1), (.int c2)] (.int (0 : Int32))) (n_us : ua ≠ sa) (V_wa : Arv Z h0 wa kc (.object "java/math/BigDecimal") (3 : Int32) [w0, w1, w2] .null) (n_wu : wa ≠ ua) (n_ws : wa ≠ sa) (ov : Ovr Z kc "java/math/BigDecimal") (hZT : ZTT Z) (O0 : Old Z n0 h0) (hv : (0 : Int64) < u1) :
    MetFree l (⟨"com/example/floatweight/floatweight/Prices", "get", "(I)Ljava/math/BigDecimal;"⟩ : MethodName) (head1 (Jvm.Cond.code (⟨"com/example/floatweight/floatweight/Prices", "get", "(I)Ljava/math/BigDecimal;"⟩ : MethodName) prog_48_method_5_code 3 (some (.object "java/math/BigDecimal")) :: ws) ({ frames := 5, cells := 1, slots := 5, locals := 69 } : Room)) (fun a U => a = #[(.ref a1), (.int (1 : Int32))] ∧ Z.Warmed39 U.vm ∧ U.heap = h0) (fun _ _ _ _ _ => True) (fun _ U o U' => ∃ vr_ Lr_, o = .returned vr_ ∧ QVo Z u1 c1 h0 n0 vr_ U'.heap Lr_ ∧ FrameEnd U o U' Lr_ 1 5) := by
  refine MetFree.of_bodySF (plainFor_of_name own_pn_com_example_floatweight_floatweight_Prices) hisR ?_
  intro p e s m args below meth c s₁ Bd hml0 hP hK
  obtain ⟨rfl, hZ, hh⟩ := hP
  have hx := Bd.exec
  have hby := Bd.bytes
  have hml : c.maxLocals = 3 := hml0
  have hown : s.vm.findClass "com/example/floatweight/floatweight/Prices" = some m.cls := findClass_of_methodNamed Bd.named
  have hnm := (name_of_methodNamed Bd.named Bd.method).1
  have X0 : Stand p l e ({ frames := 5, cells := 1, slots := 5, locals := 69 } : Room) s m #[(.ref a1), (.int (1 : Int32))] below meth c s₁ [] 0 0 := Stand.of_body Bd
  have e0 : s₁.heap = h0 := by rw [← hh, Bd.state]; rfl
  have N0 := Fr.nil n0
  have pre0 : ∀ t, Steps p.tables e below (s₁.setTop (mkF m 0 #[.val (.ref a1), .val (.int (1 : Int32)), .unset] [])) t → Steps p.tables e below (s₁.setTop (entryFrame m #[(.ref a1), (.int (1 : Int32))] 3)) t := fun t k => castTop (own_ef_prog_48_method_5_code_xx m a1 (1 : Int32)) k
  obtain ⟨T1, X1, e1, st1⟩ := getF X0 hx hZ hown (host := "") (Or.inl (hw _ (List.mem_of_getElem? (i := 46) rfl))) Via.refl e0 F_mUnscaled_a1 (g := (mkF m 1 #[.val (.ref a1), .val (.int (1 : Int32)), .unset] [(.ref a1)])) rfl rfl (hb hby own_d_prog_48_method_5_code_1)
  obtain ⟨cl2, Ar2, q2, S2, N_2, H_2, G2⟩ := id V_ua
  have hin2 : ¬ ((1 : Int32) < 0 ∨ cl2.slots.size ≤ ((1 : Int32)).toNatClampNeg) := inb_of S2 ⟨by decide, by decide⟩
  have hat2 : cl2.slots[((1 : Int32)).toNatClampNeg]? = some (.long u1) := H_2.at hin2 rfl
  obtain ⟨T3, X3, e3, st3⟩ := getF X1 hx hZ hown (host := "") (Or.inl (hw _ (List.mem_of_getElem? (i := 46) rfl))) Via.refl e1 F_mUnscaled_a1 (g := (mkF m 12 #[.val (.ref a1), .val (.int (1 : Int32)), .unset] [(.ref a1)])) rfl rfl (hb hby own_d_prog_48_method_5_code_12)
  obtain ⟨cl4, Ar4, q4, S4, N_4, H_4, G4⟩ := id V_ua
  have hin4 : ¬ ((1 : Int32) < 0 ∨ cl4.slots.size ≤ ((1 : Int32)).toNatClampNeg) := inb_of S4 ⟨by decide, by decide⟩
  have hat4 : cl4.slots[((1 : Int32)).toNatClampNeg]? = some (.long u1) := H_4.at hin4 rfl
  obtain ⟨T5, X5, e5, st5⟩ := getF X3 hx hZ hown (host := "") (Or.inl (hw _ (List.mem_of_getElem? (i := 49) rfl))) Via.refl e3 F_mScales_a1 (g := (mkF m 18 #[.val (.ref a1), .val (.int (1 : Int32)), .unset] [(.ref a1), (.long u1)])) rfl rfl (hb hby own_d_prog_48_method_5_code_18)
  obtain ⟨cl6, Ar6, q6, S6, N_6, H_6, G6⟩ := id V_sa
  have hin6 : ¬ ((1 : Int32) < 0 ∨ cl6.slots.size ≤ ((1 : Int32)).toNatClampNeg) := inb_of S6 ⟨by decide, by decide⟩
  have hat6 : cl6.slots[((1 : Int32)).toNatClampNeg]? = some (.int c1) := H_6.at hin6 rfl
  obtain ⟨_, _, ⟨T7, L7, k7, n7⟩, -, X7, ⟨Lc7, hQ7, l7, y7, z7⟩, st7⟩ := Jvm.LawKit.callS X5 hx (y := (⟨"java/math/BigDecimal", "valueOf", "(JI)Ljava/math/BigDecimal;"⟩ : MethodName)) hown (mvT hZ (hw _ (List.mem_of_getElem? (i := 137) rfl))) (mvT hZ (hw _ (List.mem_of_getElem? (i := 7) rfl))) (mvT hZ (hw _ (List.mem_of_getElem? (i := 8) rfl))) (mvT hZ (hw _ (List.mem_of_getElem? (i := 9) rfl))) (by decide) (backOf (W := 0) (rmVo l Z a0 hw [] u1 c1 h0 n0 (Nat.le_trans Z0 (Keep.refl h0 []).1) hv hZT O0) hZ (hw _ (List.mem_of_getElem? (i := 9) rfl)) (hw _ (List.mem_of_getElem? (i := 8) rfl)) (by decide) (by decide)) (g := (mkF m 23 #[.val (.ref a1), .val (.int (1 : Int32)), .unset] [(.int c1), (.long u1)])) rfl (by rw [hml]; rfl) (argsL := [(.long u1), (.int c1)]) (rest := []) (lenOf own_pd__JI_Ljava_math_BigDecimal_ rfl) rfl (by show 2 * 0 + _ ≤ _; exact Nat.le_of_eq rfl) (hb hby own_d_prog_48_method_5_code_23) (fun _ _ => ⟨rfl, e5, (by decide : 0 + 1 ≤ _), (by decide : 0 + 5 ≤ _)⟩)
  dsimp only [Pt.U, Pt.locs, Pt.cells, Pt.slots] at X7 l7 y7 z7 st7 hQ7
  subst l7 y7 z7
  obtain ⟨b7, rfl, N7q, K7q, Bd7⟩ := hQ7
  have N7a := Fr.app N0 N7q
  have K1 : Keep h0 T7.heap [] := (Keep.refl h0 []).trans K7q all0
  obtain ⟨fs, hr, hrun, hended, hW, hsame⟩ := X7.leave (v := some (.ref b7)) (fun h => by rw [Bd.returns] at h; cases h)
  refine ⟨_, _, pre0 _ ?_, hrun, hended, _, _, rfl, ?_, ⟨_, rfl⟩, hW, hsame.mono (by decide) (by decide)⟩
  · show Steps p.tables e below (s₁.setTop (mkF m 0 #[.val (.ref a1), .val (.int (1 : Int32)), .unset] [])) _
    refine XS.aloadN X0.here hx rfl (hb hby own_d_prog_48_method_5_code_0) rfl rfl ?_
    show Steps p.tables e below (s₁.setTop (mkF m 1 #[.val (.ref a1), .val (.int (1 : Int32)), .unset] [(.ref a1)])) _
    refine st1 _ ?_
    refine XS.iloadN X1.here hx rfl (hb hby own_d_prog_48_method_5_code_4) rfl ?_
    show Steps p.tables e below (T1.setTop (mkF m 5 #[.val (.ref a1), .val (.int (1 : Int32)), .unset] [(.int (1 : Int32)), (.ref ua)])) _
    refine X1.laload hx (j := (1 : Int32)) (v := (.long u1)) (by rw [e1]; exact Ar2.1) (State.isArrayOf_alike hZ.alike Ar2.2.1) Ar2.2.2 hin2 hat2 (g := (mkF m 5 #[.val (.ref a1), .val (.int (1 : Int32)), .unset] [(.int (1 : Int32)), (.ref ua)])) rfl rfl (hb hby own_d_prog_48_method_5_code_5) _ ?_
    refine XS.lconst X1.here hx rfl (hb hby own_d_prog_48_method_5_code_6) ?_
    refine XS.lcmp X1.here hx rfl (hb hby own_d_prog_48_method_5_code_7) rfl ?_
    show Steps p.tables e below (T1.setTop (mkF m 8 #[.val (.ref a1), .val (.int (1 : Int32)), .unset] [(.int (lcmpW u1 (0 : Int64)))])) _
    refine XS.ifNo X1.here hx rfl (hb hby own_d_prog_48_method_5_code_8) rfl ((if0 _ _).trans (feq (fun q => own_ne0 hv ((lw_eq _ _).mp q) : ¬ ((lcmpW u1 (0 : Int64)) = (0 : Int32)))).1) ?_
    refine XS.aloadN X1.here hx rfl (hb hby own_d_prog_48_method_5_code_11) rfl rfl ?_
    show Steps p.tables e below (T1.setTop (mkF m 12 #[.val (.ref a1), .val (.int (1 : Int32)), .unset] [(.ref a1)])) _
    refine st3 _ ?_
    refine XS.iloadN X3.here hx rfl (hb hby own_d_prog_48_method_5_code_15) rfl ?_
    show Steps p.tables e below (T3.setTop (mkF m 16 #[.val (.ref a1), .val (.int (1 : Int32)), .unset] [(.int (1 : Int32)), (.ref ua)])) _
    refine X3.laload hx (j := (1 : Int32)) (v := (.long u1)) (by rw [e3]; exact Ar4.1) (State.isArrayOf_alike hZ.alike Ar4.2.1) Ar4.2.2 hin4 hat4 (g := (mkF m 16 #[.val (.ref a1), .val (.int (1 : Int32)), .unset] [(.int (1 : Int32)), (.ref ua)])) rfl rfl (hb hby own_d_prog_48_method_5_code_16) _ ?_
    refine XS.aloadN X3.here hx rfl (hb hby own_d_prog_48_method_5_code_17) rfl rfl ?_
    show Steps p.tables e below (T3.setTop (mkF m 18 #[.val (.ref a1), .val (.int (1 : Int32)), .unset] [(.ref a1), (.long u1)])) _
    refine st5 _ ?_
    refine XS.iloadN X5.here hx rfl (hb hby own_d_prog_48_method_5_code_21) rfl ?_
    show Steps p.tables e below (T5.setTop (mkF m 22 #[.val (.ref a1), .val (.int (1 : Int32)), .unset] [(.int (1 : Int32)), (.ref sa), (.long u1)])) _
    refine X5.iaload hx (j := (1 : Int32)) (v := (.int c1)) (by rw [e5]; exact Ar6.1) (State.isArrayOf_alike hZ.alike Ar6.2.1) Ar6.2.2 hin6 hat6 (g := (mkF m 22 #[.val (.ref a1), .val (.int (1 : Int32)), .unset] [(.int (1 : Int32)), (.ref sa), (.long u1)])) rfl rfl (hb hby own_d_prog_48_method_5_code_22) _ ?_
    show Steps p.tables e below (T5.setTop (mkF m 23 #[.val (.ref a1), .val (.int (1 : Int32)), .unset] [(.int c1), (.long u1)])) _
    refine st7 _ ?_
    refine XS.astoreN X7.here hx rfl (hb hby own_d_prog_48_method_5_code_26) rfl rfl (l' := #[.val (.ref a1), .val (.int (1 : Int32)), .val (.ref b7)]) rfl ?_
    refine XS.goto X7.here hx rfl (pc0 := 27) (pc' := 48) rfl (hb hby own_d_prog_48_method_5_code_27) (by decide) (by decide) ?_
    show Steps p.tables e below (T7.setTop (mkF m 48 #[.val (.ref a1), .val (.int (1 : Int32)), .val (.ref b7)] [])) _
    refine XS.aloadN X7.here hx rfl (hb hby own_d_prog_48_method_5_code_48) rfl rfl ?_
    show Steps p.tables e below (T7.setTop (mkF m 49 #[.val (.ref a1), .val (.int (1 : Int32)), .val (.ref b7)] [(.ref b7)])) _
    jvm_step X7.here [X7.here.top, hx, (hb hby own_d_prog_48_method_5_code_49), X7.method', Bd.returns, Value.isRef, FieldType.isReference]
    first | (intro acts; rw [hr _ acts rfl rfl rfl]) | rw [hr _ _ rfl rfl rfl]
    exact Steps.refl _
  · show QVo Z u1 c1 h0 n0 _ T7.heap _
    exact ⟨b7, rfl, N7a, K1, Bd7⟩
theorem own_d_prog_48_method_5_code_30 : decode prog_48_method_5_code 30 = .ok (.aload_n 0, 1) := by decide +kernel
theorem own_d_prog_48_method_5_code_31 : decode prog_48_method_5_code 31 = .ok (.getfield 36, 3) := by decide +kernel
theorem own_d_prog_48_method_5_code_34 : decode prog_48_method_5_code 34 = .ok (.ifnonnull 7, 3) := by decide +kernel
theorem own_d_prog_48_method_5_code_37 : decode prog_48_method_5_code 37 = .ok (.aconst_null, 1) := by decide +kernel
theorem own_d_prog_48_method_5_code_38 : decode prog_48_method_5_code 38 = .ok (.goto 9, 3) := by decide +kernel
theorem own_d_prog_48_method_5_code_47 : decode prog_48_method_5_code 47 = .ok (.astore_n 2, 1) := by decide +kernel
set_option maxRecDepth 65536 in
set_option maxHeartbeats 40000000 in
theorem rg1d (l : Launch) (Z : State) (a0 : Array Value) (hw : ∀ d ∈ tables_1, d.before a0 Z = true) (ws : List Jvm.Cond) (a1 ua sa : Addr) (ka kb : ClassId) (u0 u2 : Int64) (c0 c1 c2 : Int32) (w0 w1 w2 : Value) (h0 : Heap) (n0 : Nat) (Z0 : n0 ≤ h0.size) (E_a1 : Exa Z h0 a1 "com/example/floatweight/floatweight/Prices") (F_mUnscaled_a1 : Fld Z h0 a1 "com/example/floatweight/floatweight/Prices" "mUnscaled" "[J" (.ref ua)) (F_mScales_a1 : Fld Z h0 a1 "com/example/floatweight/floatweight/Prices" "mScales" "[I" (.ref sa)) (F_mWhole_a1 : Fld Z h0 a1 "com/example/floatweight/floatweight/Prices" "mWhole" "[Ljava/math/BigDecimal;" .null) (V_ua : Arv Z h0 ua ka .long (3 : Int32) [(.long u0), (.long (0 : Int64)), (.long u2)] (.long (0 : Int64))) (V_sa : Arv Z h0 sa kb .int (3 : Int32) [(.int c0), (.int c1), (.int c2)] (.int (0 : Int32))) (n_us : ua ≠ sa) (hZT : ZTT Z) (O0 : Old Z n0 h0) :
    MetFree l (⟨"com/example/floatweight/floatweight/Prices", "get", "(I)Ljava/math/BigDecimal;"⟩ : MethodName) (head1 (Jvm.Cond.code (⟨"com/example/floatweight/floatweight/Prices", "get", "(I)Ljava/math/BigDecimal;"⟩ : MethodName) prog_48_method_5_code 3 (some (.object "java/math/BigDecimal")) :: ws) ({ frames := 5, cells := 1, slots := 5, locals := 69 } : Room)) (fun a U => a = #[(.ref a1), (.int (1 : Int32))] ∧ Z.Warmed39 U.vm ∧ U.heap = h0) (fun _ _ _ _ _ => True) (fun _ U o U' => ∃ vr_ Lr_, o = .returned vr_ ∧ QI .null h0 n0 vr_ U'.heap Lr_ ∧ FrameEnd U o U' Lr_ 1 5) := by
  refine MetFree.of_bodySF (plainFor_of_name own_pn_com_example_floatweight_floatweight_Prices) hisR ?_
  intro p e s m args below meth c s₁ Bd hml0 hP hK
  obtain ⟨rfl, hZ, hh⟩ := hP
  have hx := Bd.exec
  have hby := Bd.bytes
  have hml : c.maxLocals = 3 := hml0
  have hown : s.vm.findClass "com/example/floatweight/floatweight/Prices" = some m.cls := findClass_of_methodNamed Bd.named
  have hnm := (name_of_methodNamed Bd.named Bd.method).1
  have X0 : Stand p l e ({ frames := 5, cells := 1, slots := 5, locals := 69 } : Room) s m #[(.ref a1), (.int (1 : Int32))] below meth c s₁ [] 0 0 := Stand.of_body Bd
  have e0 : s₁.heap = h0 := by rw [← hh, Bd.state]; rfl
  have N0 := Fr.nil n0
  have pre0 : ∀ t, Steps p.tables e below (s₁.setTop (mkF m 0 #[.val (.ref a1), .val (.int (1 : Int32)), .unset] [])) t → Steps p.tables e below (s₁.setTop (entryFrame m #[(.ref a1), (.int (1 : Int32))] 3)) t := fun t k => castTop (own_ef_prog_48_method_5_code_xx m a1 (1 : Int32)) k
  obtain ⟨T1, X1, e1, st1⟩ := getF X0 hx hZ hown (host := "") (Or.inl (hw _ (List.mem_of_getElem? (i := 46) rfl))) Via.refl e0 F_mUnscaled_a1 (g := (mkF m 1 #[.val (.ref a1), .val (.int (1 : Int32)), .unset] [(.ref a1)])) rfl rfl (hb hby own_d_prog_48_method_5_code_1)
  obtain ⟨cl2, Ar2, q2, S2, N_2, H_2, G2⟩ := id V_ua
  have hin2 : ¬ ((1 : Int32) < 0 ∨ cl2.slots.size ≤ ((1 : Int32)).toNatClampNeg) := inb_of S2 ⟨by decide, by decide⟩
  have hat2 : cl2.slots[((1 : Int32)).toNatClampNeg]? = some (.long (0 : Int64)) := H_2.at hin2 rfl
  obtain ⟨T3, X3, e3, st3⟩ := getF X1 hx hZ hown (host := "") (Or.inl (hw _ (List.mem_of_getElem? (i := 120) rfl))) Via.refl e1 F_mWhole_a1 (g := (mkF m 31 #[.val (.ref a1), .val (.int (1 : Int32)), .unset] [(.ref a1)])) rfl rfl (hb hby own_d_prog_48_method_5_code_31)
  obtain ⟨fs, hr, hrun, hended, hW, hsame⟩ := X3.leave (v := some .null) (fun h => by rw [Bd.returns] at h; cases h)
  refine ⟨_, _, pre0 _ ?_, hrun, hended, _, _, rfl, ?_, ⟨_, rfl⟩, hW, hsame.mono (by decide) (by decide)⟩
  · show Steps p.tables e below (s₁.setTop (mkF m 0 #[.val (.ref a1), .val (.int (1 : Int32)), .unset] [])) _
    refine XS.aloadN X0.here hx rfl (hb hby own_d_prog_48_method_5_code_0) rfl rfl ?_
    show Steps p.tables e below (s₁.setTop (mkF m 1 #[.val (.ref a1), .val (.int (1 : Int32)), .unset] [(.ref a1)])) _
    refine st1 _ ?_
    refine XS.iloadN X1.here hx rfl (hb hby own_d_prog_48_method_5_code_4) rfl ?_
    show Steps p.tables e below (T1.setTop (mkF m 5 #[.val (.ref a1), .val (.int (1 : Int32)), .unset] [(.int (1 : Int32)), (.ref ua)])) _
    refine X1.laload hx (j := (1 : Int32)) (v := (.long (0 : Int64))) (by rw [e1]; exact Ar2.1) (State.isArrayOf_alike hZ.alike Ar2.2.1) Ar2.2.2 hin2 hat2 (g := (mkF m 5 #[.val (.ref a1), .val (.int (1 : Int32)), .unset] [(.int (1 : Int32)), (.ref ua)])) rfl rfl (hb hby own_d_prog_48_method_5_code_5) _ ?_
    refine XS.lconst X1.here hx rfl (hb hby own_d_prog_48_method_5_code_6) ?_
    refine XS.lcmp X1.here hx rfl (hb hby own_d_prog_48_method_5_code_7) rfl ?_
    show Steps p.tables e below (T1.setTop (mkF m 8 #[.val (.ref a1), .val (.int (1 : Int32)), .unset] [(.int (lcmpW (0 : Int64) (0 : Int64)))])) _
    refine XS.ifYes X1.here hx rfl (pc0 := 8) (pc' := 30) rfl (hb hby own_d_prog_48_method_5_code_8) rfl ((if0 _ _).trans (teq ((lw_eq _ _).mpr rfl : (lcmpW (0 : Int64) (0 : Int64)) = (0 : Int32))).1) (by decide) (by decide) ?_
    refine XS.aloadN X1.here hx rfl (hb hby own_d_prog_48_method_5_code_30) rfl rfl ?_
    show Steps p.tables e below (T1.setTop (mkF m 31 #[.val (.ref a1), .val (.int (1 : Int32)), .unset] [(.ref a1)])) _
    refine st3 _ ?_
    show Steps p.tables e below (T3.setTop (mkF m 34 #[.val (.ref a1), .val (.int (1 : Int32)), .unset] [.null])) _
    refine XS.ifnonnullNo X3.here hx rfl (hb hby own_d_prog_48_method_5_code_34) rfl ?_
    refine XS.aconstNull X3.here hx rfl (hb hby own_d_prog_48_method_5_code_37) ?_
    refine XS.goto X3.here hx rfl (pc0 := 38) (pc' := 47) rfl (hb hby own_d_prog_48_method_5_code_38) (by decide) (by decide) ?_
    show Steps p.tables e below (T3.setTop (mkF m 47 #[.val (.ref a1), .val (.int (1 : Int32)), .unset] [.null])) _
    refine XS.astoreN X3.here hx rfl (hb hby own_d_prog_48_method_5_code_47) rfl rfl (l' := #[.val (.ref a1), .val (.int (1 : Int32)), .val .null]) rfl ?_
    refine XS.aloadN X3.here hx rfl (hb hby own_d_prog_48_method_5_code_48) rfl rfl ?_
    show Steps p.tables e below (T3.setTop (mkF m 49 #[.val (.ref a1), .val (.int (1 : Int32)), .val .null] [.null])) _
    jvm_step X3.here [X3.here.top, hx, (hb hby own_d_prog_48_method_5_code_49), X3.method', Bd.returns, Value.isRef, FieldType.isReference]
    first | (intro acts; rw [hr _ acts rfl rfl rfl]) | rw [hr _ _ rfl rfl rfl]
    exact Steps.refl _
  · show QI .null h0 n0 _ T3.heap _
    rw [e3]
    exact ⟨rfl, N0, rfl⟩
theorem own_d_prog_48_method_5_code_41 : decode prog_48_method_5_code 41 = .ok (.aload_n 0, 1) := by decide +kernel
theorem own_d_prog_48_method_5_code_42 : decode prog_48_method_5_code 42 = .ok (.getfield 36, 3) := by decide +kernel
theorem own_d_prog_48_method_5_code_45 : decode prog_48_method_5_code 45 = .ok (.iload_n 1, 1) := by decide +kernel
theorem own_d_prog_48_method_5_code_46 : decode prog_48_method_5_code 46 = .ok (.aaload, 1) := by decide +kernel
set_option maxRecDepth 65536 in
set_option maxHeartbeats 40000000 in
theorem rg1e (l : Launch) (Z : State) (a0 : Array Value) (hw : ∀ d ∈ tables_1, d.before a0 Z = true) (ws : List Jvm.Cond) (a1 ua sa : Addr) (ka kb : ClassId) (u0 u2 : Int64) (c0 c1 c2 : Int32) (w0 w1 w2 : Value) (wa : Addr) (kc : ClassId) (h0 : Heap) (n0 : Nat) (Z0 : n0 ≤ h0.size) (E_a1 : Exa Z h0 a1 "com/example/floatweight/floatweight/Prices") (F_mUnscaled_a1 : Fld Z h0 a1 "com/example/floatweight/floatweight/Prices" "mUnscaled" "[J" (.ref ua)) (F_mScales_a1 : Fld Z h0 a1 "com/example/floatweight/floatweight/Prices" "mScales" "[I" (.ref sa)) (F_mWhole_a1 : Fld Z h0 a1 "com/example/floatweight/floatweight/Prices" "mWhole" "[Ljava/math/BigDecimal;" (.ref wa)) (V_ua : Arv Z h0 ua ka .long (3 : Int32) [(.long u0), (.long (0 : Int64)), (.long u2)] (.long (0 : Int64))) (V_sa : Arv Z h0 sa kb .int (3 : Int32) [(.int c0), (.int c1), (.int c2)] (.int (0 : Int32))) (n_us : ua ≠ sa) (V_wa : Arv Z h0 wa kc (.object "java/math/BigDecimal") (3 : Int32) [w0, .null, w2] .null) (n_wu : wa ≠ ua) (n_ws : wa ≠ sa) (ov : Ovr Z kc "java/math/BigDecimal") (hZT : ZTT Z) (O0 : Old Z n0 h0) :
    MetFree l (⟨"com/example/floatweight/floatweight/Prices", "get", "(I)Ljava/math/BigDecimal;"⟩ : MethodName) (head1 (Jvm.Cond.code (⟨"com/example/floatweight/floatweight/Prices", "get", "(I)Ljava/math/BigDecimal;"⟩ : MethodName) prog_48_method_5_code 3 (some (.object "java/math/BigDecimal")) :: ws) ({ frames := 5, cells := 1, slots := 5, locals := 69 } : Room)) (fun a U => a = #[(.ref a1), (.int (1 : Int32))] ∧ Z.Warmed39 U.vm ∧ U.heap = h0) (fun _ _ _ _ _ => True) (fun _ U o U' => ∃ vr_ Lr_, o = .returned vr_ ∧ QI .null h0 n0 vr_ U'.heap Lr_ ∧ FrameEnd U o U' Lr_ 1 5) := by
  refine MetFree.of_bodySF (plainFor_of_name own_pn_com_example_floatweight_floatweight_Prices) hisR ?_
  intro p e s m args below meth c s₁ Bd hml0 hP hK
  obtain ⟨rfl, hZ, hh⟩ := hP
  have hx := Bd.exec
  have hby := Bd.bytes
  have hml : c.maxLocals = 3 := hml0
  have hown : s.vm.findClass "com/example/floatweight/floatweight/Prices" = some m.cls := findClass_of_methodNamed Bd.named
  have hnm := (name_of_methodNamed Bd.named Bd.method).1
  have X0 : Stand p l e ({ frames := 5, cells := 1, slots := 5, locals := 69 } : Room) s m #[(.ref a1), (.int (1 : Int32))] below meth c s₁ [] 0 0 := Stand.of_body Bd
  have e0 : s₁.heap = h0 := by rw [← hh, Bd.state]; rfl
  have N0 := Fr.nil n0
  have pre0 : ∀ t, Steps p.tables e below (s₁.setTop (mkF m 0 #[.val (.ref a1), .val (.int (1 : Int32)), .unset] [])) t → Steps p.tables e below (s₁.setTop (entryFrame m #[(.ref a1), (.int (1 : Int32))] 3)) t := fun t k => castTop (own_ef_prog_48_method_5_code_xx m a1 (1 : Int32)) k
  obtain ⟨T1, X1, e1, st1⟩ := getF X0 hx hZ hown (host := "") (Or.inl (hw _ (List.mem_of_getElem? (i := 46) rfl))) Via.refl e0 F_mUnscaled_a1 (g := (mkF m 1 #[.val (.ref a1), .val (.int (1 : Int32)), .unset] [(.ref a1)])) rfl rfl (hb hby own_d_prog_48_method_5_code_1)
  obtain ⟨cl2, Ar2, q2, S2, N_2, H_2, G2⟩ := id V_ua
  have hin2 : ¬ ((1 : Int32) < 0 ∨ cl2.slots.size ≤ ((1 : Int32)).toNatClampNeg) := inb_of S2 ⟨by decide, by decide⟩
  have hat2 : cl2.slots[((1 : Int32)).toNatClampNeg]? = some (.long (0 : Int64)) := H_2.at hin2 rfl
  obtain ⟨T3, X3, e3, st3⟩ := getF X1 hx hZ hown (host := "") (Or.inl (hw _ (List.mem_of_getElem? (i := 120) rfl))) Via.refl e1 F_mWhole_a1 (g := (mkF m 31 #[.val (.ref a1), .val (.int (1 : Int32)), .unset] [(.ref a1)])) rfl rfl (hb hby own_d_prog_48_method_5_code_31)
  obtain ⟨T4, X4, e4, st4⟩ := getF X3 hx hZ hown (host := "") (Or.inl (hw _ (List.mem_of_getElem? (i := 120) rfl))) Via.refl e3 F_mWhole_a1 (g := (mkF m 42 #[.val (.ref a1), .val (.int (1 : Int32)), .unset] [(.ref a1)])) rfl rfl (hb hby own_d_prog_48_method_5_code_42)
  obtain ⟨cl5, Ar5, q5, S5, N_5, H_5, G5⟩ := id V_wa
  have hin5 : ¬ ((1 : Int32) < 0 ∨ cl5.slots.size ≤ ((1 : Int32)).toNatClampNeg) := inb_of S5 ⟨by decide, by decide⟩
  have hat5 : cl5.slots[((1 : Int32)).toNatClampNeg]? = some .null := H_5.at hin5 rfl
  obtain ⟨fs, hr, hrun, hended, hW, hsame⟩ := X4.leave (v := some .null) (fun h => by rw [Bd.returns] at h; cases h)
  refine ⟨_, _, pre0 _ ?_, hrun, hended, _, _, rfl, ?_, ⟨_, rfl⟩, hW, hsame.mono (by decide) (by decide)⟩
  · show Steps p.tables e below (s₁.setTop (mkF m 0 #[.val (.ref a1), .val (.int (1 : Int32)), .unset] [])) _
    refine XS.aloadN X0.here hx rfl (hb hby own_d_prog_48_method_5_code_0) rfl rfl ?_
    show Steps p.tables e below (s₁.setTop (mkF m 1 #[.val (.ref a1), .val (.int (1 : Int32)), .unset] [(.ref a1)])) _
    refine st1 _ ?_
    refine XS.iloadN X1.here hx rfl (hb hby own_d_prog_48_method_5_code_4) rfl ?_
    show Steps p.tables e below (T1.setTop (mkF m 5 #[.val (.ref a1), .val (.int (1 : Int32)), .unset] [(.int (1 : Int32)), (.ref ua)])) _
    refine X1.laload hx (j := (1 : Int32)) (v := (.long (0 : Int64))) (by rw [e1]; exact Ar2.1) (State.isArrayOf_alike hZ.alike Ar2.2.1) Ar2.2.2 hin2 hat2 (g := (mkF m 5 #[.val (.ref a1), .val (.int (1 : Int32)), .unset] [(.int (1 : Int32)), (.ref ua)])) rfl rfl (hb hby own_d_prog_48_method_5_code_5) _ ?_
    refine XS.lconst X1.here hx rfl (hb hby own_d_prog_48_method_5_code_6) ?_
    refine XS.lcmp X1.here hx rfl (hb hby own_d_prog_48_method_5_code_7) rfl ?_
    show Steps p.tables e below (T1.setTop (mkF m 8 #[.val (.ref a1), .val (.int (1 : Int32)), .unset] [(.int (lcmpW (0 : Int64) (0 : Int64)))])) _
    refine XS.ifYes X1.here hx rfl (pc0 := 8) (pc' := 30) rfl (hb hby own_d_prog_48_method_5_code_8) rfl ((if0 _ _).trans (teq ((lw_eq _ _).mpr rfl : (lcmpW (0 : Int64) (0 : Int64)) = (0 : Int32))).1) (by decide) (by decide) ?_
    refine XS.aloadN X1.here hx rfl (hb hby own_d_prog_48_method_5_code_30) rfl rfl ?_
    show Steps p.tables e below (T1.setTop (mkF m 31 #[.val (.ref a1), .val (.int (1 : Int32)), .unset] [(.ref a1)])) _
    refine st3 _ ?_
    show Steps p.tables e below (T3.setTop (mkF m 34 #[.val (.ref a1), .val (.int (1 : Int32)), .unset] [(.ref wa)])) _
    refine XS.ifnonnullYes X3.here hx rfl (pc0 := 34) (pc' := 41) rfl (hb hby own_d_prog_48_method_5_code_34) rfl (by decide) (by decide) ?_
    refine XS.aloadN X3.here hx rfl (hb hby own_d_prog_48_method_5_code_41) rfl rfl ?_
    show Steps p.tables e below (T3.setTop (mkF m 42 #[.val (.ref a1), .val (.int (1 : Int32)), .unset] [(.ref a1)])) _
    refine st4 _ ?_
    refine XS.iloadN X4.here hx rfl (hb hby own_d_prog_48_method_5_code_45) rfl ?_
    show Steps p.tables e below (T4.setTop (mkF m 46 #[.val (.ref a1), .val (.int (1 : Int32)), .unset] [(.int (1 : Int32)), (.ref wa)])) _
    refine X4.aaload hx (j := (1 : Int32)) (v := .null) (by rw [e4]; exact Ar5.1) (State.isArrayOf_alike hZ.alike Ar5.2.1) rfl Ar5.2.2 hin5 hat5 (g := (mkF m 46 #[.val (.ref a1), .val (.int (1 : Int32)), .unset] [(.int (1 : Int32)), (.ref wa)])) rfl rfl (hb hby own_d_prog_48_method_5_code_46) _ ?_
    refine XS.astoreN X4.here hx rfl (hb hby own_d_prog_48_method_5_code_47) rfl rfl (l' := #[.val (.ref a1), .val (.int (1 : Int32)), .val .null]) rfl ?_
    refine XS.aloadN X4.here hx rfl (hb hby own_d_prog_48_method_5_code_48) rfl rfl ?_
    show Steps p.tables e below (T4.setTop (mkF m 49 #[.val (.ref a1), .val (.int (1 : Int32)), .val .null] [.null])) _
    jvm_step X4.here [X4.here.top, hx, (hb hby own_d_prog_48_method_5_code_49), X4.method', Bd.returns, Value.isRef, FieldType.isReference]
    first | (intro acts; rw [hr _ acts rfl rfl rfl]) | rw [hr _ _ rfl rfl rfl]
    exact Steps.refl _
  · show QI .null h0 n0 _ T4.heap _
    rw [e4]
    exact ⟨rfl, N0, rfl⟩
set_option maxRecDepth 65536 in
set_option maxHeartbeats 40000000 in
theorem rg2d (l : Launch) (Z : State) (a0 : Array Value) (hw : ∀ d ∈ tables_1, d.before a0 Z = true) (ws : List Jvm.Cond) (a1 ua sa : Addr) (ka kb : ClassId) (u0 u1 : Int64) (c0 c1 c2 : Int32) (w0 w1 w2 : Value) (h0 : Heap) (n0 : Nat) (Z0 : n0 ≤ h0.size) (E_a1 : Exa Z h0 a1 "com/example/floatweight/floatweight/Prices") (F_mUnscaled_a1 : Fld Z h0 a1 "com/example/floatweight/floatweight/Prices" "mUnscaled" "[J" (.ref ua)) (F_mScales_a1 : Fld Z h0 a1 "com/example/floatweight/floatweight/Prices" "mScales" "[I" (.ref sa)) (F_mWhole_a1 : Fld Z h0 a1 "com/example/floatweight/floatweight/Prices" "mWhole" "[Ljava/math/BigDecimal;" .null) (V_ua : Arv Z h0 ua ka .long (3 : Int32) [(.long u0), (.long u1), (.long (0 : Int64))] (.long (0 : Int64))) (V_sa : Arv Z h0 sa kb .int (3 : Int32) [(.int c0), (.int c1), (.int c2)] (.int (0 : Int32))) (n_us : ua ≠ sa) (hZT : ZTT Z) (O0 : Old Z n0 h0) :
    MetFree l (⟨"com/example/floatweight/floatweight/Prices", "get", "(I)Ljava/math/BigDecimal;"⟩ : MethodName) (head1 (Jvm.Cond.code (⟨"com/example/floatweight/floatweight/Prices", "get", "(I)Ljava/math/BigDecimal;"⟩ : MethodName) prog_48_method_5_code 3 (some (.object "java/math/BigDecimal")) :: ws) ({ frames := 5, cells := 1, slots := 5, locals := 69 } : Room)) (fun a U => a = #[(.ref a1), (.int (2 : Int32))] ∧ Z.Warmed39 U.vm ∧ U.heap = h0) (fun _ _ _ _ _ => True) (fun _ U o U' => ∃ vr_ Lr_, o = .returned vr_ ∧ QI .null h0 n0 vr_ U'.heap Lr_ ∧ FrameEnd U o U' Lr_ 1 5) := by
  refine MetFree.of_bodySF (plainFor_of_name own_pn_com_example_floatweight_floatweight_Prices) hisR ?_
  intro p e s m args below meth c s₁ Bd hml0 hP hK
  obtain ⟨rfl, hZ, hh⟩ := hP
  have hx := Bd.exec
  have hby := Bd.bytes
  have hml : c.maxLocals = 3 := hml0
  have hown : s.vm.findClass "com/example/floatweight/floatweight/Prices" = some m.cls := findClass_of_methodNamed Bd.named
  have hnm := (name_of_methodNamed Bd.named Bd.method).1
  have X0 : Stand p l e ({ frames := 5, cells := 1, slots := 5, locals := 69 } : Room) s m #[(.ref a1), (.int (2 : Int32))] below meth c s₁ [] 0 0 := Stand.of_body Bd
  have e0 : s₁.heap = h0 := by rw [← hh, Bd.state]; rfl
  have N0 := Fr.nil n0
  have pre0 : ∀ t, Steps p.tables e below (s₁.setTop (mkF m 0 #[.val (.ref a1), .val (.int (2 : Int32)), .unset] [])) t → Steps p.tables e below (s₁.setTop (entryFrame m #[(.ref a1), (.int (2 : Int32))] 3)) t := fun t k => castTop (own_ef_prog_48_method_5_code_xx m a1 (2 : Int32)) k
  obtain ⟨T1, X1, e1, st1⟩ := getF X0 hx hZ hown (host := "") (Or.inl (hw _ (List.mem_of_getElem? (i := 46) rfl))) Via.refl e0 F_mUnscaled_a1 (g := (mkF m 1 #[.val (.ref a1), .val (.int (2 : Int32)), .unset] [(.ref a1)])) rfl rfl (hb hby own_d_prog_48_method_5_code_1)
  obtain ⟨cl2, Ar2, q2, S2, N_2, H_2, G2⟩ := id V_ua
  have hin2 : ¬ ((2 : Int32) < 0 ∨ cl2.slots.size ≤ ((2 : Int32)).toNatClampNeg) := inb_of S2 ⟨by decide, by decide⟩
  have hat2 : cl2.slots[((2 : Int32)).toNatClampNeg]? = some (.long (0 : Int64)) := H_2.at hin2 rfl
  obtain ⟨T3, X3, e3, st3⟩ := getF X1 hx hZ hown (host := "") (Or.inl (hw _ (List.mem_of_getElem? (i := 120) rfl))) Via.refl e1 F_mWhole_a1 (g := (mkF m 31 #[.val (.ref a1), .val (.int (2 : Int32)), .unset] [(.ref a1)])) rfl rfl (hb hby own_d_prog_48_method_5_code_31)
  obtain ⟨fs, hr, hrun, hended, hW, hsame⟩ := X3.leave (v := some .null) (fun h => by rw [Bd.returns] at h; cases h)
  refine ⟨_, _, pre0 _ ?_, hrun, hended, _, _, rfl, ?_, ⟨_, rfl⟩, hW, hsame.mono (by decide) (by decide)⟩
  · show Steps p.tables e below (s₁.setTop (mkF m 0 #[.val (.ref a1), .val (.int (2 : Int32)), .unset] [])) _
    refine XS.aloadN X0.here hx rfl (hb hby own_d_prog_48_method_5_code_0) rfl rfl ?_
    show Steps p.tables e below (s₁.setTop (mkF m 1 #[.val (.ref a1), .val (.int (2 : Int32)), .unset] [(.ref a1)])) _
    refine st1 _ ?_
    refine XS.iloadN X1.here hx rfl (hb hby own_d_prog_48_method_5_code_4) rfl ?_
    show Steps p.tables e below (T1.setTop (mkF m 5 #[.val (.ref a1), .val (.int (2 : Int32)), .unset] [(.int (2 : Int32)), (.ref ua)])) _
    refine X1.laload hx (j := (2 : Int32)) (v := (.long (0 : Int64))) (by rw [e1]; exact Ar2.1) (State.isArrayOf_alike hZ.alike Ar2.2.1) Ar2.2.2 hin2 hat2 (g := (mkF m 5 #[.val (.ref a1), .val (.int (2 : Int32)), .unset] [(.int (2 : Int32)), (.ref ua)])) rfl rfl (hb hby own_d_prog_48_method_5_code_5) _ ?_
    refine XS.lconst X1.here hx rfl (hb hby own_d_prog_48_method_5_code_6) ?_
    refine XS.lcmp X1.here hx rfl (hb hby own_d_prog_48_method_5_code_7) rfl ?_
    show Steps p.tables e below (T1.setTop (mkF m 8 #[.val (.ref a1), .val (.int (2 : Int32)), .unset] [(.int (lcmpW (0 : Int64) (0 : Int64)))])) _
    refine XS.ifYes X1.here hx rfl (pc0 := 8) (pc' := 30) rfl (hb hby own_d_prog_48_method_5_code_8) rfl ((if0 _ _).trans (teq ((lw_eq _ _).mpr rfl : (lcmpW (0 : Int64) (0 : Int64)) = (0 : Int32))).1) (by decide) (by decide) ?_
    refine XS.aloadN X1.here hx rfl (hb hby own_d_prog_48_method_5_code_30) rfl rfl ?_
    show Steps p.tables e below (T1.setTop (mkF m 31 #[.val (.ref a1), .val (.int (2 : Int32)), .unset] [(.ref a1)])) _
    refine st3 _ ?_
    show Steps p.tables e below (T3.setTop (mkF m 34 #[.val (.ref a1), .val (.int (2 : Int32)), .unset] [.null])) _
    refine XS.ifnonnullNo X3.here hx rfl (hb hby own_d_prog_48_method_5_code_34) rfl ?_
    refine XS.aconstNull X3.here hx rfl (hb hby own_d_prog_48_method_5_code_37) ?_
    refine XS.goto X3.here hx rfl (pc0 := 38) (pc' := 47) rfl (hb hby own_d_prog_48_method_5_code_38) (by decide) (by decide) ?_
    show Steps p.tables e below (T3.setTop (mkF m 47 #[.val (.ref a1), .val (.int (2 : Int32)), .unset] [.null])) _
    refine XS.astoreN X3.here hx rfl (hb hby own_d_prog_48_method_5_code_47) rfl rfl (l' := #[.val (.ref a1), .val (.int (2 : Int32)), .val .null]) rfl ?_
    refine XS.aloadN X3.here hx rfl (hb hby own_d_prog_48_method_5_code_48) rfl rfl ?_
    show Steps p.tables e below (T3.setTop (mkF m 49 #[.val (.ref a1), .val (.int (2 : Int32)), .val .null] [.null])) _
    jvm_step X3.here [X3.here.top, hx, (hb hby own_d_prog_48_method_5_code_49), X3.method', Bd.returns, Value.isRef, FieldType.isReference]
    first | (intro acts; rw [hr _ acts rfl rfl rfl]) | rw [hr _ _ rfl rfl rfl]
    exact Steps.refl _
  · show QI .null h0 n0 _ T3.heap _
    rw [e3]
    exact ⟨rfl, N0, rfl⟩
set_option maxRecDepth 65536 in
set_option maxHeartbeats 40000000 in
theorem rg2e (l : Launch) (Z : State) (a0 : Array Value) (hw : ∀ d ∈ tables_1, d.before a0 Z = true) (ws : List Jvm.Cond) (a1 ua sa : Addr) (ka kb : ClassId) (u0 u1 : Int64) (c0 c1 c2 : Int32) (w0 w1 w2 : Value) (wa : Addr) (kc : ClassId) (h0 : Heap) (n0 : Nat) (Z0 : n0 ≤ h0.size) (E_a1 : Exa Z h0 a1 "com/example/floatweight/floatweight/Prices") (F_mUnscaled_a1 : Fld Z h0 a1 "com/example/floatweight/floatweight/Prices" "mUnscaled" "[J" (.ref ua)) (F_mScales_a1 : Fld Z h0 a1 "com/example/floatweight/floatweight/Prices" "mScales" "[I" (.ref sa)) (F_mWhole_a1 : Fld Z h0 a1 "com/example/floatweight/floatweight/Prices" "mWhole" "[Ljava/math/BigDecimal;" (.ref wa)) (V_ua : Arv Z h0 ua ka .long (3 : Int32) [(.long u0), (.long u1), (.long (0 : Int64))] (.long (0 : Int64))) (V_sa : Arv Z h0 sa kb .int (3 : Int32) [(.int c0), (.int c1), (.int c2)] (.int (0 : Int32))) (n_us : ua ≠ sa) (V_wa : Arv Z h0 wa kc (.object "java/math/BigDecimal") (3 : Int32) [w0, w1, .null] .null) (n_wu : wa ≠ ua) (n_ws : wa ≠ sa) (ov : Ovr Z kc "java/math/BigDecimal") (hZT : ZTT Z) (O0 : Old Z n0 h0) :
    MetFree l (⟨"com/example/floatweight/floatweight/Prices", "get", "(I)Ljava/math/BigDecimal;"⟩ : MethodName) (head1 (Jvm.Cond.code (⟨"com/example/floatweight/floatweight/Prices", "get", "(I)Ljava/math/BigDecimal;"⟩ : MethodName) prog_48_method_5_code 3 (some (.object "java/math/BigDecimal")) :: ws) ({ frames := 5, cells := 1, slots := 5, locals := 69 } : Room)) (fun a U => a = #[(.ref a1), (.int (2 : Int32))] ∧ Z.Warmed39 U.vm ∧ U.heap = h0) (fun _ _ _ _ _ => True) (fun _ U o U' => ∃ vr_ Lr_, o = .returned vr_ ∧ QI .null h0 n0 vr_ U'.heap Lr_ ∧ FrameEnd U o U' Lr_ 1 5) := by
  refine MetFree.of_bodySF (plainFor_of_name own_pn_com_example_floatweight_floatweight_Prices) hisR ?_
  intro p e s m args below meth c s₁ Bd hml0 hP hK
  obtain ⟨rfl, hZ, hh⟩ := hP
  have hx := Bd.exec
  have hby := Bd.bytes
  have hml : c.maxLocals = 3 := hml0
  have hown : s.vm.findClass "com/example/floatweight/floatweight/Prices" = some m.cls := findClass_of_methodNamed Bd.named
  have hnm := (name_of_methodNamed Bd.named Bd.method).1
  have X0 : Stand p l e ({ frames := 5, cells := 1, slots := 5, locals := 69 } : Room) s m #[(.ref a1), (.int (2 : Int32))] below meth c s₁ [] 0 0 := Stand.of_body Bd
  have e0 : s₁.heap = h0 := by rw [← hh, Bd.state]; rfl
  have N0 := Fr.nil n0
  have pre0 : ∀ t, Steps p.tables e below (s₁.setTop (mkF m 0 #[.val (.ref a1), .val (.int (2 : Int32)), .unset] [])) t → Steps p.tables e below (s₁.setTop (entryFrame m #[(.ref a1), (.int (2 : Int32))] 3)) t := fun t k => castTop (own_ef_prog_48_method_5_code_xx m a1 (2 : Int32)) k
  obtain ⟨T1, X1, e1, st1⟩ := getF X0 hx hZ hown (host := "") (Or.inl (hw _ (List.mem_of_getElem? (i := 46) rfl))) Via.refl e0 F_mUnscaled_a1 (g := (mkF m 1 #[.val (.ref a1), .val (.int (2 : Int32)), .unset] [(.ref a1)])) rfl rfl (hb hby own_d_prog_48_method_5_code_1)
  obtain ⟨cl2, Ar2, q2, S2, N_2, H_2, G2⟩ := id V_ua
  have hin2 : ¬ ((2 : Int32) < 0 ∨ cl2.slots.size ≤ ((2 : Int32)).toNatClampNeg) := inb_of S2 ⟨by decide, by decide⟩
  have hat2 : cl2.slots[((2 : Int32)).toNatClampNeg]? = some (.long (0 : Int64)) := H_2.at hin2 rfl
  obtain ⟨T3, X3, e3, st3⟩ := getF X1 hx hZ hown (host := "") (Or.inl (hw _ (List.mem_of_getElem? (i := 120) rfl))) Via.refl e1 F_mWhole_a1 (g := (mkF m 31 #[.val (.ref a1), .val (.int (2 : Int32)), .unset] [(.ref a1)])) rfl rfl (hb hby own_d_prog_48_method_5_code_31)
  obtain ⟨T4, X4, e4, st4⟩ := getF X3 hx hZ hown (host := "") (Or.inl (hw _ (List.mem_of_getElem? (i := 120) rfl))) Via.refl e3 F_mWhole_a1 (g := (mkF m 42 #[.val (.ref a1), .val (.int (2 : Int32)), .unset] [(.ref a1)])) rfl rfl (hb hby own_d_prog_48_method_5_code_42)
  obtain ⟨cl5, Ar5, q5, S5, N_5, H_5, G5⟩ := id V_wa
  have hin5 : ¬ ((2 : Int32) < 0 ∨ cl5.slots.size ≤ ((2 : Int32)).toNatClampNeg) := inb_of S5 ⟨by decide, by decide⟩
  have hat5 : cl5.slots[((2 : Int32)).toNatClampNeg]? = some .null := H_5.at hin5 rfl
  obtain ⟨fs, hr, hrun, hended, hW, hsame⟩ := X4.leave (v := some .null) (fun h => by rw [Bd.returns] at h; cases h)
  refine ⟨_, _, pre0 _ ?_, hrun, hended, _, _, rfl, ?_, ⟨_, rfl⟩, hW, hsame.mono (by decide) (by decide)⟩
  · show Steps p.tables e below (s₁.setTop (mkF m 0 #[.val (.ref a1), .val (.int (2 : Int32)), .unset] [])) _
    refine XS.aloadN X0.here hx rfl (hb hby own_d_prog_48_method_5_code_0) rfl rfl ?_
    show Steps p.tables e below (s₁.setTop (mkF m 1 #[.val (.ref a1), .val (.int (2 : Int32)), .unset] [(.ref a1)])) _
    refine st1 _ ?_
    refine XS.iloadN X1.here hx rfl (hb hby own_d_prog_48_method_5_code_4) rfl ?_
    show Steps p.tables e below (T1.setTop (mkF m 5 #[.val (.ref a1), .val (.int (2 : Int32)), .unset] [(.int (2 : Int32)), (.ref ua)])) _
    refine X1.laload hx (j := (2 : Int32)) (v := (.long (0 : Int64))) (by rw [e1]; exact Ar2.1) (State.isArrayOf_alike hZ.alike Ar2.2.1) Ar2.2.2 hin2 hat2 (g := (mkF m 5 #[.val (.ref a1), .val (.int (2 : Int32)), .unset] [(.int (2 : Int32)), (.ref ua)])) rfl rfl (hb hby own_d_prog_48_method_5_code_5) _ ?_
    refine XS.lconst X1.here hx rfl (hb hby own_d_prog_48_method_5_code_6) ?_
    refine XS.lcmp X1.here hx rfl (hb hby own_d_prog_48_method_5_code_7) rfl ?_
    show Steps p.tables e below (T1.setTop (mkF m 8 #[.val (.ref a1), .val (.int (2 : Int32)), .unset] [(.int (lcmpW (0 : Int64) (0 : Int64)))])) _
    refine XS.ifYes X1.here hx rfl (pc0 := 8) (pc' := 30) rfl (hb hby own_d_prog_48_method_5_code_8) rfl ((if0 _ _).trans (teq ((lw_eq _ _).mpr rfl : (lcmpW (0 : Int64) (0 : Int64)) = (0 : Int32))).1) (by decide) (by decide) ?_
    refine XS.aloadN X1.here hx rfl (hb hby own_d_prog_48_method_5_code_30) rfl rfl ?_
    show Steps p.tables e below (T1.setTop (mkF m 31 #[.val (.ref a1), .val (.int (2 : Int32)), .unset] [(.ref a1)])) _
    refine st3 _ ?_
    show Steps p.tables e below (T3.setTop (mkF m 34 #[.val (.ref a1), .val (.int (2 : Int32)), .unset] [(.ref wa)])) _
    refine XS.ifnonnullYes X3.here hx rfl (pc0 := 34) (pc' := 41) rfl (hb hby own_d_prog_48_method_5_code_34) rfl (by decide) (by decide) ?_
    refine XS.aloadN X3.here hx rfl (hb hby own_d_prog_48_method_5_code_41) rfl rfl ?_
    show Steps p.tables e below (T3.setTop (mkF m 42 #[.val (.ref a1), .val (.int (2 : Int32)), .unset] [(.ref a1)])) _
    refine st4 _ ?_
    refine XS.iloadN X4.here hx rfl (hb hby own_d_prog_48_method_5_code_45) rfl ?_
    show Steps p.tables e below (T4.setTop (mkF m 46 #[.val (.ref a1), .val (.int (2 : Int32)), .unset] [(.int (2 : Int32)), (.ref wa)])) _
    refine X4.aaload hx (j := (2 : Int32)) (v := .null) (by rw [e4]; exact Ar5.1) (State.isArrayOf_alike hZ.alike Ar5.2.1) rfl Ar5.2.2 hin5 hat5 (g := (mkF m 46 #[.val (.ref a1), .val (.int (2 : Int32)), .unset] [(.int (2 : Int32)), (.ref wa)])) rfl rfl (hb hby own_d_prog_48_method_5_code_46) _ ?_
    refine XS.astoreN X4.here hx rfl (hb hby own_d_prog_48_method_5_code_47) rfl rfl (l' := #[.val (.ref a1), .val (.int (2 : Int32)), .val .null]) rfl ?_
    refine XS.aloadN X4.here hx rfl (hb hby own_d_prog_48_method_5_code_48) rfl rfl ?_
    show Steps p.tables e below (T4.setTop (mkF m 49 #[.val (.ref a1), .val (.int (2 : Int32)), .val .null] [.null])) _
    jvm_step X4.here [X4.here.top, hx, (hb hby own_d_prog_48_method_5_code_49), X4.method', Bd.returns, Value.isRef, FieldType.isReference]
    first | (intro acts; rw [hr _ acts rfl rfl rfl]) | rw [hr _ _ rfl rfl rfl]
    exact Steps.refl _
  · show QI .null h0 n0 _ T4.heap _
    rw [e4]
    exact ⟨rfl, N0, rfl⟩
set_option maxRecDepth 65536 in
set_option maxHeartbeats 40000000 in
theorem rg0c (l : Launch) (Z : State) (a0 : Array Value) (hw : ∀ d ∈ tables_1, d.before a0 Z = true) (ws : List Jvm.Cond) (a1 ua sa : Addr) (ka kb : ClassId) (u1 u2 : Int64) (c0 c1 c2 : Int32) (w1 w2 : Value) (a2 wa : Addr) (kc : ClassId) (v : Int64) (s_ : Int32) (h0 : Heap) (n0 : Nat) (Z0 : n0 ≤ h0.size) (E_a1 : Exa Z h0 a1 "com/example/floatweight/floatweight/Prices") (F_mUnscaled_a1 : Fld Z h0 a1 "com/example/floatweight/floatweight/Prices" "mUnscaled" "[J" (.ref ua)) (F_mScales_a1 : Fld Z h0 a1 "com/example/floatweight/floatweight/Prices" "mScales" "[I" (.ref sa)) (F_mWhole_a1 : Fld Z h0 a1 "com/example/floatweight/floatweight/Prices" "mWhole" "[Ljava/math/BigDecimal;" (.ref wa)) (V_ua : Arv Z h0 ua ka .long (3 : Int32) [(.long (0 : Int64)), (.long u1), (.long u2)] (.long (0 : Int64))) (V_sa : Arv Z h0 sa kb .int (3 : Int32) [(.int c0), (.int c1), (.int c2)] (.int (0 : Int32))) (n_us : ua ≠ sa) (V_wa : Arv Z h0 wa kc (.object "java/math/BigDecimal") (3 : Int32) [(.ref a2), w1, w2] .null) (n_wu : wa ≠ ua) (n_ws : wa ≠ sa) (ov : Ovr Z kc "java/math/BigDecimal") (B_a2 : BD Z n0 h0 a2 v s_) :
    MetFree l (⟨"com/example/floatweight/floatweight/Prices", "get", "(I)Ljava/math/BigDecimal;"⟩ : MethodName) (head1 (Jvm.Cond.code (⟨"com/example/floatweight/floatweight/Prices", "get", "(I)Ljava/math/BigDecimal;"⟩ : MethodName) prog_48_method_5_code 3 (some (.object "java/math/BigDecimal")) :: ws) ({ frames := 5, cells := 1, slots := 5, locals := 69 } : Room)) (fun a U => a = #[(.ref a1), (.int (0 : Int32))] ∧ Z.Warmed39 U.vm ∧ U.heap = h0) (fun _ _ _ _ _ => True) (fun _ U o U' => ∃ vr_ Lr_, o = .returned vr_ ∧ QVo Z v s_ h0 n0 vr_ U'.heap Lr_ ∧ FrameEnd U o U' Lr_ 1 5) := by
  refine MetFree.of_bodySF (plainFor_of_name own_pn_com_example_floatweight_floatweight_Prices) hisR ?_
  intro p e s m args below meth c s₁ Bd hml0 hP hK
  obtain ⟨rfl, hZ, hh⟩ := hP
  have hx := Bd.exec
  have hby := Bd.bytes
  have hml : c.maxLocals = 3 := hml0
  have hown : s.vm.findClass "com/example/floatweight/floatweight/Prices" = some m.cls := findClass_of_methodNamed Bd.named
  have hnm := (name_of_methodNamed Bd.named Bd.method).1
  have X0 : Stand p l e ({ frames := 5, cells := 1, slots := 5, locals := 69 } : Room) s m #[(.ref a1), (.int (0 : Int32))] below meth c s₁ [] 0 0 := Stand.of_body Bd
  have e0 : s₁.heap = h0 := by rw [← hh, Bd.state]; rfl
  have N0 := Fr.nil n0
  have pre0 : ∀ t, Steps p.tables e below (s₁.setTop (mkF m 0 #[.val (.ref a1), .val (.int (0 : Int32)), .unset] [])) t → Steps p.tables e below (s₁.setTop (entryFrame m #[(.ref a1), (.int (0 : Int32))] 3)) t := fun t k => castTop (own_ef_prog_48_method_5_code_xx m a1 (0 : Int32)) k
  obtain ⟨T1, X1, e1, st1⟩ := getF X0 hx hZ hown (host := "") (Or.inl (hw _ (List.mem_of_getElem? (i := 46) rfl))) Via.refl e0 F_mUnscaled_a1 (g := (mkF m 1 #[.val (.ref a1), .val (.int (0 : Int32)), .unset] [(.ref a1)])) rfl rfl (hb hby own_d_prog_48_method_5_code_1)
  obtain ⟨cl2, Ar2, q2, S2, N_2, H_2, G2⟩ := id V_ua
  have hin2 : ¬ ((0 : Int32) < 0 ∨ cl2.slots.size ≤ ((0 : Int32)).toNatClampNeg) := inb_of S2 ⟨by decide, by decide⟩
  have hat2 : cl2.slots[((0 : Int32)).toNatClampNeg]? = some (.long (0 : Int64)) := H_2.at hin2 rfl
  obtain ⟨T3, X3, e3, st3⟩ := getF X1 hx hZ hown (host := "") (Or.inl (hw _ (List.mem_of_getElem? (i := 120) rfl))) Via.refl e1 F_mWhole_a1 (g := (mkF m 31 #[.val (.ref a1), .val (.int (0 : Int32)), .unset] [(.ref a1)])) rfl rfl (hb hby own_d_prog_48_method_5_code_31)
  obtain ⟨T4, X4, e4, st4⟩ := getF X3 hx hZ hown (host := "") (Or.inl (hw _ (List.mem_of_getElem? (i := 120) rfl))) Via.refl e3 F_mWhole_a1 (g := (mkF m 42 #[.val (.ref a1), .val (.int (0 : Int32)), .unset] [(.ref a1)])) rfl rfl (hb hby own_d_prog_48_method_5_code_42)
  obtain ⟨cl5, Ar5, q5, S5, N_5, H_5, G5⟩ := id V_wa
  have hin5 : ¬ ((0 : Int32) < 0 ∨ cl5.slots.size ≤ ((0 : Int32)).toNatClampNeg) := inb_of S5 ⟨by decide, by decide⟩
  have hat5 : cl5.slots[((0 : Int32)).toNatClampNeg]? = some (.ref a2) := H_5.at hin5 rfl
  obtain ⟨fs, hr, hrun, hended, hW, hsame⟩ := X4.leave (v := some (.ref a2)) (fun h => by rw [Bd.returns] at h; cases h)
  refine ⟨_, _, pre0 _ ?_, hrun, hended, _, _, rfl, ?_, ⟨_, rfl⟩, hW, hsame.mono (by decide) (by decide)⟩
  · show Steps p.tables e below (s₁.setTop (mkF m 0 #[.val (.ref a1), .val (.int (0 : Int32)), .unset] [])) _
    refine XS.aloadN X0.here hx rfl (hb hby own_d_prog_48_method_5_code_0) rfl rfl ?_
    show Steps p.tables e below (s₁.setTop (mkF m 1 #[.val (.ref a1), .val (.int (0 : Int32)), .unset] [(.ref a1)])) _
    refine st1 _ ?_
    refine XS.iloadN X1.here hx rfl (hb hby own_d_prog_48_method_5_code_4) rfl ?_
    show Steps p.tables e below (T1.setTop (mkF m 5 #[.val (.ref a1), .val (.int (0 : Int32)), .unset] [(.int (0 : Int32)), (.ref ua)])) _
    refine X1.laload hx (j := (0 : Int32)) (v := (.long (0 : Int64))) (by rw [e1]; exact Ar2.1) (State.isArrayOf_alike hZ.alike Ar2.2.1) Ar2.2.2 hin2 hat2 (g := (mkF m 5 #[.val (.ref a1), .val (.int (0 : Int32)), .unset] [(.int (0 : Int32)), (.ref ua)])) rfl rfl (hb hby own_d_prog_48_method_5_code_5) _ ?_
    refine XS.lconst X1.here hx rfl (hb hby own_d_prog_48_method_5_code_6) ?_
    refine XS.lcmp X1.here hx rfl (hb hby own_d_prog_48_method_5_code_7) rfl ?_
    show Steps p.tables e below (T1.setTop (mkF m 8 #[.val (.ref a1), .val (.int (0 : Int32)), .unset] [(.int (lcmpW (0 : Int64) (0 : Int64)))])) _
    refine XS.ifYes X1.here hx rfl (pc0 := 8) (pc' := 30) rfl (hb hby own_d_prog_48_method_5_code_8) rfl ((if0 _ _).trans (teq ((lw_eq _ _).mpr rfl : (lcmpW (0 : Int64) (0 : Int64)) = (0 : Int32))).1) (by decide) (by decide) ?_
    refine XS.aloadN X1.here hx rfl (hb hby own_d_prog_48_method_5_code_30) rfl rfl ?_
    show Steps p.tables e below (T1.setTop (mkF m 31 #[.val (.ref a1), .val (.int (0 : Int32)), .unset] [(.ref a1)])) _
    refine st3 _ ?_
    show Steps p.tables e below (T3.setTop (mkF m 34 #[.val (.ref a1), .val (.int (0 : Int32)), .unset] [(.ref wa)])) _
    refine XS.ifnonnullYes X3.here hx rfl (pc0 := 34) (pc' := 41) rfl (hb hby own_d_prog_48_method_5_code_34) rfl (by decide) (by decide) ?_
    refine XS.aloadN X3.here hx rfl (hb hby own_d_prog_48_method_5_code_41) rfl rfl ?_
    show Steps p.tables e below (T3.setTop (mkF m 42 #[.val (.ref a1), .val (.int (0 : Int32)), .unset] [(.ref a1)])) _
    refine st4 _ ?_
    refine XS.iloadN X4.here hx rfl (hb hby own_d_prog_48_method_5_code_45) rfl ?_
    show Steps p.tables e below (T4.setTop (mkF m 46 #[.val (.ref a1), .val (.int (0 : Int32)), .unset] [(.int (0 : Int32)), (.ref wa)])) _
    refine X4.aaload hx (j := (0 : Int32)) (v := (.ref a2)) (by rw [e4]; exact Ar5.1) (State.isArrayOf_alike hZ.alike Ar5.2.1) rfl Ar5.2.2 hin5 hat5 (g := (mkF m 46 #[.val (.ref a1), .val (.int (0 : Int32)), .unset] [(.int (0 : Int32)), (.ref wa)])) rfl rfl (hb hby own_d_prog_48_method_5_code_46) _ ?_
    refine XS.astoreN X4.here hx rfl (hb hby own_d_prog_48_method_5_code_47) rfl rfl (l' := #[.val (.ref a1), .val (.int (0 : Int32)), .val (.ref a2)]) rfl ?_
    refine XS.aloadN X4.here hx rfl (hb hby own_d_prog_48_method_5_code_48) rfl rfl ?_
    show Steps p.tables e below (T4.setTop (mkF m 49 #[.val (.ref a1), .val (.int (0 : Int32)), .val (.ref a2)] [(.ref a2)])) _
    jvm_step X4.here [X4.here.top, hx, (hb hby own_d_prog_48_method_5_code_49), X4.method', Bd.returns, Value.isRef, FieldType.isReference]
    first | (intro acts; rw [hr _ acts rfl rfl rfl]) | rw [hr _ _ rfl rfl rfl]
    exact Steps.refl _
  · show QVo Z v s_ h0 n0 _ T4.heap _
    rw [e4]
    exact ⟨a2, rfl, N0, (Keep.refl h0 []), B_a2⟩
theorem rmG0 (l : Launch) (Z : State) (a0 : Array Value) (hw : ∀ d ∈ tables_1, d.before a0 Z = true) (ws : List Jvm.Cond) (a1 : Addr) (u0 u1 u2 : Int64) (c0 c1 c2 : Int32) (w0 w1 w2 : Value) (v : Int64) (s_ : Int32) (h0 : Heap) (n0 : Nat) (Z0 : n0 ≤ h0.size) (R : PRS Z n0 h0 a1 u0 u1 u2 c0 c1 c2 w0 w1 w2) (H : Hd Z n0 h0 u0 c0 w0 v s_) (hv : (0 : Int64) < v) (hZT : ZTT Z) (O0 : Old Z n0 h0) :
    MetFree l (⟨"com/example/floatweight/floatweight/Prices", "get", "(I)Ljava/math/BigDecimal;"⟩ : MethodName) (head1 (Jvm.Cond.code (⟨"com/example/floatweight/floatweight/Prices", "get", "(I)Ljava/math/BigDecimal;"⟩ : MethodName) prog_48_method_5_code 3 (some (.object "java/math/BigDecimal")) :: ws) ({ frames := 5, cells := 1, slots := 5, locals := 69 } : Room)) (fun a U => a = #[(.ref a1), (.int (0 : Int32))] ∧ Z.Warmed39 U.vm ∧ U.heap = h0) (fun _ _ _ _ _ => True) (fun _ U o U' => ∃ vr_ Lr_, o = .returned vr_ ∧ QVo Z v s_ h0 n0 vr_ U'.heap Lr_ ∧ FrameEnd U o U' Lr_ 1 5) := by
  obtain ⟨ua, sa, ka, kb, g1, g2, g3, g4, e, f1, f2, A1, A2, w⟩ := R
  rcases H with ⟨e1, e2⟩ | ⟨e1, a2, e2, B⟩
  · subst e1 e2
    rcases w with ⟨f3, q0, q1, q2⟩ | ⟨wa, kc, g5, g6, g7, f3, A3, ov⟩
    · exact rg0a l Z a0 hw ws a1 ua sa ka kb u0 u1 u2 c0 c1 c2 w0 w1 w2 h0 n0 Z0 e f1 f2 f3 A1 A2 g4 hZT O0 hv
    · exact rg0b l Z a0 hw ws a1 ua sa ka kb u0 u1 u2 c0 c1 c2 w0 w1 w2 wa kc h0 n0 Z0 e f1 f2 f3 A1 A2 g4 A3 g6 g7 ov hZT O0 hv
  · rcases w with ⟨f3, q0, q1, q2⟩ | ⟨wa, kc, g5, g6, g7, f3, A3, ov⟩
    · rw [q0] at e2; cases e2
    · subst e1 e2
      exact rg0c l Z a0 hw ws a1 ua sa ka kb u1 u2 c0 c1 c2 w1 w2 a2 wa kc v s_ h0 n0 Z0 e f1 f2 f3 A1 A2 g4 A3 g6 g7 ov B
set_option maxRecDepth 65536 in
set_option maxHeartbeats 40000000 in
theorem rg1c (l : Launch) (Z : State) (a0 : Array Value) (hw : ∀ d ∈ tables_1, d.before a0 Z = true) (ws : List Jvm.Cond) (a1 ua sa : Addr) (ka kb : ClassId) (u0 u2 : Int64) (c0 c1 c2 : Int32) (w0 w2 : Value) (a2 wa : Addr) (kc : ClassId) (v : Int64) (s_ : Int32) (h0 : Heap) (n0 : Nat) (Z0 : n0 ≤ h0.size) (E_a1 : Exa Z h0 a1 "com/example/floatweight/floatweight/Prices") (F_mUnscaled_a1 : Fld Z h0 a1 "com/example/floatweight/floatweight/Prices" "mUnscaled" "[J" (.ref ua)) (F_mScales_a1 : Fld Z h0 a1 "com/example/floatweight/floatweight/Prices" "mScales" "[I" (.ref sa)) (F_mWhole_a1 : Fld Z h0 a1 "com/example/floatweight/floatweight/Prices" "mWhole" "[Ljava/math/BigDecimal;" (.ref wa)) (V_ua : Arv Z h0 ua ka .long (3 : Int32) [(.long u0), (.long (0 : Int64)), (.long u2)] (.long (0 : Int64))) (V_sa : Arv Z h0 sa kb .int (3 : Int32) [(.int c0), (.int c1), (.int c2)] (.int (0 : Int32))) (n_us : ua ≠ sa) (V_wa : Arv Z h0 wa kc (.object "java/math/BigDecimal") (3 : Int32) [w0, (.ref a2), w2] .null) (n_wu : wa ≠ ua) (n_ws : wa ≠ sa) (ov : Ovr Z kc "java/math/BigDecimal") (B_a2 : BD Z n0 h0 a2 v s_) :
    MetFree l (⟨"com/example/floatweight/floatweight/Prices", "get", "(I)Ljava/math/BigDecimal;"⟩ : MethodName) (head1 (Jvm.Cond.code (⟨"com/example/floatweight/floatweight/Prices", "get", "(I)Ljava/math/BigDecimal;"⟩ : MethodName) prog_48_method_5_code 3 (some (.object "java/math/BigDecimal")) :: ws) ({ frames := 5, cells := 1, slots := 5, locals := 69 } : Room)) (fun a U => a = #[(.ref a1), (.int (1 : Int32))] ∧ Z.Warmed39 U.vm ∧ U.heap = h0) (fun _ _ _ _ _ => True) (fun _ U o U' => ∃ vr_ Lr_, o = .returned vr_ ∧ QVo Z v s_ h0 n0 vr_ U'.heap Lr_ ∧ FrameEnd U o U' Lr_ 1 5) := by
  refine MetFree.of_bodySF (plainFor_of_name own_pn_com_example_floatweight_floatweight_Prices) hisR ?_
  intro p e s m args below meth c s₁ Bd hml0 hP hK
  obtain ⟨rfl, hZ, hh⟩ := hP
  have hx := Bd.exec
  have hby := Bd.bytes
  have hml : c.maxLocals = 3 := hml0
  have hown : s.vm.findClass "com/example/floatweight/floatweight/Prices" = some m.cls := findClass_of_methodNamed Bd.named
  have hnm := (name_of_methodNamed Bd.named Bd.method).1
  have X0 : Stand p l e ({ frames := 5, cells := 1, slots := 5, locals := 69 } : Room) s m #[(.ref a1), (.int (1 : Int32))] below meth c s₁ [] 0 0 := Stand.of_body Bd
  have e0 : s₁.heap = h0 := by rw [← hh, Bd.state]; rfl
  have N0 := Fr.nil n0
  have pre0 : ∀ t, Steps p.tables e below (s₁.setTop (mkF m 0 #[.val (.ref a1), .val (.int (1 : Int32)), .unset] [])) t → Steps p.tables e below (s₁.setTop (entryFrame m #[(.ref a1), (.int (1 : Int32))] 3)) t := fun t k => castTop (own_ef_prog_48_method_5_code_xx m a1 (1 : Int32)) k
  obtain ⟨T1, X1, e1, st1⟩ := getF X0 hx hZ hown (host := "") (Or.inl (hw _ (List.mem_of_getElem? (i := 46) rfl))) Via.refl e0 F_mUnscaled_a1 (g := (mkF m 1 #[.val (.ref a1), .val (.int (1 : Int32)), .unset] [(.ref a1)])) rfl rfl (hb hby own_d_prog_48_method_5_code_1)
  obtain ⟨cl2, Ar2, q2, S2, N_2, H_2, G2⟩ := id V_ua
  have hin2 : ¬ ((1 : Int32) < 0 ∨ cl2.slots.size ≤ ((1 : Int32)).toNatClampNeg) := inb_of S2 ⟨by decide, by decide⟩
  have hat2 : cl2.slots[((1 : Int32)).toNatClampNeg]? = some (.long (0 : Int64)) := H_2.at hin2 rfl
  obtain ⟨T3, X3, e3, st3⟩ := getF X1 hx hZ hown (host := "") (Or.inl (hw _ (List.mem_of_getElem? (i := 120) rfl))) Via.refl e1 F_mWhole_a1 (g := (mkF m 31 #[.val (.ref a1), .val (.int (1 : Int32)), .unset] [(.ref a1)])) rfl rfl (hb hby own_d_prog_48_method_5_code_31)
  obtain ⟨T4, X4, e4, st4⟩ := getF X3 hx hZ hown (host := "") (Or.inl (hw _ (List.mem_of_getElem? (i := 120) rfl))) Via.refl e3 F_mWhole_a1 (g := (mkF m 42 #[.val (.ref a1), .val (.int (1 : Int32)), .unset] [(.ref a1)])) rfl rfl (hb hby own_d_prog_48_method_5_code_42)
  obtain ⟨cl5, Ar5, q5, S5, N_5, H_5, G5⟩ := id V_wa
  have hin5 : ¬ ((1 : Int32) < 0 ∨ cl5.slots.size ≤ ((1 : Int32)).toNatClampNeg) := inb_of S5 ⟨by decide, by decide⟩
  have hat5 : cl5.slots[((1 : Int32)).toNatClampNeg]? = some (.ref a2) := H_5.at hin5 rfl
  obtain ⟨fs, hr, hrun, hended, hW, hsame⟩ := X4.leave (v := some (.ref a2)) (fun h => by rw [Bd.returns] at h; cases h)
  refine ⟨_, _, pre0 _ ?_, hrun, hended, _, _, rfl, ?_, ⟨_, rfl⟩, hW, hsame.mono (by decide) (by decide)⟩
  · show Steps p.tables e below (s₁.setTop (mkF m 0 #[.val (.ref a1), .val (.int (1 : Int32)), .unset] [])) _
    refine XS.aloadN X0.here hx rfl (hb hby own_d_prog_48_method_5_code_0) rfl rfl ?_
    show Steps p.tables e below (s₁.setTop (mkF m 1 #[.val (.ref a1), .val (.int (1 : Int32)), .unset] [(.ref a1)])) _
    refine st1 _ ?_
    refine XS.iloadN X1.here hx rfl (hb hby own_d_prog_48_method_5_code_4) rfl ?_
    show Steps p.tables e below (T1.setTop (mkF m 5 #[.val (.ref a1), .val (.int (1 : Int32)), .unset] [(.int (1 : Int32)), (.ref ua)])) _
    refine X1.laload hx (j := (1 : Int32)) (v := (.long (0 : Int64))) (by rw [e1]; exact Ar2.1) (State.isArrayOf_alike hZ.alike Ar2.2.1) Ar2.2.2 hin2 hat2 (g := (mkF m 5 #[.val (.ref a1), .val (.int (1 : Int32)), .unset] [(.int (1 : Int32)), (.ref ua)])) rfl rfl (hb hby own_d_prog_48_method_5_code_5) _ ?_
    refine XS.lconst X1.here hx rfl (hb hby own_d_prog_48_method_5_code_6) ?_
    refine XS.lcmp X1.here hx rfl (hb hby own_d_prog_48_method_5_code_7) rfl ?_
    show Steps p.tables e below (T1.setTop (mkF m 8 #[.val (.ref a1), .val (.int (1 : Int32)), .unset] [(.int (lcmpW (0 : Int64) (0 : Int64)))])) _
    refine XS.ifYes X1.here hx rfl (pc0 := 8) (pc' := 30) rfl (hb hby own_d_prog_48_method_5_code_8) rfl ((if0 _ _).trans (teq ((lw_eq _ _).mpr rfl : (lcmpW (0 : Int64) (0 : Int64)) = (0 : Int32))).1) (by decide) (by decide) ?_
    refine XS.aloadN X1.here hx rfl (hb hby own_d_prog_48_method_5_code_30) rfl rfl ?_
    show Steps p.tables e below (T1.setTop (mkF m 31 #[.val (.ref a1), .val (.int (1 : Int32)), .unset] [(.ref a1)])) _
    refine st3 _ ?_
    show Steps p.tables e below (T3.setTop (mkF m 34 #[.val (.ref a1), .val (.int (1 : Int32)), .unset] [(.ref wa)])) _
    refine XS.ifnonnullYes X3.here hx rfl (pc0 := 34) (pc' := 41) rfl (hb hby own_d_prog_48_method_5_code_34) rfl (by decide) (by decide) ?_
    refine XS.aloadN X3.here hx rfl (hb hby own_d_prog_48_method_5_code_41) rfl rfl ?_
    show Steps p.tables e below (T3.setTop (mkF m 42 #[.val (.ref a1), .val (.int (1 : Int32)), .unset] [(.ref a1)])) _
    refine st4 _ ?_
    refine XS.iloadN X4.here hx rfl (hb hby own_d_prog_48_method_5_code_45) rfl ?_
    show Steps p.tables e below (T4.setTop (mkF m 46 #[.val (.ref a1), .val (.int (1 : Int32)), .unset] [(.int (1 : Int32)), (.ref wa)])) _
    refine X4.aaload hx (j := (1 : Int32)) (v := (.ref a2)) (by rw [e4]; exact Ar5.1) (State.isArrayOf_alike hZ.alike Ar5.2.1) rfl Ar5.2.2 hin5 hat5 (g := (mkF m 46 #[.val (.ref a1), .val (.int (1 : Int32)), .unset] [(.int (1 : Int32)), (.ref wa)])) rfl rfl (hb hby own_d_prog_48_method_5_code_46) _ ?_
    refine XS.astoreN X4.here hx rfl (hb hby own_d_prog_48_method_5_code_47) rfl rfl (l' := #[.val (.ref a1), .val (.int (1 : Int32)), .val (.ref a2)]) rfl ?_
    refine XS.aloadN X4.here hx rfl (hb hby own_d_prog_48_method_5_code_48) rfl rfl ?_
    show Steps p.tables e below (T4.setTop (mkF m 49 #[.val (.ref a1), .val (.int (1 : Int32)), .val (.ref a2)] [(.ref a2)])) _
    jvm_step X4.here [X4.here.top, hx, (hb hby own_d_prog_48_method_5_code_49), X4.method', Bd.returns, Value.isRef, FieldType.isReference]
    first | (intro acts; rw [hr _ acts rfl rfl rfl]) | rw [hr _ _ rfl rfl rfl]
    exact Steps.refl _
  · show QVo Z v s_ h0 n0 _ T4.heap _
    rw [e4]
    exact ⟨a2, rfl, N0, (Keep.refl h0 []), B_a2⟩
theorem rmG1 (l : Launch) (Z : State) (a0 : Array Value) (hw : ∀ d ∈ tables_1, d.before a0 Z = true) (ws : List Jvm.Cond) (a1 : Addr) (u0 u1 u2 : Int64) (c0 c1 c2 : Int32) (w0 w1 w2 : Value) (v : Int64) (s_ : Int32) (h0 : Heap) (n0 : Nat) (Z0 : n0 ≤ h0.size) (R : PRS Z n0 h0 a1 u0 u1 u2 c0 c1 c2 w0 w1 w2) (H : Hd Z n0 h0 u1 c1 w1 v s_) (hv : (0 : Int64) < v) (hZT : ZTT Z) (O0 : Old Z n0 h0) :
    MetFree l (⟨"com/example/floatweight/floatweight/Prices", "get", "(I)Ljava/math/BigDecimal;"⟩ : MethodName) (head1 (Jvm.Cond.code (⟨"com/example/floatweight/floatweight/Prices", "get", "(I)Ljava/math/BigDecimal;"⟩ : MethodName) prog_48_method_5_code 3 (some (.object "java/math/BigDecimal")) :: ws) ({ frames := 5, cells := 1, slots := 5, locals := 69 } : Room)) (fun a U => a = #[(.ref a1), (.int (1 : Int32))] ∧ Z.Warmed39 U.vm ∧ U.heap = h0) (fun _ _ _ _ _ => True) (fun _ U o U' => ∃ vr_ Lr_, o = .returned vr_ ∧ QVo Z v s_ h0 n0 vr_ U'.heap Lr_ ∧ FrameEnd U o U' Lr_ 1 5) := by
  obtain ⟨ua, sa, ka, kb, g1, g2, g3, g4, e, f1, f2, A1, A2, w⟩ := R
  rcases H with ⟨e1, e2⟩ | ⟨e1, a2, e2, B⟩
  · subst e1 e2
    rcases w with ⟨f3, q0, q1, q2⟩ | ⟨wa, kc, g5, g6, g7, f3, A3, ov⟩
    · exact rg1a l Z a0 hw ws a1 ua sa ka kb u0 u1 u2 c0 c1 c2 w0 w1 w2 h0 n0 Z0 e f1 f2 f3 A1 A2 g4 hZT O0 hv
    · exact rg1b l Z a0 hw ws a1 ua sa ka kb u0 u1 u2 c0 c1 c2 w0 w1 w2 wa kc h0 n0 Z0 e f1 f2 f3 A1 A2 g4 A3 g6 g7 ov hZT O0 hv
  · rcases w with ⟨f3, q0, q1, q2⟩ | ⟨wa, kc, g5, g6, g7, f3, A3, ov⟩
    · rw [q1] at e2; cases e2
    · subst e1 e2
      exact rg1c l Z a0 hw ws a1 ua sa ka kb u0 u2 c0 c1 c2 w0 w2 a2 wa kc v s_ h0 n0 Z0 e f1 f2 f3 A1 A2 g4 A3 g6 g7 ov B
theorem rmGn1 (l : Launch) (Z : State) (a0 : Array Value) (hw : ∀ d ∈ tables_1, d.before a0 Z = true) (ws : List Jvm.Cond) (a1 : Addr) (u0 u2 : Int64) (c0 c1 c2 : Int32) (w0 w2 : Value) (h0 : Heap) (n0 : Nat) (Z0 : n0 ≤ h0.size) (R : PRS Z n0 h0 a1 u0 0 u2 c0 c1 c2 w0 .null w2) (hZT : ZTT Z) (O0 : Old Z n0 h0) :
    MetFree l (⟨"com/example/floatweight/floatweight/Prices", "get", "(I)Ljava/math/BigDecimal;"⟩ : MethodName) (head1 (Jvm.Cond.code (⟨"com/example/floatweight/floatweight/Prices", "get", "(I)Ljava/math/BigDecimal;"⟩ : MethodName) prog_48_method_5_code 3 (some (.object "java/math/BigDecimal")) :: ws) ({ frames := 5, cells := 1, slots := 5, locals := 69 } : Room)) (fun a U => a = #[(.ref a1), (.int (1 : Int32))] ∧ Z.Warmed39 U.vm ∧ U.heap = h0) (fun _ _ _ _ _ => True) (fun _ U o U' => ∃ vr_ Lr_, o = .returned vr_ ∧ QI .null h0 n0 vr_ U'.heap Lr_ ∧ FrameEnd U o U' Lr_ 1 5) := by
  obtain ⟨ua, sa, ka, kb, g1, g2, g3, g4, e, f1, f2, A1, A2, w⟩ := R
  rcases w with ⟨f3, q0, q1, q2⟩ | ⟨wa, kc, g5, g6, g7, f3, A3, ov⟩
  · exact rg1d l Z a0 hw ws a1 ua sa ka kb u0 u2 c0 c1 c2 w0 .null w2 h0 n0 Z0 e f1 f2 f3 A1 A2 g4 hZT O0
  · exact rg1e l Z a0 hw ws a1 ua sa ka kb u0 u2 c0 c1 c2 w0 .null w2 wa kc h0 n0 Z0 e f1 f2 f3 A1 A2 g4 A3 g6 g7 ov hZT O0
theorem rmGn2 (l : Launch) (Z : State) (a0 : Array Value) (hw : ∀ d ∈ tables_1, d.before a0 Z = true) (ws : List Jvm.Cond) (a1 : Addr) (u0 u1 : Int64) (c0 c1 c2 : Int32) (w0 w1 : Value) (h0 : Heap) (n0 : Nat) (Z0 : n0 ≤ h0.size) (R : PRS Z n0 h0 a1 u0 u1 0 c0 c1 c2 w0 w1 .null) (hZT : ZTT Z) (O0 : Old Z n0 h0) :
    MetFree l (⟨"com/example/floatweight/floatweight/Prices", "get", "(I)Ljava/math/BigDecimal;"⟩ : MethodName) (head1 (Jvm.Cond.code (⟨"com/example/floatweight/floatweight/Prices", "get", "(I)Ljava/math/BigDecimal;"⟩ : MethodName) prog_48_method_5_code 3 (some (.object "java/math/BigDecimal")) :: ws) ({ frames := 5, cells := 1, slots := 5, locals := 69 } : Room)) (fun a U => a = #[(.ref a1), (.int (2 : Int32))] ∧ Z.Warmed39 U.vm ∧ U.heap = h0) (fun _ _ _ _ _ => True) (fun _ U o U' => ∃ vr_ Lr_, o = .returned vr_ ∧ QI .null h0 n0 vr_ U'.heap Lr_ ∧ FrameEnd U o U' Lr_ 1 5) := by
  obtain ⟨ua, sa, ka, kb, g1, g2, g3, g4, e, f1, f2, A1, A2, w⟩ := R
  rcases w with ⟨f3, q0, q1, q2⟩ | ⟨wa, kc, g5, g6, g7, f3, A3, ov⟩
  · exact rg2d l Z a0 hw ws a1 ua sa ka kb u0 u1 c0 c1 c2 w0 w1 .null h0 n0 Z0 e f1 f2 f3 A1 A2 g4 hZT O0
  · exact rg2e l Z a0 hw ws a1 ua sa ka kb u0 u1 c0 c1 c2 w0 w1 .null wa kc h0 n0 Z0 e f1 f2 f3 A1 A2 g4 A3 g6 g7 ov hZT O0
theorem own_d_jdk_17_method_72_code_0 : decode jdk_17_method_72_code 0 = .ok (.aload_n 1, 1) := by decide +kernel
theorem own_d_jdk_17_method_72_code_1 : decode jdk_17_method_72_code 1 = .ok (.instanceof 3, 3) := by decide +kernel
theorem own_d_jdk_17_method_72_code_4 : decode jdk_17_method_72_code 4 = .ok (.ifCond .eq 11, 3) := by decide +kernel
theorem own_d_jdk_17_method_72_code_7 : decode jdk_17_method_72_code 7 = .ok (.aload_n 1, 1) := by decide +kernel
theorem own_d_jdk_17_method_72_code_8 : decode jdk_17_method_72_code 8 = .ok (.checkcast 3, 3) := by decide +kernel
theorem own_d_jdk_17_method_72_code_11 : decode jdk_17_method_72_code 11 = .ok (.astore_n 2, 1) := by decide +kernel
theorem own_d_jdk_17_method_72_code_12 : decode jdk_17_method_72_code 12 = .ok (.goto 5, 3) := by decide +kernel
theorem own_d_jdk_17_method_72_code_17 : decode jdk_17_method_72_code 17 = .ok (.aload_n 1, 1) := by decide +kernel
theorem own_d_jdk_17_method_72_code_18 : decode jdk_17_method_72_code 18 = .ok (.aload_n 0, 1) := by decide +kernel
theorem own_d_jdk_17_method_72_code_19 : decode jdk_17_method_72_code 19 = .ok (.if_acmp .ne 5, 3) := by decide +kernel
theorem own_d_jdk_17_method_72_code_22 : decode jdk_17_method_72_code 22 = .ok (.iconst 1, 1) := by decide +kernel
theorem own_d_jdk_17_method_72_code_23 : decode jdk_17_method_72_code 23 = .ok (.ireturn, 1) := by decide +kernel
theorem own_d_jdk_17_method_72_code_24 : decode jdk_17_method_72_code 24 = .ok (.aload_n 0, 1) := by decide +kernel
theorem own_d_jdk_17_method_72_code_25 : decode jdk_17_method_72_code 25 = .ok (.getfield 17, 3) := by decide +kernel
theorem own_d_jdk_17_method_72_code_28 : decode jdk_17_method_72_code 28 = .ok (.aload_n 2, 1) := by decide +kernel
theorem own_d_jdk_17_method_72_code_29 : decode jdk_17_method_72_code 29 = .ok (.getfield 17, 3) := by decide +kernel
theorem own_d_jdk_17_method_72_code_32 : decode jdk_17_method_72_code 32 = .ok (.if_icmp .eq 5, 3) := by decide +kernel
theorem own_d_jdk_17_method_72_code_37 : decode jdk_17_method_72_code 37 = .ok (.aload_n 0, 1) := by decide +kernel
theorem own_d_jdk_17_method_72_code_38 : decode jdk_17_method_72_code 38 = .ok (.getfield 24, 3) := by decide +kernel
theorem own_d_jdk_17_method_72_code_41 : decode jdk_17_method_72_code 41 = .ok (.lstore_n 3, 1) := by decide +kernel
theorem own_d_jdk_17_method_72_code_42 : decode jdk_17_method_72_code 42 = .ok (.aload_n 2, 1) := by decide +kernel
theorem own_d_jdk_17_method_72_code_43 : decode jdk_17_method_72_code 43 = .ok (.getfield 24, 3) := by decide +kernel
theorem own_d_jdk_17_method_72_code_46 : decode jdk_17_method_72_code 46 = .ok (.lstore 5, 2) := by decide +kernel
theorem own_d_jdk_17_method_72_code_48 : decode jdk_17_method_72_code 48 = .ok (.lload_n 3, 1) := by decide +kernel
theorem own_d_jdk_17_method_72_code_49 : decode jdk_17_method_72_code 49 = .ok (.ldc2_w 125, 3) := by decide +kernel
theorem own_d_jdk_17_method_72_code_52 : decode jdk_17_method_72_code 52 = .ok (.lcmp, 1) := by decide +kernel
theorem own_d_jdk_17_method_72_code_53 : decode jdk_17_method_72_code 53 = .ok (.ifCond .eq 34, 3) := by decide +kernel
theorem own_d_jdk_17_method_72_code_56 : decode jdk_17_method_72_code 56 = .ok (.lload 5, 2) := by decide +kernel
theorem own_d_jdk_17_method_72_code_58 : decode jdk_17_method_72_code 58 = .ok (.ldc2_w 125, 3) := by decide +kernel
theorem own_d_jdk_17_method_72_code_61 : decode jdk_17_method_72_code 61 = .ok (.lcmp, 1) := by decide +kernel
theorem own_d_jdk_17_method_72_code_62 : decode jdk_17_method_72_code 62 = .ok (.ifCond .ne 12, 3) := by decide +kernel
theorem own_d_jdk_17_method_72_code_74 : decode jdk_17_method_72_code 74 = .ok (.lload 5, 2) := by decide +kernel
theorem own_d_jdk_17_method_72_code_76 : decode jdk_17_method_72_code 76 = .ok (.lload_n 3, 1) := by decide +kernel
theorem own_d_jdk_17_method_72_code_77 : decode jdk_17_method_72_code 77 = .ok (.lcmp, 1) := by decide +kernel
theorem own_d_jdk_17_method_72_code_78 : decode jdk_17_method_72_code 78 = .ok (.ifCond .ne 7, 3) := by decide +kernel
theorem own_d_jdk_17_method_72_code_81 : decode jdk_17_method_72_code 81 = .ok (.iconst 1, 1) := by decide +kernel
theorem own_d_jdk_17_method_72_code_82 : decode jdk_17_method_72_code 82 = .ok (.goto 4, 3) := by decide +kernel
theorem own_d_jdk_17_method_72_code_86 : decode jdk_17_method_72_code 86 = .ok (.ireturn, 1) := by decide +kernel
theorem own_ef_jdk_17_method_72_code_xx (m : MethodId) (x0 : Addr) (x1 : Addr) : entryFrame m #[(.ref x0), (.ref x1)] 7 = mkF m 0 #[.val (.ref x0), .val (.ref x1), .unset, .unset, .unset, .unset, .unset] [] := by first | (simp [entryFrame, mkF, argsToLocals, Value.category]; done) | rfl
set_option maxRecDepth 65536 in
set_option maxHeartbeats 40000000 in
theorem rmEq (l : Launch) (Z : State) (a0 : Array Value) (hw : ∀ d ∈ tables_1, d.before a0 Z = true) (ws : List Jvm.Cond) (a1 a2 : Addr) (v : Int64) (s_ : Int32) (h0 : Heap) (n0 : Nat) (Z0 : n0 ≤ h0.size) (E_a1 : Exa Z h0 a1 "java/math/BigDecimal") (F_scale_a1 : Fld Z h0 a1 "java/math/BigDecimal" "scale" "I" (.int s_)) (F_intCompact_a1 : Fld Z h0 a1 "java/math/BigDecimal" "intCompact" "J" (.long v)) (E_a2 : Exa Z h0 a2 "java/math/BigDecimal") (F_scale_a2 : Fld Z h0 a2 "java/math/BigDecimal" "scale" "I" (.int s_)) (F_intCompact_a2 : Fld Z h0 a2 "java/math/BigDecimal" "intCompact" "J" (.long v)) (hv : (0 : Int64) < v) :
    MetFree l (⟨"java/math/BigDecimal", "equals", "(Ljava/lang/Object;)Z"⟩ : MethodName) (head1 (Jvm.Cond.code (⟨"java/math/BigDecimal", "equals", "(Ljava/lang/Object;)Z"⟩ : MethodName) jdk_17_method_72_code 7 (some .boolean) :: ws) ({ frames := 0, cells := 0, slots := 0, locals := 0 } : Room)) (fun a U => a = #[(.ref a1), (.ref a2)] ∧ Z.Warmed39 U.vm ∧ U.heap = h0) (fun _ _ _ _ _ => True) (fun _ U o U' => ∃ vr_ Lr_, o = .returned vr_ ∧ QI (.int (1 : Int32)) h0 n0 vr_ U'.heap Lr_ ∧ FrameEnd U o U' Lr_ 0 0) := by
  refine MetFree.of_bodySF (plainFor_of_name own_pn_java_math_BigDecimal) hisR ?_
  intro p e s m args below meth c s₁ Bd hml0 hP hK
  obtain ⟨rfl, hZ, hh⟩ := hP
  have hx := Bd.exec
  have hby := Bd.bytes
  have hml : c.maxLocals = 7 := hml0
  have hown : s.vm.findClass "java/math/BigDecimal" = some m.cls := findClass_of_methodNamed Bd.named
  have hnm := (name_of_methodNamed Bd.named Bd.method).1
  have X0 : Stand p l e ({ frames := 0, cells := 0, slots := 0, locals := 0 } : Room) s m #[(.ref a1), (.ref a2)] below meth c s₁ [] 0 0 := Stand.of_body Bd
  have e0 : s₁.heap = h0 := by rw [← hh, Bd.state]; rfl
  have N0 := Fr.nil n0
  have pre0 : ∀ t, Steps p.tables e below (s₁.setTop (mkF m 0 #[.val (.ref a1), .val (.ref a2), .unset, .unset, .unset, .unset, .unset] [])) t → Steps p.tables e below (s₁.setTop (entryFrame m #[(.ref a1), (.ref a2)] 7)) t := fun t k => castTop (own_ef_jdk_17_method_72_code_xx m a1 a2) k
  obtain ⟨T1, X1, e1, st1⟩ := instY X0 hx hZ hown (hw _ (List.mem_of_getElem? (i := 10) rfl)) e0 (Ins.self E_a2) (g := (mkF m 1 #[.val (.ref a1), .val (.ref a2), .unset, .unset, .unset, .unset, .unset] [(.ref a2)])) rfl rfl (hb hby own_d_jdk_17_method_72_code_1)
  obtain ⟨T2, X2, e2, st2⟩ := castY X1 hx hZ hown (hw _ (List.mem_of_getElem? (i := 10) rfl)) e1 (Ins.self E_a2) (g := (mkF m 8 #[.val (.ref a1), .val (.ref a2), .unset, .unset, .unset, .unset, .unset] [(.ref a2)])) rfl rfl (hb hby own_d_jdk_17_method_72_code_8)
  have cut3 : ∀ t, Steps p.tables e below (T2.setTop (mkF m 19 #[.val (.ref a1), .val (.ref a2), .val (.ref a2), .unset, .unset, .unset, .unset] [(.ref a1), (.ref a2)])) t → Steps p.tables e below (s₁.setTop (mkF m 0 #[.val (.ref a1), .val (.ref a2), .unset, .unset, .unset, .unset, .unset] [])) t := fun t kk => by
    show Steps p.tables e below (s₁.setTop (mkF m 0 #[.val (.ref a1), .val (.ref a2), .unset, .unset, .unset, .unset, .unset] [])) _
    refine XS.aloadN X0.here hx rfl (hb hby own_d_jdk_17_method_72_code_0) rfl rfl ?_
    show Steps p.tables e below (s₁.setTop (mkF m 1 #[.val (.ref a1), .val (.ref a2), .unset, .unset, .unset, .unset, .unset] [(.ref a2)])) _
    refine st1 _ ?_
    show Steps p.tables e below (T1.setTop (mkF m 4 #[.val (.ref a1), .val (.ref a2), .unset, .unset, .unset, .unset, .unset] [(.int (1 : Int32))])) _
    refine XS.ifNo X1.here hx rfl (hb hby own_d_jdk_17_method_72_code_4) rfl ((if0 _ _).trans (feq (by decide : ¬ ((1 : Int32) = (0 : Int32)))).1) ?_
    refine XS.aloadN X1.here hx rfl (hb hby own_d_jdk_17_method_72_code_7) rfl rfl ?_
    show Steps p.tables e below (T1.setTop (mkF m 8 #[.val (.ref a1), .val (.ref a2), .unset, .unset, .unset, .unset, .unset] [(.ref a2)])) _
    refine st2 _ ?_
    refine XS.astoreN X2.here hx rfl (hb hby own_d_jdk_17_method_72_code_11) rfl rfl (l' := #[.val (.ref a1), .val (.ref a2), .val (.ref a2), .unset, .unset, .unset, .unset]) rfl ?_
    refine XS.goto X2.here hx rfl (pc0 := 12) (pc' := 17) rfl (hb hby own_d_jdk_17_method_72_code_12) (by decide) (by decide) ?_
    show Steps p.tables e below (T2.setTop (mkF m 17 #[.val (.ref a1), .val (.ref a2), .val (.ref a2), .unset, .unset, .unset, .unset] [])) _
    refine XS.aloadN X2.here hx rfl (hb hby own_d_jdk_17_method_72_code_17) rfl rfl ?_
    refine XS.aloadN X2.here hx rfl (hb hby own_d_jdk_17_method_72_code_18) rfl rfl ?_
    exact kk
  by_cases c0 : a2 = a1
  · obtain ⟨fs, hr, hrun, hended, hW, hsame⟩ := X2.leave (v := some (.int (1 : Int32))) (fun h => by rw [Bd.returns] at h; cases h)
    refine ⟨_, _, pre0 _ ?_, hrun, hended, _, _, rfl, ?_, ⟨_, rfl⟩, hW, hsame.mono (by decide) (by decide)⟩
    · refine cut3 _ ?_
      show Steps p.tables e below (T2.setTop (mkF m 19 #[.val (.ref a1), .val (.ref a2), .val (.ref a2), .unset, .unset, .unset, .unset] [(.ref a1), (.ref a2)])) _
      refine Jvm.RoadKit.acmp (g := (mkF m 19 #[.val (.ref a1), .val (.ref a2), .val (.ref a2), .unset, .unset, .unset, .unset] [(.ref a1), (.ref a2)])) X2 hx rfl rfl rfl (pc0 := 19) (pc' := 22) (same := true) rfl (hb hby own_d_jdk_17_method_72_code_19) rfl (decide_eq_true (congrArg Value.ref c0)) (by decide) (by decide) ?_
      refine XS.iconst X2.here hx rfl (hb hby own_d_jdk_17_method_72_code_22) ?_
      show Steps p.tables e below (T2.setTop (mkF m 23 #[.val (.ref a1), .val (.ref a2), .val (.ref a2), .unset, .unset, .unset, .unset] [(.int (1 : Int32))])) _
      exact retN X2 hx (t := .boolean) Bd.returns (by simp) (hb hby own_d_jdk_17_method_72_code_23) hr
    · show QI (.int (1 : Int32)) h0 n0 _ T2.heap _
      rw [e2]
      exact ⟨rfl, N0, rfl⟩
  · obtain ⟨T4, X4, e4, st4⟩ := getF X2 hx hZ hown (host := "") (Or.inl (hw _ (List.mem_of_getElem? (i := 26) rfl))) Via.refl e2 F_scale_a1 (g := (mkF m 25 #[.val (.ref a1), .val (.ref a2), .val (.ref a2), .unset, .unset, .unset, .unset] [(.ref a1)])) rfl rfl (hb hby own_d_jdk_17_method_72_code_25)
    obtain ⟨T5, X5, e5, st5⟩ := getF X4 hx hZ hown (host := "") (Or.inl (hw _ (List.mem_of_getElem? (i := 26) rfl))) Via.refl e4 F_scale_a2 (g := (mkF m 29 #[.val (.ref a1), .val (.ref a2), .val (.ref a2), .unset, .unset, .unset, .unset] [(.ref a2), (.int s_)])) rfl rfl (hb hby own_d_jdk_17_method_72_code_29)
    obtain ⟨T6, X6, e6, st6⟩ := getF X5 hx hZ hown (host := "") (Or.inl (hw _ (List.mem_of_getElem? (i := 30) rfl))) Via.refl e5 F_intCompact_a1 (g := (mkF m 38 #[.val (.ref a1), .val (.ref a2), .val (.ref a2), .unset, .unset, .unset, .unset] [(.ref a1)])) rfl rfl (hb hby own_d_jdk_17_method_72_code_38)
    obtain ⟨T7, X7, e7, st7⟩ := getF X6 hx hZ hown (host := "") (Or.inl (hw _ (List.mem_of_getElem? (i := 30) rfl))) Via.refl e6 F_intCompact_a2 (g := (mkF m 43 #[.val (.ref a1), .val (.ref a2), .val (.ref a2), .val (.long v), .second, .unset, .unset] [(.ref a2)])) rfl rfl (hb hby own_d_jdk_17_method_72_code_43)
    obtain ⟨fs, hr, hrun, hended, hW, hsame⟩ := X7.leave (v := some (.int (1 : Int32))) (fun h => by rw [Bd.returns] at h; cases h)
    refine ⟨_, _, pre0 _ ?_, hrun, hended, _, _, rfl, ?_, ⟨_, rfl⟩, hW, hsame.mono (by decide) (by decide)⟩
    · refine cut3 _ ?_
      show Steps p.tables e below (T2.setTop (mkF m 19 #[.val (.ref a1), .val (.ref a2), .val (.ref a2), .unset, .unset, .unset, .unset] [(.ref a1), (.ref a2)])) _
      refine Jvm.RoadKit.acmp (g := (mkF m 19 #[.val (.ref a1), .val (.ref a2), .val (.ref a2), .unset, .unset, .unset, .unset] [(.ref a1), (.ref a2)])) X2 hx rfl rfl rfl (pc0 := 19) (pc' := 24) (same := false) rfl (hb hby own_d_jdk_17_method_72_code_19) rfl (decide_eq_false fun q => c0 (Value.ref.inj q)) (by decide) (by decide) ?_
      refine XS.aloadN X2.here hx rfl (hb hby own_d_jdk_17_method_72_code_24) rfl rfl ?_
      show Steps p.tables e below (T2.setTop (mkF m 25 #[.val (.ref a1), .val (.ref a2), .val (.ref a2), .unset, .unset, .unset, .unset] [(.ref a1)])) _
      refine st4 _ ?_
      refine XS.aloadN X4.here hx rfl (hb hby own_d_jdk_17_method_72_code_28) rfl rfl ?_
      show Steps p.tables e below (T4.setTop (mkF m 29 #[.val (.ref a1), .val (.ref a2), .val (.ref a2), .unset, .unset, .unset, .unset] [(.ref a2), (.int s_)])) _
      refine st5 _ ?_
      show Steps p.tables e below (T5.setTop (mkF m 32 #[.val (.ref a1), .val (.ref a2), .val (.ref a2), .unset, .unset, .unset, .unset] [(.int s_), (.int s_)])) _
      refine XS.icmpYes X5.here hx rfl (pc0 := 32) (pc' := 37) rfl (hb hby own_d_jdk_17_method_72_code_32) rfl (teq (rfl : s_ = s_)).1 (by decide) (by decide) ?_
      refine XS.aloadN X5.here hx rfl (hb hby own_d_jdk_17_method_72_code_37) rfl rfl ?_
      show Steps p.tables e below (T5.setTop (mkF m 38 #[.val (.ref a1), .val (.ref a2), .val (.ref a2), .unset, .unset, .unset, .unset] [(.ref a1)])) _
      refine st6 _ ?_
      refine XS.lstoreN X6.here hx rfl (hb hby own_d_jdk_17_method_72_code_41) rfl (l' := #[.val (.ref a1), .val (.ref a2), .val (.ref a2), .val (.long v), .second, .unset, .unset]) rfl ?_
      refine XS.aloadN X6.here hx rfl (hb hby own_d_jdk_17_method_72_code_42) rfl rfl ?_
      show Steps p.tables e below (T6.setTop (mkF m 43 #[.val (.ref a1), .val (.ref a2), .val (.ref a2), .val (.long v), .second, .unset, .unset] [(.ref a2)])) _
      refine st7 _ ?_
      refine XS.lstore X7.here hx rfl (hb hby own_d_jdk_17_method_72_code_46) rfl (l' := #[.val (.ref a1), .val (.ref a2), .val (.ref a2), .val (.long v), .second, .val (.long v), .second]) rfl ?_
      refine XS.lloadN X7.here hx rfl (hb hby own_d_jdk_17_method_72_code_48) rfl ?_
      show Steps p.tables e below (T7.setTop (mkF m 49 #[.val (.ref a1), .val (.ref a2), .val (.ref a2), .val (.long v), .second, .val (.long v), .second] [(.long v)])) _
      refine X7.ldc2Long hx hown (mvT hZ (hw _ (List.mem_of_getElem? (i := 12) rfl))) (g := (mkF m 49 #[.val (.ref a1), .val (.ref a2), .val (.ref a2), .val (.long v), .second, .val (.long v), .second] [(.long v)])) rfl (hb hby own_d_jdk_17_method_72_code_49) _ ?_
      refine XS.lcmp X7.here hx rfl (hb hby own_d_jdk_17_method_72_code_52) rfl ?_
      show Steps p.tables e below (T7.setTop (mkF m 53 #[.val (.ref a1), .val (.ref a2), .val (.ref a2), .val (.long v), .second, .val (.long v), .second] [(.int (lcmpW v (-9223372036854775808 : Int64)))])) _
      refine XS.ifNo X7.here hx rfl (hb hby own_d_jdk_17_method_72_code_53) rfl ((if0 _ _).trans (feq (fun q => own_neM hv ((lw_eq _ _).mp q) : ¬ ((lcmpW v (-9223372036854775808 : Int64)) = (0 : Int32)))).1) ?_
      refine XS.lload X7.here hx rfl (hb hby own_d_jdk_17_method_72_code_56) rfl ?_
      show Steps p.tables e below (T7.setTop (mkF m 58 #[.val (.ref a1), .val (.ref a2), .val (.ref a2), .val (.long v), .second, .val (.long v), .second] [(.long v)])) _
      refine X7.ldc2Long hx hown (mvT hZ (hw _ (List.mem_of_getElem? (i := 12) rfl))) (g := (mkF m 58 #[.val (.ref a1), .val (.ref a2), .val (.ref a2), .val (.long v), .second, .val (.long v), .second] [(.long v)])) rfl (hb hby own_d_jdk_17_method_72_code_58) _ ?_
      refine XS.lcmp X7.here hx rfl (hb hby own_d_jdk_17_method_72_code_61) rfl ?_
      show Steps p.tables e below (T7.setTop (mkF m 62 #[.val (.ref a1), .val (.ref a2), .val (.ref a2), .val (.long v), .second, .val (.long v), .second] [(.int (lcmpW v (-9223372036854775808 : Int64)))])) _
      refine XS.ifYes X7.here hx rfl (pc0 := 62) (pc' := 74) rfl (hb hby own_d_jdk_17_method_72_code_62) rfl ((if0 _ _).trans (feq (fun q => own_neM hv ((lw_eq _ _).mp q) : ¬ ((lcmpW v (-9223372036854775808 : Int64)) = (0 : Int32)))).2) (by decide) (by decide) ?_
      refine XS.lload X7.here hx rfl (hb hby own_d_jdk_17_method_72_code_74) rfl ?_
      refine XS.lloadN X7.here hx rfl (hb hby own_d_jdk_17_method_72_code_76) rfl ?_
      show Steps p.tables e below (T7.setTop (mkF m 77 #[.val (.ref a1), .val (.ref a2), .val (.ref a2), .val (.long v), .second, .val (.long v), .second] [(.long v), (.long v)])) _
      refine XS.lcmp X7.here hx rfl (hb hby own_d_jdk_17_method_72_code_77) rfl ?_
      show Steps p.tables e below (T7.setTop (mkF m 78 #[.val (.ref a1), .val (.ref a2), .val (.ref a2), .val (.long v), .second, .val (.long v), .second] [(.int (lcmpW v v))])) _
      refine XS.ifNo X7.here hx rfl (hb hby own_d_jdk_17_method_72_code_78) rfl ((if0 _ _).trans (teq ((lw_eq _ _).mpr rfl : (lcmpW v v) = (0 : Int32))).2) ?_
      refine XS.iconst X7.here hx rfl (hb hby own_d_jdk_17_method_72_code_81) ?_
      refine XS.goto X7.here hx rfl (pc0 := 82) (pc' := 86) rfl (hb hby own_d_jdk_17_method_72_code_82) (by decide) (by decide) ?_
      show Steps p.tables e below (T7.setTop (mkF m 86 #[.val (.ref a1), .val (.ref a2), .val (.ref a2), .val (.long v), .second, .val (.long v), .second] [(.int (1 : Int32))])) _
      exact retN X7 hx (t := .boolean) Bd.returns (by simp) (hb hby own_d_jdk_17_method_72_code_86) hr
    · show QI (.int (1 : Int32)) h0 n0 _ T7.heap _
      rw [e7]
      exact ⟨rfl, N0, rfl⟩
theorem own_d_method_3_code_0 : decode method_3_code 0 = .ok (.aload_n 1, 1) := by decide +kernel
theorem own_d_method_3_code_1 : decode method_3_code 1 = .ok (.ifnonnull 13, 3) := by decide +kernel
theorem own_d_method_3_code_14 : decode method_3_code 14 = .ok (.aload_n 0, 1) := by decide +kernel
theorem own_d_method_3_code_15 : decode method_3_code 15 = .ok (.ifnull 15, 3) := by decide +kernel
theorem own_d_method_3_code_18 : decode method_3_code 18 = .ok (.aload_n 1, 1) := by decide +kernel
theorem own_d_method_3_code_19 : decode method_3_code 19 = .ok (.aload_n 0, 1) := by decide +kernel
theorem own_d_method_3_code_20 : decode method_3_code 20 = .ok (.invokevirtual 13, 3) := by decide +kernel
theorem own_d_method_3_code_23 : decode method_3_code 23 = .ok (.ifCond .eq 7, 3) := by decide +kernel
theorem own_d_method_3_code_26 : decode method_3_code 26 = .ok (.iconst 1, 1) := by decide +kernel
theorem own_d_method_3_code_27 : decode method_3_code 27 = .ok (.goto 4, 3) := by decide +kernel
theorem own_d_method_3_code_31 : decode method_3_code 31 = .ok (.ireturn, 1) := by decide +kernel
theorem own_pd__Ljava_lang_Object__Z : parseMethodDescriptor "(Ljava/lang/Object;)Z" = some ⟨[(.object "java/lang/Object")], some .boolean⟩ := by decide +kernel
theorem own_ef_method_3_code_xx (m : MethodId) (x0 : Addr) (x1 : Addr) : entryFrame m #[(.ref x0), (.ref x1)] 2 = mkF m 0 #[.val (.ref x0), .val (.ref x1)] [] := by first | (simp [entryFrame, mkF, argsToLocals, Value.category]; done) | rfl
set_option maxRecDepth 65536 in
set_option maxHeartbeats 40000000 in
theorem rmSm (l : Launch) (Z : State) (a0 : Array Value) (hw : ∀ d ∈ tables_1, d.before a0 Z = true) (ws : List Jvm.Cond) (a1 a2 : Addr) (v : Int64) (s_ : Int32) (h0 : Heap) (n0 : Nat) (Z0 : n0 ≤ h0.size) (B1 : BD Z n0 h0 a1 v s_) (B2 : BD Z n0 h0 a2 v s_) (hv : (0 : Int64) < v) :
    MetFree l (⟨"com/example/floatweight/floatweight/PricesGetPinLaw", "same", "(Ljava/math/BigDecimal;Ljava/math/BigDecimal;)Z"⟩ : MethodName) (head1 (Jvm.Cond.code (⟨"com/example/floatweight/floatweight/PricesGetPinLaw", "same", "(Ljava/math/BigDecimal;Ljava/math/BigDecimal;)Z"⟩ : MethodName) method_3_code 2 (some .boolean) :: ws) ({ frames := 1, cells := 0, slots := 0, locals := 18 } : Room)) (fun a U => a = #[(.ref a1), (.ref a2)] ∧ Z.Warmed39 U.vm ∧ U.heap = h0) (fun _ _ _ _ _ => True) (fun _ U o U' => ∃ vr_ Lr_, o = .returned vr_ ∧ QI (.int (1 : Int32)) h0 n0 vr_ U'.heap Lr_ ∧ FrameEnd U o U' Lr_ 0 0) := by
  refine MetFree.of_bodySF (plainFor_of_name own_pn_com_example_floatweight_floatweight_PricesGetPinLaw) hisR ?_
  intro p e s m args below meth c s₁ Bd hml0 hP hK
  obtain ⟨rfl, hZ, hh⟩ := hP
  have hx := Bd.exec
  have hby := Bd.bytes
  have hml : c.maxLocals = 2 := hml0
  have hown : s.vm.findClass "com/example/floatweight/floatweight/PricesGetPinLaw" = some m.cls := findClass_of_methodNamed Bd.named
  have hnm := (name_of_methodNamed Bd.named Bd.method).1
  have X0 : Stand p l e ({ frames := 1, cells := 0, slots := 0, locals := 18 } : Room) s m #[(.ref a1), (.ref a2)] below meth c s₁ [] 0 0 := Stand.of_body Bd
  have e0 : s₁.heap = h0 := by rw [← hh, Bd.state]; rfl
  have N0 := Fr.nil n0
  have pre0 : ∀ t, Steps p.tables e below (s₁.setTop (mkF m 0 #[.val (.ref a1), .val (.ref a2)] [])) t → Steps p.tables e below (s₁.setTop (entryFrame m #[(.ref a1), (.ref a2)] 2)) t := fun t k => castTop (own_ef_method_3_code_xx m a1 a2) k
  obtain ⟨cq1, kq1, q1a, q1b, q1c⟩ := isOf hZ e0 B2.1
  obtain ⟨_, _, ⟨T1, L1, k1, n1⟩, -, X1, ⟨Lc1, hQ1, l1, y1, z1⟩, st1⟩ := X0.virtualBack hx (y := (⟨"java/math/BigDecimal", "equals", "(Ljava/lang/Object;)Z"⟩ : MethodName)) (z := (⟨"java/math/BigDecimal", "equals", "(Ljava/lang/Object;)Z"⟩ : MethodName)) hown (mvT hZ (hw _ (List.mem_of_getElem? (i := 132) rfl))) (mvT hZ (hw _ (List.mem_of_getElem? (i := 133) rfl))) (notFace_of_selects (args := #[]) (mvT hZ (hw _ (List.mem_of_getElem? (i := 135) rfl)))) (mvT hZ (hw _ (List.mem_of_getElem? (i := 135) rfl))) (mvT hZ (hw _ (List.mem_of_getElem? (i := 134) rfl))) (by decide) (backOf (W := 0) (rmEq l Z a0 hw [] a2 a1 v s_ h0 n0 (Nat.le_trans Z0 (Keep.refl h0 []).1) B2.1 B2.2.1 B2.2.2.1 B1.1 B1.2.1 B1.2.2.1 hv) hZ (hw _ (List.mem_of_getElem? (i := 136) rfl)) (hw _ (List.mem_of_getElem? (i := 8) rfl)) (by decide) (by decide)) q1a q1c (g := (mkF m 20 #[.val (.ref a1), .val (.ref a2)] [(.ref a1), (.ref a2)])) rfl (by rw [hml]; rfl) (Steps.refl _) (argsL := [(.ref a1)]) (rest := []) (lenOf own_pd__Ljava_lang_Object__Z rfl) rfl (by show 2 * 0 + _ ≤ _; exact Nat.le_of_eq rfl) (hb hby own_d_method_3_code_20) (fun _ _ => ⟨rfl, e0, (by decide : 0 + 0 ≤ _), (by decide : 0 + 0 ≤ _)⟩)
  dsimp only [Pt.U, Pt.locs, Pt.cells, Pt.slots] at X1 l1 y1 z1 st1 hQ1
  subst l1 y1 z1
  obtain ⟨rfl, N1q, e1q⟩ := hQ1
  have N1a := Fr.app N0 N1q
  obtain ⟨fs, hr, hrun, hended, hW, hsame⟩ := X1.leave (v := some (.int (1 : Int32))) (fun h => by rw [Bd.returns] at h; cases h)
  refine ⟨_, _, pre0 _ ?_, hrun, hended, _, _, rfl, ?_, ⟨_, rfl⟩, hW, hsame.mono (by decide) (by decide)⟩
  · show Steps p.tables e below (s₁.setTop (mkF m 0 #[.val (.ref a1), .val (.ref a2)] [])) _
    refine XS.aloadN X0.here hx rfl (hb hby own_d_method_3_code_0) rfl rfl ?_
    show Steps p.tables e below (s₁.setTop (mkF m 1 #[.val (.ref a1), .val (.ref a2)] [(.ref a2)])) _
    refine XS.ifnonnullYes X0.here hx rfl (pc0 := 1) (pc' := 14) rfl (hb hby own_d_method_3_code_1) rfl (by decide) (by decide) ?_
    refine XS.aloadN X0.here hx rfl (hb hby own_d_method_3_code_14) rfl rfl ?_
    show Steps p.tables e below (s₁.setTop (mkF m 15 #[.val (.ref a1), .val (.ref a2)] [(.ref a1)])) _
    refine XS.ifnullNo X0.here hx rfl (hb hby own_d_method_3_code_15) rfl ?_
    refine XS.aloadN X0.here hx rfl (hb hby own_d_method_3_code_18) rfl rfl ?_
    refine XS.aloadN X0.here hx rfl (hb hby own_d_method_3_code_19) rfl rfl ?_
    show Steps p.tables e below (s₁.setTop (mkF m 20 #[.val (.ref a1), .val (.ref a2)] [(.ref a1), (.ref a2)])) _
    refine st1.trans ?_
    show Steps p.tables e below (T1.setTop (mkF m 23 #[.val (.ref a1), .val (.ref a2)] [(.int (1 : Int32))])) _
    refine XS.ifNo X1.here hx rfl (hb hby own_d_method_3_code_23) rfl ((if0 _ _).trans (feq (by decide : ¬ ((1 : Int32) = (0 : Int32)))).1) ?_
    refine XS.iconst X1.here hx rfl (hb hby own_d_method_3_code_26) ?_
    refine XS.goto X1.here hx rfl (pc0 := 27) (pc' := 31) rfl (hb hby own_d_method_3_code_27) (by decide) (by decide) ?_
    show Steps p.tables e below (T1.setTop (mkF m 31 #[.val (.ref a1), .val (.ref a2)] [(.int (1 : Int32))])) _
    exact retN X1 hx (t := .boolean) Bd.returns (by simp) (hb hby own_d_method_3_code_31) hr
  · show QI (.int (1 : Int32)) h0 n0 _ T1.heap _
    rw [e1q]
    exact ⟨rfl, N1a, rfl⟩
theorem own_d_method_3_code_4 : decode method_3_code 4 = .ok (.aload_n 0, 1) := by decide +kernel
theorem own_d_method_3_code_5 : decode method_3_code 5 = .ok (.ifnonnull 7, 3) := by decide +kernel
theorem own_d_method_3_code_8 : decode method_3_code 8 = .ok (.iconst 1, 1) := by decide +kernel
theorem own_d_method_3_code_9 : decode method_3_code 9 = .ok (.goto 4, 3) := by decide +kernel
theorem own_d_method_3_code_13 : decode method_3_code 13 = .ok (.ireturn, 1) := by decide +kernel
theorem own_ef_method_3_code_nn (m : MethodId)  : entryFrame m #[.null, .null] 2 = mkF m 0 #[.val .null, .val .null] [] := by first | (simp [entryFrame, mkF, argsToLocals, Value.category]; done) | rfl
set_option maxRecDepth 65536 in
set_option maxHeartbeats 40000000 in
theorem rmSn (l : Launch) (Z : State) (a0 : Array Value) (hw : ∀ d ∈ tables_1, d.before a0 Z = true) (ws : List Jvm.Cond)  (h0 : Heap) (n0 : Nat) (Z0 : n0 ≤ h0.size)  :
    MetFree l (⟨"com/example/floatweight/floatweight/PricesGetPinLaw", "same", "(Ljava/math/BigDecimal;Ljava/math/BigDecimal;)Z"⟩ : MethodName) (head1 (Jvm.Cond.code (⟨"com/example/floatweight/floatweight/PricesGetPinLaw", "same", "(Ljava/math/BigDecimal;Ljava/math/BigDecimal;)Z"⟩ : MethodName) method_3_code 2 (some .boolean) :: ws) ({ frames := 1, cells := 0, slots := 0, locals := 18 } : Room)) (fun a U => a = #[.null, .null] ∧ Z.Warmed39 U.vm ∧ U.heap = h0) (fun _ _ _ _ _ => True) (fun _ U o U' => ∃ vr_ Lr_, o = .returned vr_ ∧ QI (.int (1 : Int32)) h0 n0 vr_ U'.heap Lr_ ∧ FrameEnd U o U' Lr_ 0 0) := by
  refine MetFree.of_bodySF (plainFor_of_name own_pn_com_example_floatweight_floatweight_PricesGetPinLaw) hisR ?_
  intro p e s m args below meth c s₁ Bd hml0 hP hK
  obtain ⟨rfl, hZ, hh⟩ := hP
  have hx := Bd.exec
  have hby := Bd.bytes
  have hml : c.maxLocals = 2 := hml0
  have hown : s.vm.findClass "com/example/floatweight/floatweight/PricesGetPinLaw" = some m.cls := findClass_of_methodNamed Bd.named
  have hnm := (name_of_methodNamed Bd.named Bd.method).1
  have X0 : Stand p l e ({ frames := 1, cells := 0, slots := 0, locals := 18 } : Room) s m #[.null, .null] below meth c s₁ [] 0 0 := Stand.of_body Bd
  have e0 : s₁.heap = h0 := by rw [← hh, Bd.state]; rfl
  have N0 := Fr.nil n0
  have pre0 : ∀ t, Steps p.tables e below (s₁.setTop (mkF m 0 #[.val .null, .val .null] [])) t → Steps p.tables e below (s₁.setTop (entryFrame m #[.null, .null] 2)) t := fun t k => castTop (own_ef_method_3_code_nn m ) k
  obtain ⟨fs, hr, hrun, hended, hW, hsame⟩ := X0.leave (v := some (.int (1 : Int32))) (fun h => by rw [Bd.returns] at h; cases h)
  refine ⟨_, _, pre0 _ ?_, hrun, hended, _, _, rfl, ?_, ⟨_, rfl⟩, hW, hsame.mono (by decide) (by decide)⟩
  · show Steps p.tables e below (s₁.setTop (mkF m 0 #[.val .null, .val .null] [])) _
    refine XS.aloadN X0.here hx rfl (hb hby own_d_method_3_code_0) rfl rfl ?_
    show Steps p.tables e below (s₁.setTop (mkF m 1 #[.val .null, .val .null] [.null])) _
    refine XS.ifnonnullNo X0.here hx rfl (hb hby own_d_method_3_code_1) rfl ?_
    refine XS.aloadN X0.here hx rfl (hb hby own_d_method_3_code_4) rfl rfl ?_
    show Steps p.tables e below (s₁.setTop (mkF m 5 #[.val .null, .val .null] [.null])) _
    refine XS.ifnonnullNo X0.here hx rfl (hb hby own_d_method_3_code_5) rfl ?_
    refine XS.iconst X0.here hx rfl (hb hby own_d_method_3_code_8) ?_
    refine XS.goto X0.here hx rfl (pc0 := 9) (pc' := 13) rfl (hb hby own_d_method_3_code_9) (by decide) (by decide) ?_
    show Steps p.tables e below (s₁.setTop (mkF m 13 #[.val .null, .val .null] [(.int (1 : Int32))])) _
    exact retN X0 hx (t := .boolean) Bd.returns (by simp) (hb hby own_d_method_3_code_13) hr
  · show QI (.int (1 : Int32)) h0 n0 _ s₁.heap _
    rw [e0]
    exact ⟨rfl, N0, rfl⟩
def own_b (x : Int32) : Int32 := if x = (0 : Int32) then 0 else 1
theorem own_pd__JZ_J : parseMethodDescriptor "(JZ)J" = some ⟨[.long, .boolean], some .long⟩ := by decide +kernel
theorem own_pd__I_V : parseMethodDescriptor "(I)V" = some ⟨[.int], none⟩ := by decide +kernel
theorem own_pd__ILjava_math_BigDecimal__V : parseMethodDescriptor "(ILjava/math/BigDecimal;)V" = some ⟨[.int, (.object "java/math/BigDecimal")], none⟩ := by decide +kernel
theorem own_pd__Ljava_math_BigDecimal_Ljava_math_BigDecimal__Z : parseMethodDescriptor "(Ljava/math/BigDecimal;Ljava/math/BigDecimal;)Z" = some ⟨[(.object "java/math/BigDecimal"), (.object "java/math/BigDecimal")], some .boolean⟩ := by decide +kernel
theorem own_ef_code_xxxxx (m : MethodId) (x0 : Int64) (x1 : Int32) (x2 : Int64) (x3 : Int32) (x4 : Int32) : entryFrame m #[(.long x0), (.int x1), (.long x2), (.int x3), (.int x4)] maxLocals = mkF m 0 #[.val (.long x0), .second, .val (.int x1), .val (.long x2), .second, .val (.int x3), .val (.int x4), .unset, .unset, .unset, .unset, .unset, .unset, .unset, .unset] [] := by first | (simp [entryFrame, mkF, argsToLocals, Value.category, maxLocals]; done) | rfl
set_option maxRecDepth 65536 in
set_option maxHeartbeats 40000000 in
theorem rm0 (l : Launch) (Z : State) (a0 : Array Value) (hw : ∀ d ∈ tables_1, d.before a0 Z = true) (ws : List Jvm.Cond) (hEL : EW Z a0 own_EL) (p1 : Int64) (p2 : Int32) (p3 : Int64) (p4 p5 : Int32) (h0 : Heap) (n0 : Nat) (Z0 : n0 ≤ h0.size) (hZT : ZTT Z) (hTP : TPT Z) (O0 : Old Z n0 h0) :
    MetFree l x (head1 (Jvm.Cond.code x code maxLocals ret :: ws) room_1) (fun a U => a = #[(.long p1), (.int p2), (.long p3), (.int p4), (.int p5)] ∧ Z.Warmed39 U.vm ∧ U.heap = h0 ∧ CHv Z own_EL U.vm h0) (fun _ _ _ _ _ => True) (fun _ U o U' => ∃ vr_ Lr_, o = .returned vr_ ∧ Q0 n0 vr_ U'.heap Lr_ ∧ CHr Z own_EL U.vm U.heap U'.vm U'.heap ∧ ReturnedEndW U o U' Lr_ room_1.cells room_1.slots) := by
  refine MetFree.of_bodySF (plainFor_of_name own_pn_com_example_floatweight_floatweight_PricesGetPinLaw) hisR ?_
  intro p e s m args below meth c s₁ Bd hml0 hP hK
  obtain ⟨rfl, hZ, hh, hCH0⟩ := hP
  have hx := Bd.exec
  have hby := Bd.bytes
  have hml : c.maxLocals = 15 := hml0
  have hown : s.vm.findClass "com/example/floatweight/floatweight/PricesGetPinLaw" = some m.cls := findClass_of_methodNamed Bd.named
  have hnm := (name_of_methodNamed Bd.named Bd.method).1
  have X0 : Stand p l e room_1 (s.setVm s.vm) m #[(.long p1), (.int p2), (.long p3), (.int p4), (.int p5)] below meth c s₁ [] 0 0 := Stand.of_body Bd
  have e0 : s₁.heap = h0 := by rw [← hh, Bd.state]; rfl
  have N0 := Fr.nil n0
  have CH0 : CHr Z own_EL s.vm h0 s.vm h0 := CHr.refl hCH0
  have hS0 : s.Since s.vm 0 := State.WarmedH.since (State.WarmedH.refl s) 0
  have pre0 : ∀ t, Steps p.tables e below (s₁.setTop (mkF m 0 #[.val (.long p1), .second, .val (.int p2), .val (.long p3), .second, .val (.int p4), .val (.int p5), .unset, .unset, .unset, .unset, .unset, .unset, .unset, .unset] [])) t → Steps p.tables e below (s₁.setTop (entryFrame m #[(.long p1), (.int p2), (.long p3), (.int p4), (.int p5)] maxLocals)) t := fun t k => castTop (own_ef_code_xxxxx m p1 p2 p3 p4 p5) k
  have cut5 : ∀ t, Steps p.tables e below (s₁.setTop (mkF m 32 #[.val (.long p1), .second, .val (.int p2), .val (.long p3), .second, .val (.int p4), .val (.int p5), .val (.int (own_b (p5 &&& (2 : Int32)))), .val (.int (own_b (p5 &&& (4 : Int32)))), .unset, .unset, .unset, .unset, .unset, .unset] [(.int (p5 &&& (1 : Int32)))])) t → Steps p.tables e below (s₁.setTop (mkF m 0 #[.val (.long p1), .second, .val (.int p2), .val (.long p3), .second, .val (.int p4), .val (.int p5), .unset, .unset, .unset, .unset, .unset, .unset, .unset, .unset] [])) t := fun t kk => by
    have tr0_1 : ∀ tgt, Steps p.tables e below (s₁.setTop (mkF m 12 #[.val (.long p1), .second, .val (.int p2), .val (.long p3), .second, .val (.int p4), .val (.int p5), .unset, .unset, .unset, .unset, .unset, .unset, .unset, .unset] [(.int (own_b (p5 &&& (2 : Int32))))])) tgt → Steps p.tables e below (s₁.setTop (mkF m 0 #[.val (.long p1), .second, .val (.int p2), .val (.long p3), .second, .val (.int p4), .val (.int p5), .unset, .unset, .unset, .unset, .unset, .unset, .unset, .unset] [])) tgt := by
      intro tgt kk
      show Steps p.tables e below (s₁.setTop (mkF m 0 #[.val (.long p1), .second, .val (.int p2), .val (.long p3), .second, .val (.int p4), .val (.int p5), .unset, .unset, .unset, .unset, .unset, .unset, .unset, .unset] [])) _
      refine XS.iload X0.here hx rfl (hb hby at_0) rfl ?_
      show Steps p.tables e below (s₁.setTop (mkF m 2 #[.val (.long p1), .second, .val (.int p2), .val (.long p3), .second, .val (.int p4), .val (.int p5), .unset, .unset, .unset, .unset, .unset, .unset, .unset, .unset] [(.int p5)])) _
      refine XS.iconst X0.here hx rfl (hb hby at_2) ?_
      show Steps p.tables e below (s₁.setTop (mkF m 3 #[.val (.long p1), .second, .val (.int p2), .val (.long p3), .second, .val (.int p4), .val (.int p5), .unset, .unset, .unset, .unset, .unset, .unset, .unset, .unset] [(.int (2 : Int32)), (.int p5)])) _
      refine XS.iand X0.here hx rfl (hb hby at_3) rfl ?_
      show Steps p.tables e below (s₁.setTop (mkF m 4 #[.val (.long p1), .second, .val (.int p2), .val (.long p3), .second, .val (.int p4), .val (.int p5), .unset, .unset, .unset, .unset, .unset, .unset, .unset, .unset] [(.int (p5 &&& (2 : Int32)))])) _
      by_cases c2 : (p5 &&& (2 : Int32)) = (0 : Int32)
      · refine XS.ifYes X0.here hx rfl (pc0 := 4) (pc' := 11) rfl (hb hby at_4) rfl ((if0 _ _).trans (teq c2).1) (by decide) (by decide) ?_
        show Steps p.tables e below (s₁.setTop (mkF m 11 #[.val (.long p1), .second, .val (.int p2), .val (.long p3), .second, .val (.int p4), .val (.int p5), .unset, .unset, .unset, .unset, .unset, .unset, .unset, .unset] [])) _
        refine XS.iconst X0.here hx rfl (hb hby at_11) ?_
        have ev : (own_b (p5 &&& (2 : Int32))) = (0 : Int32) := by simp [own_b, c2]
        rw [ev] at kk
        exact kk
      · refine XS.ifNo X0.here hx rfl (hb hby at_4) rfl ((if0 _ _).trans (feq c2).1) ?_
        show Steps p.tables e below (s₁.setTop (mkF m 7 #[.val (.long p1), .second, .val (.int p2), .val (.long p3), .second, .val (.int p4), .val (.int p5), .unset, .unset, .unset, .unset, .unset, .unset, .unset, .unset] [])) _
        refine XS.iconst X0.here hx rfl (hb hby at_7) ?_
        show Steps p.tables e below (s₁.setTop (mkF m 8 #[.val (.long p1), .second, .val (.int p2), .val (.long p3), .second, .val (.int p4), .val (.int p5), .unset, .unset, .unset, .unset, .unset, .unset, .unset, .unset] [(.int (1 : Int32))])) _
        refine XS.goto X0.here hx rfl (pc0 := 8) (pc' := 12) rfl (hb hby at_8) (by decide) (by decide) ?_
        have ev : (own_b (p5 &&& (2 : Int32))) = (1 : Int32) := by simp [own_b, c2]
        rw [ev] at kk
        exact kk
    refine tr0_1 _ ?_
    refine XS.istore X0.here hx rfl (hb hby at_12) rfl (l' := #[.val (.long p1), .second, .val (.int p2), .val (.long p3), .second, .val (.int p4), .val (.int p5), .val (.int (own_b (p5 &&& (2 : Int32)))), .unset, .unset, .unset, .unset, .unset, .unset, .unset]) rfl ?_
    have tr14_3 : ∀ tgt, Steps p.tables e below (s₁.setTop (mkF m 26 #[.val (.long p1), .second, .val (.int p2), .val (.long p3), .second, .val (.int p4), .val (.int p5), .val (.int (own_b (p5 &&& (2 : Int32)))), .unset, .unset, .unset, .unset, .unset, .unset, .unset] [(.int (own_b (p5 &&& (4 : Int32))))])) tgt → Steps p.tables e below (s₁.setTop (mkF m 14 #[.val (.long p1), .second, .val (.int p2), .val (.long p3), .second, .val (.int p4), .val (.int p5), .val (.int (own_b (p5 &&& (2 : Int32)))), .unset, .unset, .unset, .unset, .unset, .unset, .unset] [])) tgt := by
      intro tgt kk
      show Steps p.tables e below (s₁.setTop (mkF m 14 #[.val (.long p1), .second, .val (.int p2), .val (.long p3), .second, .val (.int p4), .val (.int p5), .val (.int (own_b (p5 &&& (2 : Int32)))), .unset, .unset, .unset, .unset, .unset, .unset, .unset] [])) _
      refine XS.iload X0.here hx rfl (hb hby at_14) rfl ?_
      show Steps p.tables e below (s₁.setTop (mkF m 16 #[.val (.long p1), .second, .val (.int p2), .val (.long p3), .second, .val (.int p4), .val (.int p5), .val (.int (own_b (p5 &&& (2 : Int32)))), .unset, .unset, .unset, .unset, .unset, .unset, .unset] [(.int p5)])) _
      refine XS.iconst X0.here hx rfl (hb hby at_16) ?_
      show Steps p.tables e below (s₁.setTop (mkF m 17 #[.val (.long p1), .second, .val (.int p2), .val (.long p3), .second, .val (.int p4), .val (.int p5), .val (.int (own_b (p5 &&& (2 : Int32)))), .unset, .unset, .unset, .unset, .unset, .unset, .unset] [(.int (4 : Int32)), (.int p5)])) _
      refine XS.iand X0.here hx rfl (hb hby at_17) rfl ?_
      show Steps p.tables e below (s₁.setTop (mkF m 18 #[.val (.long p1), .second, .val (.int p2), .val (.long p3), .second, .val (.int p4), .val (.int p5), .val (.int (own_b (p5 &&& (2 : Int32)))), .unset, .unset, .unset, .unset, .unset, .unset, .unset] [(.int (p5 &&& (4 : Int32)))])) _
      by_cases c4 : (p5 &&& (4 : Int32)) = (0 : Int32)
      · refine XS.ifYes X0.here hx rfl (pc0 := 18) (pc' := 25) rfl (hb hby at_18) rfl ((if0 _ _).trans (teq c4).1) (by decide) (by decide) ?_
        show Steps p.tables e below (s₁.setTop (mkF m 25 #[.val (.long p1), .second, .val (.int p2), .val (.long p3), .second, .val (.int p4), .val (.int p5), .val (.int (own_b (p5 &&& (2 : Int32)))), .unset, .unset, .unset, .unset, .unset, .unset, .unset] [])) _
        refine XS.iconst X0.here hx rfl (hb hby at_25) ?_
        have ev : (own_b (p5 &&& (4 : Int32))) = (0 : Int32) := by simp [own_b, c4]
        rw [ev] at kk
        exact kk
      · refine XS.ifNo X0.here hx rfl (hb hby at_18) rfl ((if0 _ _).trans (feq c4).1) ?_
        show Steps p.tables e below (s₁.setTop (mkF m 21 #[.val (.long p1), .second, .val (.int p2), .val (.long p3), .second, .val (.int p4), .val (.int p5), .val (.int (own_b (p5 &&& (2 : Int32)))), .unset, .unset, .unset, .unset, .unset, .unset, .unset] [])) _
        refine XS.iconst X0.here hx rfl (hb hby at_21) ?_
        show Steps p.tables e below (s₁.setTop (mkF m 22 #[.val (.long p1), .second, .val (.int p2), .val (.long p3), .second, .val (.int p4), .val (.int p5), .val (.int (own_b (p5 &&& (2 : Int32)))), .unset, .unset, .unset, .unset, .unset, .unset, .unset] [(.int (1 : Int32))])) _
        refine XS.goto X0.here hx rfl (pc0 := 22) (pc' := 26) rfl (hb hby at_22) (by decide) (by decide) ?_
        have ev : (own_b (p5 &&& (4 : Int32))) = (1 : Int32) := by simp [own_b, c4]
        rw [ev] at kk
        exact kk
    refine tr14_3 _ ?_
    refine XS.istore X0.here hx rfl (hb hby at_26) rfl (l' := #[.val (.long p1), .second, .val (.int p2), .val (.long p3), .second, .val (.int p4), .val (.int p5), .val (.int (own_b (p5 &&& (2 : Int32)))), .val (.int (own_b (p5 &&& (4 : Int32)))), .unset, .unset, .unset, .unset, .unset, .unset]) rfl ?_
    refine XS.iload X0.here hx rfl (hb hby at_28) rfl ?_
    show Steps p.tables e below (s₁.setTop (mkF m 30 #[.val (.long p1), .second, .val (.int p2), .val (.long p3), .second, .val (.int p4), .val (.int p5), .val (.int (own_b (p5 &&& (2 : Int32)))), .val (.int (own_b (p5 &&& (4 : Int32)))), .unset, .unset, .unset, .unset, .unset, .unset] [(.int p5)])) _
    refine XS.iconst X0.here hx rfl (hb hby at_30) ?_
    refine XS.iand X0.here hx rfl (hb hby at_31) rfl ?_
    exact kk
  by_cases c9 : (p5 &&& (1 : Int32)) = (0 : Int32)
  · obtain ⟨_, _, ⟨T6, L6, k6, n6⟩, -, X6, ⟨Lc6, hQ6, l6, y6, z6⟩, st6⟩ := Jvm.LawKit.callS X0 hx (y := (⟨"com/example/floatweight/floatweight/PricesGetPinLaw", "pos", "(JZ)J"⟩ : MethodName)) hown (mvT hZ (hw _ (List.mem_of_getElem? (i := 0) rfl))) (mvT hZ (hw _ (List.mem_of_getElem? (i := 1) rfl))) (mvT hZ (hw _ (List.mem_of_getElem? (i := 2) rfl))) (mvT hZ (hw _ (List.mem_of_getElem? (i := 3) rfl))) (by decide) (backOf (W := 0) (rmPos l Z a0 hw [] p1 (own_b (p5 &&& (2 : Int32))) h0 n0 (Nat.le_trans Z0 (Keep.refl h0 (own_fr n0 h0)).1) ) hZ (hw _ (List.mem_of_getElem? (i := 3) rfl)) (hw _ (List.mem_of_getElem? (i := 2) rfl)) (by decide) (by decide)) (g := (mkF m 45 #[.val (.long p1), .second, .val (.int p2), .val (.long p3), .second, .val (.int p4), .val (.int p5), .val (.int (own_b (p5 &&& (2 : Int32)))), .val (.int (own_b (p5 &&& (4 : Int32)))), .val (.int (0 : Int32)), .unset, .unset, .unset, .unset, .unset] [(.int (own_b (p5 &&& (2 : Int32)))), (.long p1)])) rfl (by rw [hml]; rfl) (argsL := [(.long p1), (.int (own_b (p5 &&& (2 : Int32))))]) (rest := []) (lenOf own_pd__JZ_J rfl) rfl (by show 2 * 0 + _ ≤ _; exact Nat.le_of_eq rfl) (hb hby at_45) (fun _ _ => ⟨rfl, e0, (by decide : 0 + 0 ≤ _), (by decide : 0 + 0 ≤ _)⟩)
    dsimp only [Pt.U, Pt.locs, Pt.cells, Pt.slots] at X6 l6 y6 z6 st6 hQ6
    subst l6 y6 z6
    obtain ⟨r6, rfl, hp6, N6q, e6q⟩ := hQ6
    have N6a := Fr.app N0 N6q
    obtain ⟨_, _, ⟨T7, L7, k7, n7⟩, -, X7, ⟨Lc7, hQ7, l7, y7, z7⟩, st7⟩ := Jvm.LawKit.callS X6 hx (y := (⟨"java/math/BigDecimal", "valueOf", "(JI)Ljava/math/BigDecimal;"⟩ : MethodName)) hown (mvT hZ (hw _ (List.mem_of_getElem? (i := 6) rfl))) (mvT hZ (hw _ (List.mem_of_getElem? (i := 7) rfl))) (mvT hZ (hw _ (List.mem_of_getElem? (i := 8) rfl))) (mvT hZ (hw _ (List.mem_of_getElem? (i := 9) rfl))) (by decide) (backOf (W := 0) (rmVo l Z a0 hw [] r6 p2 h0 n0 (Nat.le_trans Z0 (Keep.refl h0 (own_fr n0 h0)).1) hp6 hZT O0) hZ (hw _ (List.mem_of_getElem? (i := 9) rfl)) (hw _ (List.mem_of_getElem? (i := 8) rfl)) (by decide) (by decide)) (g := (mkF m 49 #[.val (.long p1), .second, .val (.int p2), .val (.long p3), .second, .val (.int p4), .val (.int p5), .val (.int (own_b (p5 &&& (2 : Int32)))), .val (.int (own_b (p5 &&& (4 : Int32)))), .val (.int (0 : Int32)), .unset, .unset, .unset, .unset, .unset] [(.int p2), (.long r6)])) rfl (by rw [hml]; rfl) (argsL := [(.long r6), (.int p2)]) (rest := []) (lenOf own_pd__JI_Ljava_math_BigDecimal_ rfl) rfl (by show 2 * 0 + _ ≤ _; exact Nat.le_of_eq rfl) (hb hby at_49) (fun _ _ => ⟨rfl, e6q, (by decide : 0 + 1 ≤ _), (by decide : 0 + 5 ≤ _)⟩)
    dsimp only [Pt.U, Pt.locs, Pt.cells, Pt.slots] at X7 l7 y7 z7 st7 hQ7
    subst l7 y7 z7
    obtain ⟨b7, rfl, N7q, K7q, Bd7⟩ := hQ7
    have N7a := Fr.app N6a N7q
    have CH1 : CHr Z own_EL s.vm h0 s.vm T7.heap := CH0.trans (CHr.keep K7q all0 CH0.1)
    have K1 : Keep h0 T7.heap (own_fr n0 h0) := (Keep.refl h0 (own_fr n0 h0)).trans K7q all0
    obtain ⟨_, _, ⟨T8, L8, k8, n8⟩, -, X8, ⟨Lc8, hQ8, l8, y8, z8⟩, st8⟩ := Jvm.LawKit.callS X7 hx (y := (⟨"com/example/floatweight/floatweight/PricesGetPinLaw", "pos", "(JZ)J"⟩ : MethodName)) hown (mvT hZ (hw _ (List.mem_of_getElem? (i := 0) rfl))) (mvT hZ (hw _ (List.mem_of_getElem? (i := 1) rfl))) (mvT hZ (hw _ (List.mem_of_getElem? (i := 2) rfl))) (mvT hZ (hw _ (List.mem_of_getElem? (i := 3) rfl))) (by decide) (backOf (W := 0) (rmPos l Z a0 hw [] p3 (own_b (p5 &&& (4 : Int32))) T7.heap n0 (Nat.le_trans Z0 K1.1) ) hZ (hw _ (List.mem_of_getElem? (i := 3) rfl)) (hw _ (List.mem_of_getElem? (i := 2) rfl)) (by decide) (by decide)) (g := (mkF m 57 #[.val (.long p1), .second, .val (.int p2), .val (.long p3), .second, .val (.int p4), .val (.int p5), .val (.int (own_b (p5 &&& (2 : Int32)))), .val (.int (own_b (p5 &&& (4 : Int32)))), .val (.int (0 : Int32)), .val (.ref b7), .unset, .unset, .unset, .unset] [(.int (own_b (p5 &&& (4 : Int32)))), (.long p3)])) rfl (by rw [hml]; rfl) (argsL := [(.long p3), (.int (own_b (p5 &&& (4 : Int32))))]) (rest := []) (lenOf own_pd__JZ_J rfl) rfl (by show 2 * 0 + _ ≤ _; exact Nat.le_of_eq rfl) (hb hby at_57) (fun _ _ => ⟨rfl, rfl, (by decide : 1 + 0 ≤ _), (by decide : 5 + 0 ≤ _)⟩)
    dsimp only [Pt.U, Pt.locs, Pt.cells, Pt.slots] at X8 l8 y8 z8 st8 hQ8
    subst l8 y8 z8
    obtain ⟨r8, rfl, hp8, N8q, e8q⟩ := hQ8
    have N8a := Fr.app N7a N8q
    have f10 : Old Z n0 T7.heap := (O0.keep K7q all0)
    obtain ⟨_, _, ⟨T9, L9, k9, n9⟩, -, X9, ⟨Lc9, hQ9, l9, y9, z9⟩, st9⟩ := Jvm.LawKit.callS X8 hx (y := (⟨"java/math/BigDecimal", "valueOf", "(JI)Ljava/math/BigDecimal;"⟩ : MethodName)) hown (mvT hZ (hw _ (List.mem_of_getElem? (i := 6) rfl))) (mvT hZ (hw _ (List.mem_of_getElem? (i := 7) rfl))) (mvT hZ (hw _ (List.mem_of_getElem? (i := 8) rfl))) (mvT hZ (hw _ (List.mem_of_getElem? (i := 9) rfl))) (by decide) (backOf (W := 0) (rmVo l Z a0 hw [] r8 p4 T7.heap n0 (Nat.le_trans Z0 K1.1) hp8 hZT f10) hZ (hw _ (List.mem_of_getElem? (i := 9) rfl)) (hw _ (List.mem_of_getElem? (i := 8) rfl)) (by decide) (by decide)) (g := (mkF m 62 #[.val (.long p1), .second, .val (.int p2), .val (.long p3), .second, .val (.int p4), .val (.int p5), .val (.int (own_b (p5 &&& (2 : Int32)))), .val (.int (own_b (p5 &&& (4 : Int32)))), .val (.int (0 : Int32)), .val (.ref b7), .unset, .unset, .unset, .unset] [(.int p4), (.long r8)])) rfl (by rw [hml]; rfl) (argsL := [(.long r8), (.int p4)]) (rest := []) (lenOf own_pd__JI_Ljava_math_BigDecimal_ rfl) rfl (by show 2 * 0 + _ ≤ _; exact Nat.le_of_eq rfl) (hb hby at_62) (fun _ _ => ⟨rfl, e8q, (by decide : 1 + 1 ≤ _), (by decide : 5 + 5 ≤ _)⟩)
    dsimp only [Pt.U, Pt.locs, Pt.cells, Pt.slots] at X9 l9 y9 z9 st9 hQ9
    subst l9 y9 z9
    obtain ⟨b9, rfl, N9q, K9q, Bd9⟩ := hQ9
    have N9a := Fr.app N8a N9q
    have CH2 : CHr Z own_EL s.vm h0 s.vm T9.heap := CH1.trans (CHr.keep K9q all0 CH1.1)
    have K2 : Keep h0 T9.heap (own_fr n0 h0) := K1.trans K9q all0
    obtain ⟨T11, h11, X11, e11, E11, A11, D11, -, st11⟩ := newO X9 hx hZ hown (hw _ (List.mem_of_getElem? (i := 38) rfl)) (hw _ (List.mem_of_getElem? (i := 39) rfl)) (hw _ (List.mem_of_getElem? (i := 40) rfl)) rfl (g := (mkF m 67 #[.val (.long p1), .second, .val (.int p2), .val (.long p3), .second, .val (.int p4), .val (.int p5), .val (.int (own_b (p5 &&& (2 : Int32)))), .val (.int (own_b (p5 &&& (4 : Int32)))), .val (.int (0 : Int32)), .val (.ref b7), .val (.ref b9), .unset, .unset, .unset] [])) rfl (hb hby at_67) (by decide) (by decide)
    obtain ⟨b11, g11⟩ : ∃ z, z = T9.heap.size := ⟨_, rfl⟩
    rw [← g11] at A11 D11 st11
    have sz_b11 : h0.size ≤ b11 := Nat.le_trans K2.1 (Nat.le_of_eq g11.symm)
    have g_b11 : n0 ≤ b11 := Nat.le_trans Z0 sz_b11
    have CH3 : CHr Z own_EL s.vm h0 s.vm h11 := CH2.trans (CHr.ext E11 CH2.1)
    have K3 : Keep h0 h11 (own_fr n0 h0) := K2.ext E11
    have F_mUnscaled_b11 : Fld Z h11 b11 "com/example/floatweight/floatweight/Prices" "mUnscaled" "[J" .null := D11 (Or.inr (hw _ (List.mem_of_getElem? (i := 47) rfl))) (ty := (.array .long)) (by decide)
    have F_mScales_b11 : Fld Z h11 b11 "com/example/floatweight/floatweight/Prices" "mScales" "[I" .null := D11 (Or.inr (hw _ (List.mem_of_getElem? (i := 50) rfl))) (ty := (.array .int)) (by decide)
    have F_mWhole_b11 : Fld Z h11 b11 "com/example/floatweight/floatweight/Prices" "mWhole" "[Ljava/math/BigDecimal;" .null := D11 (Or.inl (hw _ (List.mem_of_getElem? (i := 121) rfl))) (ty := (.array (.object "java/math/BigDecimal"))) (by decide)
    obtain ⟨_, _, ⟨T12, L12, k12, n12⟩, -, X12, ⟨Lc12, hQ12, l12, y12, z12⟩, st12⟩ := X11.specialBack hx (y := (⟨"com/example/floatweight/floatweight/Prices", "<init>", "(I)V"⟩ : MethodName)) rfl hown (mvT hZ (hw _ (List.mem_of_getElem? (i := 41) rfl))) (mvT hZ (hw _ (List.mem_of_getElem? (i := 42) rfl))) (mvT hZ (hw _ (List.mem_of_getElem? (i := 43) rfl))) (by decide) (backOf (W := 1) (rmPi l Z a0 hw [] b11 h11 n0 (Nat.le_trans Z0 K3.1) A11 g_b11 F_mUnscaled_b11 F_mScales_b11 F_mWhole_b11) hZ (hw _ (List.mem_of_getElem? (i := 43) rfl)) (hw _ (List.mem_of_getElem? (i := 40) rfl)) (by decide) (by decide)) (g := (mkF m 72 #[.val (.long p1), .second, .val (.int p2), .val (.long p3), .second, .val (.int p4), .val (.int p5), .val (.int (own_b (p5 &&& (2 : Int32)))), .val (.int (own_b (p5 &&& (4 : Int32)))), .val (.int (0 : Int32)), .val (.ref b7), .val (.ref b9), .unset, .unset, .unset] [(.int (3 : Int32)), (.ref b11), (.ref b11)])) rfl (by rw [hml]; rfl) (Steps.refl _) (a := b11) (argsL := [(.int (3 : Int32))]) (rest := [(.ref b11)]) (lenOf own_pd__I_V rfl) rfl (by show 2 * 0 + _ ≤ _; exact Nat.le_of_eq rfl) (hb hby at_72) (fun _ _ => ⟨rfl, e11, (by decide : 3 + 2 ≤ _), (by decide : 13 + 6 ≤ _)⟩)
    dsimp only [Pt.U, Pt.locs, Pt.cells, Pt.slots] at X12 l12 y12 z12 st12 hQ12
    subst l12 y12 z12
    obtain ⟨rfl, N12q, K12q, PR12⟩ := hQ12
    have N12a := Fr.app N9a N12q
    have CH4 : CHr Z own_EL s.vm h0 s.vm T12.heap := CH3.trans (CHr.keep K12q (allS (Safe.exa (hZ : Z.Warmed39 s.vm).alike A11 (by decide) (by decide)) all0) CH3.1)
    have K4 : Keep h0 T12.heap (own_fr n0 h0) := K3.trans K12q (allS (own_frq g_b11) all0)
    have f14 : BD Z n0 T12.heap b7 r6 p2 := ((Pres.ofKeep K12q (allS (NB.ofE A11 (by decide)) all0)) _ _ _ ((Pres.ofExt E11) _ _ _ ((Pres.ofKeep K9q all0) _ _ _ Bd7)))
    have f15 : Old Z n0 T12.heap := (((f10.keep K9q all0).ext E11).keep K12q (allS g_b11 all0))
    obtain ⟨cq13, kq13, q13a, q13b, q13c⟩ := isOf hZ rfl PR12.exa
    obtain ⟨_, _, ⟨T13, L13, k13, n13⟩, -, X13', hs13, hg13, ⟨Lc13, hQ13, l13, y13, z13, C13⟩, st13⟩ := X12.virtualBackS hx (y := (⟨"com/example/floatweight/floatweight/Prices", "set", "(ILjava/math/BigDecimal;)V"⟩ : MethodName)) (z := (⟨"com/example/floatweight/floatweight/Prices", "set", "(ILjava/math/BigDecimal;)V"⟩ : MethodName)) hown (mvT hZ (hw _ (List.mem_of_getElem? (i := 51) rfl))) (mvT hZ (hw _ (List.mem_of_getElem? (i := 52) rfl))) (notFace_of_selects (args := #[]) (mvT hZ (hw _ (List.mem_of_getElem? (i := 54) rfl)))) (mvT hZ (hw _ (List.mem_of_getElem? (i := 54) rfl))) (mvT hZ (hw _ (List.mem_of_getElem? (i := 53) rfl))) (by decide) (backOfSH (W := 0) (rmS0 l Z a0 hw [] hEL b11 b7 0 0 0 0 0 0 .null .null .null r6 p2 T12.heap n0 (Nat.le_trans Z0 K4.1) PR12 f14 hp6 hTP f15) hZ (hw _ (List.mem_of_getElem? (i := 55) rfl)) (hw _ (List.mem_of_getElem? (i := 40) rfl)) (by decide) (by decide) hEL CH4.1) q13a q13c (g := (mkF m 82 #[.val (.long p1), .second, .val (.int p2), .val (.long p3), .second, .val (.int p4), .val (.int p5), .val (.int (own_b (p5 &&& (2 : Int32)))), .val (.int (own_b (p5 &&& (4 : Int32)))), .val (.int (0 : Int32)), .val (.ref b7), .val (.ref b9), .val (.ref b11), .unset, .unset] [(.ref b7), (.int (0 : Int32)), (.ref b11)])) rfl (by rw [hml]; rfl) (Steps.refl _) (argsL := [(.int (0 : Int32)), (.ref b7)]) (rest := []) (lenOf own_pd__ILjava_math_BigDecimal__V rfl) rfl (by show 2 * 0 + _ ≤ _; exact Nat.le_of_eq rfl) (hb hby at_82) (fun _ _ => ⟨rfl, rfl, (by decide : 5 + 3 ≤ _), (by decide : 19 + 29 ≤ _)⟩)
    dsimp only [Pt.U, Pt.locs, Pt.cells, Pt.slots] at X13' l13 y13 z13 st13 hQ13 C13 hs13 hg13
    subst l13 y13 z13
    obtain ⟨X13, hS13, hZ13, hown13⟩ := rebS hS0 (Nat.zero_le _) X13' hs13 hg13 hZ hown
    obtain ⟨u13, c13, w13, rfl, N13q, K13q, PR13, H13, Ps13⟩ := hQ13
    have N13a := Fr.app N12a N13q
    have CH5 : CHr Z own_EL s.vm h0 T13.vm T13.heap := CH4.trans C13
    have K5 : Keep h0 T13.heap (own_fr n0 h0) := K4.trans K13q (fun x_ hx_ => own_frq (own_frg x_ hx_))
    have f17 : BD Z n0 T13.heap b9 r8 p4 := (Ps13 _ _ _ ((Pres.ofKeep K12q (allS (NB.ofE A11 (by decide)) all0)) _ _ _ ((Pres.ofExt E11) _ _ _ Bd9)))
    have f18 : Old Z n0 T13.heap := (f15.keep K13q own_frg)
    obtain ⟨cq16, kq16, q16a, q16b, q16c⟩ := isOf hZ13 rfl PR13.exa
    obtain ⟨_, _, ⟨T16, L16, k16, n16⟩, -, X16', hs16, hg16, ⟨Lc16, hQ16, l16, y16, z16, C16⟩, st16⟩ := X13.virtualBackS hx (y := (⟨"com/example/floatweight/floatweight/Prices", "set", "(ILjava/math/BigDecimal;)V"⟩ : MethodName)) (z := (⟨"com/example/floatweight/floatweight/Prices", "set", "(ILjava/math/BigDecimal;)V"⟩ : MethodName)) hown13 (mvT hZ13 (hw _ (List.mem_of_getElem? (i := 51) rfl))) (mvT hZ13 (hw _ (List.mem_of_getElem? (i := 52) rfl))) (notFace_of_selects (args := #[]) (mvT hZ13 (hw _ (List.mem_of_getElem? (i := 54) rfl)))) (mvT hZ13 (hw _ (List.mem_of_getElem? (i := 54) rfl))) (mvT hZ13 (hw _ (List.mem_of_getElem? (i := 53) rfl))) (by decide) (backOfSH (W := 0) (rmS0 l Z a0 hw [] hEL b11 b9 u13 0 0 c13 0 0 w13 .null .null r8 p4 T13.heap n0 (Nat.le_trans Z0 K5.1) PR13 f17 hp8 hTP f18) hZ13 (hw _ (List.mem_of_getElem? (i := 55) rfl)) (hw _ (List.mem_of_getElem? (i := 40) rfl)) (by decide) (by decide) hEL CH5.1) q16a q16c (g := (mkF m 91 #[.val (.long p1), .second, .val (.int p2), .val (.long p3), .second, .val (.int p4), .val (.int p5), .val (.int (own_b (p5 &&& (2 : Int32)))), .val (.int (own_b (p5 &&& (4 : Int32)))), .val (.int (0 : Int32)), .val (.ref b7), .val (.ref b9), .val (.ref b11), .unset, .unset] [(.ref b9), (.int (0 : Int32)), (.ref b11)])) rfl (by rw [hml]; rfl) (Steps.refl _) (argsL := [(.int (0 : Int32)), (.ref b9)]) (rest := []) (lenOf own_pd__ILjava_math_BigDecimal__V rfl) rfl (by show 2 * 0 + _ ≤ _; exact Nat.le_of_eq rfl) (hb hby at_91) (fun _ _ => ⟨rfl, rfl, (by decide : 8 + 3 ≤ _), (by decide : 48 + 29 ≤ _)⟩)
    dsimp only [Pt.U, Pt.locs, Pt.cells, Pt.slots] at X16' l16 y16 z16 st16 hQ16 C16 hs16 hg16
    subst l16 y16 z16
    obtain ⟨X16, hS16, hZ16, hown16⟩ := rebS hS13 (Nat.le_refl _) X16' hs16 hg16 hZ13 hown13
    obtain ⟨u16, c16, w16, rfl, N16q, K16q, PR16, H16, Ps16⟩ := hQ16
    have N16a := Fr.app N13a N16q
    have CH6 : CHr Z own_EL s.vm h0 T16.vm T16.heap := CH5.trans C16
    have K6 : Keep h0 T16.heap (own_fr n0 h0) := K5.trans K16q (fun x_ hx_ => own_frq (own_frg x_ hx_))
    have f20 : Old Z n0 T16.heap := (f18.keep K16q own_frg)
    obtain ⟨cq19, kq19, q19a, q19b, q19c⟩ := isOf hZ16 rfl PR16.exa
    obtain ⟨_, _, ⟨T19, L19, k19, n19⟩, -, X19, ⟨Lc19, hQ19, l19, y19, z19⟩, st19⟩ := X16.virtualBack hx (y := (⟨"com/example/floatweight/floatweight/Prices", "get", "(I)Ljava/math/BigDecimal;"⟩ : MethodName)) (z := (⟨"com/example/floatweight/floatweight/Prices", "get", "(I)Ljava/math/BigDecimal;"⟩ : MethodName)) hown16 (mvT hZ16 (hw _ (List.mem_of_getElem? (i := 124) rfl))) (mvT hZ16 (hw _ (List.mem_of_getElem? (i := 125) rfl))) (notFace_of_selects (args := #[]) (mvT hZ16 (hw _ (List.mem_of_getElem? (i := 127) rfl)))) (mvT hZ16 (hw _ (List.mem_of_getElem? (i := 127) rfl))) (mvT hZ16 (hw _ (List.mem_of_getElem? (i := 126) rfl))) (by decide) (backOf (W := 0) (rmG0 l Z a0 hw [] b11 u16 0 0 c16 0 0 w16 .null .null r8 p4 T16.heap n0 (Nat.le_trans Z0 K6.1) PR16 H16 hp8 hZT f20) hZ16 (hw _ (List.mem_of_getElem? (i := 128) rfl)) (hw _ (List.mem_of_getElem? (i := 40) rfl)) (by decide) (by decide)) q19a q19c (g := (mkF m 125 #[.val (.long p1), .second, .val (.int p2), .val (.long p3), .second, .val (.int p4), .val (.int p5), .val (.int (own_b (p5 &&& (2 : Int32)))), .val (.int (own_b (p5 &&& (4 : Int32)))), .val (.int (0 : Int32)), .val (.ref b7), .val (.ref b9), .val (.ref b11), .val (.ref b9), .val .null] [(.int (0 : Int32)), (.ref b11)])) rfl (by rw [hml]; rfl) (Steps.refl _) (argsL := [(.int (0 : Int32))]) (rest := []) (lenOf own_pd__I_Ljava_math_BigDecimal_ rfl) rfl (by show 2 * 0 + _ ≤ _; exact Nat.le_of_eq rfl) (hb hby at_125) (fun _ _ => ⟨rfl, rfl, (by decide : 11 + 1 ≤ _), (by decide : 77 + 5 ≤ _)⟩)
    dsimp only [Pt.U, Pt.locs, Pt.cells, Pt.slots] at X19 l19 y19 z19 st19 hQ19
    subst l19 y19 z19
    obtain ⟨b19, rfl, N19q, K19q, Bd19⟩ := hQ19
    have N19a := Fr.app N16a N19q
    have CH7 : CHr Z own_EL s.vm h0 T16.vm T19.heap := CH6.trans (CHr.keep K19q all0 CH6.1)
    have K7 : Keep h0 T19.heap (own_fr n0 h0) := K6.trans K19q all0
    have f22 : BD Z n0 T19.heap b9 r8 p4 := ((Pres.ofKeep K19q all0) _ _ _ (Ps16 _ _ _ f17))
    obtain ⟨_, _, ⟨T21, L21, k21, n21⟩, -, X21, ⟨Lc21, hQ21, l21, y21, z21⟩, st21⟩ := Jvm.LawKit.callS X19 hx (y := (⟨"com/example/floatweight/floatweight/PricesGetPinLaw", "same", "(Ljava/math/BigDecimal;Ljava/math/BigDecimal;)Z"⟩ : MethodName)) hown16 (mvT hZ16 (hw _ (List.mem_of_getElem? (i := 129) rfl))) (mvT hZ16 (hw _ (List.mem_of_getElem? (i := 130) rfl))) (mvT hZ16 (hw _ (List.mem_of_getElem? (i := 2) rfl))) (mvT hZ16 (hw _ (List.mem_of_getElem? (i := 131) rfl))) (by decide) (backOf (W := 0) (rmSm l Z a0 hw [] b19 b9 r8 p4 T19.heap n0 (Nat.le_trans Z0 K7.1) Bd19 f22 hp8) hZ16 (hw _ (List.mem_of_getElem? (i := 131) rfl)) (hw _ (List.mem_of_getElem? (i := 2) rfl)) (by decide) (by decide)) (g := (mkF m 130 #[.val (.long p1), .second, .val (.int p2), .val (.long p3), .second, .val (.int p4), .val (.int p5), .val (.int (own_b (p5 &&& (2 : Int32)))), .val (.int (own_b (p5 &&& (4 : Int32)))), .val (.int (0 : Int32)), .val (.ref b7), .val (.ref b9), .val (.ref b11), .val (.ref b9), .val .null] [(.ref b9), (.ref b19)])) rfl (by rw [hml]; rfl) (argsL := [(.ref b19), (.ref b9)]) (rest := []) (lenOf own_pd__Ljava_math_BigDecimal_Ljava_math_BigDecimal__Z rfl) rfl (by show 2 * 0 + _ ≤ _; exact Nat.le_of_eq rfl) (hb hby at_130) (fun _ _ => ⟨rfl, rfl, (by decide : 12 + 0 ≤ _), (by decide : 82 + 0 ≤ _)⟩)
    dsimp only [Pt.U, Pt.locs, Pt.cells, Pt.slots] at X21 l21 y21 z21 st21 hQ21
    subst l21 y21 z21
    obtain ⟨rfl, N21q, e21q⟩ := hQ21
    have N21a := Fr.app N19a N21q
    have f24 : PRS Z n0 T19.heap b11 u16 0 0 c16 0 0 w16 .null .null := (PR16.keep0 K19q)
    have f25 : Old Z n0 T19.heap := (f20.keep K19q all0)
    have f26 : Exa Z T19.heap b11 "com/example/floatweight/floatweight/Prices" := (PR16.exa.keep K19q)
    obtain ⟨cq23, kq23, q23a, q23b, q23c⟩ := isOf hZ16 e21q f26
    obtain ⟨_, _, ⟨T23, L23, k23, n23⟩, -, X23, ⟨Lc23, hQ23, l23, y23, z23⟩, st23⟩ := X21.virtualBack hx (y := (⟨"com/example/floatweight/floatweight/Prices", "get", "(I)Ljava/math/BigDecimal;"⟩ : MethodName)) (z := (⟨"com/example/floatweight/floatweight/Prices", "get", "(I)Ljava/math/BigDecimal;"⟩ : MethodName)) hown16 (mvT hZ16 (hw _ (List.mem_of_getElem? (i := 124) rfl))) (mvT hZ16 (hw _ (List.mem_of_getElem? (i := 125) rfl))) (notFace_of_selects (args := #[]) (mvT hZ16 (hw _ (List.mem_of_getElem? (i := 127) rfl)))) (mvT hZ16 (hw _ (List.mem_of_getElem? (i := 127) rfl))) (mvT hZ16 (hw _ (List.mem_of_getElem? (i := 126) rfl))) (by decide) (backOf (W := 0) (rmGn1 l Z a0 hw [] b11 u16 0 c16 0 0 w16 .null T19.heap n0 (Nat.le_trans Z0 K7.1) f24 hZT f25) hZ16 (hw _ (List.mem_of_getElem? (i := 128) rfl)) (hw _ (List.mem_of_getElem? (i := 40) rfl)) (by decide) (by decide)) q23a q23c (g := (mkF m 139 #[.val (.long p1), .second, .val (.int p2), .val (.long p3), .second, .val (.int p4), .val (.int p5), .val (.int (own_b (p5 &&& (2 : Int32)))), .val (.int (own_b (p5 &&& (4 : Int32)))), .val (.int (0 : Int32)), .val (.ref b7), .val (.ref b9), .val (.ref b11), .val (.ref b9), .val .null] [(.int (1 : Int32)), (.ref b11)])) rfl (by rw [hml]; rfl) (Steps.refl _) (argsL := [(.int (1 : Int32))]) (rest := []) (lenOf own_pd__I_Ljava_math_BigDecimal_ rfl) rfl (by show 2 * 0 + _ ≤ _; exact Nat.le_of_eq rfl) (hb hby at_139) (fun _ _ => ⟨rfl, e21q, (by decide : 12 + 1 ≤ _), (by decide : 82 + 5 ≤ _)⟩)
    dsimp only [Pt.U, Pt.locs, Pt.cells, Pt.slots] at X23 l23 y23 z23 st23 hQ23
    subst l23 y23 z23
    obtain ⟨rfl, N23q, e23q⟩ := hQ23
    have N23a := Fr.app N21a N23q
    obtain ⟨_, _, ⟨T27, L27, k27, n27⟩, -, X27, ⟨Lc27, hQ27, l27, y27, z27⟩, st27⟩ := Jvm.LawKit.callS X23 hx (y := (⟨"com/example/floatweight/floatweight/PricesGetPinLaw", "same", "(Ljava/math/BigDecimal;Ljava/math/BigDecimal;)Z"⟩ : MethodName)) hown16 (mvT hZ16 (hw _ (List.mem_of_getElem? (i := 129) rfl))) (mvT hZ16 (hw _ (List.mem_of_getElem? (i := 130) rfl))) (mvT hZ16 (hw _ (List.mem_of_getElem? (i := 2) rfl))) (mvT hZ16 (hw _ (List.mem_of_getElem? (i := 131) rfl))) (by decide) (backOf (W := 0) (rmSn l Z a0 hw []  T19.heap n0 (Nat.le_trans Z0 K7.1) ) hZ16 (hw _ (List.mem_of_getElem? (i := 131) rfl)) (hw _ (List.mem_of_getElem? (i := 2) rfl)) (by decide) (by decide)) (g := (mkF m 144 #[.val (.long p1), .second, .val (.int p2), .val (.long p3), .second, .val (.int p4), .val (.int p5), .val (.int (own_b (p5 &&& (2 : Int32)))), .val (.int (own_b (p5 &&& (4 : Int32)))), .val (.int (0 : Int32)), .val (.ref b7), .val (.ref b9), .val (.ref b11), .val (.ref b9), .val .null] [.null, .null])) rfl (by rw [hml]; rfl) (argsL := [.null, .null]) (rest := []) (lenOf own_pd__Ljava_math_BigDecimal_Ljava_math_BigDecimal__Z rfl) rfl (by show 2 * 0 + _ ≤ _; exact Nat.le_of_eq rfl) (hb hby at_144) (fun _ _ => ⟨rfl, e23q, (by decide : 13 + 0 ≤ _), (by decide : 87 + 0 ≤ _)⟩)
    dsimp only [Pt.U, Pt.locs, Pt.cells, Pt.slots] at X27 l27 y27 z27 st27 hQ27
    subst l27 y27 z27
    obtain ⟨rfl, N27q, e27q⟩ := hQ27
    have N27a := Fr.app N23a N27q
    obtain ⟨cq28, kq28, q28a, q28b, q28c⟩ := isOf hZ16 e27q f26
    obtain ⟨_, _, ⟨T28, L28, k28, n28⟩, -, X28, ⟨Lc28, hQ28, l28, y28, z28⟩, st28⟩ := X27.virtualBack hx (y := (⟨"com/example/floatweight/floatweight/Prices", "get", "(I)Ljava/math/BigDecimal;"⟩ : MethodName)) (z := (⟨"com/example/floatweight/floatweight/Prices", "get", "(I)Ljava/math/BigDecimal;"⟩ : MethodName)) hown16 (mvT hZ16 (hw _ (List.mem_of_getElem? (i := 124) rfl))) (mvT hZ16 (hw _ (List.mem_of_getElem? (i := 125) rfl))) (notFace_of_selects (args := #[]) (mvT hZ16 (hw _ (List.mem_of_getElem? (i := 127) rfl)))) (mvT hZ16 (hw _ (List.mem_of_getElem? (i := 127) rfl))) (mvT hZ16 (hw _ (List.mem_of_getElem? (i := 126) rfl))) (by decide) (backOf (W := 0) (rmGn2 l Z a0 hw [] b11 u16 0 c16 0 0 w16 .null T19.heap n0 (Nat.le_trans Z0 K7.1) f24 hZT f25) hZ16 (hw _ (List.mem_of_getElem? (i := 128) rfl)) (hw _ (List.mem_of_getElem? (i := 40) rfl)) (by decide) (by decide)) q28a q28c (g := (mkF m 153 #[.val (.long p1), .second, .val (.int p2), .val (.long p3), .second, .val (.int p4), .val (.int p5), .val (.int (own_b (p5 &&& (2 : Int32)))), .val (.int (own_b (p5 &&& (4 : Int32)))), .val (.int (0 : Int32)), .val (.ref b7), .val (.ref b9), .val (.ref b11), .val (.ref b9), .val .null] [(.int (2 : Int32)), (.ref b11)])) rfl (by rw [hml]; rfl) (Steps.refl _) (argsL := [(.int (2 : Int32))]) (rest := []) (lenOf own_pd__I_Ljava_math_BigDecimal_ rfl) rfl (by show 2 * 0 + _ ≤ _; exact Nat.le_of_eq rfl) (hb hby at_153) (fun _ _ => ⟨rfl, e27q, (by decide : 13 + 1 ≤ _), (by decide : 87 + 5 ≤ _)⟩)
    dsimp only [Pt.U, Pt.locs, Pt.cells, Pt.slots] at X28 l28 y28 z28 st28 hQ28
    subst l28 y28 z28
    obtain ⟨rfl, N28q, e28q⟩ := hQ28
    have N28a := Fr.app N27a N28q
    obtain ⟨_, _, ⟨T29, L29, k29, n29⟩, -, X29, ⟨Lc29, hQ29, l29, y29, z29⟩, st29⟩ := Jvm.LawKit.callS X28 hx (y := (⟨"com/example/floatweight/floatweight/PricesGetPinLaw", "same", "(Ljava/math/BigDecimal;Ljava/math/BigDecimal;)Z"⟩ : MethodName)) hown16 (mvT hZ16 (hw _ (List.mem_of_getElem? (i := 129) rfl))) (mvT hZ16 (hw _ (List.mem_of_getElem? (i := 130) rfl))) (mvT hZ16 (hw _ (List.mem_of_getElem? (i := 2) rfl))) (mvT hZ16 (hw _ (List.mem_of_getElem? (i := 131) rfl))) (by decide) (backOf (W := 0) (rmSn l Z a0 hw []  T19.heap n0 (Nat.le_trans Z0 K7.1) ) hZ16 (hw _ (List.mem_of_getElem? (i := 131) rfl)) (hw _ (List.mem_of_getElem? (i := 2) rfl)) (by decide) (by decide)) (g := (mkF m 157 #[.val (.long p1), .second, .val (.int p2), .val (.long p3), .second, .val (.int p4), .val (.int p5), .val (.int (own_b (p5 &&& (2 : Int32)))), .val (.int (own_b (p5 &&& (4 : Int32)))), .val (.int (0 : Int32)), .val (.ref b7), .val (.ref b9), .val (.ref b11), .val (.ref b9), .val .null] [.null, .null])) rfl (by rw [hml]; rfl) (argsL := [.null, .null]) (rest := []) (lenOf own_pd__Ljava_math_BigDecimal_Ljava_math_BigDecimal__Z rfl) rfl (by show 2 * 0 + _ ≤ _; exact Nat.le_of_eq rfl) (hb hby at_157) (fun _ _ => ⟨rfl, e28q, (by decide : 14 + 0 ≤ _), (by decide : 92 + 0 ≤ _)⟩)
    dsimp only [Pt.U, Pt.locs, Pt.cells, Pt.slots] at X29 l29 y29 z29 st29 hQ29
    subst l29 y29 z29
    obtain ⟨rfl, N29q, e29q⟩ := hQ29
    have N29a := Fr.app N28a N29q
    have hk_30 := Nat.le_trans (Nat.le_refl _) ((Keep.refl T16.heap []).trans K19q all0).1
    obtain ⟨fs, hr, hrun, hended, hend⟩ := X29.leaveW hS16 (by rw [e29q]; exact hk_30) (v := some (.int (1 : Int32))) (fun h => by rw [Bd.returns] at h; cases h)
    refine ⟨_, _, pre0 _ ?_, hrun, hended, _, _, rfl, ?_, ?_, hend.1, hend.2.1, hend.2.2.1, hend.2.2.2.mono (by decide) (by decide)⟩
    · refine cut5 _ ?_
      show Steps p.tables e below (s₁.setTop (mkF m 32 #[.val (.long p1), .second, .val (.int p2), .val (.long p3), .second, .val (.int p4), .val (.int p5), .val (.int (own_b (p5 &&& (2 : Int32)))), .val (.int (own_b (p5 &&& (4 : Int32)))), .unset, .unset, .unset, .unset, .unset, .unset] [(.int (p5 &&& (1 : Int32)))])) _
      refine XS.ifYes X0.here hx rfl (pc0 := 32) (pc' := 39) rfl (hb hby at_32) rfl ((if0 _ _).trans (teq (c9 : (p5 &&& (1 : Int32)) = (0 : Int32))).1) (by decide) (by decide) ?_
      refine XS.iconst X0.here hx rfl (hb hby at_39) ?_
      refine XS.istore X0.here hx rfl (hb hby at_40) rfl (l' := #[.val (.long p1), .second, .val (.int p2), .val (.long p3), .second, .val (.int p4), .val (.int p5), .val (.int (own_b (p5 &&& (2 : Int32)))), .val (.int (own_b (p5 &&& (4 : Int32)))), .val (.int (0 : Int32)), .unset, .unset, .unset, .unset, .unset]) rfl ?_
      show Steps p.tables e below (s₁.setTop (mkF m 42 #[.val (.long p1), .second, .val (.int p2), .val (.long p3), .second, .val (.int p4), .val (.int p5), .val (.int (own_b (p5 &&& (2 : Int32)))), .val (.int (own_b (p5 &&& (4 : Int32)))), .val (.int (0 : Int32)), .unset, .unset, .unset, .unset, .unset] [])) _
      refine XS.lloadN X0.here hx rfl (hb hby at_42) rfl ?_
      refine XS.iload X0.here hx rfl (hb hby at_43) rfl ?_
      show Steps p.tables e below (s₁.setTop (mkF m 45 #[.val (.long p1), .second, .val (.int p2), .val (.long p3), .second, .val (.int p4), .val (.int p5), .val (.int (own_b (p5 &&& (2 : Int32)))), .val (.int (own_b (p5 &&& (4 : Int32)))), .val (.int (0 : Int32)), .unset, .unset, .unset, .unset, .unset] [(.int (own_b (p5 &&& (2 : Int32)))), (.long p1)])) _
      refine st6 _ ?_
      refine XS.iloadN X6.here hx rfl (hb hby at_48) rfl ?_
      show Steps p.tables e below (T6.setTop (mkF m 49 #[.val (.long p1), .second, .val (.int p2), .val (.long p3), .second, .val (.int p4), .val (.int p5), .val (.int (own_b (p5 &&& (2 : Int32)))), .val (.int (own_b (p5 &&& (4 : Int32)))), .val (.int (0 : Int32)), .unset, .unset, .unset, .unset, .unset] [(.int p2), (.long r6)])) _
      refine st7 _ ?_
      refine XS.astore X7.here hx rfl (hb hby at_52) rfl rfl (l' := #[.val (.long p1), .second, .val (.int p2), .val (.long p3), .second, .val (.int p4), .val (.int p5), .val (.int (own_b (p5 &&& (2 : Int32)))), .val (.int (own_b (p5 &&& (4 : Int32)))), .val (.int (0 : Int32)), .val (.ref b7), .unset, .unset, .unset, .unset]) rfl ?_
      refine XS.lloadN X7.here hx rfl (hb hby at_54) rfl ?_
      show Steps p.tables e below (T7.setTop (mkF m 55 #[.val (.long p1), .second, .val (.int p2), .val (.long p3), .second, .val (.int p4), .val (.int p5), .val (.int (own_b (p5 &&& (2 : Int32)))), .val (.int (own_b (p5 &&& (4 : Int32)))), .val (.int (0 : Int32)), .val (.ref b7), .unset, .unset, .unset, .unset] [(.long p3)])) _
      refine XS.iload X7.here hx rfl (hb hby at_55) rfl ?_
      show Steps p.tables e below (T7.setTop (mkF m 57 #[.val (.long p1), .second, .val (.int p2), .val (.long p3), .second, .val (.int p4), .val (.int p5), .val (.int (own_b (p5 &&& (2 : Int32)))), .val (.int (own_b (p5 &&& (4 : Int32)))), .val (.int (0 : Int32)), .val (.ref b7), .unset, .unset, .unset, .unset] [(.int (own_b (p5 &&& (4 : Int32)))), (.long p3)])) _
      refine st8 _ ?_
      refine XS.iload X8.here hx rfl (hb hby at_60) rfl ?_
      show Steps p.tables e below (T8.setTop (mkF m 62 #[.val (.long p1), .second, .val (.int p2), .val (.long p3), .second, .val (.int p4), .val (.int p5), .val (.int (own_b (p5 &&& (2 : Int32)))), .val (.int (own_b (p5 &&& (4 : Int32)))), .val (.int (0 : Int32)), .val (.ref b7), .unset, .unset, .unset, .unset] [(.int p4), (.long r8)])) _
      refine st9 _ ?_
      refine XS.astore X9.here hx rfl (hb hby at_65) rfl rfl (l' := #[.val (.long p1), .second, .val (.int p2), .val (.long p3), .second, .val (.int p4), .val (.int p5), .val (.int (own_b (p5 &&& (2 : Int32)))), .val (.int (own_b (p5 &&& (4 : Int32)))), .val (.int (0 : Int32)), .val (.ref b7), .val (.ref b9), .unset, .unset, .unset]) rfl ?_
      show Steps p.tables e below (T9.setTop (mkF m 67 #[.val (.long p1), .second, .val (.int p2), .val (.long p3), .second, .val (.int p4), .val (.int p5), .val (.int (own_b (p5 &&& (2 : Int32)))), .val (.int (own_b (p5 &&& (4 : Int32)))), .val (.int (0 : Int32)), .val (.ref b7), .val (.ref b9), .unset, .unset, .unset] [])) _
      refine st11 _ ?_
      refine XS.dup X11.here hx rfl (hb hby at_70) rfl rfl ?_
      refine XS.iconst X11.here hx rfl (hb hby at_71) ?_
      show Steps p.tables e below (T11.setTop (mkF m 72 #[.val (.long p1), .second, .val (.int p2), .val (.long p3), .second, .val (.int p4), .val (.int p5), .val (.int (own_b (p5 &&& (2 : Int32)))), .val (.int (own_b (p5 &&& (4 : Int32)))), .val (.int (0 : Int32)), .val (.ref b7), .val (.ref b9), .unset, .unset, .unset] [(.int (3 : Int32)), (.ref b11), (.ref b11)])) _
      refine st12.trans ?_
      refine XS.astore X12.here hx rfl (hb hby at_75) rfl rfl (l' := #[.val (.long p1), .second, .val (.int p2), .val (.long p3), .second, .val (.int p4), .val (.int p5), .val (.int (own_b (p5 &&& (2 : Int32)))), .val (.int (own_b (p5 &&& (4 : Int32)))), .val (.int (0 : Int32)), .val (.ref b7), .val (.ref b9), .val (.ref b11), .unset, .unset]) rfl ?_
      refine XS.aload X12.here hx rfl (hb hby at_77) rfl rfl ?_
      show Steps p.tables e below (T12.setTop (mkF m 79 #[.val (.long p1), .second, .val (.int p2), .val (.long p3), .second, .val (.int p4), .val (.int p5), .val (.int (own_b (p5 &&& (2 : Int32)))), .val (.int (own_b (p5 &&& (4 : Int32)))), .val (.int (0 : Int32)), .val (.ref b7), .val (.ref b9), .val (.ref b11), .unset, .unset] [(.ref b11)])) _
      refine XS.iconst X12.here hx rfl (hb hby at_79) ?_
      refine XS.aload X12.here hx rfl (hb hby at_80) rfl rfl ?_
      show Steps p.tables e below (T12.setTop (mkF m 82 #[.val (.long p1), .second, .val (.int p2), .val (.long p3), .second, .val (.int p4), .val (.int p5), .val (.int (own_b (p5 &&& (2 : Int32)))), .val (.int (own_b (p5 &&& (4 : Int32)))), .val (.int (0 : Int32)), .val (.ref b7), .val (.ref b9), .val (.ref b11), .unset, .unset] [(.ref b7), (.int (0 : Int32)), (.ref b11)])) _
      refine st13.trans ?_
      refine XS.aload X13.here hx rfl (hb hby at_85) rfl rfl ?_
      refine XS.iload X13.here hx rfl (hb hby at_87) rfl ?_
      show Steps p.tables e below (T13.setTop (mkF m 89 #[.val (.long p1), .second, .val (.int p2), .val (.long p3), .second, .val (.int p4), .val (.int p5), .val (.int (own_b (p5 &&& (2 : Int32)))), .val (.int (own_b (p5 &&& (4 : Int32)))), .val (.int (0 : Int32)), .val (.ref b7), .val (.ref b9), .val (.ref b11), .unset, .unset] [(.int (0 : Int32)), (.ref b11)])) _
      refine XS.aload X13.here hx rfl (hb hby at_89) rfl rfl ?_
      show Steps p.tables e below (T13.setTop (mkF m 91 #[.val (.long p1), .second, .val (.int p2), .val (.long p3), .second, .val (.int p4), .val (.int p5), .val (.int (own_b (p5 &&& (2 : Int32)))), .val (.int (own_b (p5 &&& (4 : Int32)))), .val (.int (0 : Int32)), .val (.ref b7), .val (.ref b9), .val (.ref b11), .unset, .unset] [(.ref b9), (.int (0 : Int32)), (.ref b11)])) _
      refine st16.trans ?_
      refine XS.iload X16.here hx rfl (hb hby at_94) rfl ?_
      show Steps p.tables e below (T16.setTop (mkF m 96 #[.val (.long p1), .second, .val (.int p2), .val (.long p3), .second, .val (.int p4), .val (.int p5), .val (.int (own_b (p5 &&& (2 : Int32)))), .val (.int (own_b (p5 &&& (4 : Int32)))), .val (.int (0 : Int32)), .val (.ref b7), .val (.ref b9), .val (.ref b11), .unset, .unset] [(.int (0 : Int32))])) _
      refine XS.ifNo X16.here hx rfl (hb hby at_96) rfl ((if0 _ _).trans (teq (rfl : (0 : Int32) = (0 : Int32))).2) ?_
      refine XS.aload X16.here hx rfl (hb hby at_99) rfl rfl ?_
      refine XS.goto X16.here hx rfl (pc0 := 101) (pc' := 106) rfl (hb hby at_101) (by decide) (by decide) ?_
      show Steps p.tables e below (T16.setTop (mkF m 106 #[.val (.long p1), .second, .val (.int p2), .val (.long p3), .second, .val (.int p4), .val (.int p5), .val (.int (own_b (p5 &&& (2 : Int32)))), .val (.int (own_b (p5 &&& (4 : Int32)))), .val (.int (0 : Int32)), .val (.ref b7), .val (.ref b9), .val (.ref b11), .unset, .unset] [(.ref b9)])) _
      refine XS.astore X16.here hx rfl (hb hby at_106) rfl rfl (l' := #[.val (.long p1), .second, .val (.int p2), .val (.long p3), .second, .val (.int p4), .val (.int p5), .val (.int (own_b (p5 &&& (2 : Int32)))), .val (.int (own_b (p5 &&& (4 : Int32)))), .val (.int (0 : Int32)), .val (.ref b7), .val (.ref b9), .val (.ref b11), .val (.ref b9), .unset]) rfl ?_
      refine XS.iload X16.here hx rfl (hb hby at_108) rfl ?_
      refine XS.iconst X16.here hx rfl (hb hby at_110) ?_
      show Steps p.tables e below (T16.setTop (mkF m 111 #[.val (.long p1), .second, .val (.int p2), .val (.long p3), .second, .val (.int p4), .val (.int p5), .val (.int (own_b (p5 &&& (2 : Int32)))), .val (.int (own_b (p5 &&& (4 : Int32)))), .val (.int (0 : Int32)), .val (.ref b7), .val (.ref b9), .val (.ref b11), .val (.ref b9), .unset] [(.int (1 : Int32)), (.int (0 : Int32))])) _
      refine XS.icmpYes X16.here hx rfl (pc0 := 111) (pc' := 119) rfl (hb hby at_111) rfl (feq (by decide : ¬ ((0 : Int32) = (1 : Int32)))).2 (by decide) (by decide) ?_
      refine XS.aconstNull X16.here hx rfl (hb hby at_119) ?_
      refine XS.astore X16.here hx rfl (hb hby at_120) rfl rfl (l' := #[.val (.long p1), .second, .val (.int p2), .val (.long p3), .second, .val (.int p4), .val (.int p5), .val (.int (own_b (p5 &&& (2 : Int32)))), .val (.int (own_b (p5 &&& (4 : Int32)))), .val (.int (0 : Int32)), .val (.ref b7), .val (.ref b9), .val (.ref b11), .val (.ref b9), .val .null]) rfl ?_
      show Steps p.tables e below (T16.setTop (mkF m 122 #[.val (.long p1), .second, .val (.int p2), .val (.long p3), .second, .val (.int p4), .val (.int p5), .val (.int (own_b (p5 &&& (2 : Int32)))), .val (.int (own_b (p5 &&& (4 : Int32)))), .val (.int (0 : Int32)), .val (.ref b7), .val (.ref b9), .val (.ref b11), .val (.ref b9), .val .null] [])) _
      refine XS.aload X16.here hx rfl (hb hby at_122) rfl rfl ?_
      refine XS.iconst X16.here hx rfl (hb hby at_124) ?_
      show Steps p.tables e below (T16.setTop (mkF m 125 #[.val (.long p1), .second, .val (.int p2), .val (.long p3), .second, .val (.int p4), .val (.int p5), .val (.int (own_b (p5 &&& (2 : Int32)))), .val (.int (own_b (p5 &&& (4 : Int32)))), .val (.int (0 : Int32)), .val (.ref b7), .val (.ref b9), .val (.ref b11), .val (.ref b9), .val .null] [(.int (0 : Int32)), (.ref b11)])) _
      refine st19.trans ?_
      refine XS.aload X19.here hx rfl (hb hby at_128) rfl rfl ?_
      show Steps p.tables e below (T19.setTop (mkF m 130 #[.val (.long p1), .second, .val (.int p2), .val (.long p3), .second, .val (.int p4), .val (.int p5), .val (.int (own_b (p5 &&& (2 : Int32)))), .val (.int (own_b (p5 &&& (4 : Int32)))), .val (.int (0 : Int32)), .val (.ref b7), .val (.ref b9), .val (.ref b11), .val (.ref b9), .val .null] [(.ref b9), (.ref b19)])) _
      refine st21 _ ?_
      show Steps p.tables e below (T21.setTop (mkF m 133 #[.val (.long p1), .second, .val (.int p2), .val (.long p3), .second, .val (.int p4), .val (.int p5), .val (.int (own_b (p5 &&& (2 : Int32)))), .val (.int (own_b (p5 &&& (4 : Int32)))), .val (.int (0 : Int32)), .val (.ref b7), .val (.ref b9), .val (.ref b11), .val (.ref b9), .val .null] [(.int (1 : Int32))])) _
      refine XS.ifNo X21.here hx rfl (hb hby at_133) rfl ((if0 _ _).trans (feq (by decide : ¬ ((1 : Int32) = (0 : Int32)))).1) ?_
      refine XS.aload X21.here hx rfl (hb hby at_136) rfl rfl ?_
      refine XS.iconst X21.here hx rfl (hb hby at_138) ?_
      show Steps p.tables e below (T21.setTop (mkF m 139 #[.val (.long p1), .second, .val (.int p2), .val (.long p3), .second, .val (.int p4), .val (.int p5), .val (.int (own_b (p5 &&& (2 : Int32)))), .val (.int (own_b (p5 &&& (4 : Int32)))), .val (.int (0 : Int32)), .val (.ref b7), .val (.ref b9), .val (.ref b11), .val (.ref b9), .val .null] [(.int (1 : Int32)), (.ref b11)])) _
      refine st23.trans ?_
      refine XS.aload X23.here hx rfl (hb hby at_142) rfl rfl ?_
      show Steps p.tables e below (T23.setTop (mkF m 144 #[.val (.long p1), .second, .val (.int p2), .val (.long p3), .second, .val (.int p4), .val (.int p5), .val (.int (own_b (p5 &&& (2 : Int32)))), .val (.int (own_b (p5 &&& (4 : Int32)))), .val (.int (0 : Int32)), .val (.ref b7), .val (.ref b9), .val (.ref b11), .val (.ref b9), .val .null] [.null, .null])) _
      refine st27 _ ?_
      show Steps p.tables e below (T27.setTop (mkF m 147 #[.val (.long p1), .second, .val (.int p2), .val (.long p3), .second, .val (.int p4), .val (.int p5), .val (.int (own_b (p5 &&& (2 : Int32)))), .val (.int (own_b (p5 &&& (4 : Int32)))), .val (.int (0 : Int32)), .val (.ref b7), .val (.ref b9), .val (.ref b11), .val (.ref b9), .val .null] [(.int (1 : Int32))])) _
      refine XS.ifNo X27.here hx rfl (hb hby at_147) rfl ((if0 _ _).trans (feq (by decide : ¬ ((1 : Int32) = (0 : Int32)))).1) ?_
      refine XS.aload X27.here hx rfl (hb hby at_150) rfl rfl ?_
      refine XS.iconst X27.here hx rfl (hb hby at_152) ?_
      show Steps p.tables e below (T27.setTop (mkF m 153 #[.val (.long p1), .second, .val (.int p2), .val (.long p3), .second, .val (.int p4), .val (.int p5), .val (.int (own_b (p5 &&& (2 : Int32)))), .val (.int (own_b (p5 &&& (4 : Int32)))), .val (.int (0 : Int32)), .val (.ref b7), .val (.ref b9), .val (.ref b11), .val (.ref b9), .val .null] [(.int (2 : Int32)), (.ref b11)])) _
      refine st28.trans ?_
      refine XS.aconstNull X28.here hx rfl (hb hby at_156) ?_
      show Steps p.tables e below (T28.setTop (mkF m 157 #[.val (.long p1), .second, .val (.int p2), .val (.long p3), .second, .val (.int p4), .val (.int p5), .val (.int (own_b (p5 &&& (2 : Int32)))), .val (.int (own_b (p5 &&& (4 : Int32)))), .val (.int (0 : Int32)), .val (.ref b7), .val (.ref b9), .val (.ref b11), .val (.ref b9), .val .null] [.null, .null])) _
      refine st29 _ ?_
      show Steps p.tables e below (T29.setTop (mkF m 160 #[.val (.long p1), .second, .val (.int p2), .val (.long p3), .second, .val (.int p4), .val (.int p5), .val (.int (own_b (p5 &&& (2 : Int32)))), .val (.int (own_b (p5 &&& (4 : Int32)))), .val (.int (0 : Int32)), .val (.ref b7), .val (.ref b9), .val (.ref b11), .val (.ref b9), .val .null] [(.int (1 : Int32))])) _
      refine XS.ifNo X29.here hx rfl (hb hby at_160) rfl ((if0 _ _).trans (feq (by decide : ¬ ((1 : Int32) = (0 : Int32)))).1) ?_
      refine XS.iconst X29.here hx rfl (hb hby at_163) ?_
      refine XS.goto X29.here hx rfl (pc0 := 164) (pc' := 168) rfl (hb hby at_164) (by decide) (by decide) ?_
      show Steps p.tables e below (T29.setTop (mkF m 168 #[.val (.long p1), .second, .val (.int p2), .val (.long p3), .second, .val (.int p4), .val (.int p5), .val (.int (own_b (p5 &&& (2 : Int32)))), .val (.int (own_b (p5 &&& (4 : Int32)))), .val (.int (0 : Int32)), .val (.ref b7), .val (.ref b9), .val (.ref b11), .val (.ref b9), .val .null] [(.int (1 : Int32))])) _
      exact retN X29 hx (t := .boolean) Bd.returns (by simp) (hb hby at_168) hr
    · show Q0 n0 _ T29.heap _
      rw [e29q]
      exact ⟨rfl, N29a⟩
    · show CHr Z own_EL s.vm s.heap T29.vm T29.heap
      rw [hh, e29q]
      exact CH7.trans (CHv.at X29 hZ16 hEL CH7.1)
  · obtain ⟨_, _, ⟨T6, L6, k6, n6⟩, -, X6, ⟨Lc6, hQ6, l6, y6, z6⟩, st6⟩ := Jvm.LawKit.callS X0 hx (y := (⟨"com/example/floatweight/floatweight/PricesGetPinLaw", "pos", "(JZ)J"⟩ : MethodName)) hown (mvT hZ (hw _ (List.mem_of_getElem? (i := 0) rfl))) (mvT hZ (hw _ (List.mem_of_getElem? (i := 1) rfl))) (mvT hZ (hw _ (List.mem_of_getElem? (i := 2) rfl))) (mvT hZ (hw _ (List.mem_of_getElem? (i := 3) rfl))) (by decide) (backOf (W := 0) (rmPos l Z a0 hw [] p1 (own_b (p5 &&& (2 : Int32))) h0 n0 (Nat.le_trans Z0 (Keep.refl h0 (own_fr n0 h0)).1) ) hZ (hw _ (List.mem_of_getElem? (i := 3) rfl)) (hw _ (List.mem_of_getElem? (i := 2) rfl)) (by decide) (by decide)) (g := (mkF m 45 #[.val (.long p1), .second, .val (.int p2), .val (.long p3), .second, .val (.int p4), .val (.int p5), .val (.int (own_b (p5 &&& (2 : Int32)))), .val (.int (own_b (p5 &&& (4 : Int32)))), .val (.int (1 : Int32)), .unset, .unset, .unset, .unset, .unset] [(.int (own_b (p5 &&& (2 : Int32)))), (.long p1)])) rfl (by rw [hml]; rfl) (argsL := [(.long p1), (.int (own_b (p5 &&& (2 : Int32))))]) (rest := []) (lenOf own_pd__JZ_J rfl) rfl (by show 2 * 0 + _ ≤ _; exact Nat.le_of_eq rfl) (hb hby at_45) (fun _ _ => ⟨rfl, e0, (by decide : 0 + 0 ≤ _), (by decide : 0 + 0 ≤ _)⟩)
    dsimp only [Pt.U, Pt.locs, Pt.cells, Pt.slots] at X6 l6 y6 z6 st6 hQ6
    subst l6 y6 z6
    obtain ⟨r6, rfl, hp6, N6q, e6q⟩ := hQ6
    have N6a := Fr.app N0 N6q
    obtain ⟨_, _, ⟨T7, L7, k7, n7⟩, -, X7, ⟨Lc7, hQ7, l7, y7, z7⟩, st7⟩ := Jvm.LawKit.callS X6 hx (y := (⟨"java/math/BigDecimal", "valueOf", "(JI)Ljava/math/BigDecimal;"⟩ : MethodName)) hown (mvT hZ (hw _ (List.mem_of_getElem? (i := 6) rfl))) (mvT hZ (hw _ (List.mem_of_getElem? (i := 7) rfl))) (mvT hZ (hw _ (List.mem_of_getElem? (i := 8) rfl))) (mvT hZ (hw _ (List.mem_of_getElem? (i := 9) rfl))) (by decide) (backOf (W := 0) (rmVo l Z a0 hw [] r6 p2 h0 n0 (Nat.le_trans Z0 (Keep.refl h0 (own_fr n0 h0)).1) hp6 hZT O0) hZ (hw _ (List.mem_of_getElem? (i := 9) rfl)) (hw _ (List.mem_of_getElem? (i := 8) rfl)) (by decide) (by decide)) (g := (mkF m 49 #[.val (.long p1), .second, .val (.int p2), .val (.long p3), .second, .val (.int p4), .val (.int p5), .val (.int (own_b (p5 &&& (2 : Int32)))), .val (.int (own_b (p5 &&& (4 : Int32)))), .val (.int (1 : Int32)), .unset, .unset, .unset, .unset, .unset] [(.int p2), (.long r6)])) rfl (by rw [hml]; rfl) (argsL := [(.long r6), (.int p2)]) (rest := []) (lenOf own_pd__JI_Ljava_math_BigDecimal_ rfl) rfl (by show 2 * 0 + _ ≤ _; exact Nat.le_of_eq rfl) (hb hby at_49) (fun _ _ => ⟨rfl, e6q, (by decide : 0 + 1 ≤ _), (by decide : 0 + 5 ≤ _)⟩)
    dsimp only [Pt.U, Pt.locs, Pt.cells, Pt.slots] at X7 l7 y7 z7 st7 hQ7
    subst l7 y7 z7
    obtain ⟨b7, rfl, N7q, K7q, Bd7⟩ := hQ7
    have N7a := Fr.app N6a N7q
    have CH1 : CHr Z own_EL s.vm h0 s.vm T7.heap := CH0.trans (CHr.keep K7q all0 CH0.1)
    have K1 : Keep h0 T7.heap (own_fr n0 h0) := (Keep.refl h0 (own_fr n0 h0)).trans K7q all0
    obtain ⟨_, _, ⟨T8, L8, k8, n8⟩, -, X8, ⟨Lc8, hQ8, l8, y8, z8⟩, st8⟩ := Jvm.LawKit.callS X7 hx (y := (⟨"com/example/floatweight/floatweight/PricesGetPinLaw", "pos", "(JZ)J"⟩ : MethodName)) hown (mvT hZ (hw _ (List.mem_of_getElem? (i := 0) rfl))) (mvT hZ (hw _ (List.mem_of_getElem? (i := 1) rfl))) (mvT hZ (hw _ (List.mem_of_getElem? (i := 2) rfl))) (mvT hZ (hw _ (List.mem_of_getElem? (i := 3) rfl))) (by decide) (backOf (W := 0) (rmPos l Z a0 hw [] p3 (own_b (p5 &&& (4 : Int32))) T7.heap n0 (Nat.le_trans Z0 K1.1) ) hZ (hw _ (List.mem_of_getElem? (i := 3) rfl)) (hw _ (List.mem_of_getElem? (i := 2) rfl)) (by decide) (by decide)) (g := (mkF m 57 #[.val (.long p1), .second, .val (.int p2), .val (.long p3), .second, .val (.int p4), .val (.int p5), .val (.int (own_b (p5 &&& (2 : Int32)))), .val (.int (own_b (p5 &&& (4 : Int32)))), .val (.int (1 : Int32)), .val (.ref b7), .unset, .unset, .unset, .unset] [(.int (own_b (p5 &&& (4 : Int32)))), (.long p3)])) rfl (by rw [hml]; rfl) (argsL := [(.long p3), (.int (own_b (p5 &&& (4 : Int32))))]) (rest := []) (lenOf own_pd__JZ_J rfl) rfl (by show 2 * 0 + _ ≤ _; exact Nat.le_of_eq rfl) (hb hby at_57) (fun _ _ => ⟨rfl, rfl, (by decide : 1 + 0 ≤ _), (by decide : 5 + 0 ≤ _)⟩)
    dsimp only [Pt.U, Pt.locs, Pt.cells, Pt.slots] at X8 l8 y8 z8 st8 hQ8
    subst l8 y8 z8
    obtain ⟨r8, rfl, hp8, N8q, e8q⟩ := hQ8
    have N8a := Fr.app N7a N8q
    have f10 : Old Z n0 T7.heap := (O0.keep K7q all0)
    obtain ⟨_, _, ⟨T9, L9, k9, n9⟩, -, X9, ⟨Lc9, hQ9, l9, y9, z9⟩, st9⟩ := Jvm.LawKit.callS X8 hx (y := (⟨"java/math/BigDecimal", "valueOf", "(JI)Ljava/math/BigDecimal;"⟩ : MethodName)) hown (mvT hZ (hw _ (List.mem_of_getElem? (i := 6) rfl))) (mvT hZ (hw _ (List.mem_of_getElem? (i := 7) rfl))) (mvT hZ (hw _ (List.mem_of_getElem? (i := 8) rfl))) (mvT hZ (hw _ (List.mem_of_getElem? (i := 9) rfl))) (by decide) (backOf (W := 0) (rmVo l Z a0 hw [] r8 p4 T7.heap n0 (Nat.le_trans Z0 K1.1) hp8 hZT f10) hZ (hw _ (List.mem_of_getElem? (i := 9) rfl)) (hw _ (List.mem_of_getElem? (i := 8) rfl)) (by decide) (by decide)) (g := (mkF m 62 #[.val (.long p1), .second, .val (.int p2), .val (.long p3), .second, .val (.int p4), .val (.int p5), .val (.int (own_b (p5 &&& (2 : Int32)))), .val (.int (own_b (p5 &&& (4 : Int32)))), .val (.int (1 : Int32)), .val (.ref b7), .unset, .unset, .unset, .unset] [(.int p4), (.long r8)])) rfl (by rw [hml]; rfl) (argsL := [(.long r8), (.int p4)]) (rest := []) (lenOf own_pd__JI_Ljava_math_BigDecimal_ rfl) rfl (by show 2 * 0 + _ ≤ _; exact Nat.le_of_eq rfl) (hb hby at_62) (fun _ _ => ⟨rfl, e8q, (by decide : 1 + 1 ≤ _), (by decide : 5 + 5 ≤ _)⟩)
    dsimp only [Pt.U, Pt.locs, Pt.cells, Pt.slots] at X9 l9 y9 z9 st9 hQ9
    subst l9 y9 z9
    obtain ⟨b9, rfl, N9q, K9q, Bd9⟩ := hQ9
    have N9a := Fr.app N8a N9q
    have CH2 : CHr Z own_EL s.vm h0 s.vm T9.heap := CH1.trans (CHr.keep K9q all0 CH1.1)
    have K2 : Keep h0 T9.heap (own_fr n0 h0) := K1.trans K9q all0
    obtain ⟨T11, h11, X11, e11, E11, A11, D11, -, st11⟩ := newO X9 hx hZ hown (hw _ (List.mem_of_getElem? (i := 38) rfl)) (hw _ (List.mem_of_getElem? (i := 39) rfl)) (hw _ (List.mem_of_getElem? (i := 40) rfl)) rfl (g := (mkF m 67 #[.val (.long p1), .second, .val (.int p2), .val (.long p3), .second, .val (.int p4), .val (.int p5), .val (.int (own_b (p5 &&& (2 : Int32)))), .val (.int (own_b (p5 &&& (4 : Int32)))), .val (.int (1 : Int32)), .val (.ref b7), .val (.ref b9), .unset, .unset, .unset] [])) rfl (hb hby at_67) (by decide) (by decide)
    obtain ⟨b11, g11⟩ : ∃ z, z = T9.heap.size := ⟨_, rfl⟩
    rw [← g11] at A11 D11 st11
    have sz_b11 : h0.size ≤ b11 := Nat.le_trans K2.1 (Nat.le_of_eq g11.symm)
    have g_b11 : n0 ≤ b11 := Nat.le_trans Z0 sz_b11
    have CH3 : CHr Z own_EL s.vm h0 s.vm h11 := CH2.trans (CHr.ext E11 CH2.1)
    have K3 : Keep h0 h11 (own_fr n0 h0) := K2.ext E11
    have F_mUnscaled_b11 : Fld Z h11 b11 "com/example/floatweight/floatweight/Prices" "mUnscaled" "[J" .null := D11 (Or.inr (hw _ (List.mem_of_getElem? (i := 47) rfl))) (ty := (.array .long)) (by decide)
    have F_mScales_b11 : Fld Z h11 b11 "com/example/floatweight/floatweight/Prices" "mScales" "[I" .null := D11 (Or.inr (hw _ (List.mem_of_getElem? (i := 50) rfl))) (ty := (.array .int)) (by decide)
    have F_mWhole_b11 : Fld Z h11 b11 "com/example/floatweight/floatweight/Prices" "mWhole" "[Ljava/math/BigDecimal;" .null := D11 (Or.inl (hw _ (List.mem_of_getElem? (i := 121) rfl))) (ty := (.array (.object "java/math/BigDecimal"))) (by decide)
    obtain ⟨_, _, ⟨T12, L12, k12, n12⟩, -, X12, ⟨Lc12, hQ12, l12, y12, z12⟩, st12⟩ := X11.specialBack hx (y := (⟨"com/example/floatweight/floatweight/Prices", "<init>", "(I)V"⟩ : MethodName)) rfl hown (mvT hZ (hw _ (List.mem_of_getElem? (i := 41) rfl))) (mvT hZ (hw _ (List.mem_of_getElem? (i := 42) rfl))) (mvT hZ (hw _ (List.mem_of_getElem? (i := 43) rfl))) (by decide) (backOf (W := 1) (rmPi l Z a0 hw [] b11 h11 n0 (Nat.le_trans Z0 K3.1) A11 g_b11 F_mUnscaled_b11 F_mScales_b11 F_mWhole_b11) hZ (hw _ (List.mem_of_getElem? (i := 43) rfl)) (hw _ (List.mem_of_getElem? (i := 40) rfl)) (by decide) (by decide)) (g := (mkF m 72 #[.val (.long p1), .second, .val (.int p2), .val (.long p3), .second, .val (.int p4), .val (.int p5), .val (.int (own_b (p5 &&& (2 : Int32)))), .val (.int (own_b (p5 &&& (4 : Int32)))), .val (.int (1 : Int32)), .val (.ref b7), .val (.ref b9), .unset, .unset, .unset] [(.int (3 : Int32)), (.ref b11), (.ref b11)])) rfl (by rw [hml]; rfl) (Steps.refl _) (a := b11) (argsL := [(.int (3 : Int32))]) (rest := [(.ref b11)]) (lenOf own_pd__I_V rfl) rfl (by show 2 * 0 + _ ≤ _; exact Nat.le_of_eq rfl) (hb hby at_72) (fun _ _ => ⟨rfl, e11, (by decide : 3 + 2 ≤ _), (by decide : 13 + 6 ≤ _)⟩)
    dsimp only [Pt.U, Pt.locs, Pt.cells, Pt.slots] at X12 l12 y12 z12 st12 hQ12
    subst l12 y12 z12
    obtain ⟨rfl, N12q, K12q, PR12⟩ := hQ12
    have N12a := Fr.app N9a N12q
    have CH4 : CHr Z own_EL s.vm h0 s.vm T12.heap := CH3.trans (CHr.keep K12q (allS (Safe.exa (hZ : Z.Warmed39 s.vm).alike A11 (by decide) (by decide)) all0) CH3.1)
    have K4 : Keep h0 T12.heap (own_fr n0 h0) := K3.trans K12q (allS (own_frq g_b11) all0)
    have f14 : BD Z n0 T12.heap b7 r6 p2 := ((Pres.ofKeep K12q (allS (NB.ofE A11 (by decide)) all0)) _ _ _ ((Pres.ofExt E11) _ _ _ ((Pres.ofKeep K9q all0) _ _ _ Bd7)))
    have f15 : Old Z n0 T12.heap := (((f10.keep K9q all0).ext E11).keep K12q (allS g_b11 all0))
    obtain ⟨cq13, kq13, q13a, q13b, q13c⟩ := isOf hZ rfl PR12.exa
    obtain ⟨_, _, ⟨T13, L13, k13, n13⟩, -, X13', hs13, hg13, ⟨Lc13, hQ13, l13, y13, z13, C13⟩, st13⟩ := X12.virtualBackS hx (y := (⟨"com/example/floatweight/floatweight/Prices", "set", "(ILjava/math/BigDecimal;)V"⟩ : MethodName)) (z := (⟨"com/example/floatweight/floatweight/Prices", "set", "(ILjava/math/BigDecimal;)V"⟩ : MethodName)) hown (mvT hZ (hw _ (List.mem_of_getElem? (i := 51) rfl))) (mvT hZ (hw _ (List.mem_of_getElem? (i := 52) rfl))) (notFace_of_selects (args := #[]) (mvT hZ (hw _ (List.mem_of_getElem? (i := 54) rfl)))) (mvT hZ (hw _ (List.mem_of_getElem? (i := 54) rfl))) (mvT hZ (hw _ (List.mem_of_getElem? (i := 53) rfl))) (by decide) (backOfSH (W := 0) (rmS0 l Z a0 hw [] hEL b11 b7 0 0 0 0 0 0 .null .null .null r6 p2 T12.heap n0 (Nat.le_trans Z0 K4.1) PR12 f14 hp6 hTP f15) hZ (hw _ (List.mem_of_getElem? (i := 55) rfl)) (hw _ (List.mem_of_getElem? (i := 40) rfl)) (by decide) (by decide) hEL CH4.1) q13a q13c (g := (mkF m 82 #[.val (.long p1), .second, .val (.int p2), .val (.long p3), .second, .val (.int p4), .val (.int p5), .val (.int (own_b (p5 &&& (2 : Int32)))), .val (.int (own_b (p5 &&& (4 : Int32)))), .val (.int (1 : Int32)), .val (.ref b7), .val (.ref b9), .val (.ref b11), .unset, .unset] [(.ref b7), (.int (0 : Int32)), (.ref b11)])) rfl (by rw [hml]; rfl) (Steps.refl _) (argsL := [(.int (0 : Int32)), (.ref b7)]) (rest := []) (lenOf own_pd__ILjava_math_BigDecimal__V rfl) rfl (by show 2 * 0 + _ ≤ _; exact Nat.le_of_eq rfl) (hb hby at_82) (fun _ _ => ⟨rfl, rfl, (by decide : 5 + 3 ≤ _), (by decide : 19 + 29 ≤ _)⟩)
    dsimp only [Pt.U, Pt.locs, Pt.cells, Pt.slots] at X13' l13 y13 z13 st13 hQ13 C13 hs13 hg13
    subst l13 y13 z13
    obtain ⟨X13, hS13, hZ13, hown13⟩ := rebS hS0 (Nat.zero_le _) X13' hs13 hg13 hZ hown
    obtain ⟨u13, c13, w13, rfl, N13q, K13q, PR13, H13, Ps13⟩ := hQ13
    have N13a := Fr.app N12a N13q
    have CH5 : CHr Z own_EL s.vm h0 T13.vm T13.heap := CH4.trans C13
    have K5 : Keep h0 T13.heap (own_fr n0 h0) := K4.trans K13q (fun x_ hx_ => own_frq (own_frg x_ hx_))
    have f17 : BD Z n0 T13.heap b9 r8 p4 := (Ps13 _ _ _ ((Pres.ofKeep K12q (allS (NB.ofE A11 (by decide)) all0)) _ _ _ ((Pres.ofExt E11) _ _ _ Bd9)))
    have f18 : Old Z n0 T13.heap := (f15.keep K13q own_frg)
    obtain ⟨cq16, kq16, q16a, q16b, q16c⟩ := isOf hZ13 rfl PR13.exa
    obtain ⟨_, _, ⟨T16, L16, k16, n16⟩, -, X16', hs16, hg16, ⟨Lc16, hQ16, l16, y16, z16, C16⟩, st16⟩ := X13.virtualBackS hx (y := (⟨"com/example/floatweight/floatweight/Prices", "set", "(ILjava/math/BigDecimal;)V"⟩ : MethodName)) (z := (⟨"com/example/floatweight/floatweight/Prices", "set", "(ILjava/math/BigDecimal;)V"⟩ : MethodName)) hown13 (mvT hZ13 (hw _ (List.mem_of_getElem? (i := 51) rfl))) (mvT hZ13 (hw _ (List.mem_of_getElem? (i := 52) rfl))) (notFace_of_selects (args := #[]) (mvT hZ13 (hw _ (List.mem_of_getElem? (i := 54) rfl)))) (mvT hZ13 (hw _ (List.mem_of_getElem? (i := 54) rfl))) (mvT hZ13 (hw _ (List.mem_of_getElem? (i := 53) rfl))) (by decide) (backOfSH (W := 0) (rmS1 l Z a0 hw [] hEL b11 b9 u13 0 0 c13 0 0 w13 .null .null r8 p4 T13.heap n0 (Nat.le_trans Z0 K5.1) PR13 f17 hp8 hTP f18) hZ13 (hw _ (List.mem_of_getElem? (i := 55) rfl)) (hw _ (List.mem_of_getElem? (i := 40) rfl)) (by decide) (by decide) hEL CH5.1) q16a q16c (g := (mkF m 91 #[.val (.long p1), .second, .val (.int p2), .val (.long p3), .second, .val (.int p4), .val (.int p5), .val (.int (own_b (p5 &&& (2 : Int32)))), .val (.int (own_b (p5 &&& (4 : Int32)))), .val (.int (1 : Int32)), .val (.ref b7), .val (.ref b9), .val (.ref b11), .unset, .unset] [(.ref b9), (.int (1 : Int32)), (.ref b11)])) rfl (by rw [hml]; rfl) (Steps.refl _) (argsL := [(.int (1 : Int32)), (.ref b9)]) (rest := []) (lenOf own_pd__ILjava_math_BigDecimal__V rfl) rfl (by show 2 * 0 + _ ≤ _; exact Nat.le_of_eq rfl) (hb hby at_91) (fun _ _ => ⟨rfl, rfl, (by decide : 8 + 3 ≤ _), (by decide : 48 + 29 ≤ _)⟩)
    dsimp only [Pt.U, Pt.locs, Pt.cells, Pt.slots] at X16' l16 y16 z16 st16 hQ16 C16 hs16 hg16
    subst l16 y16 z16
    obtain ⟨X16, hS16, hZ16, hown16⟩ := rebS hS13 (Nat.le_refl _) X16' hs16 hg16 hZ13 hown13
    obtain ⟨u16, c16, w16, rfl, N16q, K16q, PR16, H16, Ps16⟩ := hQ16
    have N16a := Fr.app N13a N16q
    have CH6 : CHr Z own_EL s.vm h0 T16.vm T16.heap := CH5.trans C16
    have K6 : Keep h0 T16.heap (own_fr n0 h0) := K5.trans K16q (fun x_ hx_ => own_frq (own_frg x_ hx_))
    have f20 : Hd Z n0 T16.heap u13 c13 w13 r6 p2 := (Hd.pres Ps16 H13)
    have f21 : Old Z n0 T16.heap := (f18.keep K16q own_frg)
    obtain ⟨cq19, kq19, q19a, q19b, q19c⟩ := isOf hZ16 rfl PR16.exa
    obtain ⟨_, _, ⟨T19, L19, k19, n19⟩, -, X19, ⟨Lc19, hQ19, l19, y19, z19⟩, st19⟩ := X16.virtualBack hx (y := (⟨"com/example/floatweight/floatweight/Prices", "get", "(I)Ljava/math/BigDecimal;"⟩ : MethodName)) (z := (⟨"com/example/floatweight/floatweight/Prices", "get", "(I)Ljava/math/BigDecimal;"⟩ : MethodName)) hown16 (mvT hZ16 (hw _ (List.mem_of_getElem? (i := 124) rfl))) (mvT hZ16 (hw _ (List.mem_of_getElem? (i := 125) rfl))) (notFace_of_selects (args := #[]) (mvT hZ16 (hw _ (List.mem_of_getElem? (i := 127) rfl)))) (mvT hZ16 (hw _ (List.mem_of_getElem? (i := 127) rfl))) (mvT hZ16 (hw _ (List.mem_of_getElem? (i := 126) rfl))) (by decide) (backOf (W := 0) (rmG0 l Z a0 hw [] b11 u13 u16 0 c13 c16 0 w13 w16 .null r6 p2 T16.heap n0 (Nat.le_trans Z0 K6.1) PR16 f20 hp6 hZT f21) hZ16 (hw _ (List.mem_of_getElem? (i := 128) rfl)) (hw _ (List.mem_of_getElem? (i := 40) rfl)) (by decide) (by decide)) q19a q19c (g := (mkF m 125 #[.val (.long p1), .second, .val (.int p2), .val (.long p3), .second, .val (.int p4), .val (.int p5), .val (.int (own_b (p5 &&& (2 : Int32)))), .val (.int (own_b (p5 &&& (4 : Int32)))), .val (.int (1 : Int32)), .val (.ref b7), .val (.ref b9), .val (.ref b11), .val (.ref b7), .val (.ref b9)] [(.int (0 : Int32)), (.ref b11)])) rfl (by rw [hml]; rfl) (Steps.refl _) (argsL := [(.int (0 : Int32))]) (rest := []) (lenOf own_pd__I_Ljava_math_BigDecimal_ rfl) rfl (by show 2 * 0 + _ ≤ _; exact Nat.le_of_eq rfl) (hb hby at_125) (fun _ _ => ⟨rfl, rfl, (by decide : 11 + 1 ≤ _), (by decide : 77 + 5 ≤ _)⟩)
    dsimp only [Pt.U, Pt.locs, Pt.cells, Pt.slots] at X19 l19 y19 z19 st19 hQ19
    subst l19 y19 z19
    obtain ⟨b19, rfl, N19q, K19q, Bd19⟩ := hQ19
    have N19a := Fr.app N16a N19q
    have CH7 : CHr Z own_EL s.vm h0 T16.vm T19.heap := CH6.trans (CHr.keep K19q all0 CH6.1)
    have K7 : Keep h0 T19.heap (own_fr n0 h0) := K6.trans K19q all0
    have f23 : BD Z n0 T19.heap b7 r6 p2 := ((Pres.ofKeep K19q all0) _ _ _ (Ps16 _ _ _ (Ps13 _ _ _ f14)))
    obtain ⟨_, _, ⟨T22, L22, k22, n22⟩, -, X22, ⟨Lc22, hQ22, l22, y22, z22⟩, st22⟩ := Jvm.LawKit.callS X19 hx (y := (⟨"com/example/floatweight/floatweight/PricesGetPinLaw", "same", "(Ljava/math/BigDecimal;Ljava/math/BigDecimal;)Z"⟩ : MethodName)) hown16 (mvT hZ16 (hw _ (List.mem_of_getElem? (i := 129) rfl))) (mvT hZ16 (hw _ (List.mem_of_getElem? (i := 130) rfl))) (mvT hZ16 (hw _ (List.mem_of_getElem? (i := 2) rfl))) (mvT hZ16 (hw _ (List.mem_of_getElem? (i := 131) rfl))) (by decide) (backOf (W := 0) (rmSm l Z a0 hw [] b19 b7 r6 p2 T19.heap n0 (Nat.le_trans Z0 K7.1) Bd19 f23 hp6) hZ16 (hw _ (List.mem_of_getElem? (i := 131) rfl)) (hw _ (List.mem_of_getElem? (i := 2) rfl)) (by decide) (by decide)) (g := (mkF m 130 #[.val (.long p1), .second, .val (.int p2), .val (.long p3), .second, .val (.int p4), .val (.int p5), .val (.int (own_b (p5 &&& (2 : Int32)))), .val (.int (own_b (p5 &&& (4 : Int32)))), .val (.int (1 : Int32)), .val (.ref b7), .val (.ref b9), .val (.ref b11), .val (.ref b7), .val (.ref b9)] [(.ref b7), (.ref b19)])) rfl (by rw [hml]; rfl) (argsL := [(.ref b19), (.ref b7)]) (rest := []) (lenOf own_pd__Ljava_math_BigDecimal_Ljava_math_BigDecimal__Z rfl) rfl (by show 2 * 0 + _ ≤ _; exact Nat.le_of_eq rfl) (hb hby at_130) (fun _ _ => ⟨rfl, rfl, (by decide : 12 + 0 ≤ _), (by decide : 82 + 0 ≤ _)⟩)
    dsimp only [Pt.U, Pt.locs, Pt.cells, Pt.slots] at X22 l22 y22 z22 st22 hQ22
    subst l22 y22 z22
    obtain ⟨rfl, N22q, e22q⟩ := hQ22
    have N22a := Fr.app N19a N22q
    have f25 : PRS Z n0 T19.heap b11 u13 u16 0 c13 c16 0 w13 w16 .null := (PR16.keep0 K19q)
    have f26 : Hd Z n0 T19.heap u16 c16 w16 r8 p4 := (Hd.pres (Pres.ofKeep K19q all0) H16)
    have f27 : Old Z n0 T19.heap := (f21.keep K19q all0)
    have f28 : Exa Z T19.heap b11 "com/example/floatweight/floatweight/Prices" := (PR16.exa.keep K19q)
    obtain ⟨cq24, kq24, q24a, q24b, q24c⟩ := isOf hZ16 e22q f28
    obtain ⟨_, _, ⟨T24, L24, k24, n24⟩, -, X24, ⟨Lc24, hQ24, l24, y24, z24⟩, st24⟩ := X22.virtualBack hx (y := (⟨"com/example/floatweight/floatweight/Prices", "get", "(I)Ljava/math/BigDecimal;"⟩ : MethodName)) (z := (⟨"com/example/floatweight/floatweight/Prices", "get", "(I)Ljava/math/BigDecimal;"⟩ : MethodName)) hown16 (mvT hZ16 (hw _ (List.mem_of_getElem? (i := 124) rfl))) (mvT hZ16 (hw _ (List.mem_of_getElem? (i := 125) rfl))) (notFace_of_selects (args := #[]) (mvT hZ16 (hw _ (List.mem_of_getElem? (i := 127) rfl)))) (mvT hZ16 (hw _ (List.mem_of_getElem? (i := 127) rfl))) (mvT hZ16 (hw _ (List.mem_of_getElem? (i := 126) rfl))) (by decide) (backOf (W := 0) (rmG1 l Z a0 hw [] b11 u13 u16 0 c13 c16 0 w13 w16 .null r8 p4 T19.heap n0 (Nat.le_trans Z0 K7.1) f25 f26 hp8 hZT f27) hZ16 (hw _ (List.mem_of_getElem? (i := 128) rfl)) (hw _ (List.mem_of_getElem? (i := 40) rfl)) (by decide) (by decide)) q24a q24c (g := (mkF m 139 #[.val (.long p1), .second, .val (.int p2), .val (.long p3), .second, .val (.int p4), .val (.int p5), .val (.int (own_b (p5 &&& (2 : Int32)))), .val (.int (own_b (p5 &&& (4 : Int32)))), .val (.int (1 : Int32)), .val (.ref b7), .val (.ref b9), .val (.ref b11), .val (.ref b7), .val (.ref b9)] [(.int (1 : Int32)), (.ref b11)])) rfl (by rw [hml]; rfl) (Steps.refl _) (argsL := [(.int (1 : Int32))]) (rest := []) (lenOf own_pd__I_Ljava_math_BigDecimal_ rfl) rfl (by show 2 * 0 + _ ≤ _; exact Nat.le_of_eq rfl) (hb hby at_139) (fun _ _ => ⟨rfl, e22q, (by decide : 12 + 1 ≤ _), (by decide : 82 + 5 ≤ _)⟩)
    dsimp only [Pt.U, Pt.locs, Pt.cells, Pt.slots] at X24 l24 y24 z24 st24 hQ24
    subst l24 y24 z24
    obtain ⟨b24, rfl, N24q, K24q, Bd24⟩ := hQ24
    have N24a := Fr.app N22a N24q
    have CH8 : CHr Z own_EL s.vm h0 T16.vm T24.heap := CH7.trans (CHr.keep K24q all0 CH7.1)
    have K8 : Keep h0 T24.heap (own_fr n0 h0) := K7.trans K24q all0
    have f30 : BD Z n0 T24.heap b9 r8 p4 := ((Pres.ofKeep K24q all0) _ _ _ ((Pres.ofKeep K19q all0) _ _ _ (Ps16 _ _ _ f17)))
    obtain ⟨_, _, ⟨T29, L29, k29, n29⟩, -, X29, ⟨Lc29, hQ29, l29, y29, z29⟩, st29⟩ := Jvm.LawKit.callS X24 hx (y := (⟨"com/example/floatweight/floatweight/PricesGetPinLaw", "same", "(Ljava/math/BigDecimal;Ljava/math/BigDecimal;)Z"⟩ : MethodName)) hown16 (mvT hZ16 (hw _ (List.mem_of_getElem? (i := 129) rfl))) (mvT hZ16 (hw _ (List.mem_of_getElem? (i := 130) rfl))) (mvT hZ16 (hw _ (List.mem_of_getElem? (i := 2) rfl))) (mvT hZ16 (hw _ (List.mem_of_getElem? (i := 131) rfl))) (by decide) (backOf (W := 0) (rmSm l Z a0 hw [] b24 b9 r8 p4 T24.heap n0 (Nat.le_trans Z0 K8.1) Bd24 f30 hp8) hZ16 (hw _ (List.mem_of_getElem? (i := 131) rfl)) (hw _ (List.mem_of_getElem? (i := 2) rfl)) (by decide) (by decide)) (g := (mkF m 144 #[.val (.long p1), .second, .val (.int p2), .val (.long p3), .second, .val (.int p4), .val (.int p5), .val (.int (own_b (p5 &&& (2 : Int32)))), .val (.int (own_b (p5 &&& (4 : Int32)))), .val (.int (1 : Int32)), .val (.ref b7), .val (.ref b9), .val (.ref b11), .val (.ref b7), .val (.ref b9)] [(.ref b9), (.ref b24)])) rfl (by rw [hml]; rfl) (argsL := [(.ref b24), (.ref b9)]) (rest := []) (lenOf own_pd__Ljava_math_BigDecimal_Ljava_math_BigDecimal__Z rfl) rfl (by show 2 * 0 + _ ≤ _; exact Nat.le_of_eq rfl) (hb hby at_144) (fun _ _ => ⟨rfl, rfl, (by decide : 13 + 0 ≤ _), (by decide : 87 + 0 ≤ _)⟩)
    dsimp only [Pt.U, Pt.locs, Pt.cells, Pt.slots] at X29 l29 y29 z29 st29 hQ29
    subst l29 y29 z29
    obtain ⟨rfl, N29q, e29q⟩ := hQ29
    have N29a := Fr.app N24a N29q
    have f32 : PRS Z n0 T24.heap b11 u13 u16 0 c13 c16 0 w13 w16 .null := (f25.keep0 K24q)
    have f33 : Old Z n0 T24.heap := (f27.keep K24q all0)
    have f34 : Exa Z T24.heap b11 "com/example/floatweight/floatweight/Prices" := (f28.keep K24q)
    obtain ⟨cq31, kq31, q31a, q31b, q31c⟩ := isOf hZ16 e29q f34
    obtain ⟨_, _, ⟨T31, L31, k31, n31⟩, -, X31, ⟨Lc31, hQ31, l31, y31, z31⟩, st31⟩ := X29.virtualBack hx (y := (⟨"com/example/floatweight/floatweight/Prices", "get", "(I)Ljava/math/BigDecimal;"⟩ : MethodName)) (z := (⟨"com/example/floatweight/floatweight/Prices", "get", "(I)Ljava/math/BigDecimal;"⟩ : MethodName)) hown16 (mvT hZ16 (hw _ (List.mem_of_getElem? (i := 124) rfl))) (mvT hZ16 (hw _ (List.mem_of_getElem? (i := 125) rfl))) (notFace_of_selects (args := #[]) (mvT hZ16 (hw _ (List.mem_of_getElem? (i := 127) rfl)))) (mvT hZ16 (hw _ (List.mem_of_getElem? (i := 127) rfl))) (mvT hZ16 (hw _ (List.mem_of_getElem? (i := 126) rfl))) (by decide) (backOf (W := 0) (rmGn2 l Z a0 hw [] b11 u13 u16 c13 c16 0 w13 w16 T24.heap n0 (Nat.le_trans Z0 K8.1) f32 hZT f33) hZ16 (hw _ (List.mem_of_getElem? (i := 128) rfl)) (hw _ (List.mem_of_getElem? (i := 40) rfl)) (by decide) (by decide)) q31a q31c (g := (mkF m 153 #[.val (.long p1), .second, .val (.int p2), .val (.long p3), .second, .val (.int p4), .val (.int p5), .val (.int (own_b (p5 &&& (2 : Int32)))), .val (.int (own_b (p5 &&& (4 : Int32)))), .val (.int (1 : Int32)), .val (.ref b7), .val (.ref b9), .val (.ref b11), .val (.ref b7), .val (.ref b9)] [(.int (2 : Int32)), (.ref b11)])) rfl (by rw [hml]; rfl) (Steps.refl _) (argsL := [(.int (2 : Int32))]) (rest := []) (lenOf own_pd__I_Ljava_math_BigDecimal_ rfl) rfl (by show 2 * 0 + _ ≤ _; exact Nat.le_of_eq rfl) (hb hby at_153) (fun _ _ => ⟨rfl, e29q, (by decide : 13 + 1 ≤ _), (by decide : 87 + 5 ≤ _)⟩)
    dsimp only [Pt.U, Pt.locs, Pt.cells, Pt.slots] at X31 l31 y31 z31 st31 hQ31
    subst l31 y31 z31
    obtain ⟨rfl, N31q, e31q⟩ := hQ31
    have N31a := Fr.app N29a N31q
    obtain ⟨_, _, ⟨T35, L35, k35, n35⟩, -, X35, ⟨Lc35, hQ35, l35, y35, z35⟩, st35⟩ := Jvm.LawKit.callS X31 hx (y := (⟨"com/example/floatweight/floatweight/PricesGetPinLaw", "same", "(Ljava/math/BigDecimal;Ljava/math/BigDecimal;)Z"⟩ : MethodName)) hown16 (mvT hZ16 (hw _ (List.mem_of_getElem? (i := 129) rfl))) (mvT hZ16 (hw _ (List.mem_of_getElem? (i := 130) rfl))) (mvT hZ16 (hw _ (List.mem_of_getElem? (i := 2) rfl))) (mvT hZ16 (hw _ (List.mem_of_getElem? (i := 131) rfl))) (by decide) (backOf (W := 0) (rmSn l Z a0 hw []  T24.heap n0 (Nat.le_trans Z0 K8.1) ) hZ16 (hw _ (List.mem_of_getElem? (i := 131) rfl)) (hw _ (List.mem_of_getElem? (i := 2) rfl)) (by decide) (by decide)) (g := (mkF m 157 #[.val (.long p1), .second, .val (.int p2), .val (.long p3), .second, .val (.int p4), .val (.int p5), .val (.int (own_b (p5 &&& (2 : Int32)))), .val (.int (own_b (p5 &&& (4 : Int32)))), .val (.int (1 : Int32)), .val (.ref b7), .val (.ref b9), .val (.ref b11), .val (.ref b7), .val (.ref b9)] [.null, .null])) rfl (by rw [hml]; rfl) (argsL := [.null, .null]) (rest := []) (lenOf own_pd__Ljava_math_BigDecimal_Ljava_math_BigDecimal__Z rfl) rfl (by show 2 * 0 + _ ≤ _; exact Nat.le_of_eq rfl) (hb hby at_157) (fun _ _ => ⟨rfl, e31q, (by decide : 14 + 0 ≤ _), (by decide : 92 + 0 ≤ _)⟩)
    dsimp only [Pt.U, Pt.locs, Pt.cells, Pt.slots] at X35 l35 y35 z35 st35 hQ35
    subst l35 y35 z35
    obtain ⟨rfl, N35q, e35q⟩ := hQ35
    have N35a := Fr.app N31a N35q
    have hk_36 := Nat.le_trans (Nat.le_refl _) (((Keep.refl T16.heap []).trans K19q all0).trans K24q all0).1
    obtain ⟨fs, hr, hrun, hended, hend⟩ := X35.leaveW hS16 (by rw [e35q]; exact hk_36) (v := some (.int (1 : Int32))) (fun h => by rw [Bd.returns] at h; cases h)
    refine ⟨_, _, pre0 _ ?_, hrun, hended, _, _, rfl, ?_, ?_, hend.1, hend.2.1, hend.2.2.1, hend.2.2.2.mono (by decide) (by decide)⟩
    · refine cut5 _ ?_
      show Steps p.tables e below (s₁.setTop (mkF m 32 #[.val (.long p1), .second, .val (.int p2), .val (.long p3), .second, .val (.int p4), .val (.int p5), .val (.int (own_b (p5 &&& (2 : Int32)))), .val (.int (own_b (p5 &&& (4 : Int32)))), .unset, .unset, .unset, .unset, .unset, .unset] [(.int (p5 &&& (1 : Int32)))])) _
      refine XS.ifNo X0.here hx rfl (hb hby at_32) rfl ((if0 _ _).trans (feq (c9 : ¬ ((p5 &&& (1 : Int32)) = (0 : Int32)))).1) ?_
      refine XS.iconst X0.here hx rfl (hb hby at_35) ?_
      refine XS.goto X0.here hx rfl (pc0 := 36) (pc' := 40) rfl (hb hby at_36) (by decide) (by decide) ?_
      show Steps p.tables e below (s₁.setTop (mkF m 40 #[.val (.long p1), .second, .val (.int p2), .val (.long p3), .second, .val (.int p4), .val (.int p5), .val (.int (own_b (p5 &&& (2 : Int32)))), .val (.int (own_b (p5 &&& (4 : Int32)))), .unset, .unset, .unset, .unset, .unset, .unset] [(.int (1 : Int32))])) _
      refine XS.istore X0.here hx rfl (hb hby at_40) rfl (l' := #[.val (.long p1), .second, .val (.int p2), .val (.long p3), .second, .val (.int p4), .val (.int p5), .val (.int (own_b (p5 &&& (2 : Int32)))), .val (.int (own_b (p5 &&& (4 : Int32)))), .val (.int (1 : Int32)), .unset, .unset, .unset, .unset, .unset]) rfl ?_
      refine XS.lloadN X0.here hx rfl (hb hby at_42) rfl ?_
      refine XS.iload X0.here hx rfl (hb hby at_43) rfl ?_
      show Steps p.tables e below (s₁.setTop (mkF m 45 #[.val (.long p1), .second, .val (.int p2), .val (.long p3), .second, .val (.int p4), .val (.int p5), .val (.int (own_b (p5 &&& (2 : Int32)))), .val (.int (own_b (p5 &&& (4 : Int32)))), .val (.int (1 : Int32)), .unset, .unset, .unset, .unset, .unset] [(.int (own_b (p5 &&& (2 : Int32)))), (.long p1)])) _
      refine st6 _ ?_
      refine XS.iloadN X6.here hx rfl (hb hby at_48) rfl ?_
      show Steps p.tables e below (T6.setTop (mkF m 49 #[.val (.long p1), .second, .val (.int p2), .val (.long p3), .second, .val (.int p4), .val (.int p5), .val (.int (own_b (p5 &&& (2 : Int32)))), .val (.int (own_b (p5 &&& (4 : Int32)))), .val (.int (1 : Int32)), .unset, .unset, .unset, .unset, .unset] [(.int p2), (.long r6)])) _
      refine st7 _ ?_
      refine XS.astore X7.here hx rfl (hb hby at_52) rfl rfl (l' := #[.val (.long p1), .second, .val (.int p2), .val (.long p3), .second, .val (.int p4), .val (.int p5), .val (.int (own_b (p5 &&& (2 : Int32)))), .val (.int (own_b (p5 &&& (4 : Int32)))), .val (.int (1 : Int32)), .val (.ref b7), .unset, .unset, .unset, .unset]) rfl ?_
      refine XS.lloadN X7.here hx rfl (hb hby at_54) rfl ?_
      show Steps p.tables e below (T7.setTop (mkF m 55 #[.val (.long p1), .second, .val (.int p2), .val (.long p3), .second, .val (.int p4), .val (.int p5), .val (.int (own_b (p5 &&& (2 : Int32)))), .val (.int (own_b (p5 &&& (4 : Int32)))), .val (.int (1 : Int32)), .val (.ref b7), .unset, .unset, .unset, .unset] [(.long p3)])) _
      refine XS.iload X7.here hx rfl (hb hby at_55) rfl ?_
      show Steps p.tables e below (T7.setTop (mkF m 57 #[.val (.long p1), .second, .val (.int p2), .val (.long p3), .second, .val (.int p4), .val (.int p5), .val (.int (own_b (p5 &&& (2 : Int32)))), .val (.int (own_b (p5 &&& (4 : Int32)))), .val (.int (1 : Int32)), .val (.ref b7), .unset, .unset, .unset, .unset] [(.int (own_b (p5 &&& (4 : Int32)))), (.long p3)])) _
      refine st8 _ ?_
      refine XS.iload X8.here hx rfl (hb hby at_60) rfl ?_
      show Steps p.tables e below (T8.setTop (mkF m 62 #[.val (.long p1), .second, .val (.int p2), .val (.long p3), .second, .val (.int p4), .val (.int p5), .val (.int (own_b (p5 &&& (2 : Int32)))), .val (.int (own_b (p5 &&& (4 : Int32)))), .val (.int (1 : Int32)), .val (.ref b7), .unset, .unset, .unset, .unset] [(.int p4), (.long r8)])) _
      refine st9 _ ?_
      refine XS.astore X9.here hx rfl (hb hby at_65) rfl rfl (l' := #[.val (.long p1), .second, .val (.int p2), .val (.long p3), .second, .val (.int p4), .val (.int p5), .val (.int (own_b (p5 &&& (2 : Int32)))), .val (.int (own_b (p5 &&& (4 : Int32)))), .val (.int (1 : Int32)), .val (.ref b7), .val (.ref b9), .unset, .unset, .unset]) rfl ?_
      show Steps p.tables e below (T9.setTop (mkF m 67 #[.val (.long p1), .second, .val (.int p2), .val (.long p3), .second, .val (.int p4), .val (.int p5), .val (.int (own_b (p5 &&& (2 : Int32)))), .val (.int (own_b (p5 &&& (4 : Int32)))), .val (.int (1 : Int32)), .val (.ref b7), .val (.ref b9), .unset, .unset, .unset] [])) _
      refine st11 _ ?_
      refine XS.dup X11.here hx rfl (hb hby at_70) rfl rfl ?_
      refine XS.iconst X11.here hx rfl (hb hby at_71) ?_
      show Steps p.tables e below (T11.setTop (mkF m 72 #[.val (.long p1), .second, .val (.int p2), .val (.long p3), .second, .val (.int p4), .val (.int p5), .val (.int (own_b (p5 &&& (2 : Int32)))), .val (.int (own_b (p5 &&& (4 : Int32)))), .val (.int (1 : Int32)), .val (.ref b7), .val (.ref b9), .unset, .unset, .unset] [(.int (3 : Int32)), (.ref b11), (.ref b11)])) _
      refine st12.trans ?_
      refine XS.astore X12.here hx rfl (hb hby at_75) rfl rfl (l' := #[.val (.long p1), .second, .val (.int p2), .val (.long p3), .second, .val (.int p4), .val (.int p5), .val (.int (own_b (p5 &&& (2 : Int32)))), .val (.int (own_b (p5 &&& (4 : Int32)))), .val (.int (1 : Int32)), .val (.ref b7), .val (.ref b9), .val (.ref b11), .unset, .unset]) rfl ?_
      refine XS.aload X12.here hx rfl (hb hby at_77) rfl rfl ?_
      show Steps p.tables e below (T12.setTop (mkF m 79 #[.val (.long p1), .second, .val (.int p2), .val (.long p3), .second, .val (.int p4), .val (.int p5), .val (.int (own_b (p5 &&& (2 : Int32)))), .val (.int (own_b (p5 &&& (4 : Int32)))), .val (.int (1 : Int32)), .val (.ref b7), .val (.ref b9), .val (.ref b11), .unset, .unset] [(.ref b11)])) _
      refine XS.iconst X12.here hx rfl (hb hby at_79) ?_
      refine XS.aload X12.here hx rfl (hb hby at_80) rfl rfl ?_
      show Steps p.tables e below (T12.setTop (mkF m 82 #[.val (.long p1), .second, .val (.int p2), .val (.long p3), .second, .val (.int p4), .val (.int p5), .val (.int (own_b (p5 &&& (2 : Int32)))), .val (.int (own_b (p5 &&& (4 : Int32)))), .val (.int (1 : Int32)), .val (.ref b7), .val (.ref b9), .val (.ref b11), .unset, .unset] [(.ref b7), (.int (0 : Int32)), (.ref b11)])) _
      refine st13.trans ?_
      refine XS.aload X13.here hx rfl (hb hby at_85) rfl rfl ?_
      refine XS.iload X13.here hx rfl (hb hby at_87) rfl ?_
      show Steps p.tables e below (T13.setTop (mkF m 89 #[.val (.long p1), .second, .val (.int p2), .val (.long p3), .second, .val (.int p4), .val (.int p5), .val (.int (own_b (p5 &&& (2 : Int32)))), .val (.int (own_b (p5 &&& (4 : Int32)))), .val (.int (1 : Int32)), .val (.ref b7), .val (.ref b9), .val (.ref b11), .unset, .unset] [(.int (1 : Int32)), (.ref b11)])) _
      refine XS.aload X13.here hx rfl (hb hby at_89) rfl rfl ?_
      show Steps p.tables e below (T13.setTop (mkF m 91 #[.val (.long p1), .second, .val (.int p2), .val (.long p3), .second, .val (.int p4), .val (.int p5), .val (.int (own_b (p5 &&& (2 : Int32)))), .val (.int (own_b (p5 &&& (4 : Int32)))), .val (.int (1 : Int32)), .val (.ref b7), .val (.ref b9), .val (.ref b11), .unset, .unset] [(.ref b9), (.int (1 : Int32)), (.ref b11)])) _
      refine st16.trans ?_
      refine XS.iload X16.here hx rfl (hb hby at_94) rfl ?_
      show Steps p.tables e below (T16.setTop (mkF m 96 #[.val (.long p1), .second, .val (.int p2), .val (.long p3), .second, .val (.int p4), .val (.int p5), .val (.int (own_b (p5 &&& (2 : Int32)))), .val (.int (own_b (p5 &&& (4 : Int32)))), .val (.int (1 : Int32)), .val (.ref b7), .val (.ref b9), .val (.ref b11), .unset, .unset] [(.int (1 : Int32))])) _
      refine XS.ifYes X16.here hx rfl (pc0 := 96) (pc' := 104) rfl (hb hby at_96) rfl ((if0 _ _).trans (feq (by decide : ¬ ((1 : Int32) = (0 : Int32)))).2) (by decide) (by decide) ?_
      refine XS.aload X16.here hx rfl (hb hby at_104) rfl rfl ?_
      refine XS.astore X16.here hx rfl (hb hby at_106) rfl rfl (l' := #[.val (.long p1), .second, .val (.int p2), .val (.long p3), .second, .val (.int p4), .val (.int p5), .val (.int (own_b (p5 &&& (2 : Int32)))), .val (.int (own_b (p5 &&& (4 : Int32)))), .val (.int (1 : Int32)), .val (.ref b7), .val (.ref b9), .val (.ref b11), .val (.ref b7), .unset]) rfl ?_
      show Steps p.tables e below (T16.setTop (mkF m 108 #[.val (.long p1), .second, .val (.int p2), .val (.long p3), .second, .val (.int p4), .val (.int p5), .val (.int (own_b (p5 &&& (2 : Int32)))), .val (.int (own_b (p5 &&& (4 : Int32)))), .val (.int (1 : Int32)), .val (.ref b7), .val (.ref b9), .val (.ref b11), .val (.ref b7), .unset] [])) _
      refine XS.iload X16.here hx rfl (hb hby at_108) rfl ?_
      refine XS.iconst X16.here hx rfl (hb hby at_110) ?_
      show Steps p.tables e below (T16.setTop (mkF m 111 #[.val (.long p1), .second, .val (.int p2), .val (.long p3), .second, .val (.int p4), .val (.int p5), .val (.int (own_b (p5 &&& (2 : Int32)))), .val (.int (own_b (p5 &&& (4 : Int32)))), .val (.int (1 : Int32)), .val (.ref b7), .val (.ref b9), .val (.ref b11), .val (.ref b7), .unset] [(.int (1 : Int32)), (.int (1 : Int32))])) _
      refine XS.icmpNo X16.here hx rfl (hb hby at_111) rfl (teq (rfl : (1 : Int32) = (1 : Int32))).2 ?_
      refine XS.aload X16.here hx rfl (hb hby at_114) rfl rfl ?_
      refine XS.goto X16.here hx rfl (pc0 := 116) (pc' := 120) rfl (hb hby at_116) (by decide) (by decide) ?_
      show Steps p.tables e below (T16.setTop (mkF m 120 #[.val (.long p1), .second, .val (.int p2), .val (.long p3), .second, .val (.int p4), .val (.int p5), .val (.int (own_b (p5 &&& (2 : Int32)))), .val (.int (own_b (p5 &&& (4 : Int32)))), .val (.int (1 : Int32)), .val (.ref b7), .val (.ref b9), .val (.ref b11), .val (.ref b7), .unset] [(.ref b9)])) _
      refine XS.astore X16.here hx rfl (hb hby at_120) rfl rfl (l' := #[.val (.long p1), .second, .val (.int p2), .val (.long p3), .second, .val (.int p4), .val (.int p5), .val (.int (own_b (p5 &&& (2 : Int32)))), .val (.int (own_b (p5 &&& (4 : Int32)))), .val (.int (1 : Int32)), .val (.ref b7), .val (.ref b9), .val (.ref b11), .val (.ref b7), .val (.ref b9)]) rfl ?_
      refine XS.aload X16.here hx rfl (hb hby at_122) rfl rfl ?_
      refine XS.iconst X16.here hx rfl (hb hby at_124) ?_
      show Steps p.tables e below (T16.setTop (mkF m 125 #[.val (.long p1), .second, .val (.int p2), .val (.long p3), .second, .val (.int p4), .val (.int p5), .val (.int (own_b (p5 &&& (2 : Int32)))), .val (.int (own_b (p5 &&& (4 : Int32)))), .val (.int (1 : Int32)), .val (.ref b7), .val (.ref b9), .val (.ref b11), .val (.ref b7), .val (.ref b9)] [(.int (0 : Int32)), (.ref b11)])) _
      refine st19.trans ?_
      refine XS.aload X19.here hx rfl (hb hby at_128) rfl rfl ?_
      show Steps p.tables e below (T19.setTop (mkF m 130 #[.val (.long p1), .second, .val (.int p2), .val (.long p3), .second, .val (.int p4), .val (.int p5), .val (.int (own_b (p5 &&& (2 : Int32)))), .val (.int (own_b (p5 &&& (4 : Int32)))), .val (.int (1 : Int32)), .val (.ref b7), .val (.ref b9), .val (.ref b11), .val (.ref b7), .val (.ref b9)] [(.ref b7), (.ref b19)])) _
      refine st22 _ ?_
      show Steps p.tables e below (T22.setTop (mkF m 133 #[.val (.long p1), .second, .val (.int p2), .val (.long p3), .second, .val (.int p4), .val (.int p5), .val (.int (own_b (p5 &&& (2 : Int32)))), .val (.int (own_b (p5 &&& (4 : Int32)))), .val (.int (1 : Int32)), .val (.ref b7), .val (.ref b9), .val (.ref b11), .val (.ref b7), .val (.ref b9)] [(.int (1 : Int32))])) _
      refine XS.ifNo X22.here hx rfl (hb hby at_133) rfl ((if0 _ _).trans (feq (by decide : ¬ ((1 : Int32) = (0 : Int32)))).1) ?_
      refine XS.aload X22.here hx rfl (hb hby at_136) rfl rfl ?_
      refine XS.iconst X22.here hx rfl (hb hby at_138) ?_
      show Steps p.tables e below (T22.setTop (mkF m 139 #[.val (.long p1), .second, .val (.int p2), .val (.long p3), .second, .val (.int p4), .val (.int p5), .val (.int (own_b (p5 &&& (2 : Int32)))), .val (.int (own_b (p5 &&& (4 : Int32)))), .val (.int (1 : Int32)), .val (.ref b7), .val (.ref b9), .val (.ref b11), .val (.ref b7), .val (.ref b9)] [(.int (1 : Int32)), (.ref b11)])) _
      refine st24.trans ?_
      refine XS.aload X24.here hx rfl (hb hby at_142) rfl rfl ?_
      show Steps p.tables e below (T24.setTop (mkF m 144 #[.val (.long p1), .second, .val (.int p2), .val (.long p3), .second, .val (.int p4), .val (.int p5), .val (.int (own_b (p5 &&& (2 : Int32)))), .val (.int (own_b (p5 &&& (4 : Int32)))), .val (.int (1 : Int32)), .val (.ref b7), .val (.ref b9), .val (.ref b11), .val (.ref b7), .val (.ref b9)] [(.ref b9), (.ref b24)])) _
      refine st29 _ ?_
      show Steps p.tables e below (T29.setTop (mkF m 147 #[.val (.long p1), .second, .val (.int p2), .val (.long p3), .second, .val (.int p4), .val (.int p5), .val (.int (own_b (p5 &&& (2 : Int32)))), .val (.int (own_b (p5 &&& (4 : Int32)))), .val (.int (1 : Int32)), .val (.ref b7), .val (.ref b9), .val (.ref b11), .val (.ref b7), .val (.ref b9)] [(.int (1 : Int32))])) _
      refine XS.ifNo X29.here hx rfl (hb hby at_147) rfl ((if0 _ _).trans (feq (by decide : ¬ ((1 : Int32) = (0 : Int32)))).1) ?_
      refine XS.aload X29.here hx rfl (hb hby at_150) rfl rfl ?_
      refine XS.iconst X29.here hx rfl (hb hby at_152) ?_
      show Steps p.tables e below (T29.setTop (mkF m 153 #[.val (.long p1), .second, .val (.int p2), .val (.long p3), .second, .val (.int p4), .val (.int p5), .val (.int (own_b (p5 &&& (2 : Int32)))), .val (.int (own_b (p5 &&& (4 : Int32)))), .val (.int (1 : Int32)), .val (.ref b7), .val (.ref b9), .val (.ref b11), .val (.ref b7), .val (.ref b9)] [(.int (2 : Int32)), (.ref b11)])) _
      refine st31.trans ?_
      refine XS.aconstNull X31.here hx rfl (hb hby at_156) ?_
      show Steps p.tables e below (T31.setTop (mkF m 157 #[.val (.long p1), .second, .val (.int p2), .val (.long p3), .second, .val (.int p4), .val (.int p5), .val (.int (own_b (p5 &&& (2 : Int32)))), .val (.int (own_b (p5 &&& (4 : Int32)))), .val (.int (1 : Int32)), .val (.ref b7), .val (.ref b9), .val (.ref b11), .val (.ref b7), .val (.ref b9)] [.null, .null])) _
      refine st35 _ ?_
      show Steps p.tables e below (T35.setTop (mkF m 160 #[.val (.long p1), .second, .val (.int p2), .val (.long p3), .second, .val (.int p4), .val (.int p5), .val (.int (own_b (p5 &&& (2 : Int32)))), .val (.int (own_b (p5 &&& (4 : Int32)))), .val (.int (1 : Int32)), .val (.ref b7), .val (.ref b9), .val (.ref b11), .val (.ref b7), .val (.ref b9)] [(.int (1 : Int32))])) _
      refine XS.ifNo X35.here hx rfl (hb hby at_160) rfl ((if0 _ _).trans (feq (by decide : ¬ ((1 : Int32) = (0 : Int32)))).1) ?_
      refine XS.iconst X35.here hx rfl (hb hby at_163) ?_
      refine XS.goto X35.here hx rfl (pc0 := 164) (pc' := 168) rfl (hb hby at_164) (by decide) (by decide) ?_
      show Steps p.tables e below (T35.setTop (mkF m 168 #[.val (.long p1), .second, .val (.int p2), .val (.long p3), .second, .val (.int p4), .val (.int p5), .val (.int (own_b (p5 &&& (2 : Int32)))), .val (.int (own_b (p5 &&& (4 : Int32)))), .val (.int (1 : Int32)), .val (.ref b7), .val (.ref b9), .val (.ref b11), .val (.ref b7), .val (.ref b9)] [(.int (1 : Int32))])) _
      exact retN X35 hx (t := .boolean) Bd.returns (by simp) (hb hby at_168) hr
    · show Q0 n0 _ T35.heap _
      rw [e35q]
      exact ⟨rfl, N35a⟩
    · show CHr Z own_EL s.vm s.heap T35.vm T35.heap
      rw [hh, e35q]
      exact CH8.trans (CHv.at X35 hZ16 hEL CH8.1)
set_option maxRecDepth 65536 in
set_option maxHeartbeats 40000000 in
theorem comes_1 {Post : Tables → Env → Array Value → State → Outcome → State → Prop} (hpost : ∀ tb e args s v u, (limb_1_1.after args s (.returned v) u = true ∧ limb_1_2.after args s (.returned v) u = true ∧ True) → ReturnedEndW s (.returned v) u (Jvm.fieldLocs frame_1_writes args s ++ Jvm.arrayLocs frame_1_arrays args s ++ Jvm.staticLocs frame_1_statics s) 32 1216 → Post tb e args s (.returned v) u) :
    ArmFor flags0 classFile x code maxLocals ret World_1 tables_1 room_1 Calls_1 rest_1 Pre_1 Post := by
  intro l hfl _ _ p e ha hc hk s m args below hf hA hF happ hP
  obtain ⟨hcalls, hrest, hpre⟩ := hP
  obtain ⟨-, -, -, hnamed, -, -, -, hat⟩ := (Spec.applies_iff hf).mp happ
  obtain ⟨hg, hn⟩ := and_e (Cond.before_iff.mp (show (Jvm.Cond.and given_1 narrow_1).before args s = true from hpre))
  obtain ⟨g1, g2⟩ := and_e hg
  obtain ⟨g3, g4⟩ := and_e g2
  obtain ⟨g5, g6⟩ := and_e g4
  obtain ⟨g7, g8⟩ := and_e g6
  obtain ⟨g9, g10⟩ := and_e g8
  obtain ⟨w0, w1, w2, w3, w4, rfl⟩ : ∃ w0 w1 w2 w3 w4 : Value, args = #[w0, w1, w2, w3, w4] := by
    have hs : args.size = 5 := by simpa [Cond.value, given_1] using g1
    obtain ⟨L⟩ := args
    match L, hs with
    | [w0, w1, w2, w3, w4], _ => exact ⟨w0, w1, w2, w3, w4, rfl⟩
  have hw := fun d (hd : d ∈ tables_1) => atoms_spec (ws := Jvm.Cond.code x code maxLocals ret :: tables_1) hat d (List.mem_cons_of_mem _ hd)
  obtain ⟨hsets, hown0⟩ := atoms_of _ (rest_1_c_eq ▸ (show rest_1_c.before _ s = true from hrest))
  obtain ⟨i0, ei0⟩ := isL_v g3
  obtain rfl : w0 = (.long i0) := Option.some.inj ei0
  obtain ⟨i1, ei1⟩ := is_v g5
  obtain rfl : w1 = (.int i1) := Option.some.inj ei1
  obtain ⟨i2, ei2⟩ := isL_v g7
  obtain rfl : w2 = (.long i2) := Option.some.inj ei2
  obtain ⟨i3, ei3⟩ := is_v g9
  obtain rfl : w3 = (.int i3) := Option.some.inj ei3
  obtain ⟨i4, ei4⟩ := is_v g10
  obtain rfl : w4 = (.int i4) := Option.some.inj ei4
  obtain ⟨za, ze⟩ := arr_v (Cond.before_iff.mp (hsets _ (List.mem_of_getElem? (i := 18) rfl)))
  obtain ⟨zc, zA⟩ := Arr.start ze (Cond.before_iff.mp (hsets _ (List.mem_of_getElem? (i := 18) rfl)))
  have zS : Sta s s.heap "java/math/BigDecimal" "ZERO_THROUGH_TEN" "[Ljava/math/BigDecimal;" (.ref za) := Sta.start ze (Or.inl (hsets _ (List.mem_of_getElem? (i := 1) rfl)))
  have zz : zc.slots.size = 11 := own_len11 (own_len ze (zA.fin (Vm.Alike.refl _)) (eqv_i (Term.int_eval (11)) (Cond.before_iff.mp (hsets _ (List.mem_of_getElem? (i := 20) rfl)))))
  obtain ⟨b1, x1⟩ := exa_v (Cond.before_iff.mp (hsets _ (List.mem_of_getElem? (i := 32) rfl)))
  have y1 := exa_at x1 (Cond.before_iff.mp (hsets _ (List.mem_of_getElem? (i := 32) rfl)))
  have k1 : zc.slots[((1 : Int32)).toNatClampNeg]? = some (.ref b1) := (elem_f ze (Term.int_eval (1)) (zA.fin (Vm.Alike.refl _)) (by decide)).symm.trans x1
  have fs1 : Fld s s.heap b1 "java/math/BigDecimal" "scale" "I" (.int (0 : Int32)) := Fld.start ((fld_at x1).symm.trans (eqv_i (Term.int_eval (0)) (Cond.before_iff.mp (hsets _ (List.mem_of_getElem? (i := 33) rfl)))))
  have fp1 : Fld s s.heap b1 "java/math/BigDecimal" "precision" "I" (.int (1 : Int32)) := Fld.start ((fld_at x1).symm.trans (eqv_i (Term.int_eval (1)) (Cond.before_iff.mp (hsets _ (List.mem_of_getElem? (i := 119) rfl)))))
  have fc1 : Fld s s.heap b1 "java/math/BigDecimal" "intCompact" "J" (.long (1 : Int64)) := Fld.start ((fld_at x1).symm.trans (eqv_l (long_at (1)) (Cond.before_iff.mp (hsets _ (List.mem_of_getElem? (i := 34) rfl)))))
  obtain ⟨b2, x2⟩ := exa_v (Cond.before_iff.mp (hsets _ (List.mem_of_getElem? (i := 42) rfl)))
  have y2 := exa_at x2 (Cond.before_iff.mp (hsets _ (List.mem_of_getElem? (i := 42) rfl)))
  have k2 : zc.slots[((2 : Int32)).toNatClampNeg]? = some (.ref b2) := (elem_f ze (Term.int_eval (2)) (zA.fin (Vm.Alike.refl _)) (by decide)).symm.trans x2
  have fs2 : Fld s s.heap b2 "java/math/BigDecimal" "scale" "I" (.int (0 : Int32)) := Fld.start ((fld_at x2).symm.trans (eqv_i (Term.int_eval (0)) (Cond.before_iff.mp (hsets _ (List.mem_of_getElem? (i := 43) rfl)))))
  have fp2 : Fld s s.heap b2 "java/math/BigDecimal" "precision" "I" (.int (1 : Int32)) := Fld.start ((fld_at x2).symm.trans (eqv_i (Term.int_eval (1)) (Cond.before_iff.mp (hsets _ (List.mem_of_getElem? (i := 121) rfl)))))
  have fc2 : Fld s s.heap b2 "java/math/BigDecimal" "intCompact" "J" (.long (2 : Int64)) := Fld.start ((fld_at x2).symm.trans (eqv_l (long_at (2)) (Cond.before_iff.mp (hsets _ (List.mem_of_getElem? (i := 44) rfl)))))
  obtain ⟨b3, x3⟩ := exa_v (Cond.before_iff.mp (hsets _ (List.mem_of_getElem? (i := 51) rfl)))
  have y3 := exa_at x3 (Cond.before_iff.mp (hsets _ (List.mem_of_getElem? (i := 51) rfl)))
  have k3 : zc.slots[((3 : Int32)).toNatClampNeg]? = some (.ref b3) := (elem_f ze (Term.int_eval (3)) (zA.fin (Vm.Alike.refl _)) (by decide)).symm.trans x3
  have fs3 : Fld s s.heap b3 "java/math/BigDecimal" "scale" "I" (.int (0 : Int32)) := Fld.start ((fld_at x3).symm.trans (eqv_i (Term.int_eval (0)) (Cond.before_iff.mp (hsets _ (List.mem_of_getElem? (i := 52) rfl)))))
  have fp3 : Fld s s.heap b3 "java/math/BigDecimal" "precision" "I" (.int (1 : Int32)) := Fld.start ((fld_at x3).symm.trans (eqv_i (Term.int_eval (1)) (Cond.before_iff.mp (hsets _ (List.mem_of_getElem? (i := 123) rfl)))))
  have fc3 : Fld s s.heap b3 "java/math/BigDecimal" "intCompact" "J" (.long (3 : Int64)) := Fld.start ((fld_at x3).symm.trans (eqv_l (long_at (3)) (Cond.before_iff.mp (hsets _ (List.mem_of_getElem? (i := 53) rfl)))))
  obtain ⟨b4, x4⟩ := exa_v (Cond.before_iff.mp (hsets _ (List.mem_of_getElem? (i := 59) rfl)))
  have y4 := exa_at x4 (Cond.before_iff.mp (hsets _ (List.mem_of_getElem? (i := 59) rfl)))
  have k4 : zc.slots[((4 : Int32)).toNatClampNeg]? = some (.ref b4) := (elem_f ze (Term.int_eval (4)) (zA.fin (Vm.Alike.refl _)) (by decide)).symm.trans x4
  have fs4 : Fld s s.heap b4 "java/math/BigDecimal" "scale" "I" (.int (0 : Int32)) := Fld.start ((fld_at x4).symm.trans (eqv_i (Term.int_eval (0)) (Cond.before_iff.mp (hsets _ (List.mem_of_getElem? (i := 60) rfl)))))
  have fp4 : Fld s s.heap b4 "java/math/BigDecimal" "precision" "I" (.int (1 : Int32)) := Fld.start ((fld_at x4).symm.trans (eqv_i (Term.int_eval (1)) (Cond.before_iff.mp (hsets _ (List.mem_of_getElem? (i := 125) rfl)))))
  have fc4 : Fld s s.heap b4 "java/math/BigDecimal" "intCompact" "J" (.long (4 : Int64)) := Fld.start ((fld_at x4).symm.trans (eqv_l (long_at (4)) (Cond.before_iff.mp (hsets _ (List.mem_of_getElem? (i := 61) rfl)))))
  obtain ⟨b5, x5⟩ := exa_v (Cond.before_iff.mp (hsets _ (List.mem_of_getElem? (i := 67) rfl)))
  have y5 := exa_at x5 (Cond.before_iff.mp (hsets _ (List.mem_of_getElem? (i := 67) rfl)))
  have k5 : zc.slots[((5 : Int32)).toNatClampNeg]? = some (.ref b5) := (elem_f ze (Term.int_eval (5)) (zA.fin (Vm.Alike.refl _)) (by decide)).symm.trans x5
  have fs5 : Fld s s.heap b5 "java/math/BigDecimal" "scale" "I" (.int (0 : Int32)) := Fld.start ((fld_at x5).symm.trans (eqv_i (Term.int_eval (0)) (Cond.before_iff.mp (hsets _ (List.mem_of_getElem? (i := 68) rfl)))))
  have fp5 : Fld s s.heap b5 "java/math/BigDecimal" "precision" "I" (.int (1 : Int32)) := Fld.start ((fld_at x5).symm.trans (eqv_i (Term.int_eval (1)) (Cond.before_iff.mp (hsets _ (List.mem_of_getElem? (i := 127) rfl)))))
  have fc5 : Fld s s.heap b5 "java/math/BigDecimal" "intCompact" "J" (.long (5 : Int64)) := Fld.start ((fld_at x5).symm.trans (eqv_l (long_at (5)) (Cond.before_iff.mp (hsets _ (List.mem_of_getElem? (i := 69) rfl)))))
  obtain ⟨b6, x6⟩ := exa_v (Cond.before_iff.mp (hsets _ (List.mem_of_getElem? (i := 75) rfl)))
  have y6 := exa_at x6 (Cond.before_iff.mp (hsets _ (List.mem_of_getElem? (i := 75) rfl)))
  have k6 : zc.slots[((6 : Int32)).toNatClampNeg]? = some (.ref b6) := (elem_f ze (Term.int_eval (6)) (zA.fin (Vm.Alike.refl _)) (by decide)).symm.trans x6
  have fs6 : Fld s s.heap b6 "java/math/BigDecimal" "scale" "I" (.int (0 : Int32)) := Fld.start ((fld_at x6).symm.trans (eqv_i (Term.int_eval (0)) (Cond.before_iff.mp (hsets _ (List.mem_of_getElem? (i := 76) rfl)))))
  have fp6 : Fld s s.heap b6 "java/math/BigDecimal" "precision" "I" (.int (1 : Int32)) := Fld.start ((fld_at x6).symm.trans (eqv_i (Term.int_eval (1)) (Cond.before_iff.mp (hsets _ (List.mem_of_getElem? (i := 129) rfl)))))
  have fc6 : Fld s s.heap b6 "java/math/BigDecimal" "intCompact" "J" (.long (6 : Int64)) := Fld.start ((fld_at x6).symm.trans (eqv_l (long_at (6)) (Cond.before_iff.mp (hsets _ (List.mem_of_getElem? (i := 77) rfl)))))
  obtain ⟨b7, x7⟩ := exa_v (Cond.before_iff.mp (hsets _ (List.mem_of_getElem? (i := 83) rfl)))
  have y7 := exa_at x7 (Cond.before_iff.mp (hsets _ (List.mem_of_getElem? (i := 83) rfl)))
  have k7 : zc.slots[((7 : Int32)).toNatClampNeg]? = some (.ref b7) := (elem_f ze (Term.int_eval (7)) (zA.fin (Vm.Alike.refl _)) (by decide)).symm.trans x7
  have fs7 : Fld s s.heap b7 "java/math/BigDecimal" "scale" "I" (.int (0 : Int32)) := Fld.start ((fld_at x7).symm.trans (eqv_i (Term.int_eval (0)) (Cond.before_iff.mp (hsets _ (List.mem_of_getElem? (i := 84) rfl)))))
  have fp7 : Fld s s.heap b7 "java/math/BigDecimal" "precision" "I" (.int (1 : Int32)) := Fld.start ((fld_at x7).symm.trans (eqv_i (Term.int_eval (1)) (Cond.before_iff.mp (hsets _ (List.mem_of_getElem? (i := 131) rfl)))))
  have fc7 : Fld s s.heap b7 "java/math/BigDecimal" "intCompact" "J" (.long (7 : Int64)) := Fld.start ((fld_at x7).symm.trans (eqv_l (long_at (7)) (Cond.before_iff.mp (hsets _ (List.mem_of_getElem? (i := 85) rfl)))))
  obtain ⟨b8, x8⟩ := exa_v (Cond.before_iff.mp (hsets _ (List.mem_of_getElem? (i := 91) rfl)))
  have y8 := exa_at x8 (Cond.before_iff.mp (hsets _ (List.mem_of_getElem? (i := 91) rfl)))
  have k8 : zc.slots[((8 : Int32)).toNatClampNeg]? = some (.ref b8) := (elem_f ze (Term.int_eval (8)) (zA.fin (Vm.Alike.refl _)) (by decide)).symm.trans x8
  have fs8 : Fld s s.heap b8 "java/math/BigDecimal" "scale" "I" (.int (0 : Int32)) := Fld.start ((fld_at x8).symm.trans (eqv_i (Term.int_eval (0)) (Cond.before_iff.mp (hsets _ (List.mem_of_getElem? (i := 92) rfl)))))
  have fp8 : Fld s s.heap b8 "java/math/BigDecimal" "precision" "I" (.int (1 : Int32)) := Fld.start ((fld_at x8).symm.trans (eqv_i (Term.int_eval (1)) (Cond.before_iff.mp (hsets _ (List.mem_of_getElem? (i := 133) rfl)))))
  have fc8 : Fld s s.heap b8 "java/math/BigDecimal" "intCompact" "J" (.long (8 : Int64)) := Fld.start ((fld_at x8).symm.trans (eqv_l (long_at (8)) (Cond.before_iff.mp (hsets _ (List.mem_of_getElem? (i := 93) rfl)))))
  obtain ⟨b9, x9⟩ := exa_v (Cond.before_iff.mp (hsets _ (List.mem_of_getElem? (i := 99) rfl)))
  have y9 := exa_at x9 (Cond.before_iff.mp (hsets _ (List.mem_of_getElem? (i := 99) rfl)))
  have k9 : zc.slots[((9 : Int32)).toNatClampNeg]? = some (.ref b9) := (elem_f ze (Term.int_eval (9)) (zA.fin (Vm.Alike.refl _)) (by decide)).symm.trans x9
  have fs9 : Fld s s.heap b9 "java/math/BigDecimal" "scale" "I" (.int (0 : Int32)) := Fld.start ((fld_at x9).symm.trans (eqv_i (Term.int_eval (0)) (Cond.before_iff.mp (hsets _ (List.mem_of_getElem? (i := 100) rfl)))))
  have fp9 : Fld s s.heap b9 "java/math/BigDecimal" "precision" "I" (.int (1 : Int32)) := Fld.start ((fld_at x9).symm.trans (eqv_i (Term.int_eval (1)) (Cond.before_iff.mp (hsets _ (List.mem_of_getElem? (i := 135) rfl)))))
  have fc9 : Fld s s.heap b9 "java/math/BigDecimal" "intCompact" "J" (.long (9 : Int64)) := Fld.start ((fld_at x9).symm.trans (eqv_l (long_at (9)) (Cond.before_iff.mp (hsets _ (List.mem_of_getElem? (i := 101) rfl)))))
  obtain ⟨b10, x10⟩ := exa_v (Cond.before_iff.mp (hsets _ (List.mem_of_getElem? (i := 108) rfl)))
  have y10 := exa_at x10 (Cond.before_iff.mp (hsets _ (List.mem_of_getElem? (i := 108) rfl)))
  have k10 : zc.slots[((10 : Int32)).toNatClampNeg]? = some (.ref b10) := (elem_f ze (Term.int_eval (10)) (zA.fin (Vm.Alike.refl _)) (by decide)).symm.trans x10
  have fs10 : Fld s s.heap b10 "java/math/BigDecimal" "scale" "I" (.int (0 : Int32)) := Fld.start ((fld_at x10).symm.trans (eqv_i (Term.int_eval (0)) (Cond.before_iff.mp (hsets _ (List.mem_of_getElem? (i := 109) rfl)))))
  have fp10 : Fld s s.heap b10 "java/math/BigDecimal" "precision" "I" (.int (2 : Int32)) := Fld.start ((fld_at x10).symm.trans (eqv_i (Term.int_eval (2)) (Cond.before_iff.mp (hsets _ (List.mem_of_getElem? (i := 137) rfl)))))
  have fc10 : Fld s s.heap b10 "java/math/BigDecimal" "intCompact" "J" (.long (10 : Int64)) := Fld.start ((fld_at x10).symm.trans (eqv_l (long_at (10)) (Cond.before_iff.mp (hsets _ (List.mem_of_getElem? (i := 110) rfl)))))
  have hZT : ZTT s := by
    refine ⟨za, zc, zS, zA, zz, fun v h1 h2 => ?_⟩
    rcases own_c10 h1 h2 with rfl | rfl | rfl | rfl | rfl | rfl | rfl | rfl | rfl | rfl
    · have e_ : (1 : Int64).toInt32 = (1 : Int32) := by decide
      rw [e_, zz]; exact ⟨b1, 1, by decide, k1, y1, fs1, fc1, fp1, by decide⟩
    · have e_ : (2 : Int64).toInt32 = (2 : Int32) := by decide
      rw [e_, zz]; exact ⟨b2, 1, by decide, k2, y2, fs2, fc2, fp2, by decide⟩
    · have e_ : (3 : Int64).toInt32 = (3 : Int32) := by decide
      rw [e_, zz]; exact ⟨b3, 1, by decide, k3, y3, fs3, fc3, fp3, by decide⟩
    · have e_ : (4 : Int64).toInt32 = (4 : Int32) := by decide
      rw [e_, zz]; exact ⟨b4, 1, by decide, k4, y4, fs4, fc4, fp4, by decide⟩
    · have e_ : (5 : Int64).toInt32 = (5 : Int32) := by decide
      rw [e_, zz]; exact ⟨b5, 1, by decide, k5, y5, fs5, fc5, fp5, by decide⟩
    · have e_ : (6 : Int64).toInt32 = (6 : Int32) := by decide
      rw [e_, zz]; exact ⟨b6, 1, by decide, k6, y6, fs6, fc6, fp6, by decide⟩
    · have e_ : (7 : Int64).toInt32 = (7 : Int32) := by decide
      rw [e_, zz]; exact ⟨b7, 1, by decide, k7, y7, fs7, fc7, fp7, by decide⟩
    · have e_ : (8 : Int64).toInt32 = (8 : Int32) := by decide
      rw [e_, zz]; exact ⟨b8, 1, by decide, k8, y8, fs8, fc8, fp8, by decide⟩
    · have e_ : (9 : Int64).toInt32 = (9 : Int32) := by decide
      rw [e_, zz]; exact ⟨b9, 1, by decide, k9, y9, fs9, fc9, fp9, by decide⟩
    · have e_ : (10 : Int64).toInt32 = (10 : Int32) := by decide
      rw [e_, zz]; exact ⟨b10, 2, by decide, k10, y10, fs10, fc10, fp10, by decide⟩
  obtain ⟨ta, te⟩ := arr_v (Cond.before_iff.mp (hsets _ (List.mem_of_getElem? (i := 143) rfl)))
  obtain ⟨tc, tA⟩ := Arr.start te (Cond.before_iff.mp (hsets _ (List.mem_of_getElem? (i := 143) rfl)))
  have tS : Sta s s.heap "java/math/BigDecimal" "LONG_TEN_POWERS_TABLE" "[J" (.ref ta) := Sta.start te (Or.inl (hsets _ (List.mem_of_getElem? (i := 142) rfl)))
  have tz : tc.slots.size = 19 := own_len19 (own_len te (tA.fin (Vm.Alike.refl _)) (eqv_i (Term.int_eval (19)) (Cond.before_iff.mp (hsets _ (List.mem_of_getElem? (i := 145) rfl)))))
  have l0 : tc.slots[((0 : Int32)).toNatClampNeg]? = some (.long (1 : Int64)) := (elem_f te (Term.int_eval (0)) (tA.fin (Vm.Alike.refl _)) (by decide)).symm.trans (eqv_l (long_at (1)) (Cond.before_iff.mp (hsets _ (List.mem_of_getElem? (i := 146) rfl))))
  have l1 : tc.slots[((1 : Int32)).toNatClampNeg]? = some (.long (10 : Int64)) := (elem_f te (Term.int_eval (1)) (tA.fin (Vm.Alike.refl _)) (by decide)).symm.trans (eqv_l (long_at (10)) (Cond.before_iff.mp (hsets _ (List.mem_of_getElem? (i := 147) rfl))))
  have l2 : tc.slots[((2 : Int32)).toNatClampNeg]? = some (.long (100 : Int64)) := (elem_f te (Term.int_eval (2)) (tA.fin (Vm.Alike.refl _)) (by decide)).symm.trans (eqv_l (long_at (100)) (Cond.before_iff.mp (hsets _ (List.mem_of_getElem? (i := 148) rfl))))
  have l3 : tc.slots[((3 : Int32)).toNatClampNeg]? = some (.long (1000 : Int64)) := (elem_f te (Term.int_eval (3)) (tA.fin (Vm.Alike.refl _)) (by decide)).symm.trans (eqv_l (long_at (1000)) (Cond.before_iff.mp (hsets _ (List.mem_of_getElem? (i := 149) rfl))))
  have l4 : tc.slots[((4 : Int32)).toNatClampNeg]? = some (.long (10000 : Int64)) := (elem_f te (Term.int_eval (4)) (tA.fin (Vm.Alike.refl _)) (by decide)).symm.trans (eqv_l (long_at (10000)) (Cond.before_iff.mp (hsets _ (List.mem_of_getElem? (i := 150) rfl))))
  have l5 : tc.slots[((5 : Int32)).toNatClampNeg]? = some (.long (100000 : Int64)) := (elem_f te (Term.int_eval (5)) (tA.fin (Vm.Alike.refl _)) (by decide)).symm.trans (eqv_l (long_at (100000)) (Cond.before_iff.mp (hsets _ (List.mem_of_getElem? (i := 151) rfl))))
  have l6 : tc.slots[((6 : Int32)).toNatClampNeg]? = some (.long (1000000 : Int64)) := (elem_f te (Term.int_eval (6)) (tA.fin (Vm.Alike.refl _)) (by decide)).symm.trans (eqv_l (long_at (1000000)) (Cond.before_iff.mp (hsets _ (List.mem_of_getElem? (i := 152) rfl))))
  have l7 : tc.slots[((7 : Int32)).toNatClampNeg]? = some (.long (10000000 : Int64)) := (elem_f te (Term.int_eval (7)) (tA.fin (Vm.Alike.refl _)) (by decide)).symm.trans (eqv_l (long_at (10000000)) (Cond.before_iff.mp (hsets _ (List.mem_of_getElem? (i := 153) rfl))))
  have l8 : tc.slots[((8 : Int32)).toNatClampNeg]? = some (.long (100000000 : Int64)) := (elem_f te (Term.int_eval (8)) (tA.fin (Vm.Alike.refl _)) (by decide)).symm.trans (eqv_l (long_at (100000000)) (Cond.before_iff.mp (hsets _ (List.mem_of_getElem? (i := 154) rfl))))
  have l9 : tc.slots[((9 : Int32)).toNatClampNeg]? = some (.long (1000000000 : Int64)) := (elem_f te (Term.int_eval (9)) (tA.fin (Vm.Alike.refl _)) (by decide)).symm.trans (eqv_l (long_at (1000000000)) (Cond.before_iff.mp (hsets _ (List.mem_of_getElem? (i := 155) rfl))))
  have l10 : tc.slots[((10 : Int32)).toNatClampNeg]? = some (.long (10000000000 : Int64)) := (elem_f te (Term.int_eval (10)) (tA.fin (Vm.Alike.refl _)) (by decide)).symm.trans (eqv_l (long_at (10000000000)) (Cond.before_iff.mp (hsets _ (List.mem_of_getElem? (i := 156) rfl))))
  have l11 : tc.slots[((11 : Int32)).toNatClampNeg]? = some (.long (100000000000 : Int64)) := (elem_f te (Term.int_eval (11)) (tA.fin (Vm.Alike.refl _)) (by decide)).symm.trans (eqv_l (long_at (100000000000)) (Cond.before_iff.mp (hsets _ (List.mem_of_getElem? (i := 157) rfl))))
  have l12 : tc.slots[((12 : Int32)).toNatClampNeg]? = some (.long (1000000000000 : Int64)) := (elem_f te (Term.int_eval (12)) (tA.fin (Vm.Alike.refl _)) (by decide)).symm.trans (eqv_l (long_at (1000000000000)) (Cond.before_iff.mp (hsets _ (List.mem_of_getElem? (i := 158) rfl))))
  have l13 : tc.slots[((13 : Int32)).toNatClampNeg]? = some (.long (10000000000000 : Int64)) := (elem_f te (Term.int_eval (13)) (tA.fin (Vm.Alike.refl _)) (by decide)).symm.trans (eqv_l (long_at (10000000000000)) (Cond.before_iff.mp (hsets _ (List.mem_of_getElem? (i := 159) rfl))))
  have l14 : tc.slots[((14 : Int32)).toNatClampNeg]? = some (.long (100000000000000 : Int64)) := (elem_f te (Term.int_eval (14)) (tA.fin (Vm.Alike.refl _)) (by decide)).symm.trans (eqv_l (long_at (100000000000000)) (Cond.before_iff.mp (hsets _ (List.mem_of_getElem? (i := 160) rfl))))
  have l15 : tc.slots[((15 : Int32)).toNatClampNeg]? = some (.long (1000000000000000 : Int64)) := (elem_f te (Term.int_eval (15)) (tA.fin (Vm.Alike.refl _)) (by decide)).symm.trans (eqv_l (long_at (1000000000000000)) (Cond.before_iff.mp (hsets _ (List.mem_of_getElem? (i := 161) rfl))))
  have l16 : tc.slots[((16 : Int32)).toNatClampNeg]? = some (.long (10000000000000000 : Int64)) := (elem_f te (Term.int_eval (16)) (tA.fin (Vm.Alike.refl _)) (by decide)).symm.trans (eqv_l (long_at (10000000000000000)) (Cond.before_iff.mp (hsets _ (List.mem_of_getElem? (i := 162) rfl))))
  have l17 : tc.slots[((17 : Int32)).toNatClampNeg]? = some (.long (100000000000000000 : Int64)) := (elem_f te (Term.int_eval (17)) (tA.fin (Vm.Alike.refl _)) (by decide)).symm.trans (eqv_l (long_at (100000000000000000)) (Cond.before_iff.mp (hsets _ (List.mem_of_getElem? (i := 163) rfl))))
  have l18 : tc.slots[((18 : Int32)).toNatClampNeg]? = some (.long (1000000000000000000 : Int64)) := (elem_f te (Term.int_eval (18)) (tA.fin (Vm.Alike.refl _)) (by decide)).symm.trans (eqv_l (long_at (1000000000000000000)) (Cond.before_iff.mp (hsets _ (List.mem_of_getElem? (i := 164) rfl))))
  have aS : Sta s s.heap "java/math/BigDecimal" "$assertionsDisabled" "Z" (.int (1 : Int32)) := Sta.start (eqv_i (Term.int_eval (1)) (Cond.before_iff.mp (hsets _ (List.mem_of_getElem? (i := 140) rfl)))) (Or.inl (hsets _ (List.mem_of_getElem? (i := 139) rfl)))
  have hTP : TPT s := by
    refine ⟨aS, ta, tc, tS, tA, tz, fun j h1 h2 => ?_⟩
    rw [tz]
    rcases own_c19 h1 h2 with rfl | rfl | rfl | rfl | rfl | rfl | rfl | rfl | rfl | rfl | rfl | rfl | rfl | rfl | rfl | rfl | rfl | rfl | rfl
    · exact ⟨by decide, _, l0⟩
    · exact ⟨by decide, _, l1⟩
    · exact ⟨by decide, _, l2⟩
    · exact ⟨by decide, _, l3⟩
    · exact ⟨by decide, _, l4⟩
    · exact ⟨by decide, _, l5⟩
    · exact ⟨by decide, _, l6⟩
    · exact ⟨by decide, _, l7⟩
    · exact ⟨by decide, _, l8⟩
    · exact ⟨by decide, _, l9⟩
    · exact ⟨by decide, _, l10⟩
    · exact ⟨by decide, _, l11⟩
    · exact ⟨by decide, _, l12⟩
    · exact ⟨by decide, _, l13⟩
    · exact ⟨by decide, _, l14⟩
    · exact ⟨by decide, _, l15⟩
    · exact ⟨by decide, _, l16⟩
    · exact ⟨by decide, _, l17⟩
    · exact ⟨by decide, _, l18⟩
  have hEL : EW s #[.long i0, .int i1, .long i2, .int i3, .int i4] own_EL := EW.nil
  have hCH : CHv s own_EL s.vm s.heap := fun p hp => by cases hp
  obtain ⟨n, o, h1, h2, h3, _, L, rfl, ⟨rfl, N⟩, hch, hq⟩ := rm0 l s _ hw tables_1 hEL i0 i1 i2 i3 i4 s.heap s.heap.size (Nat.le_refl _) hZT hTP (Old.start s) p e ha hc hk s m _ below hf ((Spec.applies_iff_loose hf).mp happ).1 ⟨rfl, State.Warmed39.refl s, rfl, hCH⟩ trivial
  exact ⟨n, _, h1, h2, h3, hpost _ _ _ _ _ _ ⟨Cond.after_iff.mpr rfl, Cond.after_iff.mpr (eq_i res_at (Term.int_eval (1)) rfl), trivial⟩ ⟨hq.1, hq.2.1, hq.2.2.1, (hq.2.2.2.sift fun y hy => Or.inr (N y hy)).mono (by decide) (by decide)⟩⟩
theorem main_1_1 : Claimed_1_1 := comes_1 fun _ _ _ _ _ _ h hF => ⟨h.1, hF⟩
theorem main_1_2 : Claimed_1_2 := comes_1 fun _ _ _ _ _ _ h hF => ⟨h.2.1, hF⟩
end Jvm.Pilot.@@N@@
namespace Jvm.Pilot.@@N@@
open Jvm Jvm.ClassFile Sem Op Lib Jvm.Free Jvm.Stand Jvm.Pilot.@@N@@.Jvm.D
/-! MADE BY PROGRAM (witnessworld.py) out of the Statement's table words and the real class files: 24 classes; the members and pool entries that the words name. The judged class is class 1, her method 3. -/
namespace start1
open Jvm.ClassFile
def u (s : String) : CpInfo := .utf8 (stringToUtf16 s)
/-- a pool by its gaps: so many unusable entries, then the entry; so many at the end -/
def gap : Nat → List CpInfo → List CpInfo
  | 0, r => r
  | n + 1, r => .unusable :: gap n r
def poolList (es : List (Nat × CpInfo)) (last : Nat) : List CpInfo := es.foldr (fun e r => gap e.1 (e.2 :: r)) (gap last [])
def pool (es : List (Nat × CpInfo)) (last : Nat) : Array CpInfo := ⟨poolList es last⟩
def fileOf (pool : Array CpInfo) (this : Nat) (attrs : Array Attribute := #[]) (ms : Array MethodInfo := #[]) (fl : Nat := 33) (sup : Nat := 0) (ifs : Array Nat := #[]) (fds : Array FieldInfo := #[]) : ClassFile where
  minorVersion := 0
  majorVersion := 65
  constantPool := pool
  accessFlags := fl
  thisClass := this
  superClass := sup
  interfaces := ifs
  fields := fds
  methods := ms
  attributes := attrs
def plain (name : String) (sup : Option ClassId) : Class where
  name := name
  kind := .ordinary
  loader := none
  accessFlags := 33
  super := sup
  interfaces := #[]
  cf := none
  fields := #[]
  methods := #[]
  instanceTypes := #[]
  staticTypes := #[]
  resolved := #[]
  callSites := []
  init := .initialized
  statics := none
  mirror := none

def pool0 : Array CpInfo := pool [(5, u "<init>"), (0, u "()V"), (1, .class_ 10), (1, u "java/lang/Object")] 113

def k0c0 : Code := { maxStack := 0, maxLocals := 1, code := object_method_1_code, exceptionTable := #[], attributes := #[] }
def k0m0 : Method := { name := "<init>", desc := "()V", sig := { parameters := [], returnType := none }, accessFlags := 1, code := some k0c0 }
/-- java/lang/Object -/
def k0 : Class := { plain "java/lang/Object" none with
  accessFlags := 33
  interfaces := #[]
  cf := some (fileOf pool0 8 #[] #[{ accessFlags := 1, nameIndex := 5, descriptorIndex := 6, attributes := #[] }] 33 0 #[] #[])
  fields := #[]
  methods := #[k0m0]
  instanceTypes := #[]
  staticTypes := #[]
  resolved := Array.replicate 124 none
  statics := none }

def pool1 : Array CpInfo := pool [(2, .class_ 4), (1, u "java/lang/Object"), (0, u "<init>"), (0, u "()V"), (2, .long 9223372036854775807), (1, .long 1000000000000000000), (1, .methodref 14 15), (0, .class_ 16), (0, .nameAndType 17 18), (0, u "java/math/BigDecimal"), (0, u "equals"), (0, u "(Ljava/lang/Object;)Z"), (0, .methodref 20 21), (0, .class_ 22), (0, .nameAndType 23 24), (0, u "com/example/floatweight/floatweight/PricesGetPinLaw"), (0, u "pos"), (0, u "(JZ)J"), (0, .methodref 14 26), (0, .nameAndType 27 28), (0, u "valueOf"), (0, u "(JI)Ljava/math/BigDecimal;"), (0, .class_ 30), (0, u "com/example/floatweight/floatweight/Prices"), (0, .methodref 29 32), (0, .nameAndType 5 33), (0, u "(I)V"), (0, .methodref 29 35), (0, .nameAndType 36 37), (0, u "set"), (0, u "(ILjava/math/BigDecimal;)V"), (0, .methodref 29 39), (0, .nameAndType 40 41), (0, u "get"), (0, u "(I)Ljava/math/BigDecimal;"), (0, .methodref 20 43), (0, .nameAndType 44 45), (0, u "same"), (0, u "(Ljava/math/BigDecimal;Ljava/math/BigDecimal;)Z"), (3, u "law"), (0, u "(JIJII)Z")] 2

def k1m0 : Method := { name := "<init>", desc := "()V", sig := { parameters := [], returnType := none }, accessFlags := 1, code := none }
def k1c1 : Code := { maxStack := 4, maxLocals := 5, code := method_2_code, exceptionTable := #[], attributes := #[] }
def k1m1 : Method := { name := "pos", desc := "(JZ)J", sig := { parameters := [.long, .boolean], returnType := some .long }, accessFlags := 10, code := some k1c1 }
def k1c2 : Code := { maxStack := 2, maxLocals := 2, code := method_3_code, exceptionTable := #[], attributes := #[] }
def k1m2 : Method := { name := "same", desc := "(Ljava/math/BigDecimal;Ljava/math/BigDecimal;)Z", sig := { parameters := [(.object "java/math/BigDecimal"), (.object "java/math/BigDecimal")], returnType := some .boolean }, accessFlags := 10, code := some k1c2 }
def k1c3 : Code := { maxStack := 3, maxLocals := 15, code := code, exceptionTable := #[], attributes := #[] }
def k1m3 : Method := { name := "law", desc := "(JIJII)Z", sig := { parameters := [.long, .int, .long, .int, .int], returnType := some .boolean }, accessFlags := 9, code := some k1c3 }
/-- com/example/floatweight/floatweight/PricesGetPinLaw -/
def k1 : Class := { plain "com/example/floatweight/floatweight/PricesGetPinLaw" (some 0) with
  accessFlags := 49
  interfaces := #[]
  cf := some (fileOf pool1 20 #[] #[{ accessFlags := 1, nameIndex := 5, descriptorIndex := 6, attributes := #[] }, { accessFlags := 10, nameIndex := 23, descriptorIndex := 24, attributes := #[] }, { accessFlags := 10, nameIndex := 44, descriptorIndex := 45, attributes := #[] }, { accessFlags := 9, nameIndex := 49, descriptorIndex := 50, attributes := #[] }] 49 2 #[] #[])
  fields := #[]
  methods := #[k1m0, k1m1, k1m2, k1m3]
  instanceTypes := #[]
  staticTypes := #[]
  resolved := Array.replicate 53 none
  statics := none }

def pool2 : Array CpInfo := pool [(1, .class_ 2), (0, u "java/io/Serializable"), (0, .class_ 4), (0, u "java/lang/Object")] 2

/-- java/io/Serializable -/
def k2 : Class := { plain "java/io/Serializable" (some 0) with
  accessFlags := 1537
  interfaces := #[]
  cf := some (fileOf pool2 1 #[] #[] 1537 3 #[] #[])
  fields := #[]
  methods := #[]
  instanceTypes := #[]
  staticTypes := #[]
  resolved := Array.replicate 7 none
  statics := none }

def pool3 : Array CpInfo := pool [(1, .methodref 2 3), (0, .class_ 4), (0, .nameAndType 5 6), (0, u "java/lang/Object"), (0, u "<init>"), (0, u "()V"), (1, .class_ 10), (1, u "java/lang/Number"), (2, .class_ 14), (0, u "java/io/Serializable"), (0, u "serialVersionUID"), (0, u "J")] 20

def k3c0 : Code := { maxStack := 1, maxLocals := 1, code := jdk_18_method_1_code, exceptionTable := #[], attributes := #[] }
def k3m0 : Method := { name := "<init>", desc := "()V", sig := { parameters := [], returnType := none }, accessFlags := 1, code := some k3c0 }
/-- java/lang/Number -/
def k3 : Class := { plain "java/lang/Number" (some 0) with
  accessFlags := 1057
  interfaces := #[2]
  cf := some (fileOf pool3 8 #[] #[{ accessFlags := 1, nameIndex := 5, descriptorIndex := 6, attributes := #[] }] 1057 2 #[13] #[{ accessFlags := 26, nameIndex := 15, descriptorIndex := 16, attributes := #[] }])
  fields := #[{ name := "serialVersionUID", type := .long, accessFlags := 26, slot := 0, constantValue := 0 }]
  methods := #[k3m0]
  instanceTypes := #[]
  staticTypes := #[.long]
  resolved := Array.replicate 37 none
  statics := none }

def pool4 : Array CpInfo := pool [(1, .class_ 2), (0, u "java/lang/Comparable"), (0, .class_ 4), (0, u "java/lang/Object")] 7

/-- java/lang/Comparable -/
def k4 : Class := { plain "java/lang/Comparable" (some 0) with
  accessFlags := 1537
  interfaces := #[]
  cf := some (fileOf pool4 1 #[] #[] 1537 3 #[] #[])
  fields := #[]
  methods := #[]
  instanceTypes := #[]
  staticTypes := #[]
  resolved := Array.replicate 12 none
  statics := none }

def pool5 : Array CpInfo := pool [(3, .class_ 4), (0, u "java/math/BigDecimal"), (2, .class_ 8), (0, u "java/lang/Long"), (2, .methodref 12 13), (0, .class_ 14), (0, .nameAndType 15 16), (0, u "java/lang/Number"), (0, u "<init>"), (0, u "()V"), (0, .fieldref 3 18), (0, .nameAndType 19 20), (0, u "scale"), (0, u "I"), (0, .fieldref 3 22), (0, .nameAndType 23 20), (0, u "precision"), (0, .fieldref 3 25), (0, .nameAndType 26 27), (0, u "intCompact"), (0, u "J"), (0, .fieldref 3 29), (0, .nameAndType 30 31), (0, u "intVal"), (0, u "Ljava/math/BigInteger;"), (24, .long 10), (38, .fieldref 3 96), (0, .nameAndType 97 98), (0, u "LONG_TEN_POWERS_TABLE"), (0, u "[J"), (13, .methodref 3 113), (0, .nameAndType 114 115), (0, u "longDigitLength"), (0, u "(J)I"), (9, .long 9223372036854775808), (36, u "()I"), (24, u "ZERO"), (2, u "INFLATED_BIGINT"), (4, u "valueOf"), (10, u "TWO"), (29, .methodref 3 237), (0, .nameAndType 195 238), (0, u "(J)Ljava/math/BigDecimal;"), (3, u "(I)Ljava/math/BigDecimal;"), (0, .methodref 3 244), (0, .nameAndType 15 245), (0, u "(Ljava/math/BigInteger;JII)V"), (0, .fieldref 3 247), (0, .nameAndType 248 249), (0, u "ZERO_THROUGH_TEN"), (0, u "[Ljava/math/BigDecimal;"), (2, u "ZERO_SCALED_BY"), (19, u "signum"), (38, .fieldref 3 312), (0, .nameAndType 313 314), (0, u "$assertionsDisabled"), (0, u "Z"), (10, .methodref 3 326), (0, .nameAndType 327 115), (0, u "checkScale"), (2, u "(JI)Ljava/math/BigDecimal;"), (147, u "ONE_TENTH"), (0, u "Ljava/math/BigDecimal;"), (5, u "TEN"), (14, .class_ 502), (1, u "java/math/BigDecimal$1"), (15, u "ONE_HALF"), (16, u "ONE"), (18, u "equals"), (0, u "(Ljava/lang/Object;)Z"), (40, .methodref 7 597), (0, .nameAndType 272 115), (45, u "stringCache"), (0, u "Ljava/lang/String;"), (46, u "()J"), (5, .class_ 699), (1, u "java/math/BigDecimal$LongOverflow"), (5, u "longValueExact"), (2, u "FLOAT_10_POW"), (0, u "[F"), (30, u "numberOfLeadingZeros"), (8, u "DOUBLE_10_POW"), (0, u "[D"), (10, .methodref 7 762), (0, .nameAndType 740 115), (7, .class_ 772), (1, u "java/math/BigDecimal$StringBuilderHelper"), (35, u "BIG_TEN_POWERS_TABLE_MAX"), (2, u "BIG_TEN_POWERS_TABLE"), (0, u "[Ljava/math/BigInteger;"), (14, u "THRESHOLDS_TABLE"), (23, .class_ 853), (1, u "java/math/BigDecimal$UnsafeHolder"), (214, u "LONGLONG_TEN_POWERS_TABLE"), (0, u "[[J"), (112, u "BIG_TEN_POWERS_TABLE_INITLEN"), (113, .class_ 1297), (0, u "java/lang/Comparable"), (0, u "L"), (0, u "D"), (1, u "P_F"), (1, u "Q_MIN_F"), (1, u "Q_MAX_F"), (1, u "P_D"), (1, u "Q_MIN_D"), (1, u "Q_MAX_D"), (1, u "INFLATED"), (0, u "MAX_COMPACT_DIGITS"), (1, u "serialVersionUID"), (2, u "HALF_LONG_MAX_VALUE"), (0, u "HALF_LONG_MIN_VALUE"), (0, u "ROUND_UP"), (6, u "ROUND_DOWN"), (1, u "ROUND_CEILING"), (1, u "ROUND_FLOOR"), (1, u "ROUND_HALF_UP"), (1, u "ROUND_HALF_DOWN"), (1, u "ROUND_HALF_EVEN"), (1, u "ROUND_UNNECESSARY"), (1, u "DIV_NUM_BASE"), (116, u "movePointRight")] 177

def k5c0 : Code := { maxStack := 3, maxLocals := 6, code := jdk_17_method_1_code, exceptionTable := #[], attributes := #[] }
def k5m0 : Method := { name := "<init>", desc := "(Ljava/math/BigInteger;JII)V", sig := { parameters := [(.object "java/math/BigInteger"), .long, .int, .int], returnType := none }, accessFlags := 0, code := some k5c0 }
def k5c1 : Code := { maxStack := 7, maxLocals := 3, code := jdk_17_method_20_code, exceptionTable := #[], attributes := #[] }
def k5m1 : Method := { name := "valueOf", desc := "(JI)Ljava/math/BigDecimal;", sig := { parameters := [.long, .int], returnType := some (.object "java/math/BigDecimal") }, accessFlags := 9, code := some k5c1 }
def k5c2 : Code := { maxStack := 7, maxLocals := 2, code := jdk_17_method_21_code, exceptionTable := #[], attributes := #[] }
def k5m2 : Method := { name := "valueOf", desc := "(J)Ljava/math/BigDecimal;", sig := { parameters := [.long], returnType := some (.object "java/math/BigDecimal") }, accessFlags := 9, code := some k5c2 }
def k5c3 : Code := { maxStack := 4, maxLocals := 1, code := jdk_17_method_58_code, exceptionTable := #[], attributes := #[] }
def k5m3 : Method := { name := "signum", desc := "()I", sig := { parameters := [], returnType := some .int }, accessFlags := 1, code := some k5c3 }
def k5c4 : Code := { maxStack := 1, maxLocals := 1, code := jdk_17_method_59_code, exceptionTable := #[], attributes := #[] }
def k5m4 : Method := { name := "scale", desc := "()I", sig := { parameters := [], returnType := some .int }, accessFlags := 1, code := some k5c4 }
def k5c5 : Code := { maxStack := 4, maxLocals := 4, code := jdk_17_method_60_code, exceptionTable := #[], attributes := #[] }
def k5m5 : Method := { name := "precision", desc := "()I", sig := { parameters := [], returnType := some .int }, accessFlags := 1, code := some k5c5 }
def k5c6 : Code := { maxStack := 7, maxLocals := 4, code := jdk_17_method_67_code, exceptionTable := #[], attributes := #[] }
def k5m6 : Method := { name := "movePointRight", desc := "(I)Ljava/math/BigDecimal;", sig := { parameters := [.int], returnType := some (.object "java/math/BigDecimal") }, accessFlags := 1, code := some k5c6 }
def k5c7 : Code := { maxStack := 4, maxLocals := 7, code := jdk_17_method_72_code, exceptionTable := #[], attributes := #[] }
def k5m7 : Method := { name := "equals", desc := "(Ljava/lang/Object;)Z", sig := { parameters := [(.object "java/lang/Object")], returnType := some .boolean }, accessFlags := 1, code := some k5c7 }
def k5c8 : Code := { maxStack := 4, maxLocals := 2, code := jdk_17_method_84_code, exceptionTable := #[], attributes := #[] }
def k5m8 : Method := { name := "longValueExact", desc := "()J", sig := { parameters := [], returnType := some .long }, accessFlags := 1, code := some k5c8 }
def k5c9 : Code := { maxStack := 4, maxLocals := 4, code := jdk_17_method_104_code, exceptionTable := #[], attributes := #[] }
def k5m9 : Method := { name := "longDigitLength", desc := "(J)I", sig := { parameters := [.long], returnType := some .int }, accessFlags := 8, code := some k5c9 }
def k5c10 : Code := { maxStack := 4, maxLocals := 5, code := jdk_17_method_106_code, exceptionTable := #[], attributes := #[] }
def k5m10 : Method := { name := "checkScale", desc := "(J)I", sig := { parameters := [.long], returnType := some .int }, accessFlags := 2, code := some k5c10 }
/-- java/math/BigDecimal -/
def k5 : Class := { plain "java/math/BigDecimal" (some 3) with
  accessFlags := 33
  interfaces := #[4]
  cf := some (fileOf pool5 3 #[.nestMembers #[500, 851, 770, 697]] #[{ accessFlags := 0, nameIndex := 15, descriptorIndex := 245, attributes := #[] }, { accessFlags := 9, nameIndex := 195, descriptorIndex := 330, attributes := #[] }, { accessFlags := 9, nameIndex := 195, descriptorIndex := 238, attributes := #[] }, { accessFlags := 1, nameIndex := 272, descriptorIndex := 162, attributes := #[] }, { accessFlags := 1, nameIndex := 19, descriptorIndex := 162, attributes := #[] }, { accessFlags := 1, nameIndex := 23, descriptorIndex := 162, attributes := #[] }, { accessFlags := 1, nameIndex := 1459, descriptorIndex := 242, attributes := #[] }, { accessFlags := 1, nameIndex := 554, descriptorIndex := 555, attributes := #[] }, { accessFlags := 1, nameIndex := 705, descriptorIndex := 691, attributes := #[] }, { accessFlags := 8, nameIndex := 114, descriptorIndex := 115, attributes := #[] }, { accessFlags := 2, nameIndex := 327, descriptorIndex := 115, attributes := #[] }] 33 12 #[1296] #[{ accessFlags := 26, nameIndex := 1298, descriptorIndex := 1299, attributes := #[] }, { accessFlags := 26, nameIndex := 1301, descriptorIndex := 20, attributes := #[] }, { accessFlags := 26, nameIndex := 1303, descriptorIndex := 20, attributes := #[] }, { accessFlags := 26, nameIndex := 1305, descriptorIndex := 20, attributes := #[] }, { accessFlags := 26, nameIndex := 1307, descriptorIndex := 20, attributes := #[] }, { accessFlags := 26, nameIndex := 1309, descriptorIndex := 20, attributes := #[] }, { accessFlags := 26, nameIndex := 1311, descriptorIndex := 20, attributes := #[] }, { accessFlags := 18, nameIndex := 30, descriptorIndex := 31, attributes := #[] }, { accessFlags := 18, nameIndex := 19, descriptorIndex := 20, attributes := #[] }, { accessFlags := 130, nameIndex := 23, descriptorIndex := 20, attributes := #[] }, { accessFlags := 130, nameIndex := 643, descriptorIndex := 644, attributes := #[] }, { accessFlags := 24, nameIndex := 1313, descriptorIndex := 27, attributes := #[] }, { accessFlags := 26, nameIndex := 190, descriptorIndex := 31, attributes := #[] }, { accessFlags := 146, nameIndex := 26, descriptorIndex := 27, attributes := #[] }, { accessFlags := 26, nameIndex := 1314, descriptorIndex := 20, attributes := #[] }, { accessFlags := 26, nameIndex := 1316, descriptorIndex := 27, attributes := #[] }, { accessFlags := 26, nameIndex := 248, descriptorIndex := 249, attributes := #[] }, { accessFlags := 26, nameIndex := 252, descriptorIndex := 249, attributes := #[] }, { accessFlags := 26, nameIndex := 1319, descriptorIndex := 27, attributes := #[] }, { accessFlags := 26, nameIndex := 1320, descriptorIndex := 27, attributes := #[] }, { accessFlags := 25, nameIndex := 187, descriptorIndex := 479, attributes := #[] }, { accessFlags := 25, nameIndex := 535, descriptorIndex := 479, attributes := #[] }, { accessFlags := 25, nameIndex := 206, descriptorIndex := 479, attributes := #[] }, { accessFlags := 25, nameIndex := 485, descriptorIndex := 479, attributes := #[] }, { accessFlags := 26, nameIndex := 478, descriptorIndex := 479, attributes := #[] }, { accessFlags := 26, nameIndex := 518, descriptorIndex := 479, attributes := #[] }, { accessFlags := 25, nameIndex := 1321, descriptorIndex := 20, attributes := #[] }, { accessFlags := 25, nameIndex := 1328, descriptorIndex := 20, attributes := #[] }, { accessFlags := 25, nameIndex := 1330, descriptorIndex := 20, attributes := #[] }, { accessFlags := 25, nameIndex := 1332, descriptorIndex := 20, attributes := #[] }, { accessFlags := 25, nameIndex := 1334, descriptorIndex := 20, attributes := #[] }, { accessFlags := 25, nameIndex := 1336, descriptorIndex := 20, attributes := #[] }, { accessFlags := 25, nameIndex := 1338, descriptorIndex := 20, attributes := #[] }, { accessFlags := 25, nameIndex := 1340, descriptorIndex := 20, attributes := #[] }, { accessFlags := 26, nameIndex := 749, descriptorIndex := 750, attributes := #[] }, { accessFlags := 26, nameIndex := 708, descriptorIndex := 709, attributes := #[] }, { accessFlags := 26, nameIndex := 97, descriptorIndex := 98, attributes := #[] }, { accessFlags := 74, nameIndex := 811, descriptorIndex := 812, attributes := #[] }, { accessFlags := 26, nameIndex := 1182, descriptorIndex := 20, attributes := #[] }, { accessFlags := 26, nameIndex := 808, descriptorIndex := 20, attributes := #[] }, { accessFlags := 26, nameIndex := 827, descriptorIndex := 98, attributes := #[] }, { accessFlags := 26, nameIndex := 1342, descriptorIndex := 27, attributes := #[] }, { accessFlags := 26, nameIndex := 1068, descriptorIndex := 1069, attributes := #[] }, { accessFlags := 4120, nameIndex := 313, descriptorIndex := 314, attributes := #[] }])
  fields := #[{ name := "L", type := .double, accessFlags := 26, slot := 0, constantValue := 0 }, { name := "P_F", type := .int, accessFlags := 26, slot := 1, constantValue := 0 }, { name := "Q_MIN_F", type := .int, accessFlags := 26, slot := 2, constantValue := 0 }, { name := "Q_MAX_F", type := .int, accessFlags := 26, slot := 3, constantValue := 0 }, { name := "P_D", type := .int, accessFlags := 26, slot := 4, constantValue := 0 }, { name := "Q_MIN_D", type := .int, accessFlags := 26, slot := 5, constantValue := 0 }, { name := "Q_MAX_D", type := .int, accessFlags := 26, slot := 6, constantValue := 0 }, { name := "intVal", type := (.object "java/math/BigInteger"), accessFlags := 18, slot := 0, constantValue := 0 }, { name := "scale", type := .int, accessFlags := 18, slot := 1, constantValue := 0 }, { name := "precision", type := .int, accessFlags := 130, slot := 2, constantValue := 0 }, { name := "stringCache", type := (.object "java/lang/String"), accessFlags := 130, slot := 3, constantValue := 0 }, { name := "INFLATED", type := .long, accessFlags := 24, slot := 7, constantValue := 0 }, { name := "INFLATED_BIGINT", type := (.object "java/math/BigInteger"), accessFlags := 26, slot := 8, constantValue := 0 }, { name := "intCompact", type := .long, accessFlags := 146, slot := 4, constantValue := 0 }, { name := "MAX_COMPACT_DIGITS", type := .int, accessFlags := 26, slot := 9, constantValue := 0 }, { name := "serialVersionUID", type := .long, accessFlags := 26, slot := 10, constantValue := 0 }, { name := "ZERO_THROUGH_TEN", type := (.array (.object "java/math/BigDecimal")), accessFlags := 26, slot := 11, constantValue := 0 }, { name := "ZERO_SCALED_BY", type := (.array (.object "java/math/BigDecimal")), accessFlags := 26, slot := 12, constantValue := 0 }, { name := "HALF_LONG_MAX_VALUE", type := .long, accessFlags := 26, slot := 13, constantValue := 0 }, { name := "HALF_LONG_MIN_VALUE", type := .long, accessFlags := 26, slot := 14, constantValue := 0 }, { name := "ZERO", type := (.object "java/math/BigDecimal"), accessFlags := 25, slot := 15, constantValue := 0 }, { name := "ONE", type := (.object "java/math/BigDecimal"), accessFlags := 25, slot := 16, constantValue := 0 }, { name := "TWO", type := (.object "java/math/BigDecimal"), accessFlags := 25, slot := 17, constantValue := 0 }, { name := "TEN", type := (.object "java/math/BigDecimal"), accessFlags := 25, slot := 18, constantValue := 0 }, { name := "ONE_TENTH", type := (.object "java/math/BigDecimal"), accessFlags := 26, slot := 19, constantValue := 0 }, { name := "ONE_HALF", type := (.object "java/math/BigDecimal"), accessFlags := 26, slot := 20, constantValue := 0 }, { name := "ROUND_UP", type := .int, accessFlags := 25, slot := 21, constantValue := 0 }, { name := "ROUND_DOWN", type := .int, accessFlags := 25, slot := 22, constantValue := 0 }, { name := "ROUND_CEILING", type := .int, accessFlags := 25, slot := 23, constantValue := 0 }, { name := "ROUND_FLOOR", type := .int, accessFlags := 25, slot := 24, constantValue := 0 }, { name := "ROUND_HALF_UP", type := .int, accessFlags := 25, slot := 25, constantValue := 0 }, { name := "ROUND_HALF_DOWN", type := .int, accessFlags := 25, slot := 26, constantValue := 0 }, { name := "ROUND_HALF_EVEN", type := .int, accessFlags := 25, slot := 27, constantValue := 0 }, { name := "ROUND_UNNECESSARY", type := .int, accessFlags := 25, slot := 28, constantValue := 0 }, { name := "DOUBLE_10_POW", type := (.array .double), accessFlags := 26, slot := 29, constantValue := 0 }, { name := "FLOAT_10_POW", type := (.array .float), accessFlags := 26, slot := 30, constantValue := 0 }, { name := "LONG_TEN_POWERS_TABLE", type := (.array .long), accessFlags := 26, slot := 31, constantValue := 0 }, { name := "BIG_TEN_POWERS_TABLE", type := (.array (.object "java/math/BigInteger")), accessFlags := 74, slot := 32, constantValue := 0 }, { name := "BIG_TEN_POWERS_TABLE_INITLEN", type := .int, accessFlags := 26, slot := 33, constantValue := 0 }, { name := "BIG_TEN_POWERS_TABLE_MAX", type := .int, accessFlags := 26, slot := 34, constantValue := 0 }, { name := "THRESHOLDS_TABLE", type := (.array .long), accessFlags := 26, slot := 35, constantValue := 0 }, { name := "DIV_NUM_BASE", type := .long, accessFlags := 26, slot := 36, constantValue := 0 }, { name := "LONGLONG_TEN_POWERS_TABLE", type := (.array (.array .long)), accessFlags := 26, slot := 37, constantValue := 0 }, { name := "$assertionsDisabled", type := .boolean, accessFlags := 4120, slot := 38, constantValue := 0 }]
  methods := #[k5m0, k5m1, k5m2, k5m3, k5m4, k5m5, k5m6, k5m7, k5m8, k5m9, k5m10]
  instanceTypes := #[(.object "java/math/BigInteger"), .int, .int, (.object "java/lang/String"), .long]
  staticTypes := #[.double, .int, .int, .int, .int, .int, .int, .long, (.object "java/math/BigInteger"), .int, .long, (.array (.object "java/math/BigDecimal")), (.array (.object "java/math/BigDecimal")), .long, .long, (.object "java/math/BigDecimal"), (.object "java/math/BigDecimal"), (.object "java/math/BigDecimal"), (.object "java/math/BigDecimal"), (.object "java/math/BigDecimal"), (.object "java/math/BigDecimal"), .int, .int, .int, .int, .int, .int, .int, .int, (.array .double), (.array .float), (.array .long), (.array (.object "java/math/BigInteger")), .int, .int, (.array .long), .long, (.array (.array .long)), .boolean]
  resolved := Array.replicate 1637 none
  statics := some 0 }

def pool6 : Array CpInfo := pool [(1, .methodref 2 3), (0, .class_ 4), (0, .nameAndType 5 6), (0, u "java/lang/Object"), (0, u "<init>"), (0, u "()V"), (0, .fieldref 8 9), (0, .class_ 10), (0, .nameAndType 11 12), (0, u "com/example/floatweight/floatweight/Prices"), (0, u "mUnscaled"), (0, u "[J"), (0, .fieldref 8 14), (0, .nameAndType 15 16), (0, u "mScales"), (0, u "[I"), (5, u "()I"), (2, u "(I)V"), (2, u "get"), (1, .class_ 31), (0, u "java/math/BigDecimal"), (2, u "set"), (0, u "(ILjava/math/BigDecimal;)V"), (0, .fieldref 8 37), (0, .nameAndType 38 39), (0, u "mWhole"), (0, u "[Ljava/math/BigDecimal;"), (0, .methodref 30 41), (0, .nameAndType 42 43), (0, u "valueOf"), (0, u "(JI)Ljava/math/BigDecimal;"), (0, .string 45), (0, u "price"), (0, .methodref 47 48), (0, .class_ 49), (0, .nameAndType 50 51), (0, u "com/example/floatweight/floatweight/IndexArithmetic"), (0, u "requirePositive"), (0, u "(Ljava/lang/String;Ljava/math/BigDecimal;)Ljava/math/BigDecimal;"), (0, .methodref 30 53), (0, .nameAndType 54 22), (0, u "precision"), (2, .methodref 30 58), (0, .nameAndType 59 22), (0, u "scale"), (0, .methodref 30 61), (0, .nameAndType 62 63), (0, u "movePointRight"), (0, u "(I)Ljava/math/BigDecimal;"), (0, .methodref 30 65), (0, .nameAndType 66 67), (0, u "longValueExact"), (0, u "()J")] 19

def k6c0 : Code := { maxStack := 2, maxLocals := 2, code := prog_48_method_1_code, exceptionTable := #[], attributes := #[] }
def k6m0 : Method := { name := "<init>", desc := "(I)V", sig := { parameters := [.int], returnType := none }, accessFlags := 0, code := some k6c0 }
def k6c1 : Code := { maxStack := 4, maxLocals := 3, code := prog_48_method_5_code, exceptionTable := #[], attributes := #[] }
def k6m1 : Method := { name := "get", desc := "(I)Ljava/math/BigDecimal;", sig := { parameters := [.int], returnType := some (.object "java/math/BigDecimal") }, accessFlags := 0, code := some k6c1 }
def k6c2 : Code := { maxStack := 4, maxLocals := 3, code := prog_48_method_6_code, exceptionTable := #[], attributes := #[] }
def k6m2 : Method := { name := "set", desc := "(ILjava/math/BigDecimal;)V", sig := { parameters := [.int, (.object "java/math/BigDecimal")], returnType := none }, accessFlags := 0, code := some k6c2 }
/-- com/example/floatweight/floatweight/Prices -/
def k6 : Class := { plain "com/example/floatweight/floatweight/Prices" (some 0) with
  accessFlags := 48
  interfaces := #[]
  cf := some (fileOf pool6 8 #[] #[{ accessFlags := 0, nameIndex := 5, descriptorIndex := 25, attributes := #[] }, { accessFlags := 0, nameIndex := 28, descriptorIndex := 63, attributes := #[] }, { accessFlags := 0, nameIndex := 34, descriptorIndex := 35, attributes := #[] }] 48 2 #[] #[{ accessFlags := 18, nameIndex := 11, descriptorIndex := 12, attributes := #[] }, { accessFlags := 18, nameIndex := 15, descriptorIndex := 16, attributes := #[] }, { accessFlags := 2, nameIndex := 38, descriptorIndex := 39, attributes := #[] }])
  fields := #[{ name := "mUnscaled", type := (.array .long), accessFlags := 18, slot := 0, constantValue := 0 }, { name := "mScales", type := (.array .int), accessFlags := 18, slot := 1, constantValue := 0 }, { name := "mWhole", type := (.array (.object "java/math/BigDecimal")), accessFlags := 2, slot := 2, constantValue := 0 }]
  methods := #[k6m0, k6m1, k6m2]
  instanceTypes := #[(.array .long), (.array .int), (.array (.object "java/math/BigDecimal"))]
  staticTypes := #[]
  resolved := Array.replicate 87 none
  statics := none }

def pool7 : Array CpInfo := pool [(2, .class_ 4), (1, u "java/lang/CharSequence"), (42, .class_ 48), (0, u "java/lang/CharSequence$1CodePointIterator"), (10, .class_ 60), (0, u "java/lang/CharSequence$1CharIterator"), (5, .class_ 67), (0, u "java/lang/Object")] 63

/-- java/lang/CharSequence -/
def k7 : Class := { plain "java/lang/CharSequence" (some 0) with
  accessFlags := 1537
  interfaces := #[]
  cf := some (fileOf pool7 2 #[.nestMembers #[47, 59]] #[] 1537 66 #[] #[])
  fields := #[]
  methods := #[]
  instanceTypes := #[]
  staticTypes := #[]
  resolved := Array.replicate 131 none
  statics := none }

def pool8 : Array CpInfo := pool [(1, .class_ 2), (0, u "java/lang/constant/Constable"), (0, .class_ 4), (0, u "java/lang/Object")] 6

/-- java/lang/constant/Constable -/
def k8 : Class := { plain "java/lang/constant/Constable" (some 0) with
  accessFlags := 1537
  interfaces := #[]
  cf := some (fileOf pool8 1 #[] #[] 1537 3 #[] #[])
  fields := #[]
  methods := #[]
  instanceTypes := #[]
  staticTypes := #[]
  resolved := Array.replicate 11 none
  statics := none }

def pool9 : Array CpInfo := pool [(1, .class_ 2), (0, u "java/lang/constant/ConstantDesc"), (0, .class_ 4), (0, u "java/lang/Object")] 32

/-- java/lang/constant/ConstantDesc -/
def k9 : Class := { plain "java/lang/constant/ConstantDesc" (some 0) with
  accessFlags := 1537
  interfaces := #[]
  cf := some (fileOf pool9 1 #[] #[] 1537 3 #[] #[])
  fields := #[]
  methods := #[]
  instanceTypes := #[]
  staticTypes := #[]
  resolved := Array.replicate 37 none
  statics := none }

def pool10 : Array CpInfo := pool [(2, .class_ 4), (1, u "java/lang/Object"), (0, u "<init>"), (0, u "()V"), (3, .class_ 12), (1, u "java/lang/String"), (0, u "value"), (0, u "[B"), (2, u "coder"), (0, u "B"), (2, u "hash"), (0, u "I"), (2, u "hashIsZero"), (0, u "Z"), (13, u "COMPACT_STRINGS"), (534, .class_ 576), (0, u "java/lang/CharSequence"), (22, u "CASE_INSENSITIVE_ORDER"), (0, u "Ljava/util/Comparator;"), (500, u "serialPersistentFields"), (0, u "[Ljava/io/ObjectStreamField;"), (0, .class_ 1104), (0, u "java/lang/String$CaseInsensitiveComparator"), (1, .class_ 1107), (0, u "java/io/Serializable"), (0, .class_ 1109), (0, u "java/lang/Comparable"), (0, .class_ 1111), (0, u "java/lang/constant/Constable"), (0, .class_ 1113), (0, u "java/lang/constant/ConstantDesc"), (2, u "serialVersionUID"), (0, u "J"), (3, u "REPL"), (0, u "C"), (2, u "LATIN1"), (1, u "UTF16")] 323

def k10m0 : Method := { name := "<init>", desc := "()V", sig := { parameters := [], returnType := none }, accessFlags := 1, code := none }
/-- java/lang/String -/
def k10 : Class := { plain "java/lang/String" (some 0) with
  accessFlags := 49
  interfaces := #[2, 4, 7, 8, 9]
  cf := some (fileOf pool10 10 #[.nestMembers #[1103]] #[{ accessFlags := 1, nameIndex := 5, descriptorIndex := 6, attributes := #[] }] 49 2 #[1106, 1108, 575, 1110, 1112] #[{ accessFlags := 18, nameIndex := 13, descriptorIndex := 14, attributes := #[] }, { accessFlags := 18, nameIndex := 17, descriptorIndex := 18, attributes := #[] }, { accessFlags := 2, nameIndex := 21, descriptorIndex := 22, attributes := #[] }, { accessFlags := 2, nameIndex := 25, descriptorIndex := 26, attributes := #[] }, { accessFlags := 26, nameIndex := 1116, descriptorIndex := 1117, attributes := #[] }, { accessFlags := 24, nameIndex := 40, descriptorIndex := 26, attributes := #[] }, { accessFlags := 26, nameIndex := 1101, descriptorIndex := 1102, attributes := #[] }, { accessFlags := 26, nameIndex := 1121, descriptorIndex := 1122, attributes := #[] }, { accessFlags := 25, nameIndex := 599, descriptorIndex := 600, attributes := #[] }, { accessFlags := 24, nameIndex := 1125, descriptorIndex := 18, attributes := #[] }, { accessFlags := 24, nameIndex := 1127, descriptorIndex := 18, attributes := #[] }])
  fields := #[{ name := "value", type := (.array .byte), accessFlags := 18, slot := 0, constantValue := 0 }, { name := "coder", type := .byte, accessFlags := 18, slot := 1, constantValue := 0 }, { name := "hash", type := .int, accessFlags := 2, slot := 2, constantValue := 0 }, { name := "hashIsZero", type := .boolean, accessFlags := 2, slot := 3, constantValue := 0 }, { name := "serialVersionUID", type := .long, accessFlags := 26, slot := 0, constantValue := 0 }, { name := "COMPACT_STRINGS", type := .boolean, accessFlags := 24, slot := 1, constantValue := 0 }, { name := "serialPersistentFields", type := (.array (.object "java/io/ObjectStreamField")), accessFlags := 26, slot := 2, constantValue := 0 }, { name := "REPL", type := .char, accessFlags := 26, slot := 3, constantValue := 0 }, { name := "CASE_INSENSITIVE_ORDER", type := (.object "java/util/Comparator"), accessFlags := 25, slot := 4, constantValue := 0 }, { name := "LATIN1", type := .byte, accessFlags := 24, slot := 5, constantValue := 0 }, { name := "UTF16", type := .byte, accessFlags := 24, slot := 6, constantValue := 0 }]
  methods := #[k10m0]
  instanceTypes := #[(.array .byte), .byte, .int, .boolean]
  staticTypes := #[.long, .boolean, (.array (.object "java/io/ObjectStreamField")), .char, (.object "java/util/Comparator"), .byte, .byte]
  resolved := Array.replicate 1451 none
  statics := none }

def pool11 : Array CpInfo := pool [(2, .class_ 4), (1, u "java/lang/Object"), (0, u "<init>"), (0, u "()V"), (17, .class_ 26), (1, u "java/math/BigDecimal"), (12, .class_ 41), (1, u "com/example/floatweight/floatweight/IndexArithmetic"), (1, u "(Ljava/lang/String;Ljava/math/BigDecimal;)Ljava/math/BigDecimal;"), (4, u "requirePositive"), (2, u "LEVEL"), (0, u "Ljava/math/MathContext;"), (8, u "NEAREST"), (16, u "()I"), (83, .methodref 163 164), (0, .class_ 165), (0, .nameAndType 166 167), (0, u "java/util/Objects"), (0, u "requireNonNull"), (0, u "(Ljava/lang/Object;Ljava/lang/String;)Ljava/lang/Object;"), (0, .methodref 24 169), (0, .nameAndType 170 78), (0, u "signum"), (17, u "DIGITS"), (0, u "I")] 86

def k11m0 : Method := { name := "<init>", desc := "()V", sig := { parameters := [], returnType := none }, accessFlags := 2, code := none }
def k11c1 : Code := { maxStack := 4, maxLocals := 2, code := prog_24_method_19_code, exceptionTable := #[], attributes := #[] }
def k11m1 : Method := { name := "requirePositive", desc := "(Ljava/lang/String;Ljava/math/BigDecimal;)Ljava/math/BigDecimal;", sig := { parameters := [(.object "java/lang/String"), (.object "java/math/BigDecimal")], returnType := some (.object "java/math/BigDecimal") }, accessFlags := 8, code := some k11c1 }
/-- com/example/floatweight/floatweight/IndexArithmetic -/
def k11 : Class := { plain "com/example/floatweight/floatweight/IndexArithmetic" (some 0) with
  accessFlags := 49
  interfaces := #[]
  cf := some (fileOf pool11 39 #[] #[{ accessFlags := 2, nameIndex := 5, descriptorIndex := 6, attributes := #[] }, { accessFlags := 8, nameIndex := 48, descriptorIndex := 43, attributes := #[] }] 49 2 #[] #[{ accessFlags := 25, nameIndex := 188, descriptorIndex := 189, attributes := #[] }, { accessFlags := 26, nameIndex := 51, descriptorIndex := 52, attributes := #[] }, { accessFlags := 26, nameIndex := 61, descriptorIndex := 52, attributes := #[] }])
  fields := #[{ name := "DIGITS", type := .int, accessFlags := 25, slot := 0, constantValue := 0 }, { name := "LEVEL", type := (.object "java/math/MathContext"), accessFlags := 26, slot := 1, constantValue := 0 }, { name := "NEAREST", type := (.object "java/math/MathContext"), accessFlags := 26, slot := 2, constantValue := 0 }]
  methods := #[k11m0, k11m1]
  instanceTypes := #[]
  staticTypes := #[.int, (.object "java/math/MathContext"), (.object "java/math/MathContext")]
  resolved := Array.replicate 276 none
  statics := none }

def pool12 : Array CpInfo := pool [(2, .class_ 4), (1, u "java/lang/Object"), (0, u "<init>"), (0, u "()V"), (35, .class_ 44), (1, u "java/util/Objects"), (0, u "requireNonNull"), (48, u "(Ljava/lang/Object;Ljava/lang/String;)Ljava/lang/Object;")] 89

def k12m0 : Method := { name := "<init>", desc := "()V", sig := { parameters := [], returnType := none }, accessFlags := 2, code := none }
def k12c1 : Code := { maxStack := 3, maxLocals := 2, code := jdk_31_method_11_code, exceptionTable := #[], attributes := #[] }
def k12m1 : Method := { name := "requireNonNull", desc := "(Ljava/lang/Object;Ljava/lang/String;)Ljava/lang/Object;", sig := { parameters := [(.object "java/lang/Object"), (.object "java/lang/String")], returnType := some (.object "java/lang/Object") }, accessFlags := 9, code := some k12c1 }
/-- java/util/Objects -/
def k12 : Class := { plain "java/util/Objects" (some 0) with
  accessFlags := 49
  interfaces := #[]
  cf := some (fileOf pool12 42 #[] #[{ accessFlags := 2, nameIndex := 5, descriptorIndex := 6, attributes := #[] }, { accessFlags := 9, nameIndex := 45, descriptorIndex := 94, attributes := #[] }] 49 2 #[] #[])
  fields := #[]
  methods := #[k12m0, k12m1]
  instanceTypes := #[]
  staticTypes := #[]
  resolved := Array.replicate 184 none
  statics := none }

def pool13 : Array CpInfo := pool [(1, .class_ 2), (0, u "java/lang/Long"), (15, .class_ 20), (1, u "java/lang/Integer"), (79, u "numberOfLeadingZeros"), (0, u "(J)I"), (133, .class_ 237), (1, u "java/lang/Long$LongCache"), (33, .class_ 272), (0, u "java/lang/Number"), (2, u "value"), (0, u "J"), (31, .methodref 18 309), (0, .nameAndType 100 310), (0, u "(I)I"), (50, u "TYPE"), (0, u "Ljava/lang/Class;"), (0, .class_ 364), (0, u "java/lang/Comparable"), (0, .class_ 366), (0, u "java/lang/constant/Constable"), (0, .class_ 368), (0, u "java/lang/constant/ConstantDesc"), (0, u "MIN_VALUE"), (1, u "MAX_VALUE"), (4, u "SIZE"), (0, u "I"), (1, u "BYTES"), (1, u "serialVersionUID"), (115, u "signum")] 26

def k13c0 : Code := { maxStack := 3, maxLocals := 3, code := jdk_35_method_48_code, exceptionTable := #[], attributes := #[] }
def k13m0 : Method := { name := "numberOfLeadingZeros", desc := "(J)I", sig := { parameters := [.long], returnType := some .int }, accessFlags := 9, code := some k13c0 }
def k13c1 : Code := { maxStack := 5, maxLocals := 2, code := jdk_35_method_57_code, exceptionTable := #[], attributes := #[] }
def k13m1 : Method := { name := "signum", desc := "(J)I", sig := { parameters := [.long], returnType := some .int }, accessFlags := 9, code := some k13c1 }
/-- java/lang/Long -/
def k13 : Class := { plain "java/lang/Long" (some 3) with
  accessFlags := 49
  interfaces := #[4, 8, 9]
  cf := some (fileOf pool13 1 #[.nestMembers #[235]] #[{ accessFlags := 9, nameIndex := 100, descriptorIndex := 101, attributes := #[] }, { accessFlags := 9, nameIndex := 497, descriptorIndex := 101, attributes := #[] }] 49 271 #[363, 365, 367] #[{ accessFlags := 25, nameIndex := 369, descriptorIndex := 276, attributes := #[] }, { accessFlags := 25, nameIndex := 371, descriptorIndex := 276, attributes := #[] }, { accessFlags := 25, nameIndex := 361, descriptorIndex := 362, attributes := #[] }, { accessFlags := 18, nameIndex := 275, descriptorIndex := 276, attributes := #[] }, { accessFlags := 25, nameIndex := 376, descriptorIndex := 377, attributes := #[] }, { accessFlags := 25, nameIndex := 379, descriptorIndex := 377, attributes := #[] }, { accessFlags := 26, nameIndex := 381, descriptorIndex := 276, attributes := #[] }])
  fields := #[{ name := "MIN_VALUE", type := .long, accessFlags := 25, slot := 0, constantValue := 0 }, { name := "MAX_VALUE", type := .long, accessFlags := 25, slot := 1, constantValue := 0 }, { name := "TYPE", type := (.object "java/lang/Class"), accessFlags := 25, slot := 2, constantValue := 0 }, { name := "value", type := .long, accessFlags := 18, slot := 0, constantValue := 0 }, { name := "SIZE", type := .int, accessFlags := 25, slot := 3, constantValue := 0 }, { name := "BYTES", type := .int, accessFlags := 25, slot := 4, constantValue := 0 }, { name := "serialVersionUID", type := .long, accessFlags := 26, slot := 5, constantValue := 0 }]
  methods := #[k13m0, k13m1]
  instanceTypes := #[.long]
  staticTypes := #[.long, .long, (.object "java/lang/Class"), .int, .int, .long]
  resolved := Array.replicate 524 none
  statics := none }

def pool14 : Array CpInfo := pool [(1, .class_ 2), (0, u "java/lang/Integer"), (16, u "digits"), (0, u "[C"), (32, u "numberOfLeadingZeros"), (0, u "(I)I"), (30, u "DigitOnes"), (0, u "[B"), (2, u "DigitTens"), (99, .class_ 190), (0, u "java/lang/Integer$IntegerCache"), (3, u "I"), (8, .class_ 204), (0, u "java/lang/Number"), (2, u "value"), (56, .integer 65536), (37, u "TYPE"), (0, u "Ljava/lang/Class;"), (0, .class_ 305), (0, u "java/lang/Comparable"), (0, .class_ 307), (0, u "java/lang/constant/Constable"), (0, .class_ 309), (0, u "java/lang/constant/ConstantDesc"), (0, u "MIN_VALUE"), (1, u "MAX_VALUE"), (3, u "SIZE"), (1, u "BYTES"), (1, u "serialVersionUID"), (0, u "J")] 131

def k14c0 : Code := { maxStack := 3, maxLocals := 2, code := jdk_33_method_47_code, exceptionTable := #[], attributes := #[] }
def k14m0 : Method := { name := "numberOfLeadingZeros", desc := "(I)I", sig := { parameters := [.int], returnType := some .int }, accessFlags := 9, code := some k14c0 }
/-- java/lang/Integer -/
def k14 : Class := { plain "java/lang/Integer" (some 3) with
  accessFlags := 49
  interfaces := #[4, 8, 9]
  cf := some (fileOf pool14 1 #[.nestMembers #[189]] #[{ accessFlags := 9, nameIndex := 53, descriptorIndex := 54, attributes := #[] }] 49 203 #[304, 306, 308] #[{ accessFlags := 25, nameIndex := 310, descriptorIndex := 194, attributes := #[] }, { accessFlags := 25, nameIndex := 312, descriptorIndex := 194, attributes := #[] }, { accessFlags := 25, nameIndex := 302, descriptorIndex := 303, attributes := #[] }, { accessFlags := 24, nameIndex := 19, descriptorIndex := 20, attributes := #[] }, { accessFlags := 24, nameIndex := 89, descriptorIndex := 86, attributes := #[] }, { accessFlags := 24, nameIndex := 85, descriptorIndex := 86, attributes := #[] }, { accessFlags := 18, nameIndex := 207, descriptorIndex := 194, attributes := #[] }, { accessFlags := 25, nameIndex := 316, descriptorIndex := 194, attributes := #[] }, { accessFlags := 25, nameIndex := 318, descriptorIndex := 194, attributes := #[] }, { accessFlags := 26, nameIndex := 320, descriptorIndex := 321, attributes := #[] }])
  fields := #[{ name := "MIN_VALUE", type := .int, accessFlags := 25, slot := 0, constantValue := 0 }, { name := "MAX_VALUE", type := .int, accessFlags := 25, slot := 1, constantValue := 0 }, { name := "TYPE", type := (.object "java/lang/Class"), accessFlags := 25, slot := 2, constantValue := 0 }, { name := "digits", type := (.array .char), accessFlags := 24, slot := 3, constantValue := 0 }, { name := "DigitTens", type := (.array .byte), accessFlags := 24, slot := 4, constantValue := 0 }, { name := "DigitOnes", type := (.array .byte), accessFlags := 24, slot := 5, constantValue := 0 }, { name := "value", type := .int, accessFlags := 18, slot := 0, constantValue := 0 }, { name := "SIZE", type := .int, accessFlags := 25, slot := 6, constantValue := 0 }, { name := "BYTES", type := .int, accessFlags := 25, slot := 7, constantValue := 0 }, { name := "serialVersionUID", type := .long, accessFlags := 26, slot := 8, constantValue := 0 }]
  methods := #[k14m0]
  instanceTypes := #[.int]
  staticTypes := #[.int, .int, (.object "java/lang/Class"), (.array .char), (.array .byte), (.array .byte), .int, .int, .long]
  resolved := Array.replicate 453 none
  statics := none }

def pool15 : Array CpInfo := pool [(4, .class_ 6), (1, u "java/lang/Number"), (16, .class_ 25), (1, u "java/math/BigInteger"), (0, u "ZERO"), (0, u "Ljava/math/BigInteger;"), (2, u "mag"), (0, u "[I"), (2, u "signum"), (0, u "I"), (59, u "bitsPerDigit"), (0, u "[J"), (9, u "digitsPerInt"), (12, u "intRadix"), (60, u "SMALL_PRIME_PRODUCT"), (79, u "ONE"), (6, u "TWO"), (43, u "$assertionsDisabled"), (0, u "Z"), (36, u "posConst"), (0, u "[Ljava/math/BigInteger;"), (4, u "negConst"), (116, .class_ 474), (1, u "java/math/BigInteger$RecursiveOp"), (106, u "NEGATIVE_ONE"), (91, u "bnExpModThreshTable"), (72, u "lowestSetBitPlusTwo"), (2, u "bitLengthPlusOne"), (2, u "bitCountPlusOne"), (6, u "LOG_TWO"), (0, u "D"), (2, u "logCache"), (0, u "[D"), (13, u "NUM_ZEROS"), (2, u "ZEROS"), (0, u "Ljava/lang/String;"), (9, u "longRadix"), (5, u "digitsPerLong"), (22, u "powerCache"), (0, u "[[Ljava/math/BigInteger;"), (45, u "firstNonzeroIntNumPlusTwo"), (38, .class_ 909), (1, u "java/math/BigInteger$UnsafeHolder"), (141, u "TEN"), (106, u "serialPersistentFields"), (0, u "[Ljava/io/ObjectStreamField;"), (0, .class_ 1161), (0, u "java/lang/Comparable"), (0, u "LONG_MASK"), (0, u "J"), (1, u "MAX_MAG_LENGTH"), (0, u "PRIME_SEARCH_BIT_LENGTH_LIMIT"), (1, u "KARATSUBA_THRESHOLD"), (1, u "TOOM_COOK_THRESHOLD"), (1, u "KARATSUBA_SQUARE_THRESHOLD"), (1, u "TOOM_COOK_SQUARE_THRESHOLD"), (1, u "BURNIKEL_ZIEGLER_THRESHOLD"), (0, u "BURNIKEL_ZIEGLER_OFFSET"), (1, u "SCHOENHAGE_BASE_CONVERSION_THRESHOLD"), (1, u "MULTIPLY_SQUARE_THRESHOLD"), (0, u "MONTGOMERY_INTRINSIC_THRESHOLD"), (1, u "SMALL_PRIME_THRESHOLD"), (1, u "DEFAULT_PRIME_CERTAINTY"), (1, u "MAX_CONSTANT"), (3, u "serialVersionUID"), (338, .class_ 1532), (0, u "java/math/BigInteger$RecursiveOp$RecursiveSquare"), (0, .class_ 1534), (0, u "java/math/BigInteger$RecursiveOp$RecursiveMultiply")] 7

/-- java/math/BigInteger -/
def k15 : Class := { plain "java/math/BigInteger" (some 3) with
  accessFlags := 33
  interfaces := #[4]
  cf := some (fileOf pool15 23 #[.nestMembers #[907, 472, 1531, 1533]] #[] 33 4 #[1160] #[{ accessFlags := 16, nameIndex := 34, descriptorIndex := 35, attributes := #[] }, { accessFlags := 16, nameIndex := 30, descriptorIndex := 31, attributes := #[] }, { accessFlags := 2, nameIndex := 752, descriptorIndex := 35, attributes := #[] }, { accessFlags := 2, nameIndex := 749, descriptorIndex := 35, attributes := #[] }, { accessFlags := 2, nameIndex := 746, descriptorIndex := 35, attributes := #[] }, { accessFlags := 2, nameIndex := 868, descriptorIndex := 35, attributes := #[] }, { accessFlags := 24, nameIndex := 1162, descriptorIndex := 1163, attributes := #[] }, { accessFlags := 26, nameIndex := 1165, descriptorIndex := 35, attributes := #[] }, { accessFlags := 26, nameIndex := 1166, descriptorIndex := 35, attributes := #[] }, { accessFlags := 26, nameIndex := 1168, descriptorIndex := 35, attributes := #[] }, { accessFlags := 26, nameIndex := 1170, descriptorIndex := 35, attributes := #[] }, { accessFlags := 26, nameIndex := 1172, descriptorIndex := 35, attributes := #[] }, { accessFlags := 26, nameIndex := 1174, descriptorIndex := 35, attributes := #[] }, { accessFlags := 24, nameIndex := 1176, descriptorIndex := 35, attributes := #[] }, { accessFlags := 24, nameIndex := 1177, descriptorIndex := 35, attributes := #[] }, { accessFlags := 26, nameIndex := 1179, descriptorIndex := 35, attributes := #[] }, { accessFlags := 26, nameIndex := 1181, descriptorIndex := 35, attributes := #[] }, { accessFlags := 26, nameIndex := 1182, descriptorIndex := 35, attributes := #[] }, { accessFlags := 10, nameIndex := 95, descriptorIndex := 96, attributes := #[] }, { accessFlags := 26, nameIndex := 1184, descriptorIndex := 35, attributes := #[] }, { accessFlags := 26, nameIndex := 1186, descriptorIndex := 35, attributes := #[] }, { accessFlags := 26, nameIndex := 180, descriptorIndex := 27, attributes := #[] }, { accessFlags := 26, nameIndex := 1188, descriptorIndex := 35, attributes := #[] }, { accessFlags := 26, nameIndex := 349, descriptorIndex := 350, attributes := #[] }, { accessFlags := 26, nameIndex := 355, descriptorIndex := 350, attributes := #[] }, { accessFlags := 74, nameIndex := 821, descriptorIndex := 822, attributes := #[] }, { accessFlags := 26, nameIndex := 763, descriptorIndex := 764, attributes := #[] }, { accessFlags := 26, nameIndex := 759, descriptorIndex := 760, attributes := #[] }, { accessFlags := 25, nameIndex := 26, descriptorIndex := 27, attributes := #[] }, { accessFlags := 25, nameIndex := 260, descriptorIndex := 27, attributes := #[] }, { accessFlags := 25, nameIndex := 267, descriptorIndex := 27, attributes := #[] }, { accessFlags := 26, nameIndex := 581, descriptorIndex := 27, attributes := #[] }, { accessFlags := 25, nameIndex := 1051, descriptorIndex := 27, attributes := #[] }, { accessFlags := 8, nameIndex := 673, descriptorIndex := 31, attributes := #[] }, { accessFlags := 10, nameIndex := 778, descriptorIndex := 35, attributes := #[] }, { accessFlags := 26, nameIndex := 781, descriptorIndex := 782, attributes := #[] }, { accessFlags := 10, nameIndex := 798, descriptorIndex := 31, attributes := #[] }, { accessFlags := 10, nameIndex := 792, descriptorIndex := 350, attributes := #[] }, { accessFlags := 10, nameIndex := 106, descriptorIndex := 31, attributes := #[] }, { accessFlags := 10, nameIndex := 119, descriptorIndex := 31, attributes := #[] }, { accessFlags := 26, nameIndex := 1192, descriptorIndex := 1163, attributes := #[] }, { accessFlags := 26, nameIndex := 1158, descriptorIndex := 1159, attributes := #[] }, { accessFlags := 4120, nameIndex := 311, descriptorIndex := 312, attributes := #[] }])
  fields := #[{ name := "signum", type := .int, accessFlags := 16, slot := 0, constantValue := 0 }, { name := "mag", type := (.array .int), accessFlags := 16, slot := 1, constantValue := 0 }, { name := "bitCountPlusOne", type := .int, accessFlags := 2, slot := 2, constantValue := 0 }, { name := "bitLengthPlusOne", type := .int, accessFlags := 2, slot := 3, constantValue := 0 }, { name := "lowestSetBitPlusTwo", type := .int, accessFlags := 2, slot := 4, constantValue := 0 }, { name := "firstNonzeroIntNumPlusTwo", type := .int, accessFlags := 2, slot := 5, constantValue := 0 }, { name := "LONG_MASK", type := .long, accessFlags := 24, slot := 0, constantValue := 0 }, { name := "MAX_MAG_LENGTH", type := .int, accessFlags := 26, slot := 1, constantValue := 0 }, { name := "PRIME_SEARCH_BIT_LENGTH_LIMIT", type := .int, accessFlags := 26, slot := 2, constantValue := 0 }, { name := "KARATSUBA_THRESHOLD", type := .int, accessFlags := 26, slot := 3, constantValue := 0 }, { name := "TOOM_COOK_THRESHOLD", type := .int, accessFlags := 26, slot := 4, constantValue := 0 }, { name := "KARATSUBA_SQUARE_THRESHOLD", type := .int, accessFlags := 26, slot := 5, constantValue := 0 }, { name := "TOOM_COOK_SQUARE_THRESHOLD", type := .int, accessFlags := 26, slot := 6, constantValue := 0 }, { name := "BURNIKEL_ZIEGLER_THRESHOLD", type := .int, accessFlags := 24, slot := 7, constantValue := 0 }, { name := "BURNIKEL_ZIEGLER_OFFSET", type := .int, accessFlags := 24, slot := 8, constantValue := 0 }, { name := "SCHOENHAGE_BASE_CONVERSION_THRESHOLD", type := .int, accessFlags := 26, slot := 9, constantValue := 0 }, { name := "MULTIPLY_SQUARE_THRESHOLD", type := .int, accessFlags := 26, slot := 10, constantValue := 0 }, { name := "MONTGOMERY_INTRINSIC_THRESHOLD", type := .int, accessFlags := 26, slot := 11, constantValue := 0 }, { name := "bitsPerDigit", type := (.array .long), accessFlags := 10, slot := 12, constantValue := 0 }, { name := "SMALL_PRIME_THRESHOLD", type := .int, accessFlags := 26, slot := 13, constantValue := 0 }, { name := "DEFAULT_PRIME_CERTAINTY", type := .int, accessFlags := 26, slot := 14, constantValue := 0 }, { name := "SMALL_PRIME_PRODUCT", type := (.object "java/math/BigInteger"), accessFlags := 26, slot := 15, constantValue := 0 }, { name := "MAX_CONSTANT", type := .int, accessFlags := 26, slot := 16, constantValue := 0 }, { name := "posConst", type := (.array (.object "java/math/BigInteger")), accessFlags := 26, slot := 17, constantValue := 0 }, { name := "negConst", type := (.array (.object "java/math/BigInteger")), accessFlags := 26, slot := 18, constantValue := 0 }, { name := "powerCache", type := (.array (.array (.object "java/math/BigInteger"))), accessFlags := 74, slot := 19, constantValue := 0 }, { name := "logCache", type := (.array .double), accessFlags := 26, slot := 20, constantValue := 0 }, { name := "LOG_TWO", type := .double, accessFlags := 26, slot := 21, constantValue := 0 }, { name := "ZERO", type := (.object "java/math/BigInteger"), accessFlags := 25, slot := 22, constantValue := 0 }, { name := "ONE", type := (.object "java/math/BigInteger"), accessFlags := 25, slot := 23, constantValue := 0 }, { name := "TWO", type := (.object "java/math/BigInteger"), accessFlags := 25, slot := 24, constantValue := 0 }, { name := "NEGATIVE_ONE", type := (.object "java/math/BigInteger"), accessFlags := 26, slot := 25, constantValue := 0 }, { name := "TEN", type := (.object "java/math/BigInteger"), accessFlags := 25, slot := 26, constantValue := 0 }, { name := "bnExpModThreshTable", type := (.array .int), accessFlags := 8, slot := 27, constantValue := 0 }, { name := "NUM_ZEROS", type := .int, accessFlags := 10, slot := 28, constantValue := 0 }, { name := "ZEROS", type := (.object "java/lang/String"), accessFlags := 26, slot := 29, constantValue := 0 }, { name := "digitsPerLong", type := (.array .int), accessFlags := 10, slot := 30, constantValue := 0 }, { name := "longRadix", type := (.array (.object "java/math/BigInteger")), accessFlags := 10, slot := 31, constantValue := 0 }, { name := "digitsPerInt", type := (.array .int), accessFlags := 10, slot := 32, constantValue := 0 }, { name := "intRadix", type := (.array .int), accessFlags := 10, slot := 33, constantValue := 0 }, { name := "serialVersionUID", type := .long, accessFlags := 26, slot := 34, constantValue := 0 }, { name := "serialPersistentFields", type := (.array (.object "java/io/ObjectStreamField")), accessFlags := 26, slot := 35, constantValue := 0 }, { name := "$assertionsDisabled", type := .boolean, accessFlags := 4120, slot := 36, constantValue := 0 }]
  methods := #[]
  instanceTypes := #[.int, (.array .int), .int, .int, .int, .int]
  staticTypes := #[.long, .int, .int, .int, .int, .int, .int, .int, .int, .int, .int, .int, (.array .long), .int, .int, (.object "java/math/BigInteger"), .int, (.array (.object "java/math/BigInteger")), (.array (.object "java/math/BigInteger")), (.array (.array (.object "java/math/BigInteger"))), (.array .double), .double, (.object "java/math/BigInteger"), (.object "java/math/BigInteger"), (.object "java/math/BigInteger"), (.object "java/math/BigInteger"), (.object "java/math/BigInteger"), (.array .int), .int, (.object "java/lang/String"), (.array .int), (.array (.object "java/math/BigInteger")), (.array .int), (.array .int), .long, (.array (.object "java/io/ObjectStreamField")), .boolean]
  resolved := Array.replicate 1542 none
  statics := some 1 }

def pool16 : Array CpInfo := pool [(1, u "java/lang/Cloneable"), (0, .class_ 1), (0, u "java/lang/Object"), (0, .class_ 3)] 3

/-- java/lang/Cloneable -/
def k16 : Class := { plain "java/lang/Cloneable" (some 0) with
  accessFlags := 1537
  interfaces := #[]
  cf := some (fileOf pool16 2 #[] #[] 1537 4 #[] #[])
  fields := #[]
  methods := #[]
  instanceTypes := #[]
  staticTypes := #[]
  resolved := Array.replicate 8 none
  statics := none }

/-- the primitive byte -/
def k17 : Class := { plain "byte" none with kind := .primitive 'B', accessFlags := 0x411 }
/-- [B -/
def k18 : Class := { plain "[B" (some 0) with kind := .array 17 .byte, interfaces := #[16, 2], accessFlags := 1041 }

/-- the primitive int -/
def k19 : Class := { plain "int" none with kind := .primitive 'I', accessFlags := 0x411 }
/-- [I -/
def k20 : Class := { plain "[I" (some 0) with kind := .array 19 .int, interfaces := #[16, 2], accessFlags := 1041 }

/-- the primitive long -/
def k21 : Class := { plain "long" none with kind := .primitive 'J', accessFlags := 0x411 }
/-- [J -/
def k22 : Class := { plain "[J" (some 0) with kind := .array 21 .long, interfaces := #[16, 2], accessFlags := 1041 }

/-- [Ljava/math/BigDecimal; -/
def k23 : Class := { plain "[Ljava/math/BigDecimal;" (some 0) with kind := .array 5 (.object "java/math/BigDecimal"), interfaces := #[16, 2], accessFlags := 1041 }

def heap : Heap := #[{ cls := 5, slots := #[.double 0, .int 0, .int 0, .int 0, .int 0, .int 0, .int 0, .long 0, .null, .int 0, .long 0, .ref 2, .null, .long 0, .long 0, .ref 5, .ref 8, .ref 11, .ref 35, .null, .null, .int 0, .int 0, .int 0, .int 0, .int 0, .int 0, .int 0, .int 0, .null, .null, .ref 36, .null, .int 0, .int 0, .null, .long 0, .null, .int 1], vm := .statics 5 },
  { cls := 15, slots := #[.long 0, .int 0, .int 0, .int 0, .int 0, .int 0, .int 0, .int 0, .int 0, .int 0, .int 0, .int 0, .null, .int 0, .int 0, .null, .int 0, .null, .null, .null, .null, .double 0, .ref 4, .ref 7, .ref 10, .null, .ref 34, .null, .int 0, .null, .null, .null, .null, .null, .long 0, .null, .int 0], vm := .statics 15 },
  { cls := 23, slots := #[.ref 5, .ref 8, .ref 11, .ref 14, .ref 17, .ref 20, .ref 23, .ref 26, .ref 29, .ref 32, .ref 35], vm := .none },
  { cls := 20, slots := #[], vm := .none },
  { cls := 15, slots := #[.int 0, .ref 3, .int 0, .int 0, .int 0, .int 0], vm := .none },
  { cls := 5, slots := #[.ref 4, .int 0, .int 1, .null, .long 0], vm := .none },
  { cls := 20, slots := #[.int 1], vm := .none },
  { cls := 15, slots := #[.int 1, .ref 6, .int 0, .int 0, .int 0, .int 0], vm := .none },
  { cls := 5, slots := #[.ref 7, .int 0, .int 1, .null, .long 1], vm := .none },
  { cls := 20, slots := #[.int 2], vm := .none },
  { cls := 15, slots := #[.int 1, .ref 9, .int 0, .int 0, .int 0, .int 0], vm := .none },
  { cls := 5, slots := #[.ref 10, .int 0, .int 1, .null, .long 2], vm := .none },
  { cls := 20, slots := #[.int 3], vm := .none },
  { cls := 15, slots := #[.int 1, .ref 12, .int 0, .int 0, .int 0, .int 0], vm := .none },
  { cls := 5, slots := #[.ref 13, .int 0, .int 1, .null, .long 3], vm := .none },
  { cls := 20, slots := #[.int 4], vm := .none },
  { cls := 15, slots := #[.int 1, .ref 15, .int 0, .int 0, .int 0, .int 0], vm := .none },
  { cls := 5, slots := #[.ref 16, .int 0, .int 1, .null, .long 4], vm := .none },
  { cls := 20, slots := #[.int 5], vm := .none },
  { cls := 15, slots := #[.int 1, .ref 18, .int 0, .int 0, .int 0, .int 0], vm := .none },
  { cls := 5, slots := #[.ref 19, .int 0, .int 1, .null, .long 5], vm := .none },
  { cls := 20, slots := #[.int 6], vm := .none },
  { cls := 15, slots := #[.int 1, .ref 21, .int 0, .int 0, .int 0, .int 0], vm := .none },
  { cls := 5, slots := #[.ref 22, .int 0, .int 1, .null, .long 6], vm := .none },
  { cls := 20, slots := #[.int 7], vm := .none },
  { cls := 15, slots := #[.int 1, .ref 24, .int 0, .int 0, .int 0, .int 0], vm := .none },
  { cls := 5, slots := #[.ref 25, .int 0, .int 1, .null, .long 7], vm := .none },
  { cls := 20, slots := #[.int 8], vm := .none },
  { cls := 15, slots := #[.int 1, .ref 27, .int 0, .int 0, .int 0, .int 0], vm := .none },
  { cls := 5, slots := #[.ref 28, .int 0, .int 1, .null, .long 8], vm := .none },
  { cls := 20, slots := #[.int 9], vm := .none },
  { cls := 15, slots := #[.int 1, .ref 30, .int 0, .int 0, .int 0, .int 0], vm := .none },
  { cls := 5, slots := #[.ref 31, .int 0, .int 1, .null, .long 9], vm := .none },
  { cls := 20, slots := #[.int 10], vm := .none },
  { cls := 15, slots := #[.int 1, .ref 33, .int 0, .int 0, .int 0, .int 0], vm := .none },
  { cls := 5, slots := #[.ref 34, .int 0, .int 2, .null, .long 10], vm := .none },
  { cls := 22, slots := #[.long 1, .long 10, .long 100, .long 1000, .long 10000, .long 100000, .long 1000000, .long 10000000, .long 100000000, .long 1000000000, .long 10000000000, .long 100000000000, .long 1000000000000, .long 10000000000000, .long 100000000000000, .long 1000000000000000, .long 10000000000000000, .long 100000000000000000, .long 1000000000000000000], vm := .none }]
def classes : Array Class := #[k0, k1, k2, k3, k4, k5, k6, k7, k8, k9, k10, k11, k12, k13, k14, k15, k16, k17, k18, k19, k20, k21, k22, k23]
def interned : List (Array UInt16 × Addr) := []
def slotsUsed : Nat := 237
def theMethod : MethodId := ⟨1, 3⟩
def args0 : Array Value := #[.long 5, .int 7, .long 9, .int 3, .int 4]
def aboutOver (below : List Frame) : State where
  vm := { classes := classes, interned := interned.toArray }
  heap := heap
  slotsUsed := slotsUsed
  threads := #[{ frames := .invoking theMethod args0 :: below }]
def below0 : List Frame := [.native { method := ⟨0, 0⟩, args := #[] }]
def about1 : State := aboutOver below0
def p0 : Program := .bare "" "" ""
def e0 : Env := launch0.env 0 0 0
theorem w_frames : about1.frames = Frame.invoking theMethod args0 :: below0 := rfl
set_option maxRecDepth 65536 in
theorem w_args : argsFit about1.vm theMethod args0 = true := by decide +kernel
set_option maxRecDepth 65536 in
theorem w_heap : heapFits about1 = true := by decide +kernel
set_option maxRecDepth 65536 in
theorem w_runnable : about1.curStatus? = some .runnable := by decide +kernel
set_option maxRecDepth 65536 in
theorem w_alone : about1.alone = true := by decide +kernel
set_option maxRecDepth 65536 in
theorem w_named : about1.methodNamed? x = some theMethod := by decide +kernel
set_option maxRecDepth 65536 in
theorem w_hears : about1.hears theMethod below0 = true := by decide +kernel
set_option maxRecDepth 65536 in
theorem w_ripe : about1.ripe theMethod args0 below0 = true := by decide +kernel
theorem w_running : about1.status = .running := rfl
set_option maxRecDepth 65536 in
theorem w_room : about1.hasRoom e0.platform room_1 = true :=
  launch0.hasRoom_least _ room_1 (by decide +kernel) (by decide +kernel) (by decide +kernel) (by decide +kernel) (by decide +kernel) (by decide +kernel)
theorem allAtoms_all (ts : List Jvm.Cond) (a : Array Jvm.Value) (st : Jvm.State) : (allAtoms ts).before a st = ts.all (fun c => c.before a st) := by
  induction ts with
  | nil => rfl
  | cons c t ih =>
    show (Jvm.Cond.and c (allAtoms t)).before a st = _
    rw [Jvm.Cond.before_and, ih, List.all_cons]
def words1 : List Jvm.Cond := Jvm.Cond.code x code maxLocals ret :: tables_1
/-- a 'code' word, met by the world's own term for the bytes: nothing is compared byte by byte -/
theorem code_word {y : MethodName} {bytes : ByteArray} {mx : Nat} {rt : Option FieldType} {a : Array Value} {s : State} {m : MethodId} {meth : Method} {c : Code} (h1 : s.methodNamed? y = some m) (h2 : s.vm.method? m = some meth) (h3 : meth.code = some c) (h4 : c.code = bytes)
    (h5 : (c.maxLocals == mx && c.exceptionTable.isEmpty && decide (c.maxStack ≤ mostOperands) && decide (meth.sig.returnType = rt) && !meth.locks && decide (parseMethodDescriptor y.desc = some meth.sig)) = true) : (Jvm.Cond.code y bytes mx rt).before a s = true := by
  simp only [Bool.and_eq_true, beq_iff_eq, Bool.not_eq_true', decide_eq_true_eq] at h5
  obtain ⟨⟨⟨⟨⟨g1, g2⟩, g3⟩, g4⟩, g5⟩, g6⟩ := h5
  simp [Cond.before, Cond.holds, Cond.value, h1, h2, h3, h4, g1, g2, g3, g4, g5, g6]
def isCode : Jvm.Cond → Bool
  | .code _ _ _ _ => true
  | _ => false
theorem all_split {L : List Jvm.Cond} {P : Jvm.Cond → Bool} (h1 : L.all (fun c => isCode c || P c) = true) (h2 : ∀ c ∈ L.filter isCode, P c = true) : L.all P = true := by
  refine List.all_eq_true.mpr fun c hc => ?_
  have h := List.all_eq_true.mp h1 c hc
  rcases Bool.eq_false_or_eq_true (isCode c) with hi | hi
  · exact h2 c (List.mem_filter.mpr ⟨hc, hi⟩)
  · simpa [hi] using h
set_option maxRecDepth 65536 in
theorem w_c0 : (Jvm.Cond.code x code maxLocals ret).before args0 about1 = true := code_word (m := ⟨1, 3⟩) (meth := k1m3) (c := k1c3) (by decide +kernel) rfl rfl rfl (by decide +kernel)
set_option maxRecDepth 65536 in
theorem w_c1 : (Jvm.Cond.code ({ cls := "com/example/floatweight/floatweight/PricesGetPinLaw", name := "pos", desc := "(JZ)J" } : Jvm.MethodName) method_2_code (5 : Nat) (Option.some Jvm.ClassFile.FieldType.long)).before args0 about1 = true := code_word (m := ⟨1, 1⟩) (meth := k1m1) (c := k1c1) (by decide +kernel) rfl rfl rfl (by decide +kernel)
set_option maxRecDepth 65536 in
theorem w_c2 : (Jvm.Cond.code ({ cls := "java/math/BigDecimal", name := "valueOf", desc := "(JI)Ljava/math/BigDecimal;" } : Jvm.MethodName) jdk_17_method_20_code (3 : Nat) (Option.some (Jvm.ClassFile.FieldType.object "java/math/BigDecimal"))).before args0 about1 = true := code_word (m := ⟨5, 1⟩) (meth := k5m1) (c := k5c1) (by decide +kernel) rfl rfl rfl (by decide +kernel)
set_option maxRecDepth 65536 in
theorem w_c3 : (Jvm.Cond.code ({ cls := "java/math/BigDecimal", name := "<init>", desc := "(Ljava/math/BigInteger;JII)V" } : Jvm.MethodName) jdk_17_method_1_code (6 : Nat) (Option.none : Option Jvm.ClassFile.FieldType)).before args0 about1 = true := code_word (m := ⟨5, 0⟩) (meth := k5m0) (c := k5c0) (by decide +kernel) rfl rfl rfl (by decide +kernel)
set_option maxRecDepth 65536 in
theorem w_c4 : (Jvm.Cond.code ({ cls := "java/lang/Number", name := "<init>", desc := "()V" } : Jvm.MethodName) jdk_18_method_1_code (1 : Nat) (Option.none : Option Jvm.ClassFile.FieldType)).before args0 about1 = true := code_word (m := ⟨3, 0⟩) (meth := k3m0) (c := k3c0) (by decide +kernel) rfl rfl rfl (by decide +kernel)
set_option maxRecDepth 65536 in
theorem w_c5 : (Jvm.Cond.code ({ cls := "java/lang/Object", name := "<init>", desc := "()V" } : Jvm.MethodName) object_method_1_code (1 : Nat) (Option.none : Option Jvm.ClassFile.FieldType)).before args0 about1 = true := code_word (m := ⟨0, 0⟩) (meth := k0m0) (c := k0c0) (by decide +kernel) rfl rfl rfl (by decide +kernel)
set_option maxRecDepth 65536 in
theorem w_c6 : (Jvm.Cond.code ({ cls := "java/math/BigDecimal", name := "valueOf", desc := "(J)Ljava/math/BigDecimal;" } : Jvm.MethodName) jdk_17_method_21_code (2 : Nat) (Option.some (Jvm.ClassFile.FieldType.object "java/math/BigDecimal"))).before args0 about1 = true := code_word (m := ⟨5, 2⟩) (meth := k5m2) (c := k5c2) (by decide +kernel) rfl rfl rfl (by decide +kernel)
set_option maxRecDepth 65536 in
theorem w_c7 : (Jvm.Cond.code ({ cls := "com/example/floatweight/floatweight/Prices", name := "<init>", desc := "(I)V" } : Jvm.MethodName) prog_48_method_1_code (2 : Nat) (Option.none : Option Jvm.ClassFile.FieldType)).before args0 about1 = true := code_word (m := ⟨6, 0⟩) (meth := k6m0) (c := k6c0) (by decide +kernel) rfl rfl rfl (by decide +kernel)
set_option maxRecDepth 65536 in
theorem w_c8 : (Jvm.Cond.code ({ cls := "com/example/floatweight/floatweight/Prices", name := "set", desc := "(ILjava/math/BigDecimal;)V" } : Jvm.MethodName) prog_48_method_6_code (3 : Nat) (Option.none : Option Jvm.ClassFile.FieldType)).before args0 about1 = true := code_word (m := ⟨6, 2⟩) (meth := k6m2) (c := k6c2) (by decide +kernel) rfl rfl rfl (by decide +kernel)
set_option maxRecDepth 65536 in
theorem w_c9 : (Jvm.Cond.code ({ cls := "com/example/floatweight/floatweight/IndexArithmetic", name := "requirePositive", desc := "(Ljava/lang/String;Ljava/math/BigDecimal;)Ljava/math/BigDecimal;" } : Jvm.MethodName) prog_24_method_19_code (2 : Nat) (Option.some (Jvm.ClassFile.FieldType.object "java/math/BigDecimal"))).before args0 about1 = true := code_word (m := ⟨11, 1⟩) (meth := k11m1) (c := k11c1) (by decide +kernel) rfl rfl rfl (by decide +kernel)
set_option maxRecDepth 65536 in
theorem w_c10 : (Jvm.Cond.code ({ cls := "java/util/Objects", name := "requireNonNull", desc := "(Ljava/lang/Object;Ljava/lang/String;)Ljava/lang/Object;" } : Jvm.MethodName) jdk_31_method_11_code (2 : Nat) (Option.some (Jvm.ClassFile.FieldType.object "java/lang/Object"))).before args0 about1 = true := code_word (m := ⟨12, 1⟩) (meth := k12m1) (c := k12c1) (by decide +kernel) rfl rfl rfl (by decide +kernel)
set_option maxRecDepth 65536 in
theorem w_c11 : (Jvm.Cond.code ({ cls := "java/math/BigDecimal", name := "signum", desc := "()I" } : Jvm.MethodName) jdk_17_method_58_code (1 : Nat) (Option.some Jvm.ClassFile.FieldType.int)).before args0 about1 = true := code_word (m := ⟨5, 3⟩) (meth := k5m3) (c := k5c3) (by decide +kernel) rfl rfl rfl (by decide +kernel)
set_option maxRecDepth 65536 in
theorem w_c12 : (Jvm.Cond.code ({ cls := "java/lang/Long", name := "signum", desc := "(J)I" } : Jvm.MethodName) jdk_35_method_57_code (2 : Nat) (Option.some Jvm.ClassFile.FieldType.int)).before args0 about1 = true := code_word (m := ⟨13, 1⟩) (meth := k13m1) (c := k13c1) (by decide +kernel) rfl rfl rfl (by decide +kernel)
set_option maxRecDepth 65536 in
theorem w_c13 : (Jvm.Cond.code ({ cls := "java/math/BigDecimal", name := "precision", desc := "()I" } : Jvm.MethodName) jdk_17_method_60_code (4 : Nat) (Option.some Jvm.ClassFile.FieldType.int)).before args0 about1 = true := code_word (m := ⟨5, 5⟩) (meth := k5m5) (c := k5c5) (by decide +kernel) rfl rfl rfl (by decide +kernel)
set_option maxRecDepth 65536 in
theorem w_c14 : (Jvm.Cond.code ({ cls := "java/math/BigDecimal", name := "longDigitLength", desc := "(J)I" } : Jvm.MethodName) jdk_17_method_104_code (4 : Nat) (Option.some Jvm.ClassFile.FieldType.int)).before args0 about1 = true := code_word (m := ⟨5, 9⟩) (meth := k5m9) (c := k5c9) (by decide +kernel) rfl rfl rfl (by decide +kernel)
set_option maxRecDepth 65536 in
theorem w_c15 : (Jvm.Cond.code ({ cls := "java/math/BigDecimal", name := "scale", desc := "()I" } : Jvm.MethodName) jdk_17_method_59_code (1 : Nat) (Option.some Jvm.ClassFile.FieldType.int)).before args0 about1 = true := code_word (m := ⟨5, 4⟩) (meth := k5m4) (c := k5c4) (by decide +kernel) rfl rfl rfl (by decide +kernel)
set_option maxRecDepth 65536 in
theorem w_c16 : (Jvm.Cond.code ({ cls := "java/math/BigDecimal", name := "movePointRight", desc := "(I)Ljava/math/BigDecimal;" } : Jvm.MethodName) jdk_17_method_67_code (4 : Nat) (Option.some (Jvm.ClassFile.FieldType.object "java/math/BigDecimal"))).before args0 about1 = true := code_word (m := ⟨5, 6⟩) (meth := k5m6) (c := k5c6) (by decide +kernel) rfl rfl rfl (by decide +kernel)
set_option maxRecDepth 65536 in
theorem w_c17 : (Jvm.Cond.code ({ cls := "java/math/BigDecimal", name := "checkScale", desc := "(J)I" } : Jvm.MethodName) jdk_17_method_106_code (5 : Nat) (Option.some Jvm.ClassFile.FieldType.int)).before args0 about1 = true := code_word (m := ⟨5, 10⟩) (meth := k5m10) (c := k5c10) (by decide +kernel) rfl rfl rfl (by decide +kernel)
set_option maxRecDepth 65536 in
theorem w_c18 : (Jvm.Cond.code ({ cls := "java/math/BigDecimal", name := "longValueExact", desc := "()J" } : Jvm.MethodName) jdk_17_method_84_code (2 : Nat) (Option.some Jvm.ClassFile.FieldType.long)).before args0 about1 = true := code_word (m := ⟨5, 8⟩) (meth := k5m8) (c := k5c8) (by decide +kernel) rfl rfl rfl (by decide +kernel)
set_option maxRecDepth 65536 in
theorem w_c19 : (Jvm.Cond.code ({ cls := "java/lang/Long", name := "numberOfLeadingZeros", desc := "(J)I" } : Jvm.MethodName) jdk_35_method_48_code (3 : Nat) (Option.some Jvm.ClassFile.FieldType.int)).before args0 about1 = true := code_word (m := ⟨13, 0⟩) (meth := k13m0) (c := k13c0) (by decide +kernel) rfl rfl rfl (by decide +kernel)
set_option maxRecDepth 65536 in
theorem w_c20 : (Jvm.Cond.code ({ cls := "java/lang/Integer", name := "numberOfLeadingZeros", desc := "(I)I" } : Jvm.MethodName) jdk_33_method_47_code (2 : Nat) (Option.some Jvm.ClassFile.FieldType.int)).before args0 about1 = true := code_word (m := ⟨14, 0⟩) (meth := k14m0) (c := k14c0) (by decide +kernel) rfl rfl rfl (by decide +kernel)
set_option maxRecDepth 65536 in
theorem w_c21 : (Jvm.Cond.code ({ cls := "com/example/floatweight/floatweight/Prices", name := "get", desc := "(I)Ljava/math/BigDecimal;" } : Jvm.MethodName) prog_48_method_5_code (3 : Nat) (Option.some (Jvm.ClassFile.FieldType.object "java/math/BigDecimal"))).before args0 about1 = true := code_word (m := ⟨6, 1⟩) (meth := k6m1) (c := k6c1) (by decide +kernel) rfl rfl rfl (by decide +kernel)
set_option maxRecDepth 65536 in
theorem w_c22 : (Jvm.Cond.code ({ cls := "com/example/floatweight/floatweight/PricesGetPinLaw", name := "same", desc := "(Ljava/math/BigDecimal;Ljava/math/BigDecimal;)Z" } : Jvm.MethodName) method_3_code (2 : Nat) (Option.some Jvm.ClassFile.FieldType.boolean)).before args0 about1 = true := code_word (m := ⟨1, 2⟩) (meth := k1m2) (c := k1c2) (by decide +kernel) rfl rfl rfl (by decide +kernel)
set_option maxRecDepth 65536 in
theorem w_c23 : (Jvm.Cond.code ({ cls := "java/math/BigDecimal", name := "equals", desc := "(Ljava/lang/Object;)Z" } : Jvm.MethodName) jdk_17_method_72_code (7 : Nat) (Option.some Jvm.ClassFile.FieldType.boolean)).before args0 about1 = true := code_word (m := ⟨5, 7⟩) (meth := k5m7) (c := k5c7) (by decide +kernel) rfl rfl rfl (by decide +kernel)
def codes1 : List Jvm.Cond := [Jvm.Cond.code x code maxLocals ret, Jvm.Cond.code ({ cls := "com/example/floatweight/floatweight/PricesGetPinLaw", name := "pos", desc := "(JZ)J" } : Jvm.MethodName) method_2_code (5 : Nat) (Option.some Jvm.ClassFile.FieldType.long), Jvm.Cond.code ({ cls := "java/math/BigDecimal", name := "valueOf", desc := "(JI)Ljava/math/BigDecimal;" } : Jvm.MethodName) jdk_17_method_20_code (3 : Nat) (Option.some (Jvm.ClassFile.FieldType.object "java/math/BigDecimal")), Jvm.Cond.code ({ cls := "java/math/BigDecimal", name := "<init>", desc := "(Ljava/math/BigInteger;JII)V" } : Jvm.MethodName) jdk_17_method_1_code (6 : Nat) (Option.none : Option Jvm.ClassFile.FieldType), Jvm.Cond.code ({ cls := "java/lang/Number", name := "<init>", desc := "()V" } : Jvm.MethodName) jdk_18_method_1_code (1 : Nat) (Option.none : Option Jvm.ClassFile.FieldType), Jvm.Cond.code ({ cls := "java/lang/Object", name := "<init>", desc := "()V" } : Jvm.MethodName) object_method_1_code (1 : Nat) (Option.none : Option Jvm.ClassFile.FieldType), Jvm.Cond.code ({ cls := "java/math/BigDecimal", name := "valueOf", desc := "(J)Ljava/math/BigDecimal;" } : Jvm.MethodName) jdk_17_method_21_code (2 : Nat) (Option.some (Jvm.ClassFile.FieldType.object "java/math/BigDecimal")), Jvm.Cond.code ({ cls := "com/example/floatweight/floatweight/Prices", name := "<init>", desc := "(I)V" } : Jvm.MethodName) prog_48_method_1_code (2 : Nat) (Option.none : Option Jvm.ClassFile.FieldType), Jvm.Cond.code ({ cls := "com/example/floatweight/floatweight/Prices", name := "set", desc := "(ILjava/math/BigDecimal;)V" } : Jvm.MethodName) prog_48_method_6_code (3 : Nat) (Option.none : Option Jvm.ClassFile.FieldType), Jvm.Cond.code ({ cls := "com/example/floatweight/floatweight/IndexArithmetic", name := "requirePositive", desc := "(Ljava/lang/String;Ljava/math/BigDecimal;)Ljava/math/BigDecimal;" } : Jvm.MethodName) prog_24_method_19_code (2 : Nat) (Option.some (Jvm.ClassFile.FieldType.object "java/math/BigDecimal")), Jvm.Cond.code ({ cls := "java/util/Objects", name := "requireNonNull", desc := "(Ljava/lang/Object;Ljava/lang/String;)Ljava/lang/Object;" } : Jvm.MethodName) jdk_31_method_11_code (2 : Nat) (Option.some (Jvm.ClassFile.FieldType.object "java/lang/Object")), Jvm.Cond.code ({ cls := "java/math/BigDecimal", name := "signum", desc := "()I" } : Jvm.MethodName) jdk_17_method_58_code (1 : Nat) (Option.some Jvm.ClassFile.FieldType.int), Jvm.Cond.code ({ cls := "java/lang/Long", name := "signum", desc := "(J)I" } : Jvm.MethodName) jdk_35_method_57_code (2 : Nat) (Option.some Jvm.ClassFile.FieldType.int), Jvm.Cond.code ({ cls := "java/math/BigDecimal", name := "precision", desc := "()I" } : Jvm.MethodName) jdk_17_method_60_code (4 : Nat) (Option.some Jvm.ClassFile.FieldType.int), Jvm.Cond.code ({ cls := "java/math/BigDecimal", name := "longDigitLength", desc := "(J)I" } : Jvm.MethodName) jdk_17_method_104_code (4 : Nat) (Option.some Jvm.ClassFile.FieldType.int), Jvm.Cond.code ({ cls := "java/math/BigDecimal", name := "scale", desc := "()I" } : Jvm.MethodName) jdk_17_method_59_code (1 : Nat) (Option.some Jvm.ClassFile.FieldType.int), Jvm.Cond.code ({ cls := "java/math/BigDecimal", name := "movePointRight", desc := "(I)Ljava/math/BigDecimal;" } : Jvm.MethodName) jdk_17_method_67_code (4 : Nat) (Option.some (Jvm.ClassFile.FieldType.object "java/math/BigDecimal")), Jvm.Cond.code ({ cls := "java/math/BigDecimal", name := "checkScale", desc := "(J)I" } : Jvm.MethodName) jdk_17_method_106_code (5 : Nat) (Option.some Jvm.ClassFile.FieldType.int), Jvm.Cond.code ({ cls := "java/math/BigDecimal", name := "longValueExact", desc := "()J" } : Jvm.MethodName) jdk_17_method_84_code (2 : Nat) (Option.some Jvm.ClassFile.FieldType.long), Jvm.Cond.code ({ cls := "java/lang/Long", name := "numberOfLeadingZeros", desc := "(J)I" } : Jvm.MethodName) jdk_35_method_48_code (3 : Nat) (Option.some Jvm.ClassFile.FieldType.int), Jvm.Cond.code ({ cls := "java/lang/Integer", name := "numberOfLeadingZeros", desc := "(I)I" } : Jvm.MethodName) jdk_33_method_47_code (2 : Nat) (Option.some Jvm.ClassFile.FieldType.int), Jvm.Cond.code ({ cls := "com/example/floatweight/floatweight/Prices", name := "get", desc := "(I)Ljava/math/BigDecimal;" } : Jvm.MethodName) prog_48_method_5_code (3 : Nat) (Option.some (Jvm.ClassFile.FieldType.object "java/math/BigDecimal")), Jvm.Cond.code ({ cls := "com/example/floatweight/floatweight/PricesGetPinLaw", name := "same", desc := "(Ljava/math/BigDecimal;Ljava/math/BigDecimal;)Z" } : Jvm.MethodName) method_3_code (2 : Nat) (Option.some Jvm.ClassFile.FieldType.boolean), Jvm.Cond.code ({ cls := "java/math/BigDecimal", name := "equals", desc := "(Ljava/lang/Object;)Z" } : Jvm.MethodName) jdk_17_method_72_code (7 : Nat) (Option.some Jvm.ClassFile.FieldType.boolean)]
set_option maxRecDepth 65536 in
theorem codes_eq : words1.filter isCode = codes1 := rfl
theorem w_codes : ∀ c ∈ words1.filter isCode, c.before args0 about1 = true := by
  rw [codes_eq]
  intro c hc
  simp only [codes1, List.mem_cons, List.not_mem_nil, or_false] at hc
  rcases hc with rfl | rfl | rfl | rfl | rfl | rfl | rfl | rfl | rfl | rfl | rfl | rfl | rfl | rfl | rfl | rfl | rfl | rfl | rfl | rfl | rfl | rfl | rfl | rfl
  · exact w_c0
  · exact w_c1
  · exact w_c2
  · exact w_c3
  · exact w_c4
  · exact w_c5
  · exact w_c6
  · exact w_c7
  · exact w_c8
  · exact w_c9
  · exact w_c10
  · exact w_c11
  · exact w_c12
  · exact w_c13
  · exact w_c14
  · exact w_c15
  · exact w_c16
  · exact w_c17
  · exact w_c18
  · exact w_c19
  · exact w_c20
  · exact w_c21
  · exact w_c22
  · exact w_c23
set_option maxRecDepth 65536 in
theorem w_t1 : (words1.take 24).all (fun c => isCode c || c.before args0 about1) = true := by decide +kernel
set_option maxRecDepth 65536 in
theorem w_t2 : ((words1.drop 24).take 24).all (fun c => isCode c || c.before args0 about1) = true := by decide +kernel
set_option maxRecDepth 65536 in
theorem w_t3 : (((words1.drop 24).drop 24).take 24).all (fun c => isCode c || c.before args0 about1) = true := by decide +kernel
set_option maxRecDepth 65536 in
theorem w_t4 : ((((words1.drop 24).drop 24).drop 24).take 24).all (fun c => isCode c || c.before args0 about1) = true := by decide +kernel
set_option maxRecDepth 65536 in
theorem w_t5 : (((((words1.drop 24).drop 24).drop 24).drop 24).take 24).all (fun c => isCode c || c.before args0 about1) = true := by decide +kernel
set_option maxRecDepth 65536 in
theorem w_t6 : (((((words1.drop 24).drop 24).drop 24).drop 24).drop 24).all (fun c => isCode c || c.before args0 about1) = true := by decide +kernel
theorem w_tables : (allAtoms (Jvm.Cond.code x code maxLocals ret :: tables_1)).before args0 about1 = true := by
  rw [allAtoms_all]
  show words1.all (fun c => c.before args0 about1) = true
  refine all_split ?_ w_codes
  rw [← List.take_append_drop 24 words1, List.all_append, w_t1, ← List.take_append_drop 24 (words1.drop 24), List.all_append, w_t2, ← List.take_append_drop 24 ((words1.drop 24).drop 24), List.all_append, w_t3, ← List.take_append_drop 24 (((words1.drop 24).drop 24).drop 24), List.all_append, w_t4, ← List.take_append_drop 24 ((((words1.drop 24).drop 24).drop 24).drop 24), List.all_append, w_t5, w_t6]
  rfl
set_option maxRecDepth 65536 in
theorem w_rest : rest_1_c.before args0 about1 = true := by decide +kernel
set_option maxRecDepth 65536 in
theorem w_case : (Jvm.Cond.and given_1 narrow_1).before args0 about1 = true := by decide +kernel
theorem w_applies : (headSpec (Jvm.Cond.code x code maxLocals ret :: tables_1) room_1).applies x e0.platform about1 = true :=
  (Spec.applies_iff w_frames).mpr ⟨w_running, w_runnable, w_alone, w_named, w_hears, w_ripe, w_room, w_tables⟩
theorem atStart : AtStart classFile x code maxLocals ret World_1 tables_1 room_1 Calls_1 rest_1 Pre_1 launch0 p0 e0 about1 theMethod args0 below0 :=
  ⟨lists_1, trivial, launch0.admits_env _ _ _, launch0.least_env, fairChoices_fair.cas, fairChoices_fair.clock, w_frames, w_args, w_heap, w_applies, trivial, w_rest, w_case⟩
end start1
theorem witness_1 : WitnessClaimed_1 := ⟨start1.p0, start1.e0, start1.about1, start1.theMethod, start1.args0, start1.below0, start1.atStart⟩
end Jvm.Pilot.@@N@@
