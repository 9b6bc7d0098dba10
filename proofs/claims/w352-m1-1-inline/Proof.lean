import JvmDerived
import JvmDerived.Pilot.@@N@@Statement
import JvmDerived.Pilot.@@N@@Code
set_option linter.unusedVariables false
set_option linter.unusedSimpArgs false
namespace Jvm.RoadKit
open Sem ClassFile Op Lib Jvm.Stand Jvm.Free Jvm.LawKit
section New
variable {p : Program} {l : Launch} {e : Env} {R : Room} {s : State} {m : MethodId} {args : Array Value} {below : List Frame} {meth : Method} {c : Code} {T : State} {locs : List Loc} {cells slots : Nat}
theorem retI (X : Stand p l e R s m args below meth c T locs cells slots) (hx : p.tables.exec = Jvm.exec) {pc : Nat} {Ls : Array Slot} {z : Int32} {rest : List Value} (hret : meth.sig.returnType = some .int) (hd : decode c.code pc = .ok (.ireturn, 1)) {fs : List Frame}
    (hl : ∀ (f : JFrame) (acts : List Action), f.method = m → f.locked = none → f.entered = [] → (doReturn e (T.setTop f) acts (some (.int z))).1 = T.setFrames fs) : Steps p.tables e below (T.setTop (mkF m pc Ls (.int z :: rest))) (T.setFrames fs) := by
  have hm' : T.vm.method? m = some meth := X.method'
  have hn : narrow .int (.int z) = .int z := rfl
  show Steps p.tables e below (T.setTop { method := m, pc := pc, locals := Ls, stack := _ :: rest, locked := none }) _
  jvm_step X.here [X.here.top, hx, hd, hm', hret, hn]
  first | (intro acts; rw [hl _ acts rfl rfl rfl]) | rw [hl _ _ rfl rfl rfl]
  exact Steps.refl _
end New
end Jvm.RoadKit
/- laws to paste: Road.lenW, Road.eqW, Road.codOf (cut by pick.py; bodies as the Statement names them) -/
namespace Jvm.Pilot.@@N@@
namespace StrChars
open Jvm Sem ClassFile Op Lib Jvm.Stand Jvm.Free.XT Jvm.Free.ALB Jvm.Free.JM Jvm.Free
open Jvm.Lib.Cold (StaticIs)
/-- a char array whose places are chars -/
def Ch (a : Addr) (A : Cell) (U : State) : Prop := Arr .char a A U ∧ Typed .char A
theorem Ch.mv {a : Addr} {A : Cell} {U U' : State} (h : Ch a A U) (hal : U.vm.Alike U'.vm) (hh : U'.heap = U.heap) : Ch a A U' := ⟨h.1.mv hal hh, h.2⟩
theorem Ch.keep {a : Addr} {A : Cell} {U U' : State} (h : Ch a A U) (hal : U.vm.Alike U'.vm) (hk : U'.heap[a]? = some A) : Ch a A U' := ⟨h.1.keep hal hk, h.2⟩
/-- what place i of a char[]'s cell holds -/
def cv (A : Cell) (i : Nat) : Int32 := match A.slots[i]? with | some (.int x) => x | _ => 0
theorem Ch.get {a : Addr} {A : Cell} {U : State} (h : Ch a A U) {i : Nat} (hi : i < A.slots.size) : A.slots[i]? = some (.int (cv A i)) := by
  have e := Array.getElem?_eq_getElem hi
  have f := h.2 i _ e
  unfold cv; rw [e]
  generalize A.slots[i] = v at f
  cases v <;> simp [fits] at f ⊢
/-- the byte that i2b leaves of a char -/
def lo8 (x : Int32) : Int32 := x.toInt8.toInt32
theorem fits_lo8 (y : Int32) : fits .byte (.int (lo8 y)) = true := by
  have h1 := y.toInt8.le_toInt
  have h2 := y.toInt8.toInt_lt
  simp only [lo8, fits, Bool.and_eq_true, decide_eq_true_eq, Int32.le_iff_toInt_le, Int8.toInt_toInt32, show (-128 : Int32).toInt = -128 from by decide, show (127 : Int32).toInt = 127 from by decide]
  omega
/-- A' is A but that each place j of lo .. hi - 1 holds f j -/
def Laid (A A' : Cell) (lo hi : Nat) (f : Nat → Value) : Prop := A'.cls = A.cls ∧ A'.vm = A.vm ∧ A'.slots.size = A.slots.size ∧ ∀ i, A'.slots[i]? = if lo ≤ i ∧ i < hi then some (f i) else A.slots[i]?
theorem Laid.zero (A : Cell) (lo : Nat) (f : Nat → Value) : Laid A A lo (lo + 0) f := ⟨rfl, rfl, rfl, fun i => by rw [if_neg (by omega)]⟩
theorem Laid.step {A Ak : Cell} {lo k : Nat} {f : Nat → Value} {v : Value} (h : Laid A Ak lo k f) (hlo : lo ≤ k) (hk : k < Ak.slots.size) (hv : v = f k) : Laid A (Ak.setSlot k v) lo (k + 1) f := by
  refine ⟨h.1, h.2.1, by simpa [Cell.setSlot] using h.2.2.1, fun i => ?_⟩
  by_cases e : k = i
  · subst e; rw [Cell.slots_setSlot_self v hk, if_pos (by omega), hv]
  · rw [Cell.slots_setSlot_ne v e, h.2.2.2 i]
    by_cases q : lo ≤ i ∧ i < k
    · rw [if_pos q, if_pos (by omega)]
    · rw [if_neg q, if_neg (by omega)]
def U16 : String := "java/lang/StringUTF16"
namespace Cmp5
def yN : MethodName := ⟨"java/lang/StringUTF16", "compress", "([CI[BII)I"⟩
abbrev yB : ByteArray := jdk_52_method_21_code
theorem d0 : decode yB 0 = .ok (.iconst 0, 1) := by decide +kernel
theorem d1 : decode yB 1 = .ok (.istore 5, 2) := by decide +kernel
theorem d3 : decode yB 3 = .ok (.iload 5, 2) := by decide +kernel
theorem d5 : decode yB 5 = .ok (.iload 4, 2) := by decide +kernel
theorem d7 : decode yB 7 = .ok (.if_icmp (.ge) 37, 3) := by decide +kernel
theorem d10 : decode yB 10 = .ok (.aload_n 0, 1) := by decide +kernel
theorem d11 : decode yB 11 = .ok (.iload_n 1, 1) := by decide +kernel
theorem d12 : decode yB 12 = .ok (.caload, 1) := by decide +kernel
theorem d13 : decode yB 13 = .ok (.istore 6, 2) := by decide +kernel
theorem d15 : decode yB 15 = .ok (.iload 6, 2) := by decide +kernel
theorem d17 : decode yB 17 = .ok (.sipush 255, 3) := by decide +kernel
theorem d20 : decode yB 20 = .ok (.if_icmp (.le) 6, 3) := by decide +kernel
theorem d26 : decode yB 26 = .ok (.aload_n 2, 1) := by decide +kernel
theorem d27 : decode yB 27 = .ok (.iload_n 3, 1) := by decide +kernel
theorem d28 : decode yB 28 = .ok (.iload 6, 2) := by decide +kernel
theorem d30 : decode yB 30 = .ok (.i2b, 1) := by decide +kernel
theorem d31 : decode yB 31 = .ok (.bastore, 1) := by decide +kernel
theorem d32 : decode yB 32 = .ok (.iinc 1 1, 3) := by decide +kernel
theorem d35 : decode yB 35 = .ok (.iinc 3 1, 3) := by decide +kernel
theorem d38 : decode yB 38 = .ok (.iinc 5 1, 3) := by decide +kernel
theorem d41 : decode yB 41 = .ok (.goto (-38), 3) := by decide +kernel
theorem d44 : decode yB 44 = .ok (.iload 4, 2) := by decide +kernel
theorem d46 : decode yB 46 = .ok (.ireturn, 1) := by decide +kernel
def site : List Cond := []
def tab : Cond := tabOf yN yB 7 (some .int) site
def P (b : Addr) (A : Cell) (d : Addr) (B : Cell) (o q len : Nat) (args : Array Value) (s : State) : Prop := args = #[.ref b, .int (Int32.ofNat o), .ref d, .int (Int32.ofNat q), .int (Int32.ofNat len)] ∧ Ch b A s ∧ Arr .byte d B s ∧ b ≠ d ∧ o + len ≤ A.slots.size ∧ q + len ≤ B.slots.size ∧ ∀ i, i < len → ¬ 255 < cv A (o + i)
def E (b : Addr) (A : Cell) (d : Addr) (B : Cell) (o q len : Nat) (r : Option Value) (s u : State) : Prop := r = some (.int (Int32.ofNat len)) ∧ ∃ B', Put d B' s u ∧ Laid B B' q (q + len) (fun j => Value.int (lo8 (cv A (o + (j - q)))))
/-- no char of the range above 255: len; the places written hold each char's low byte -/
theorem law (l : Launch) (b : Addr) (A : Cell) (d : Addr) (B : Cell) (o q len : Nat) : Law l yN 5 5 0 0 yB 7 (some .int) site (P b A d B o q len) (E b A d B o q len) (copyLocs d q len) 0 0 := by
  refine Law.of_walk (plainFor_of_name (by decide +kernel)) (by decide +kernel) (by decide +kernel) (by decide) (fun _ _ h => by rw [h.1]; rfl) (fun _ U U' hal hh h => ⟨h.1, h.2.1.mv hal hh, h.2.2.1.mv hal hh, h.2.2.2⟩) (fun r U U' V V' h1 hal h2 h => ⟨h.1, h.2.elim fun B' q => ⟨B', q.1.mv h1 h2, q.2⟩⟩) ?_
  intro p e s m args below meth c s₁ X0 hexec hbytes hml hret hlk hnm hown hh0 W hP
  obtain ⟨rfl, hA, hB, hne, l1, l2, hp⟩ := hP
  have c1 : Steps p.tables e below (s₁.setTop (entryFrame m #[.ref b, .int (Int32.ofNat o), .ref d, .int (Int32.ofNat q), .int (Int32.ofNat len)] 7)) (s₁.setTop (mkF m 0 #[.val (.ref b), .val (.int (Int32.ofNat o)), .val (.ref d), .val (.int (Int32.ofNat q)), .val (.int (Int32.ofNat len)), .unset, .unset] [])) := entry rfl
  have hA0 := hA.1.mv X0.warmed.alike hh0
  have hB0 := hB.mv X0.warmed.alike hh0
  have a31 := hA.1.2.2.2
  have c2 : Steps p.tables e below (s₁.setTop (entryFrame m #[.ref b, .int (Int32.ofNat o), .ref d, .int (Int32.ofNat q), .int (Int32.ofNat len)] 7)) (s₁.setTop (mkF m 3 #[.val (.ref b), .val (.int (Int32.ofNat o)), .val (.ref d), .val (.int (Int32.ofNat q)), .val (.int (Int32.ofNat len)), .val (.int 0), .unset] [])) := c1.trans (by
    refine iconstV X0.here hexec rfl 0 (hb hbytes d0) (by decide) ?_
    refine XS.istore X0.here hexec rfl (hb hbytes d1) rfl rfl ?_
    exact Steps.refl _)
  have loop : ∀ (r i : Nat), i + r = len → ∀ (z : Slot), (z = .unset ∨ ∃ w, z = .val w ∧ w.category = 1) → ∀ (Tl : State) (Bk : Cell), Stand p l e { frames := 0, locals := 0, cells := 0, slots := 0 } s m #[.ref b, .int (Int32.ofNat o), .ref d, .int (Int32.ofNat q), .int (Int32.ofNat len)] below meth c Tl ([] ++ copyLocs d q i) 0 0 → Put d Bk s₁ Tl → Laid B Bk q (q + i) (fun j => Value.int (lo8 (cv A (o + (j - q))))) →
      Steps p.tables e below (s₁.setTop (entryFrame m #[.ref b, .int (Int32.ofNat o), .ref d, .int (Int32.ofNat q), .int (Int32.ofNat len)] 7)) (Tl.setTop (mkF m 3 #[.val (.ref b), .val (.int (Int32.ofNat (o + i))), .val (.ref d), .val (.int (Int32.ofNat (q + i))), .val (.int (Int32.ofNat len)), .val (.int (Int32.ofNat i)), z] [])) → ∃ (T' : State) (B' : Cell) (z' : Slot), Stand p l e { frames := 0, locals := 0, cells := 0, slots := 0 } s m #[.ref b, .int (Int32.ofNat o), .ref d, .int (Int32.ofNat q), .int (Int32.ofNat len)] below meth c T' ([] ++ copyLocs d q len) 0 0 ∧ Put d B' s₁ T' ∧ Laid B B' q (q + len) (fun j => Value.int (lo8 (cv A (o + (j - q))))) ∧
      Steps p.tables e below (s₁.setTop (entryFrame m #[.ref b, .int (Int32.ofNat o), .ref d, .int (Int32.ofNat q), .int (Int32.ofNat len)] 7)) (T'.setTop (mkF m 3 #[.val (.ref b), .val (.int (Int32.ofNat (o + len))), .val (.ref d), .val (.int (Int32.ofNat (q + len))), .val (.int (Int32.ofNat len)), .val (.int (Int32.ofNat len)), z'] [])) := by
    intro r
    induction r with
    | zero =>
      intro i hi z hz Tl Bk Xl pl fl cl
      have hil : i = len := by omega
      rw [hil] at Xl fl cl
      exact ⟨Tl, Bk, z, Xl, pl, fl, cl⟩
    | succ r ih =>
      intro i hi z hz Tl Bk Xl pl fl cl
      have all := X0.warmed.alike.symm.trans Xl.warmed.alike
      have hAl := hA0.keep all (pl.other hne hA0.1)
      have hBk := hB0.like all pl.1 fl.1 fl.2.1 fl.2.2.1
      have hlt : q + i < Bk.slots.size := by rw [fl.2.2.1]; omega
      have c3 : Steps p.tables e below (s₁.setTop (entryFrame m #[.ref b, .int (Int32.ofNat o), .ref d, .int (Int32.ofNat q), .int (Int32.ofNat len)] 7)) (Tl.setTop (mkF m 12 #[.val (.ref b), .val (.int (Int32.ofNat (o + i))), .val (.ref d), .val (.int (Int32.ofNat (q + i))), .val (.int (Int32.ofNat len)), .val (.int (Int32.ofNat i)), z] [.int (Int32.ofNat (o + i)), .ref b])) := cl.trans (by
        refine XS.iload Xl.here hexec rfl (hb hbytes d3) rfl ?_
        refine XS.iload Xl.here hexec rfl (hb hbytes d5) rfl ?_
        refine XS.icmpNo Xl.here hexec rfl (hb hbytes d7) rfl (ii_ge_f (lt32 (by omega) (by omega))) ?_
        refine XS.aloadN Xl.here hexec rfl (hb hbytes d10) rfl rfl ?_
        refine XS.iloadN Xl.here hexec rfl (hb hbytes d11) rfl ?_
        exact Steps.refl _)
      have c4 : Steps p.tables e below (s₁.setTop (entryFrame m #[.ref b, .int (Int32.ofNat o), .ref d, .int (Int32.ofNat q), .int (Int32.ofNat len)] 7)) (Tl.setTop (mkF m 13 #[.val (.ref b), .val (.int (Int32.ofNat (o + i))), .val (.ref d), .val (.int (Int32.ofNat (q + i))), .val (.int (Int32.ofNat len)), .val (.int (Int32.ofNat i)), z] [.int (cv A (o + i))])) := c3.trans (by
        refine Xl.aget hexec hAl rfl (hA.get (i := o + i) (by omega)) rfl rfl (hb hbytes d12) ?_
        exact Steps.refl _)
      have c5 : Steps p.tables e below (s₁.setTop (entryFrame m #[.ref b, .int (Int32.ofNat o), .ref d, .int (Int32.ofNat q), .int (Int32.ofNat len)] 7)) (Tl.setTop (mkF m 15 #[.val (.ref b), .val (.int (Int32.ofNat (o + i))), .val (.ref d), .val (.int (Int32.ofNat (q + i))), .val (.int (Int32.ofNat len)), .val (.int (Int32.ofNat i)), .val (.int (cv A (o + i)))] [])) := c4.trans (by
        refine XS.istoreS Xl.here hexec rfl (hb hbytes d13) rfl rfl hz ?_
        exact Steps.refl _)
      have c6 : Steps p.tables e below (s₁.setTop (entryFrame m #[.ref b, .int (Int32.ofNat o), .ref d, .int (Int32.ofNat q), .int (Int32.ofNat len)] 7)) (Tl.setTop (mkF m 31 #[.val (.ref b), .val (.int (Int32.ofNat (o + i))), .val (.ref d), .val (.int (Int32.ofNat (q + i))), .val (.int (Int32.ofNat len)), .val (.int (Int32.ofNat i)), .val (.int (cv A (o + i)))] [.int (lo8 (cv A (o + i))), .int (Int32.ofNat (q + i)), .ref d])) := c5.trans (by
        refine XS.iload Xl.here hexec rfl (hb hbytes d15) rfl ?_
        refine sipushV Xl.here hexec rfl 255 (hb hbytes d17) (by decide) ?_
        refine XS.icmpYes Xl.here hexec rfl (pc0 := 20) rfl (hb hbytes d20) rfl (ii_le_t (hp i (by omega))) (by decide) rfl ?_
        refine XS.aloadN Xl.here hexec rfl (hb hbytes d26) rfl rfl ?_
        refine XS.iloadN Xl.here hexec rfl (hb hbytes d27) rfl ?_
        refine XS.iload Xl.here hexec rfl (hb hbytes d28) rfl ?_
        refine i2b Xl.here hexec rfl (hb hbytes d30) rfl ?_
        exact Steps.refl _)
      obtain ⟨T7, X7, p7, st7⟩ := Xl.aput hexec hBk rfl hlt rfl (fits_lo8 (cv A (o + i))) (g := (mkF m 31 #[.val (.ref b), .val (.int (Int32.ofNat (o + i))), .val (.ref d), .val (.int (Int32.ofNat (q + i))), .val (.int (Int32.ofNat len)), .val (.int (Int32.ofNat i)), .val (.int (cv A (o + i)))] [.int (lo8 (cv A (o + i))), .int (Int32.ofNat (q + i)), .ref d])) rfl (rest := []) rfl (hb hbytes d31)
      have c8 : Steps p.tables e below (s₁.setTop (entryFrame m #[.ref b, .int (Int32.ofNat o), .ref d, .int (Int32.ofNat q), .int (Int32.ofNat len)] 7)) (T7.setTop (mkF m 32 #[.val (.ref b), .val (.int (Int32.ofNat (o + i))), .val (.ref d), .val (.int (Int32.ofNat (q + i))), .val (.int (Int32.ofNat len)), .val (.int (Int32.ofNat i)), .val (.int (cv A (o + i)))] [])) := c6.trans (st7 _ (Steps.refl _))
      have c9 : Steps p.tables e below (s₁.setTop (entryFrame m #[.ref b, .int (Int32.ofNat o), .ref d, .int (Int32.ofNat q), .int (Int32.ofNat len)] 7)) (T7.setTop (mkF m 3 #[.val (.ref b), .val (.int (Int32.ofNat (o + i) + 1)), .val (.ref d), .val (.int (Int32.ofNat (q + i) + 1)), .val (.int (Int32.ofNat len)), .val (.int (Int32.ofNat i + 1)), .val (.int (cv A (o + i)))] [])) := c8.trans (by
        refine iincV X7.here hexec rfl 1 (hb hbytes d32) (by decide) rfl rfl ?_
        refine iincV X7.here hexec rfl 1 (hb hbytes d35) (by decide) rfl rfl ?_
        refine iincV X7.here hexec rfl 1 (hb hbytes d38) (by decide) rfl rfl ?_
        refine XS.goto X7.here hexec rfl (pc0 := 41) rfl (hb hbytes d41) (by decide) rfl ?_
        exact Steps.refl _)
      have c10 : Steps p.tables e below (s₁.setTop (entryFrame m #[.ref b, .int (Int32.ofNat o), .ref d, .int (Int32.ofNat q), .int (Int32.ofNat len)] 7)) (T7.setTop (mkF m 3 #[.val (.ref b), .val (.int (Int32.ofNat (o + (i + 1)))), .val (.ref d), .val (.int (Int32.ofNat (q + (i + 1)))), .val (.int (Int32.ofNat len)), .val (.int (Int32.ofNat (i + 1))), .val (.int (cv A (o + i)))] [])) := by
        have := c9
        rw [succ32, succ32, succ32] at this
        exact this
      exact ih (i + 1) (by omega) _ (Or.inr ⟨_, rfl, rfl⟩) T7 _ (by rw [copyLocs_step, ← List.append_assoc]; exact X7) (pl.trans p7) (fl.step (by omega) hlt (by simp)) c10
  obtain ⟨T9, B9, z9, X9, p9, f9, g9⟩ := loop len 0 (by omega) .unset (Or.inl rfl) s₁ B (by simpa [copyLocs] using X0) ⟨hB0.1, fun _ _ => rfl, rfl⟩ (Laid.zero _ _ _) c2
  have c11 : Steps p.tables e below (s₁.setTop (entryFrame m #[.ref b, .int (Int32.ofNat o), .ref d, .int (Int32.ofNat q), .int (Int32.ofNat len)] 7)) (T9.setTop (mkF m 46 #[.val (.ref b), .val (.int (Int32.ofNat (o + len))), .val (.ref d), .val (.int (Int32.ofNat (q + len))), .val (.int (Int32.ofNat len)), .val (.int (Int32.ofNat len)), z9] [.int (Int32.ofNat len)])) := g9.trans (by
    refine XS.iload X9.here hexec rfl (hb hbytes d3) rfl ?_
    refine XS.iload X9.here hexec rfl (hb hbytes d5) rfl ?_
    refine XS.icmpYes X9.here hexec rfl (pc0 := 7) rfl (hb hbytes d7) rfl (ii_ge_t (nlt32 (by omega) (Nat.le_refl _))) (by decide) rfl ?_
    refine XS.iload X9.here hexec rfl (hb hbytes d44) rfl ?_
    exact Steps.refl _)
  exact ⟨T9, some (.int (Int32.ofNat len)), _, _, _, X9, by simp, rfl, rfl, (fun h => by cases h), ⟨rfl, B9, p9.from hh0, f9⟩, fun fs hl => c11.trans (X9.ireturnOut hexec hret rfl (Or.inl rfl) (hb hbytes d46) hl)⟩
end Cmp5
namespace Cmp3
def yN : MethodName := ⟨"java/lang/StringUTF16", "compress", "([CII)[B"⟩
abbrev yB : ByteArray := jdk_52_method_16_code
theorem d0 : decode yB 0 = .ok (.iload_n 2, 1) := by decide +kernel
theorem d1 : decode yB 1 = .ok (.newarray .byte, 2) := by decide +kernel
theorem d3 : decode yB 3 = .ok (.astore_n 3, 1) := by decide +kernel
theorem d4 : decode yB 4 = .ok (.aload_n 0, 1) := by decide +kernel
theorem d5 : decode yB 5 = .ok (.iload_n 1, 1) := by decide +kernel
theorem d6 : decode yB 6 = .ok (.aload_n 3, 1) := by decide +kernel
theorem d7 : decode yB 7 = .ok (.iconst 0, 1) := by decide +kernel
theorem d8 : decode yB 8 = .ok (.iload_n 2, 1) := by decide +kernel
theorem d9 : decode yB 9 = .ok (.invokestatic 115, 3) := by decide +kernel
theorem d12 : decode yB 12 = .ok (.istore 4, 2) := by decide +kernel
theorem d14 : decode yB 14 = .ok (.iload 4, 2) := by decide +kernel
theorem d16 : decode yB 16 = .ok (.iload_n 2, 1) := by decide +kernel
theorem d17 : decode yB 17 = .ok (.if_icmp (.eq) 40, 3) := by decide +kernel
theorem d57 : decode yB 57 = .ok (.aload_n 3, 1) := by decide +kernel
theorem d58 : decode yB 58 = .ok (.areturn, 1) := by decide +kernel
def site : List Cond := [.arrayClass .byte, Cmp5.tab] ++ staticW U16 115 Cmp5.yN
def tab : Cond := tabOf yN yB 6 (some (.array .byte)) site
def P (b : Addr) (A : Cell) (o len : Nat) (args : Array Value) (s : State) : Prop := args = #[.ref b, .int (Int32.ofNat o), .int (Int32.ofNat len)] ∧ Ch b A s ∧ o + len ≤ A.slots.size ∧ len ≤ 536870912 ∧ ∀ i, i < len → ¬ 255 < cv A (o + i)
def E (b : Addr) (A : Cell) (o len : Nat) (r : Option Value) (s u : State) : Prop := NewArr .byte "[B" len (fun j => .int (lo8 (cv A (o + j)))) r s u ∧ u.heap.size = s.heap.size + 1
/-- no char of the range above 255: a new byte[] of their low bytes -/
theorem law (l : Launch) (b : Addr) (A : Cell) (o len : Nat) : Law l yN 3 3 1 18 yB 6 (some (.array .byte)) site (P b A o len) (E b A o len) [] 1 len := by
  refine Law.of_walk (plainFor_of_name (by decide +kernel)) (by decide +kernel) (by decide +kernel) (by decide) (fun _ _ h => by rw [h.1]; rfl) (fun _ U U' hal hh h => ⟨h.1, h.2.1.mv hal hh, h.2.2⟩) (fun r U U' V V' h1 hal h2 h => ⟨NewArr.mv r U U' V V' h1 hal h2 h.1, by rw [h1, h2]; exact h.2⟩) ?_
  intro p e s m args below meth c s₁ X0 hexec hbytes hml hret hlk hnm hown hh0 W hP
  obtain ⟨rfl, hA, l1, l2, hp⟩ := hP
  have a31 := hA.1.2.2.2
  have c1 : Steps p.tables e below (s₁.setTop (entryFrame m #[.ref b, .int (Int32.ofNat o), .int (Int32.ofNat len)] 6)) (s₁.setTop (mkF m 0 #[.val (.ref b), .val (.int (Int32.ofNat o)), .val (.int (Int32.ofNat len)), .unset, .unset, .unset] [])) := entry rfl
  have c2 : Steps p.tables e below (s₁.setTop (entryFrame m #[.ref b, .int (Int32.ofNat o), .int (Int32.ofNat len)] 6)) (s₁.setTop (mkF m 1 #[.val (.ref b), .val (.int (Int32.ofNat o)), .val (.int (Int32.ofNat len)), .unset, .unset, .unset] [.int (Int32.ofNat len)])) := c1.trans (by
    refine XS.iloadN X0.here hexec rfl (hb hbytes d0) rfl ?_
    exact Steps.refl _)
  obtain ⟨T3, B3, X3, ba3, bs3, bv3, bh3, bf3, st3⟩ := X0.anew hexec (atype := .byte) (wk W (.arrayClass .byte)) rfl (by show len * 1 ≤ _; omega) (by omega) (g := (mkF m 1 #[.val (.ref b), .val (.int (Int32.ofNat o)), .val (.int (Int32.ofNat len)), .unset, .unset, .unset] [.int (Int32.ofNat len)])) rfl (hb hbytes d1) (rest := []) rfl (Nat.le_refl _) (by show 0 + len ≤ len; omega)
  rw [hh0] at ba3 st3
  have kp3 : XT.Kept s T3 := (XT.Kept.of_eq hh0).push bh3
  have hA3 := hA.keep X3.warmed.alike (kp3 _ _ hA.1.1)
  have hne : b ≠ s.heap.size := hA.1.ne
  have c4 : Steps p.tables e below (s₁.setTop (entryFrame m #[.ref b, .int (Int32.ofNat o), .int (Int32.ofNat len)] 6)) (T3.setTop (mkF m 3 #[.val (.ref b), .val (.int (Int32.ofNat o)), .val (.int (Int32.ofNat len)), .unset, .unset, .unset] [.ref s.heap.size])) := c2.trans (st3 _ (Steps.refl _))
  have c5 : Steps p.tables e below (s₁.setTop (entryFrame m #[.ref b, .int (Int32.ofNat o), .int (Int32.ofNat len)] 6)) (T3.setTop (mkF m 9 #[.val (.ref b), .val (.int (Int32.ofNat o)), .val (.int (Int32.ofNat len)), .val (.ref s.heap.size), .unset, .unset] [.int (Int32.ofNat len), .int 0, .ref s.heap.size, .int (Int32.ofNat o), .ref b])) := c4.trans (by
    refine XS.astoreN X3.here hexec rfl (hb hbytes d3) rfl rfl rfl ?_
    refine XS.aloadN X3.here hexec rfl (hb hbytes d4) rfl rfl ?_
    refine XS.iloadN X3.here hexec rfl (hb hbytes d5) rfl ?_
    refine XS.aloadN X3.here hexec rfl (hb hbytes d6) rfl rfl ?_
    refine iconstV X3.here hexec rfl 0 (hb hbytes d7) (by decide) ?_
    refine XS.iloadN X3.here hexec rfl (hb hbytes d8) rfl ?_
    exact Steps.refl _)
  obtain ⟨v6, T6, X6, E6, g6⟩ := X3.callS hexec (Cmp5.law l b A s.heap.size B3 o 0 len) hown (wks W (staticW U16 115 Cmp5.yN)) (wk W Cmp5.tab) (W := 0) (Nat.le_of_ble_eq_true rfl) (Nat.le_of_ble_eq_true rfl) (Nat.le_refl _) (by show 0 + len + 0 ≤ len; omega) (g := (mkF m 9 #[.val (.ref b), .val (.int (Int32.ofNat o)), .val (.int (Int32.ofNat len)), .val (.ref s.heap.size), .unset, .unset] [.int (Int32.ofNat len), .int (Int32.ofNat 0), .ref s.heap.size, .int (Int32.ofNat o), .ref b])) rfl (by rw [hml]; rfl) c5 (argsL := [.ref b, .int (Int32.ofNat o), .ref s.heap.size, .int (Int32.ofNat 0), .int (Int32.ofNat len)]) (rest := []) rfl rfl (by show 2 * 0 + 0 ≤ _; decide) (hb hbytes d9) (⟨rfl, hA3, ba3, hne, l1, by rw [bs3]; simp, hp⟩)
  obtain ⟨rfl, B6, p6, f6⟩ := E6
  have c7 : Steps p.tables e below (s₁.setTop (entryFrame m #[.ref b, .int (Int32.ofNat o), .int (Int32.ofNat len)] 6)) (T6.setTop (mkF m 12 #[.val (.ref b), .val (.int (Int32.ofNat o)), .val (.int (Int32.ofNat len)), .val (.ref s.heap.size), .unset, .unset] [.int (Int32.ofNat len)])) := g6
  have c8 : Steps p.tables e below (s₁.setTop (entryFrame m #[.ref b, .int (Int32.ofNat o), .int (Int32.ofNat len)] 6)) (T6.setTop (mkF m 58 #[.val (.ref b), .val (.int (Int32.ofNat o)), .val (.int (Int32.ofNat len)), .val (.ref s.heap.size), .val (.int (Int32.ofNat len)), .unset] [.ref s.heap.size])) := c7.trans (by
    refine XS.istore X6.here hexec rfl (hb hbytes d12) rfl rfl ?_
    refine XS.iload X6.here hexec rfl (hb hbytes d14) rfl ?_
    refine XS.iloadN X6.here hexec rfl (hb hbytes d16) rfl ?_
    refine XS.icmpYes X6.here hexec rfl (pc0 := 17) rfl (hb hbytes d17) rfl (ii_eq_t rfl) (by decide) rfl ?_
    refine XS.aloadN X6.here hexec rfl (hb hbytes d57) rfl rfl ?_
    exact Steps.refl _)
  have X8 := X6.wide (L' := []) (cells' := 1) (slots' := len) (fun x hx hlt => by
    simp only [List.nil_append, copyLocs, List.mem_map, List.mem_range] at hx
    obtain ⟨i, -, rfl⟩ := hx
    exact absurd hlt (Nat.lt_irrefl _)) (Nat.le_refl _) (by omega)
  exact ⟨T6, some (.ref s.heap.size), _, _, _, X8, rfl, rfl, rfl, (fun h => by cases h), ⟨⟨rfl, B6, ba3.like (X3.warmed.alike.symm.trans X6.warmed.alike) p6.1 f6.1 f6.2.1 f6.2.2.1, f6.2.1.trans bv3, by rw [X6.warmed.alike.findClass, f6.1]; exact bf3, by rw [f6.2.2.1, bs3]; simp, fun j hj => by rw [f6.2.2.2 j, if_pos (by omega)]; rfl, kp3.put p6 (Nat.le_refl _)⟩, by rw [p6.2.2, bh3, hh0]; simp⟩, fun fs hl => c8.trans (X8.areturnOut hexec rfl hret rfl (hb hbytes d58) hl)⟩
end Cmp3
namespace CodL
def yN : MethodName := ⟨"java/lang/StringUTF16", "coderFromArrayLen", "([BI)B"⟩
abbrev yB : ByteArray := jdk_52_method_15_code
theorem d0 : decode yB 0 = .ok (.iload_n 1, 1) := by decide +kernel
theorem d1 : decode yB 1 = .ok (.aload_n 0, 1) := by decide +kernel
theorem d2 : decode yB 2 = .ok (.arraylength, 1) := by decide +kernel
theorem d3 : decode yB 3 = .ok (.isub, 1) := by decide +kernel
theorem d4 : decode yB 4 = .ok (.bipush 31, 2) := by decide +kernel
theorem d6 : decode yB 6 = .ok (.iushr, 1) := by decide +kernel
theorem d7 : decode yB 7 = .ok (.i2b, 1) := by decide +kernel
theorem d8 : decode yB 8 = .ok (.ireturn, 1) := by decide +kernel
def site : List Cond := []
def tab : Cond := tabOf yN yB 2 (some .byte) site
def P (d : Addr) (B : Cell) (args : Array Value) (s : State) : Prop := args = #[.ref d, .int (Int32.ofNat B.slots.size)] ∧ Arr .byte d B s
def E (r : Option Value) (s u : State) : Prop := XT.PureE (some (.int 0)) r s u
/-- an array as long as the number of chars: LATIN1 -/
theorem law (l : Launch) (d : Addr) (B : Cell) : Law l yN 2 2 0 0 yB 2 (some .byte) site (P d B) E [] 0 0 := by
  refine Law.of_walk (plainFor_of_name (by decide +kernel)) (by decide +kernel) (by decide +kernel) (by decide) (fun _ _ h => by rw [h.1]; rfl) (fun _ U U' hal hh h => ⟨h.1, h.2.mv hal hh⟩) (fun r U U' V V' h1 hal h2 h => XT.PureE.mv r U U' V V' h1 hal h2 h) ?_
  intro p e s m args below meth c s₁ X0 hexec hbytes hml hret hlk hnm hown hh0 W hP
  obtain ⟨rfl, hB⟩ := hP
  have hB0 := hB.mv X0.warmed.alike hh0
  have c1 : Steps p.tables e below (s₁.setTop (entryFrame m #[.ref d, .int (Int32.ofNat B.slots.size)] 2)) (s₁.setTop (mkF m 0 #[.val (.ref d), .val (.int (Int32.ofNat B.slots.size))] [])) := entry rfl
  have c2 : Steps p.tables e below (s₁.setTop (entryFrame m #[.ref d, .int (Int32.ofNat B.slots.size)] 2)) (s₁.setTop (mkF m 2 #[.val (.ref d), .val (.int (Int32.ofNat B.slots.size))] [.ref d, .int (Int32.ofNat B.slots.size)])) := c1.trans (by
    refine XS.iloadN X0.here hexec rfl (hb hbytes d0) rfl ?_
    refine XS.aloadN X0.here hexec rfl (hb hbytes d1) rfl rfl ?_
    exact Steps.refl _)
  have c3 : Steps p.tables e below (s₁.setTop (entryFrame m #[.ref d, .int (Int32.ofNat B.slots.size)] 2)) (s₁.setTop (mkF m 8 #[.val (.ref d), .val (.int (Int32.ofNat B.slots.size))] [.int (lo8 (ushr (Int32.ofNat B.slots.size - Int32.ofNat B.slots.size) 31))])) := c2.trans (by
    refine X0.alen hexec hB0 rfl rfl (hb hbytes d2) ?_
    refine XS.isub X0.here hexec rfl (hb hbytes d3) rfl ?_
    refine bipushV X0.here hexec rfl 31 (hb hbytes d4) (by decide) ?_
    refine iushr X0.here hexec rfl (hb hbytes d6) rfl ?_
    refine i2b X0.here hexec rfl (hb hbytes d7) rfl ?_
    exact Steps.refl _)
  have e0 : lo8 (ushr (Int32.ofNat B.slots.size - Int32.ofNat B.slots.size) 31) = 0 := by rw [Int32.sub_self]; decide
  rw [e0] at c3
  exact ⟨s₁, some (.int 0), _, _, _, X0, rfl, rfl, rfl, (fun h => by cases h), ⟨rfl, hh0⟩, fun fs hl => c3.trans (X0.ireturnOut hexec hret rfl (Or.inr (Or.inr (Or.inl rfl))) (hb hbytes d8) hl)⟩
end CodL
/-- the String at a is Latin-1 over a new byte[] (the heap's one new cell): the low bytes of the len chars of A from o on; every cell but a is kept -/
def Got (a : Addr) (D : Cell) (fV fC : Field) (A : Cell) (o len : Nat) (r : Option Value) (s u : State) : Prop := r = none ∧ ∃ D' V : Cell, Blank "java/lang/String" a D' u ∧ Same D D' [fV.slot, fC.slot] ∧ D'.slots[fV.slot]? = some (.ref s.heap.size) ∧ D'.slots[fC.slot]? = some (.int 0) ∧ Arr .byte s.heap.size V u ∧ V.vm = .none ∧ u.vm.findClass "[B" = some V.cls ∧ V.slots.size = len ∧ (∀ j, j < len → V.slots[j]? = some (.int (lo8 (cv A (o + j))))) ∧ (∀ (y : Addr) (c : Cell), y ≠ a → s.heap[y]? = some c → u.heap[y]? = some c) ∧ u.heap.size = s.heap.size + 1
theorem Got.mv {a : Addr} {D A : Cell} {fV fC : Field} {o len : Nat} : ∀ r (U U' V V' : State), U'.heap = U.heap → V.vm.Alike V'.vm → V'.heap = V.heap → Got a D fV fC A o len r U V → Got a D fV fC A o len r U' V' :=
  fun r U U' V V' h1 hal h2 ⟨e0, D', X, a1, a2, a3, a4, a5, a6, a7, a8, a9, a10, a11⟩ => ⟨e0, D', X, a1.mv hal h2, a2, by rw [h1]; exact a3, a4, by rw [h1]; exact a5.mv hal h2, a6, by rw [hal.findClass]; exact a7, a8, a9, by rw [h1, h2]; exact a10, by rw [h1, h2]; exact a11⟩
namespace New4
def yN : MethodName := ⟨"java/lang/String", "<init>", "([CIILjava/lang/Void;)V"⟩
abbrev yB : ByteArray := jdk_42_method_149_code
theorem d0 : decode yB 0 = .ok (.aload_n 0, 1) := by decide +kernel
theorem d1 : decode yB 1 = .ok (.invokespecial 1, 3) := by decide +kernel
theorem d4 : decode yB 4 = .ok (.iload_n 3, 1) := by decide +kernel
theorem d5 : decode yB 5 = .ok (.ifCond (.ne) 22, 3) := by decide +kernel
theorem d27 : decode yB 27 = .ok (.getstatic 38, 3) := by decide +kernel
theorem d30 : decode yB 30 = .ok (.ifCond (.eq) 28, 3) := by decide +kernel
theorem d33 : decode yB 33 = .ok (.aload_n 1, 1) := by decide +kernel
theorem d34 : decode yB 34 = .ok (.iload_n 2, 1) := by decide +kernel
theorem d35 : decode yB 35 = .ok (.iload_n 3, 1) := by decide +kernel
theorem d36 : decode yB 36 = .ok (.invokestatic 177, 3) := by decide +kernel
theorem d39 : decode yB 39 = .ok (.astore 5, 2) := by decide +kernel
theorem d41 : decode yB 41 = .ok (.aload_n 0, 1) := by decide +kernel
theorem d42 : decode yB 42 = .ok (.aload 5, 2) := by decide +kernel
theorem d44 : decode yB 44 = .ok (.iload_n 3, 1) := by decide +kernel
theorem d45 : decode yB 45 = .ok (.invokestatic 47, 3) := by decide +kernel
theorem d48 : decode yB 48 = .ok (.putfield 15, 3) := by decide +kernel
theorem d51 : decode yB 51 = .ok (.aload_n 0, 1) := by decide +kernel
theorem d52 : decode yB 52 = .ok (.aload 5, 2) := by decide +kernel
theorem d54 : decode yB 54 = .ok (.putfield 9, 3) := by decide +kernel
theorem d57 : decode yB 57 = .ok (.return_, 1) := by decide +kernel
def site : List Cond := [.fieldLink "java/lang/String" 38 "java/lang/String" "COMPACT_STRINGS" "Z", Cmp3.tab, CodL.tab, .laysFinal "java/lang/String" "java/lang/String" "value" "[B", .fieldLink "java/lang/String" 9 "java/lang/String" "value" "[B", .laysFinal "java/lang/String" "java/lang/String" "coder" "B", .fieldLink "java/lang/String" 15 "java/lang/String" "coder" "B"] ++ objW "java/lang/String" 1 ++ staticW "java/lang/String" 177 Cmp3.yN ++ staticW "java/lang/String" 47 CodL.yN
def tab : Cond := tabOf yN yB 6 none site
def P (a : Addr) (D : Cell) (fV fC : Field) (b : Addr) (A : Cell) (z : Int32) (o len : Nat) (args : Array Value) (s : State) : Prop := args = #[.ref a, .ref b, .int (Int32.ofNat o), .int (Int32.ofNat len), .null] ∧ Blank "java/lang/String" a D s ∧ Found "java/lang/String" "value" "[B" fV s ∧ Found "java/lang/String" "coder" "B" fC s ∧ Ch b A s ∧ StaticIs s "java/lang/String" "COMPACT_STRINGS" "Z" (.int z) ∧ ¬ z = 0 ∧ 0 < len ∧ o + len ≤ A.slots.size ∧ len ≤ 536870912 ∧ ∀ i, i < len → ¬ 255 < cv A (o + i)
def E (a : Addr) (D : Cell) (fV fC : Field) (A : Cell) (o len : Nat) (r : Option Value) (s u : State) : Prop := Got a D fV fC A o len r s u
/-- len > 0, no char of the range above 255: a Latin-1 String of their low bytes -/
theorem law (l : Launch) (a : Addr) (D : Cell) (fV fC : Field) (b : Addr) (A : Cell) (z : Int32) (o len : Nat) : Law l yN 5 4 2 35 yB 6 none site (P a D fV fC b A z o len) (E a D fV fC A o len) [⟨a, fC.slot⟩, ⟨a, fV.slot⟩] 1 len := by
  refine Law.of_walk (plainFor_of_name (by decide +kernel)) (by decide +kernel) (by decide +kernel) (by decide) (fun _ _ h => by rw [h.1]; rfl) (fun _ U U' hal hh h => ⟨h.1, h.2.1.mv hal hh, h.2.2.1.al hal, h.2.2.2.1.al hal, h.2.2.2.2.1.mv hal hh, h.2.2.2.2.2.1.there hal hh, h.2.2.2.2.2.2⟩) (fun r U U' V V' h1 hal h2 h => Got.mv r U U' V V' h1 hal h2 h) ?_
  intro p e s m args below meth c s₁ X0 hexec hbytes hml hret hlk hnm hown hh0 W hP
  obtain ⟨rfl, hB, f1, f2, hA, s1, hz, l0, l1, l2, hp⟩ := hP
  have a31 := hA.1.2.2.2
  have c1 : Steps p.tables e below (s₁.setTop (entryFrame m #[.ref a, .ref b, .int (Int32.ofNat o), .int (Int32.ofNat len), .null] 6)) (s₁.setTop (mkF m 0 #[.val (.ref a), .val (.ref b), .val (.int (Int32.ofNat o)), .val (.int (Int32.ofNat len)), .val .null, .unset] [])) := entry rfl
  have c2 : Steps p.tables e below (s₁.setTop (entryFrame m #[.ref a, .ref b, .int (Int32.ofNat o), .int (Int32.ofNat len), .null] 6)) (s₁.setTop (mkF m 1 #[.val (.ref a), .val (.ref b), .val (.int (Int32.ofNat o)), .val (.int (Int32.ofNat len)), .val .null, .unset] [.ref a])) := c1.trans (by
    refine XS.aloadN X0.here hexec rfl (hb hbytes d0) rfl rfl ?_
    exact Steps.refl _)
  obtain ⟨T3, X3, q3, st3⟩ := X0.oinit hexec hown (wks W (objW "java/lang/String" 1)) (g := (mkF m 1 #[.val (.ref a), .val (.ref b), .val (.int (Int32.ofNat o)), .val (.int (Int32.ofNat len)), .val .null, .unset] [.ref a])) rfl (by rw [hml]; rfl) (rest := []) rfl (hb hbytes d1) (W := 0) (by show 2 * 0 + 0 ≤ _; decide) (Nat.le_of_ble_eq_true rfl) (Nat.le_of_ble_eq_true rfl)
  have hh3 := q3.trans hh0
  have c4 : Steps p.tables e below (s₁.setTop (entryFrame m #[.ref a, .ref b, .int (Int32.ofNat o), .int (Int32.ofNat len), .null] 6)) (T3.setTop (mkF m 27 #[.val (.ref a), .val (.ref b), .val (.int (Int32.ofNat o)), .val (.int (Int32.ofNat len)), .val .null, .unset] [])) := (c2.trans (st3 _ (Steps.refl _))).trans (by
    refine XS.iloadN X3.here hexec rfl (hb hbytes d4) rfl ?_
    refine XS.ifYes X3.here hexec rfl (pc0 := 5) rfl (hb hbytes d5) rfl (i0_ne_t (nz32 (by omega) l0)) (by decide) rfl ?_
    exact Steps.refl _)
  obtain ⟨T5, X5, q5, st5⟩ := X3.sget hexec hown (wk W (.fieldLink "java/lang/String" 38 "java/lang/String" "COMPACT_STRINGS" "Z")) s1 (fun _ _ h => by rw [hh3]; exact h) (g := (mkF m 27 #[.val (.ref a), .val (.ref b), .val (.int (Int32.ofNat o)), .val (.int (Int32.ofNat len)), .val .null, .unset] [])) rfl (hb hbytes d27)
  have hh5 := q5.trans hh3
  have c6 : Steps p.tables e below (s₁.setTop (entryFrame m #[.ref a, .ref b, .int (Int32.ofNat o), .int (Int32.ofNat len), .null] 6)) (T5.setTop (mkF m 30 #[.val (.ref a), .val (.ref b), .val (.int (Int32.ofNat o)), .val (.int (Int32.ofNat len)), .val .null, .unset] [.int z])) := c4.trans (st5 _ (Steps.refl _))
  have c7 : Steps p.tables e below (s₁.setTop (entryFrame m #[.ref a, .ref b, .int (Int32.ofNat o), .int (Int32.ofNat len), .null] 6)) (T5.setTop (mkF m 36 #[.val (.ref a), .val (.ref b), .val (.int (Int32.ofNat o)), .val (.int (Int32.ofNat len)), .val .null, .unset] [.int (Int32.ofNat len), .int (Int32.ofNat o), .ref b])) := c6.trans (by
    refine XS.ifNo X5.here hexec rfl (hb hbytes d30) rfl (i0_eq_f hz) ?_
    refine XS.aloadN X5.here hexec rfl (hb hbytes d33) rfl rfl ?_
    refine XS.iloadN X5.here hexec rfl (hb hbytes d34) rfl ?_
    refine XS.iloadN X5.here hexec rfl (hb hbytes d35) rfl ?_
    exact Steps.refl _)
  obtain ⟨v8, T8, X8, E8, g8⟩ := X5.callS hexec (Cmp3.law l b A o len) hown (wks W (staticW "java/lang/String" 177 Cmp3.yN)) (wk W Cmp3.tab) (W := 0) (Nat.le_of_ble_eq_true rfl) (Nat.le_of_ble_eq_true rfl) (Nat.le_refl _) (by show 0 + len ≤ len; omega) (g := (mkF m 36 #[.val (.ref a), .val (.ref b), .val (.int (Int32.ofNat o)), .val (.int (Int32.ofNat len)), .val .null, .unset] [.int (Int32.ofNat len), .int (Int32.ofNat o), .ref b])) rfl (by rw [hml]; rfl) c7 (argsL := [.ref b, .int (Int32.ofNat o), .int (Int32.ofNat len)]) (rest := []) rfl rfl (by show 2 * 0 + 0 ≤ _; decide) (hb hbytes d36) (⟨rfl, hA.mv X5.warmed.alike hh5, l1, l2, hp⟩)
  obtain ⟨e8, z8⟩ := E8
  obtain ⟨rfl, N, n1, n2, n3, n4, n5, n6⟩ := NewArr.mv _ T5 s _ _ hh5.symm (Vm.Alike.refl _) rfl e8
  rw [hh5] at z8
  have hB1 := hB.keep X8.warmed.alike (n6 _ _ hB.1)
  have hne : s.heap.size ≠ a := (Nat.ne_of_lt (Array.getElem?_eq_some_iff.mp hB.1).1).symm
  have c9 : Steps p.tables e below (s₁.setTop (entryFrame m #[.ref a, .ref b, .int (Int32.ofNat o), .int (Int32.ofNat len), .null] 6)) (T8.setTop (mkF m 39 #[.val (.ref a), .val (.ref b), .val (.int (Int32.ofNat o)), .val (.int (Int32.ofNat len)), .val .null, .unset] [.ref s.heap.size])) := g8
  have c10 : Steps p.tables e below (s₁.setTop (entryFrame m #[.ref a, .ref b, .int (Int32.ofNat o), .int (Int32.ofNat len), .null] 6)) (T8.setTop (mkF m 45 #[.val (.ref a), .val (.ref b), .val (.int (Int32.ofNat o)), .val (.int (Int32.ofNat len)), .val .null, .val (.ref s.heap.size)] [.int (Int32.ofNat N.slots.size), .ref s.heap.size, .ref a])) := by
    have hc : Steps p.tables e below (s₁.setTop (entryFrame m #[.ref a, .ref b, .int (Int32.ofNat o), .int (Int32.ofNat len), .null] 6)) (T8.setTop (mkF m 45 #[.val (.ref a), .val (.ref b), .val (.int (Int32.ofNat o)), .val (.int (Int32.ofNat len)), .val .null, .val (.ref s.heap.size)] [.int (Int32.ofNat len), .ref s.heap.size, .ref a])) := c9.trans (by
      refine XS.astore X8.here hexec rfl (hb hbytes d39) rfl rfl rfl ?_
      refine XS.aloadN X8.here hexec rfl (hb hbytes d41) rfl rfl ?_
      refine XS.aload X8.here hexec rfl (hb hbytes d42) rfl rfl ?_
      refine XS.iloadN X8.here hexec rfl (hb hbytes d44) rfl ?_
      exact Steps.refl _)
    rw [n4]; exact hc
  obtain ⟨v11, T11, X11, E11, g11⟩ := X8.callS hexec (CodL.law l s.heap.size N) hown (wks W (staticW "java/lang/String" 47 CodL.yN)) (wk W CodL.tab) (W := 1) (Nat.le_of_ble_eq_true rfl) (Nat.le_of_ble_eq_true rfl) (Nat.le_refl _) (by show 0 + len + 0 ≤ len; omega) (g := (mkF m 45 #[.val (.ref a), .val (.ref b), .val (.int (Int32.ofNat o)), .val (.int (Int32.ofNat len)), .val .null, .val (.ref s.heap.size)] [.int (Int32.ofNat N.slots.size), .ref s.heap.size, .ref a])) rfl (by rw [hml]; rfl) c10 (argsL := [.ref s.heap.size, .int (Int32.ofNat N.slots.size)]) (rest := [.ref a]) rfl rfl (by show 2 * 0 + (1 + 0) ≤ _; decide) (hb hbytes d45) (⟨rfl, n1⟩)
  obtain ⟨rfl, q11⟩ := E11
  have hB11 := hB1.mv (X8.warmed.alike.symm.trans X11.warmed.alike) q11
  have c12 : Steps p.tables e below (s₁.setTop (entryFrame m #[.ref a, .ref b, .int (Int32.ofNat o), .int (Int32.ofNat len), .null] 6)) (T11.setTop (mkF m 48 #[.val (.ref a), .val (.ref b), .val (.int (Int32.ofNat o)), .val (.int (Int32.ofNat len)), .val .null, .val (.ref s.heap.size)] [.int 0, .ref a])) := g11
  obtain ⟨T13, X13, p13, bl13, sl13, st13⟩ := X11.finit hexec hown (wk W (.fieldLink "java/lang/String" 15 "java/lang/String" "coder" "B")) (Or.inr ⟨_, (wk W (.laysFinal "java/lang/String" "java/lang/String" "coder" "B"))⟩) (Or.inl ⟨rfl, hnm⟩) f2 (Or.inl rfl) hB11 (t := .byte) (by decide +kernel) rfl (g := (mkF m 48 #[.val (.ref a), .val (.ref b), .val (.int (Int32.ofNat o)), .val (.int (Int32.ofNat len)), .val .null, .val (.ref s.heap.size)] [.int 0, .ref a])) rfl (rest := []) rfl (hb hbytes d48)
  have c14 : Steps p.tables e below (s₁.setTop (entryFrame m #[.ref a, .ref b, .int (Int32.ofNat o), .int (Int32.ofNat len), .null] 6)) (T13.setTop (mkF m 54 #[.val (.ref a), .val (.ref b), .val (.int (Int32.ofNat o)), .val (.int (Int32.ofNat len)), .val .null, .val (.ref s.heap.size)] [.ref s.heap.size, .ref a])) := (c12.trans (st13 _ (Steps.refl _))).trans (by
    refine XS.aloadN X13.here hexec rfl (hb hbytes d51) rfl rfl ?_
    refine XS.aload X13.here hexec rfl (hb hbytes d52) rfl rfl ?_
    exact Steps.refl _)
  obtain ⟨T15, X15, p15, bl15, sl15, st15⟩ := X13.finit hexec hown (wk W (.fieldLink "java/lang/String" 9 "java/lang/String" "value" "[B")) (Or.inr ⟨_, (wk W (.laysFinal "java/lang/String" "java/lang/String" "value" "[B"))⟩) (Or.inl ⟨rfl, hnm⟩) f1 (Or.inl rfl) bl13 (t := (.array .byte)) (by decide +kernel) rfl (g := (mkF m 54 #[.val (.ref a), .val (.ref b), .val (.int (Int32.ofNat o)), .val (.int (Int32.ofNat len)), .val .null, .val (.ref s.heap.size)] [.ref s.heap.size, .ref a])) rfl (rest := []) rfl (hb hbytes d54)
  have c16 : Steps p.tables e below (s₁.setTop (entryFrame m #[.ref a, .ref b, .int (Int32.ofNat o), .int (Int32.ofNat len), .null] 6)) (T15.setTop (mkF m 57 #[.val (.ref a), .val (.ref b), .val (.int (Int32.ofNat o)), .val (.int (Int32.ofNat len)), .val .null, .val (.ref s.heap.size)] [])) := c14.trans (st15 _ (Steps.refl _))
  have ap := apart (Or.inr ⟨_, (wk W (.laysFinal "java/lang/String" "java/lang/String" "value" "[B"))⟩) (Or.inr ⟨_, (wk W (.laysFinal "java/lang/String" "java/lang/String" "coder" "B"))⟩) f1 f2 (t₁ := .array .byte) (t₂ := .byte) (by decide +kernel) (by decide +kernel) (by decide)
  have al := X8.warmed.alike.symm.trans X15.warmed.alike
  have n7 : T11.heap[s.heap.size]? = some N := by rw [q11]; exact n1.1
  exact ⟨T15, none, _, _, _, X15, by simp, rfl, by omega, (fun _ => rfl), ⟨rfl, _, N, bl15, ((Same.refl D _).set _ (by simp)).set _ (by simp), sl15, (Cell.slots_setSlot_ne _ ap).trans sl13, n1.keep al (p15.other hne (p13.other hne n7)), n2, by rw [al.findClass]; exact n3, n4, n5, fun y c h1 h2 => p15.other h1 (p13.other h1 (by rw [q11]; exact n6 y c h2)), by rw [p15.2.2, p13.2.2, q11]; exact z8⟩, fun fs hl => c16.trans (X15.returnOut hexec hret (hb hbytes d57) hl)⟩
end New4
namespace New1
def yN : MethodName := ⟨"java/lang/String", "<init>", "([C)V"⟩
abbrev yB : ByteArray := jdk_42_method_3_code
theorem d0 : decode yB 0 = .ok (.aload_n 0, 1) := by decide +kernel
theorem d1 : decode yB 1 = .ok (.aload_n 1, 1) := by decide +kernel
theorem d2 : decode yB 2 = .ok (.iconst 0, 1) := by decide +kernel
theorem d3 : decode yB 3 = .ok (.aload_n 1, 1) := by decide +kernel
theorem d4 : decode yB 4 = .ok (.arraylength, 1) := by decide +kernel
theorem d5 : decode yB 5 = .ok (.aconst_null, 1) := by decide +kernel
theorem d6 : decode yB 6 = .ok (.invokespecial 27, 3) := by decide +kernel
theorem d9 : decode yB 9 = .ok (.return_, 1) := by decide +kernel
def site : List Cond := [New4.tab] ++ initW "java/lang/String" 27 New4.yN
def tab : Cond := tabOf yN yB 2 none site
def P (a : Addr) (D : Cell) (fV fC : Field) (b : Addr) (A : Cell) (z : Int32) (args : Array Value) (s : State) : Prop := args = #[.ref a, .ref b] ∧ Blank "java/lang/String" a D s ∧ Found "java/lang/String" "value" "[B" fV s ∧ Found "java/lang/String" "coder" "B" fC s ∧ Ch b A s ∧ StaticIs s "java/lang/String" "COMPACT_STRINGS" "Z" (.int z) ∧ ¬ z = 0 ∧ 0 < A.slots.size ∧ A.slots.size ≤ 536870912 ∧ ∀ i, i < A.slots.size → ¬ 255 < cv A i
def E (a : Addr) (D : Cell) (fV fC : Field) (A : Cell) (r : Option Value) (s u : State) : Prop := Got a D fV fC A 0 A.slots.size r s u
/-- new String(chars), not empty, no char above 255: a Latin-1 String of their low bytes -/
theorem law (l : Launch) (a : Addr) (D : Cell) (fV fC : Field) (b : Addr) (A : Cell) (z : Int32) : Law l yN 2 1 3 52 yB 2 none site (P a D fV fC b A z) (E a D fV fC A) [⟨a, fC.slot⟩, ⟨a, fV.slot⟩] 1 A.slots.size := by
  refine Law.of_walk (plainFor_of_name (by decide +kernel)) (by decide +kernel) (by decide +kernel) (by decide) (fun _ _ h => by rw [h.1]; rfl) (fun _ U U' hal hh h => ⟨h.1, h.2.1.mv hal hh, h.2.2.1.al hal, h.2.2.2.1.al hal, h.2.2.2.2.1.mv hal hh, h.2.2.2.2.2.1.there hal hh, h.2.2.2.2.2.2⟩) (fun r U U' V V' h1 hal h2 h => Got.mv r U U' V V' h1 hal h2 h) ?_
  intro p e s m args below meth c s₁ X0 hexec hbytes hml hret hlk hnm hown hh0 W hP
  obtain ⟨rfl, hB, f1, f2, hA, s1, hz, l0, l2, hp⟩ := hP
  have c1 : Steps p.tables e below (s₁.setTop (entryFrame m #[.ref a, .ref b] 2)) (s₁.setTop (mkF m 0 #[.val (.ref a), .val (.ref b)] [])) := entry rfl
  have c2 : Steps p.tables e below (s₁.setTop (entryFrame m #[.ref a, .ref b] 2)) (s₁.setTop (mkF m 6 #[.val (.ref a), .val (.ref b)] [.null, .int (Int32.ofNat A.slots.size), .int 0, .ref b, .ref a])) := c1.trans (by
    refine XS.aloadN X0.here hexec rfl (hb hbytes d0) rfl rfl ?_
    refine XS.aloadN X0.here hexec rfl (hb hbytes d1) rfl rfl ?_
    refine iconstV X0.here hexec rfl 0 (hb hbytes d2) (by decide) ?_
    refine XS.aloadN X0.here hexec rfl (hb hbytes d3) rfl rfl ?_
    refine X0.alen hexec (hA.1.mv X0.warmed.alike hh0) rfl rfl (hb hbytes d4) ?_
    refine XS.aconstNull X0.here hexec rfl (hb hbytes d5) ?_
    exact Steps.refl _)
  obtain ⟨v3, T3, X3, E3, g3⟩ := X0.callN hexec (New4.law l a D fV fC b A z 0 A.slots.size) rfl hown (wks W (initW "java/lang/String" 27 New4.yN)) (W New4.tab (by simp only [site, List.mem_cons, List.mem_append, true_or, or_true])) (W := 0) (Nat.le_of_ble_eq_true rfl) (Nat.le_of_ble_eq_true rfl) (Nat.le_refl _) (by show 0 + A.slots.size ≤ A.slots.size; omega) (g := (mkF m 6 #[.val (.ref a), .val (.ref b)] [.null, .int (Int32.ofNat A.slots.size), .int (Int32.ofNat 0), .ref b, .ref a])) rfl (by rw [hml]; rfl) c2 (argsL := [.ref b, .int (Int32.ofNat 0), .int (Int32.ofNat A.slots.size), .null]) (rest := []) rfl rfl (by show 2 * 0 + 0 ≤ _; decide) (hb hbytes d6) (⟨rfl, hB.mv X0.warmed.alike hh0, f1.al X0.warmed.alike, f2.al X0.warmed.alike, hA.mv X0.warmed.alike hh0, s1.there X0.warmed.alike hh0, hz, l0, by omega, l2, fun i hi => by rw [Nat.zero_add]; exact hp i hi⟩)
  have e0 := Got.mv _ s₁ s _ _ hh0.symm (Vm.Alike.refl _) rfl E3
  obtain rfl := e0.1
  have c4 : Steps p.tables e below (s₁.setTop (entryFrame m #[.ref a, .ref b] 2)) (T3.setTop (mkF m 9 #[.val (.ref a), .val (.ref b)] [])) := g3
  exact ⟨T3, none, _, _, _, X3, by simp, rfl, by omega, (fun _ => rfl), e0, fun fs hl => c4.trans (X3.returnOut hexec hret (hb hbytes d9) hl)⟩
theorem pays {l : Launch} {R : Room} {p : Program} {e : Env} {below : List Frame} {s : State} {sargs : Array Value} {len W : Nat} (a : Addr) (D : Cell) (fV fC : Field) (b : Addr) (A : Cell) (z : Int32) (htab : tab.before sargs s = true) (hfr : 4 ≤ R.frames) (hlo : W + 65 ≤ R.locals) :
    Back l R p e below s sargs yN len W (fun A₁ a₁ => A₁.cells + 1 ≤ R.cells ∧ A₁.slots + A.slots.size ≤ R.slots ∧ P a D fV fC b A z a₁ A₁.U) (fun A₁ _ v₁ B₁ => E a D fV fC A v₁ A₁.U B₁.U ∧ B₁.locs = A₁.locs ++ [⟨a, fC.slot⟩, ⟨a, fV.slot⟩] ∧ B₁.cells = A₁.cells + 1 ∧ B₁.slots = A₁.slots + A.slots.size) :=
  (law l a D fV fC b A z).pays htab hfr (by omega)
end New1
/-- the byte, read back as charAt reads it, is the char -/
theorem lo8_mask {x : Int32} (h0 : ¬ x < 0) (h1 : ¬ 255 < x) : lo8 x &&& 255 = x := by
  have t : ∀ k : Fin 256, lo8 (Int32.ofNat k.val) &&& 255 = Int32.ofNat k.val := by decide +kernel
  rw [Int32.lt_iff_toInt_lt] at h0 h1
  have e0 : (0 : Int32).toInt = 0 := rfl
  have e1 : (255 : Int32).toInt = 255 := rfl
  obtain ⟨k, hk⟩ : ∃ k : Nat, x.toInt = k := ⟨x.toInt.toNat, by omega⟩
  have hx : x = Int32.ofNat k := Int32.toInt_inj.mp (by rw [hk, Int32.toInt_ofNat_small (by omega)])
  rw [hx]
  exact t ⟨k, by omega⟩
end StrChars
namespace StrChars.Road
open Jvm Sem ClassFile Op Lib Jvm.Stand Jvm.Free Jvm.Free.XT
open Jvm.Lib.Cold (StaticIs)
abbrev ST : String := "java/lang/String"
/-- every table word that New1's law asks, flat -/
abbrev words : List Jvm.Cond := [.code New1.yN New1.yB 2 none, .initialized ST, .methodLink ST 27 New4.yN, .instanceMethod New4.yN,
  .code New4.yN New4.yB 6 none, .fieldLink ST 38 ST "COMPACT_STRINGS" "Z", .laysFinal ST ST "value" "[B", .fieldLink ST 9 ST "value" "[B", .laysFinal ST ST "coder" "B", .fieldLink ST 15 ST "coder" "B",
  .methodLink ST 1 Lib.objectInit, .instanceMethod Lib.objectInit, .code Lib.objectInit ⟨#[0xb1]⟩ 1 none, .methodLink ST 177 Cmp3.yN, .static Cmp3.yN, .methodLink ST 47 CodL.yN, .static CodL.yN,
  .code Cmp3.yN Cmp3.yB 6 (some (.array .byte)), .initialized U16, .arrayClass .byte, .methodLink U16 115 Cmp5.yN, .static Cmp5.yN, .code Cmp5.yN Cmp5.yB 7 (some .int), .code CodL.yN CodL.yB 2 (some .byte)]
theorem tab_of {a : Array Value} {s : State} (h : ∀ w ∈ words, w.before a s = true) : New1.tab.before a s = true := by
  have h5 : Cmp5.tab.before a s = true := unparts (wk h (.code Cmp5.yN Cmp5.yB 7 (some .int))) (wks h (.initialized Cmp5.yN.cls :: Cmp5.site))
  have hc : CodL.tab.before a s = true := unparts (wk h (.code CodL.yN CodL.yB 2 (some .byte))) (wks h (.initialized CodL.yN.cls :: CodL.site))
  have q5 : ∀ w ∈ Cmp5.tab :: words, w.before a s = true := fun w hw => (List.mem_cons.mp hw).elim (fun e => e ▸ h5) (h w)
  have h3 : Cmp3.tab.before a s = true := unparts (wk q5 (.code Cmp3.yN Cmp3.yB 6 (some (.array .byte)))) (wks q5 (.initialized Cmp3.yN.cls :: Cmp3.site))
  have q3 : ∀ w ∈ Cmp3.tab :: CodL.tab :: words, w.before a s = true := fun w hw => (List.mem_cons.mp hw).elim (fun e => e ▸ h3) fun hw => (List.mem_cons.mp hw).elim (fun e => e ▸ hc) (h w)
  have h4 : New4.tab.before a s = true := unparts (wk q3 (.code New4.yN New4.yB 6 none)) (wks q3 (.initialized New4.yN.cls :: New4.site))
  have q4 : ∀ w ∈ New4.tab :: words, w.before a s = true := fun w hw => (List.mem_cons.mp hw).elim (fun e => e ▸ h4) (h w)
  exact unparts (wk q4 (.code New1.yN New1.yB 2 none)) (wks q4 (.initialized New1.yN.cls :: New1.site))
/-- the words ride from the start Z to the walk's own state -/
theorem moved {Z s : State} {a0 args : Array Value} (hZ : Z.Warmed39 s.vm) (hw : ∀ d ∈ words, d.before a0 Z = true) : ∀ d ∈ words, d.before args s = true := fun d hd => by
  have q := hw d hd
  have t : ∀ d ∈ words, d = .arrayClass .byte ∨ (d.onTables && d.keepsFace) = true := by decide +kernel
  rcases t d hd with rfl | t
  · exact RoadKit.mvA hZ q
  · exact RoadKit.mv hZ q t
/-- WHAT COMES BACK, over the tables of the start Z: h the heap at the call, h' behind it -/
def Q (Z : State) (x : Addr) (A : Cell) (h : Heap) (v : Option Value) (h' : Heap) (L : List Loc) : Prop := v = none ∧ (∀ y ∈ L, y.base = x) ∧ RoadKit.Keep h h' [x] ∧ h'.size = h.size + 1 ∧ RoadKit.Exa Z h' x ST ∧ RoadKit.Fld Z h' x ST "value" "[B" (.ref h.size) ∧ RoadKit.Fld Z h' x ST "coder" "B" (.int 0) ∧
  (∃ V : Cell, RoadKit.Arr Z h' h.size V .byte ∧ V.vm = .none ∧ Z.vm.findClass "[B" = some V.cls ∧ V.slots.size = A.slots.size ∧ ∀ j, j < A.slots.size → V.slots[j]? = some (.int (lo8 (cv A j)))) ∧
  ∀ (O n d : String) (w : Value), RoadKit.Fld Z h x O n d w → RoadKit.slotOf Z O n d ≠ RoadKit.slotOf Z ST "value" "[B" → RoadKit.slotOf Z O n d ≠ RoadKit.slotOf Z ST "coder" "B" → RoadKit.Fld Z h' x O n d w
/-- **new String(chars) AT A CALL, IN THE ROAD'S FORM**: for specialBack behind newO: x the fresh String, b the char[] with the cell A -/
theorem back {p : Program} {l : Launch} {e : Env} {R : Room} {s : State} {args : Array Value} {below : List Frame} {len W : Nat} {Z : State} {a0 : Array Value} {h : Heap} (hZ : Z.Warmed39 s.vm) (hw : ∀ d ∈ words, d.before a0 Z = true) {kI : Nat} (wi : (Jvm.Cond.instantiable ST kI).before a0 Z = true)
    {x b : Addr} {A : Cell} {z : Int32} {v0 c0 : Value} (E : RoadKit.Exa Z h x ST) (V : RoadKit.Fld Z h x ST "value" "[B" v0) (C : RoadKit.Fld Z h x ST "coder" "B" c0) (K : RoadKit.Arr Z h b A .char) (hty : Typed .char A) (S : RoadKit.Sta Z h ST "COMPACT_STRINGS" "Z" (.int z)) (hz : ¬ z = 0)
    (l0 : 0 < A.slots.size) (l2 : A.slots.size ≤ 536870912) (hp : ∀ i, i < A.slots.size → ¬ 255 < cv A i) (hfr : 4 ≤ R.frames) (hlo : W + 65 ≤ R.locals) :
    Back l R p e below s args New1.yN len W (fun P a => a = #[.ref x, .ref b] ∧ P.U.heap = h ∧ P.cells + 1 ≤ R.cells ∧ P.slots + A.slots.size ≤ R.slots)
      (fun P _ v B => ∃ L, Q Z x A h v B.U.heap L ∧ B.locs = P.locs ++ L ∧ B.cells = P.cells + 1 ∧ B.slots = P.slots + A.slots.size) := by
  intro m meth c P g ig mk a X hg hsize hdg hW hn hp'
  obtain ⟨rfl, rfl, r1, r2⟩ := hp'
  have al : Z.vm.Alike P.U.vm := hZ.alike.trans X.warmed.alike
  obtain ⟨D, cfV, kV, iV, fV, hD, gV, stV, knV, obV, asV, slV⟩ := id V
  obtain ⟨D', cfC, kC, iC, fC, hD', gC, stC, -, -, asC, slC⟩ := id C
  cases hD.symm.trans hD'
  obtain ⟨D2, kD, e1, e2, e3, e4, e5⟩ := id E
  cases hD.symm.trans e1
  obtain ⟨c2, k2, i1, i2, i3, -⟩ := Cond.instantiable_spec wi
  cases e2.symm.trans i1
  cases e3.symm.trans i2
  obtain ⟨kU, u1, u2⟩ := al.2.2 _ _ e3
  have hB : Blank ST x D P.U := ⟨hD, ⟨knV, fun q hq => by rw [hq] at obV; cases obV⟩, by rw [al.findClass]; exact e2, kU, u1, by rw [u2]; exact i3, by rw [u2]; exact e5 i3⟩
  have F1 : Found ST "value" "[B" fV P.U := ⟨SBG.found_only al ⟨cfV, kV, iV, gV⟩, stV⟩
  have F2 : Found ST "coder" "B" fC P.U := ⟨SBG.found_only al ⟨cfC, kC, iC, gC⟩, stC⟩
  have hA : Ch b A P.U := ⟨⟨K.1, State.isArrayOf_alike al K.2.1, K.2.2, by omega⟩, hty⟩
  have hS : StaticIs P.U ST "COMPACT_STRINGS" "Z" (.int z) := by
    obtain ⟨cfS, iS, kS, fS, st, cS, t1, t2, t3, t4, t5, t6, t7⟩ := S
    exact StaticIs.there (s := { Z with heap := P.U.heap }) ⟨cfS, iS, kS, fS, st, cS, t1, t2, t3, t4, t5, (fun q => by rw [q] at t6; cases t6), t7⟩ al rfl
  obtain ⟨v, B, X', ⟨⟨hv, E', V', q1, q2, q3, q4, q5, q6, q7, q8, q9, q10, q11⟩, hl, hc, hs⟩, st⟩ := New1.pays x D fV fC b A z (tab_of (moved hZ hw)) hfr hlo m meth c P g ig mk _ X hg hsize hdg hW hn ⟨r1, r2, rfl, hB, F1, F2, hA, hS, hz, l0, l2, hp⟩
  have al' : Z.vm.Alike B.U.vm := hZ.alike.trans X'.warmed.alike
  have hsz : E'.slots.size = D.slots.size := by
    obtain ⟨-, -, -, kB, w1, w2, w3⟩ := q1
    obtain ⟨kB', y1, y2⟩ := al'.2.2 _ _ e3
    rw [q2.2.1] at w1
    cases w1.symm.trans y1
    rw [w3, e5 i3, y2]
  refine ⟨v, B, X', ⟨_, ⟨hv, ?_, ⟨by omega, fun y cy hy hn' => q10 y cy (by simpa using hn') hy, fun y cy hy => ?_⟩, q11, ⟨E', _, q1.1, by rw [q2.2.1]; exact e2, by rw [q2.2.1]; exact e3, by rw [q2.1]; exact obV, fun _ => by rw [hsz]; exact e5 i3⟩,
    ⟨E', cfV, kV, iV, fV, q1.1, gV, stV, by rw [q2.1]; exact knV, by rw [q2.1]; exact obV, by rw [q2.2.1]; exact asV, q3⟩, ⟨E', cfC, kC, iC, fC, q1.1, gC, stC, by rw [q2.1]; exact knV, by rw [q2.1]; exact obV, by rw [q2.2.1]; exact asC, q4⟩,
    ⟨V', ⟨q5.1, State.isArrayOf_alike al'.symm q5.2.1, q5.2.2.1⟩, q6, by rw [← al'.findClass]; exact q7, q8, fun j hj => by have := q9 j hj; rwa [Nat.zero_add] at this⟩, fun O n d w F n1 n2 => ?_⟩, hl, hc, hs⟩, st⟩
  · intro y hy
    simp only [List.mem_cons, List.not_mem_nil, or_false] at hy
    rcases hy with rfl | rfl <;> rfl
  · by_cases q : y = x
    · subst q
      cases hD.symm.trans hy
      exact ⟨E', q1.1, q2.2.1, q2.1, hsz⟩
    · exact ⟨cy, q10 y cy q hy, rfl, rfl, rfl⟩
  · obtain ⟨D3, cf, k, i, f, g1, g2, g3, g4, g5, g6, g7⟩ := F
    cases hD.symm.trans g1
    simp only [RoadKit.slotOf, g2, gV, gC, Option.map_some, Option.getD_some] at n1 n2
    exact ⟨E', cf, k, i, f, q1.1, g2, g3, by rw [q2.1]; exact g4, by rw [q2.1]; exact g5, by rw [q2.2.1]; exact g6, by rw [q2.2.2 f.slot (by simp [n1, n2])]; exact g7⟩
end StrChars.Road
namespace StrChars.Road
open Jvm Sem ClassFile Op Lib Jvm.Stand Jvm.Free Jvm.Free.XT
/-- WHAT COMES BACK, the byte[] as a list of values -/
def QA (Z : State) (x : Addr) (zn : Int32) (cs : List Int32) (h : Heap) (v : Option Value) (h' : Heap) (L : List Loc) : Prop := v = none ∧ (∀ y ∈ L, y.base = x) ∧ RoadKit.Keep h h' [x] ∧ h'.size = h.size + 1 ∧ RoadKit.Exa Z h' x ST ∧ RoadKit.Fld Z h' x ST "value" "[B" (.ref h.size) ∧ RoadKit.Fld Z h' x ST "coder" "B" (.int 0) ∧
  (∃ kb, Z.vm.findClass "[B" = some kb ∧ RoadKit.Arv Z h' h.size kb .byte zn (cs.map fun c => .int (lo8 c)) (.int 0)) ∧
  ∀ (O n d : String) (w : Value), RoadKit.Fld Z h x O n d w → RoadKit.slotOf Z O n d ≠ RoadKit.slotOf Z ST "value" "[B" → RoadKit.slotOf Z O n d ≠ RoadKit.slotOf Z ST "coder" "B" → RoadKit.Fld Z h' x O n d w
/-- **new String(chars) AT A CALL, THE ARRAYS AS LISTS**: the char[] at b holds cs, not empty, no char above 255 -/
theorem backArv {p : Program} {l : Launch} {e : Env} {R : Room} {s : State} {args : Array Value} {below : List Frame} {len W : Nat} {Z : State} {a0 : Array Value} {h : Heap} (hZ : Z.Warmed39 s.vm) (hw : ∀ d ∈ words, d.before a0 Z = true) {kI : Nat} (wi : (Jvm.Cond.instantiable ST kI).before a0 Z = true)
    {x b : Addr} {k : ClassId} {zn z : Int32} {cs : List Int32} {dv v0 c0 : Value} (E : RoadKit.Exa Z h x ST) (V : RoadKit.Fld Z h x ST "value" "[B" v0) (C : RoadKit.Fld Z h x ST "coder" "B" c0) (K : RoadKit.Arv Z h b k .char zn (cs.map Value.int) dv) (S : RoadKit.Sta Z h ST "COMPACT_STRINGS" "Z" (.int z)) (hz : ¬ z = 0)
    (hlen : zn.toNatClampNeg = cs.length) (h0 : 0 < cs.length) (hbig : cs.length ≤ 536870912) (hall : ∀ c ∈ cs, ¬ 255 < c) (hfr : 4 ≤ R.frames) (hlo : W + 65 ≤ R.locals) :
    Back l R p e below s args New1.yN len W (fun P a => a = #[.ref x, .ref b] ∧ P.U.heap = h ∧ P.cells + 1 ≤ R.cells ∧ P.slots + cs.length ≤ R.slots)
      (fun P _ v B => ∃ L, QA Z x zn cs h v B.U.heap L ∧ B.locs = P.locs ++ L ∧ B.cells = P.cells + 1 ∧ B.slots = P.slots + cs.length) := by
  obtain ⟨A, K1, K2, K3, K4, K5, K6⟩ := K
  have e : A.slots.size = cs.length := K3.trans hlen
  have hat : ∀ (i : Nat) (hi : i < cs.length), A.slots[i]? = some (.int cs[i]) := fun i hi => by rw [K5 i (by omega)]; simp [List.getD_eq_getElem?_getD, hi]
  have hcv : ∀ (i : Nat) (hi : i < cs.length), cv A i = cs[i] := fun i hi => by unfold cv; rw [hat i hi]
  have hty : Typed .char A := fun i v hv => by
    have hi : i < A.slots.size := (Array.getElem?_eq_some_iff.mp hv).1
    have q := K5 i hi
    rw [hv] at q
    rw [Option.some.inj q]
    exact K6 i hi
  refine Back.mono (back hZ hw wi E V C K1 hty S hz (by omega) (by omega) (fun i hi => by rw [hcv i (by omega)]; exact hall _ (List.getElem_mem _)) hfr hlo) (fun P a hp => ⟨hp.1, hp.2.1, hp.2.2.1, by rw [e]; exact hp.2.2.2⟩) (fun P a v B hp hq => ?_)
  obtain ⟨L, ⟨q1, q2, q3, q4, q5, q6, q7, ⟨V', v1, v2, v3, v4, v5⟩, q9⟩, hl, hc, hs⟩ := hq
  refine ⟨L, ⟨q1, q2, q3, q4, q5, q6, q7, ⟨V'.cls, v3, V', v1, rfl, by rw [v4, e, hlen], K4, fun i hi => ?_, fun i hi => ?_⟩, q9⟩, hl, hc, by rw [hs, e]⟩
  · have hi' : i < cs.length := by omega
    rw [v5 i (by omega), hcv i hi']; simp [List.getD_eq_getElem?_getD, hi']
  · have hi' : i < cs.length := by omega
    simp only [List.getD_eq_getElem?_getD, List.getElem?_map, List.getElem?_eq_getElem hi', Option.map_some, Option.getD_some]
    exact fits_lo8 _
end StrChars.Road
namespace StrChars.Road
open Jvm Sem ClassFile Op Lib Jvm.Stand Jvm.Free Jvm.Free.XT
/-- WHAT COMES BACK, in the writer's own shape -/
def QV (Z : State) (x : Addr) (N : Int32) (bs : List Int32) (h : Heap) (n0 : Nat) (v : Option Value) (h' : Heap) (L : List Loc) : Prop := v = none ∧ RoadKit.Fr n0 L ∧ RoadKit.Keep h h' [x] ∧ RoadKit.Exa Z h' x ST ∧ RoadKit.Fld Z h' x ST "coder" "B" (.int 0) ∧
  ∃ (t : Addr) (kb : ClassId), n0 ≤ t ∧ h.size ≤ t ∧ ¬ t = x ∧ RoadKit.Fld Z h' x ST "value" "[B" (.ref t) ∧ RoadKit.Arv Z h' t kb .byte N (bs.map Value.int) (.int 0)
/-- **new String(chars) AT A CALL, FOR THE WRITER**: a char[] of n known ints, each 0 to 255 -/
theorem backV {p : Program} {l : Launch} {e : Env} {R : Room} {s : State} {args : Array Value} {below : List Frame} {len W : Nat} {Z : State} {a0 : Array Value} {h : Heap} (hZ : Z.Warmed39 s.vm) (hw : ∀ d ∈ words, d.before a0 Z = true) {kI : Nat} (wi : (Jvm.Cond.instantiable ST kI).before a0 Z = true)
    {x b : Addr} {kC : ClassId} {cs bs : List Int32} {d v0 c0 : Value} {z N : Int32} {n n0 : Nat} (hx0 : n0 ≤ x) (hh0 : n0 ≤ h.size) (E : RoadKit.Exa Z h x ST) (V : RoadKit.Fld Z h x ST "value" "[B" v0) (C : RoadKit.Fld Z h x ST "coder" "B" c0) (K : RoadKit.Arv Z h b kC .char N (cs.map Value.int) d) (S : RoadKit.Sta Z h ST "COMPACT_STRINGS" "Z" (.int z)) (hz : ¬ z = 0)
    (hn : cs.length = n) (hN : N = Int32.ofNat n) (l0 : 0 < n) (l2 : n ≤ 4000) (hp : ∀ c ∈ cs, ¬ c < 0 ∧ ¬ (255 : Int32) < c) (hb : bs = cs.map (fun c => c.toInt8.toInt32)) (hfr : 4 ≤ R.frames) (hlo : W + 65 ≤ R.locals) :
    Back l R p e below s args (⟨"java/lang/String", "<init>", "([C)V"⟩ : MethodName) len W (fun P a => a = #[.ref x, .ref b] ∧ P.U.heap = h ∧ P.cells + 1 ≤ R.cells ∧ P.slots + n ≤ R.slots)
      (fun P _ v B => ∃ L, QV Z x N bs h n0 v B.U.heap L ∧ B.locs = P.locs ++ L ∧ B.cells = P.cells + 1 ∧ B.slots = P.slots + n) := by
  subst hn hN hb
  refine Back.mono (backArv hZ hw wi E V C K S hz (n32 (by omega)) l0 (by omega) (fun c hc => (hp c hc).2) hfr hlo) (fun P a hp => hp) (fun P a v B hp hq => ?_)
  obtain ⟨L, ⟨q1, q2, q3, q4, q5, q6, q7, ⟨kb, v1, v2⟩, q9⟩, hl, hc, hs⟩ := hq
  exact ⟨L, ⟨q1, fun y hy => by rw [q2 y hy]; exact hx0, q3, q5, q7, h.size, kb, hh0, Nat.le_refl _, Nat.ne_of_gt E.lt, q6, by rw [List.map_map]; exact v2⟩, hl, hc, hs⟩
end StrChars.Road
namespace StrChars
open Jvm Sem ClassFile Op Lib Jvm.Stand Jvm.Free.XT Jvm.Free.ALB Jvm.Free.JM Jvm.Free
open Jvm.Lib.Cold (StaticIs)
def hi8 (x : Int32) : Int32 := lo8 (x >>> ((8 : Int32) &&& 31))
/-- what StringUTF16.getChar makes of two bytes -/
def pairCh (u v : Int32) : Int32 := (((u &&& 255) <<< ((0 : Int32) &&& 31)) ||| ((v &&& 255) <<< ((8 : Int32) &&& 31))).toUInt32.toUInt16.toUInt32.toInt32
theorem shr0 (c : Int32) : c >>> ((0 : Int32) &&& 31) = c := by
  have e : ((0 : Int32) &&& 31) = 0 := by decide
  rw [e]
  apply Int32.toBitVec_inj.mp
  rw [Int32.toBitVec_shiftRight]
  have e1 : ((0 : Int32).toBitVec.smod 32) = 0#32 := by decide
  rw [e1, BitVec.sshiftRight_eq']
  exact BitVec.sshiftRight_zero
theorem lo8_and (x : Int32) : (lo8 x &&& 255).toBitVec.toNat = x.toBitVec.toNat % 256 := by
  have h : (lo8 x).toBitVec = (x.toBitVec.signExtend 8).signExtend 32 := by rw [lo8, Int8.toBitVec_toInt32, Int32.toBitVec_toInt8]
  rw [Int32.toBitVec_and, BitVec.toNat_and, h]
  have e : ((x.toBitVec.signExtend 8).signExtend 32).toNat % 256 = x.toBitVec.toNat % 256 := by
    rw [BitVec.toNat_signExtend]
    have hlt := x.toBitVec.isLt
    simp only [BitVec.toNat_setWidth, BitVec.toNat_signExtend]
    split <;> split <;> omega
  rw [← e]
  exact Nat.and_two_pow_sub_one_eq_mod _ 8
theorem pair_says {c : Int32} (h0 : ¬ c < 0) (h1 : ¬ 65535 < c) : pairCh (lo8 c) (hi8 c) = c := by
  rw [Int32.lt_iff_toInt_lt] at h0 h1
  have e0 : (0 : Int32).toInt = 0 := rfl
  have e1 : (65535 : Int32).toInt = 65535 := rfl
  have hc : c.toInt = c.toBitVec.toNat := by
    have := c.toBitVec.isLt
    have e : c.toInt = c.toBitVec.toInt := rfl
    rw [e] at h0 h1
    rw [e]
    rw [BitVec.toInt_eq_toNat_cond] at h0 h1 ⊢
    split at h0 <;> split <;> omega
  have hn : c.toBitVec.toNat < 65536 := by omega
  have a1 := lo8_and c
  have a2 : (hi8 c &&& 255).toBitVec.toNat = c.toBitVec.toNat / 256 := by
    rw [hi8, lo8_and]
    have e : ((8 : Int32) &&& 31) = 8 := by decide
    rw [e, Int32.toBitVec_shiftRight]
    have e2 : ((8 : Int32).toBitVec.smod 32) = 8#32 := by decide
    rw [e2, BitVec.sshiftRight_eq', BitVec.toNat_sshiftRight_of_msb_false (by rw [BitVec.msb_eq_false_iff_two_mul_lt]; omega)]
    show c.toBitVec.toNat >>> 8 % 256 = _
    rw [Nat.shiftRight_eq_div_pow]
    omega
  unfold pairCh
  apply Int32.toBitVec_inj.mp
  apply BitVec.eq_of_toNat_eq
  have f0 : ((0 : Int32) &&& 31) = 0 := by decide
  have f8 : ((8 : Int32) &&& 31) = 8 := by decide
  rw [f0, f8]
  have g : (((lo8 c &&& 255) <<< (0 : Int32)) ||| ((hi8 c &&& 255) <<< (8 : Int32))).toBitVec.toNat = c.toBitVec.toNat := by
    rw [Int32.toBitVec_or, Int32.toBitVec_shiftLeft, Int32.toBitVec_shiftLeft]
    have s0 : ((0 : Int32).toBitVec.smod 32) = 0#32 := by decide
    have s8 : ((8 : Int32).toBitVec.smod 32) = 8#32 := by decide
    rw [s0, s8, BitVec.toNat_or]
    simp only [BitVec.shiftLeft_eq', BitVec.toNat_shiftLeft, a1, a2]
    show (c.toBitVec.toNat % 256) <<< 0 % 2 ^ 32 ||| (c.toBitVec.toNat / 256) <<< 8 % 2 ^ 32 = _
    rw [Nat.shiftLeft_zero, Nat.mod_eq_of_lt (show c.toBitVec.toNat % 256 < 2 ^ 32 by omega), Nat.mod_eq_of_lt (show (c.toBitVec.toNat / 256) <<< 8 < 2 ^ 32 by rw [Nat.shiftLeft_eq]; omega), Nat.or_comm, ← Nat.shiftLeft_add_eq_or_of_lt (by omega), Nat.shiftLeft_eq]
    omega
  show BitVec.toNat (((((lo8 c &&& 255) <<< (0 : Int32)) ||| ((hi8 c &&& 255) <<< (8 : Int32))).toBitVec.setWidth 16).setWidth 32) = _
  rw [BitVec.toNat_setWidth, BitVec.toNat_setWidth, g]
  omega
end StrChars
namespace StrChars
open Jvm Sem ClassFile Op Lib Jvm.Stand Jvm.Free.XT Jvm.Free.ALB Jvm.Free.JM Jvm.Free
open Jvm.Lib.Cold (StaticIs)
theorem shr1 {n : Nat} (h : 2 * n < 2 ^ 31) : Int32.ofNat (2 * n) >>> ((1 : Int32) &&& 31) = Int32.ofNat n := by
  have e : ((1 : Int32) &&& 31) = 1 := by decide
  rw [e]
  apply Int32.toBitVec_inj.mp
  rw [Int32.toBitVec_shiftRight]
  have e1 : ((1 : Int32).toBitVec.smod 32) = 1#32 := by decide
  have hm : (BitVec.ofNat 32 (2 * n)).toNat = 2 * n := by rw [BitVec.toNat_ofNat, Nat.mod_eq_of_lt (by omega)]
  rw [e1, BitVec.sshiftRight_eq']
  apply BitVec.eq_of_toNat_eq
  show ((BitVec.ofNat 32 (2 * n)).sshiftRight 1).toNat = (BitVec.ofNat 32 n).toNat
  rw [BitVec.toNat_sshiftRight_of_msb_false (by rw [BitVec.msb_eq_false_iff_two_mul_lt, hm]; omega), hm, BitVec.toNat_ofNat, Nat.shiftRight_eq_div_pow]
  omega
/-- the array's cell V codes the n chars f 0 .. f (n - 1) by the coder cd, as the JDK does: coder 1 just where some char is above 255 -/
def Cod (cd : Int32) (n : Nat) (f : Nat → Int32) (V : Cell) : Prop := (cd = 0 ∧ V.slots.size = n ∧ ∀ j, j < n → V.slots[j]? = some (.int (lo8 (f j))) ∧ ¬ 255 < f j) ∨ (cd = 1 ∧ V.slots.size = 2 * n ∧ (∀ j, j < n → V.slots[2 * j]? = some (.int (lo8 (f j))) ∧ V.slots[2 * j + 1]? = some (.int (hi8 (f j)))) ∧ ∃ j, j < n ∧ 255 < f j)
theorem Cod.cd {cd : Int32} {n : Nat} {f : Nat → Int32} {V : Cell} (h : Cod cd n f V) : cd = 0 ∨ cd = 1 := h.imp (fun q => q.1) fun q => q.1
theorem Cod.len {cd : Int32} {n : Nat} {f : Nat → Int32} {V : Cell} (h : Cod cd n f V) (hs : V.slots.size < 2 ^ 31) : Int32.ofNat V.slots.size >>> (cd &&& 31) = Int32.ofNat n := by
  rcases h with ⟨rfl, h, -⟩ | ⟨rfl, h, -⟩
  · rw [shr0, h]
  · rw [h, shr1 (by omega)]
/-- **x is a String of the n chars f 0 .. f (n - 1)**, Latin-1 or UTF-16; its array at t has the cell V -/
def Txt (x t : Addr) (V : Cell) (cd : Int32) (n : Nat) (f : Nat → Int32) (U : State) : Prop := Exact "java/lang/String" x U ∧ Has x "java/lang/String" "value" "[B" (.ref t) U ∧ Has x "java/lang/String" "coder" "B" (.int cd) U ∧ XT.Arr .byte t V U ∧ Cod cd n f V ∧ ∀ j, j < n → ¬ f j < 0 ∧ ¬ 65535 < f j
theorem Txt.mv {x t : Addr} {V : Cell} {cd : Int32} {n : Nat} {f : Nat → Int32} {U U' : State} (h : Txt x t V cd n f U) (hal : U.vm.Alike U'.vm) (hh : U'.heap = U.heap) : Txt x t V cd n f U' := ⟨h.1.mv hal hh, h.2.1.mv hal hh, h.2.2.1.mv hal hh, h.2.2.2.1.mv hal hh, h.2.2.2.2⟩
namespace Cdr
def yN : MethodName := ⟨"java/lang/String", "coder", "()B"⟩
abbrev yB : ByteArray := jdk_42_method_152_code
theorem d0 : decode yB 0 = .ok (.getstatic 38, 3) := by decide +kernel
theorem d3 : decode yB 3 = .ok (.ifCond (.eq) 10, 3) := by decide +kernel
theorem d6 : decode yB 6 = .ok (.aload_n 0, 1) := by decide +kernel
theorem d7 : decode yB 7 = .ok (.getfield 15, 3) := by decide +kernel
theorem d10 : decode yB 10 = .ok (.goto 4, 3) := by decide +kernel
theorem d14 : decode yB 14 = .ok (.ireturn, 1) := by decide +kernel
def site : List Cond := [.fieldLink "java/lang/String" 38 "java/lang/String" "COMPACT_STRINGS" "Z", .fieldLink "java/lang/String" 15 "java/lang/String" "coder" "B"]
def tab : Cond := tabOf yN yB 1 (some .byte) site
def P (x : Addr) (cd z : Int32) (args : Array Value) (s : State) : Prop := args = #[.ref x] ∧ Has x "java/lang/String" "coder" "B" (.int cd) s ∧ (cd = 0 ∨ cd = 1) ∧ StaticIs s "java/lang/String" "COMPACT_STRINGS" "Z" (.int z) ∧ ¬ z = 0
def E (cd : Int32) (r : Option Value) (s u : State) : Prop := XT.PureE (some (.int cd)) r s u
theorem law (l : Launch) (x : Addr) (cd z : Int32) : Law l yN 1 0 0 0 yB 1 (some .byte) site (P x cd z) (E cd) [] 0 0 := by
  refine Law.of_walk (plainFor_of_name (by decide +kernel)) (by decide +kernel) (by decide +kernel) (by decide) (fun _ _ h => by rw [h.1]; rfl) (fun _ U U' hal hh h => ⟨h.1, h.2.1.mv hal hh, h.2.2.1, h.2.2.2.1.there hal hh, h.2.2.2.2⟩) (fun r U U' V V' h1 hal h2 h => XT.PureE.mv r U U' V V' h1 hal h2 h) ?_
  intro p e s m args below meth c s₁ X0 hexec hbytes hml hret hlk hnm hown hh0 W hP
  obtain ⟨rfl, hx, hc, s1, hz⟩ := hP
  have c1 : Steps p.tables e below (s₁.setTop (entryFrame m #[.ref x] 1)) (s₁.setTop (mkF m 0 #[.val (.ref x)] [])) := entry rfl
  obtain ⟨T2, X2, q2, st2⟩ := X0.sget hexec hown (wk W (.fieldLink "java/lang/String" 38 "java/lang/String" "COMPACT_STRINGS" "Z")) s1 (fun _ _ h => by rw [hh0]; exact h) (g := (mkF m 0 #[.val (.ref x)] [])) rfl (hb hbytes d0)
  have hh2 := q2.trans hh0
  have c3 : Steps p.tables e below (s₁.setTop (entryFrame m #[.ref x] 1)) (T2.setTop (mkF m 7 #[.val (.ref x)] [.ref x])) := (c1.trans (st2 _ (Steps.refl _))).trans (by
    refine XS.ifNo X2.here hexec rfl (hb hbytes d3) rfl (i0_eq_f hz) ?_
    refine XS.aloadN X2.here hexec rfl (hb hbytes d6) rfl rfl ?_
    exact Steps.refl _)
  obtain ⟨T4, X4, q4, st4⟩ := X2.hget hexec hown (wk W (.fieldLink "java/lang/String" 15 "java/lang/String" "coder" "B")) (hx.mv X2.warmed.alike hh2) (g := (mkF m 7 #[.val (.ref x)] [.ref x])) rfl (rest := []) rfl (hb hbytes d7)
  have c5 : Steps p.tables e below (s₁.setTop (entryFrame m #[.ref x] 1)) (T4.setTop (mkF m 14 #[.val (.ref x)] [.int cd])) := (c3.trans (st4 _ (Steps.refl _))).trans (by
    refine XS.goto X4.here hexec rfl (pc0 := 10) rfl (hb hbytes d10) (by decide) rfl ?_
    exact Steps.refl _)
  exact ⟨T4, some (.int cd), _, _, _, X4, rfl, rfl, rfl, (fun h => by cases h), ⟨rfl, q4.trans hh2⟩, fun fs hl => c5.trans (X4.ireturnOut hexec hret (by rcases hc with rfl | rfl <;> rfl) (Or.inr (Or.inr (Or.inl rfl))) (hb hbytes d14) hl)⟩
end Cdr
namespace Len
def yN : MethodName := ⟨"java/lang/String", "length", "()I"⟩
abbrev yB : ByteArray := jdk_42_method_54_code
theorem d0 : decode yB 0 = .ok (.aload_n 0, 1) := by decide +kernel
theorem d1 : decode yB 1 = .ok (.getfield 9, 3) := by decide +kernel
theorem d4 : decode yB 4 = .ok (.arraylength, 1) := by decide +kernel
theorem d5 : decode yB 5 = .ok (.aload_n 0, 1) := by decide +kernel
theorem d6 : decode yB 6 = .ok (.invokevirtual 335, 3) := by decide +kernel
theorem d9 : decode yB 9 = .ok (.ishr, 1) := by decide +kernel
theorem d10 : decode yB 10 = .ok (.ireturn, 1) := by decide +kernel
def site : List Cond := [.fieldLink "java/lang/String" 9 "java/lang/String" "value" "[B", Cdr.tab] ++ virtW "java/lang/String" 335 "java/lang/String" Cdr.yN Cdr.yN
def tab : Cond := tabOf yN yB 1 (some .int) site
def P (x t : Addr) (V : Cell) (cd : Int32) (n : Nat) (f : Nat → Int32) (z : Int32) (args : Array Value) (s : State) : Prop := args = #[.ref x] ∧ Txt x t V cd n f s ∧ StaticIs s "java/lang/String" "COMPACT_STRINGS" "Z" (.int z) ∧ ¬ z = 0
def E (n : Nat) (r : Option Value) (s u : State) : Prop := XT.PureE (some (.int (Int32.ofNat n))) r s u
/-- length() of a String of n chars, in either coding -/
theorem law (l : Launch) (x t : Addr) (V : Cell) (cd : Int32) (n : Nat) (f : Nat → Int32) (z : Int32) : Law l yN 1 0 1 13 yB 1 (some .int) site (P x t V cd n f z) (E n) [] 0 0 := by
  refine Law.of_walk (plainFor_of_name (by decide +kernel)) (by decide +kernel) (by decide +kernel) (by decide) (fun _ _ h => by rw [h.1]; rfl) (fun _ U U' hal hh h => ⟨h.1, h.2.1.mv hal hh, h.2.2.1.there hal hh, h.2.2.2⟩) (fun r U U' V V' h1 hal h2 h => XT.PureE.mv r U U' V V' h1 hal h2 h) ?_
  intro p e s m args below meth c s₁ X0 hexec hbytes hml hret hlk hnm hown hh0 W hP
  obtain ⟨rfl, hx, s1, hz⟩ := hP
  have v31 := hx.2.2.2.1.2.2.2
  have c1 : Steps p.tables e below (s₁.setTop (entryFrame m #[.ref x] 1)) (s₁.setTop (mkF m 1 #[.val (.ref x)] [.ref x])) := Steps.trans (entry rfl) (by
    show Steps p.tables e below (s₁.setTop (mkF m 0 #[.val (.ref x)] [])) _
    refine XS.aloadN X0.here hexec rfl (hb hbytes d0) rfl rfl ?_
    exact Steps.refl _)
  obtain ⟨T2, X2, q2, st2⟩ := X0.hget hexec hown (wk W (.fieldLink "java/lang/String" 9 "java/lang/String" "value" "[B")) (hx.mv X0.warmed.alike hh0).2.1 (g := (mkF m 1 #[.val (.ref x)] [.ref x])) rfl (rest := []) rfl (hb hbytes d1)
  have hh2 := q2.trans hh0
  have hx2 := hx.mv X2.warmed.alike hh2
  have c3 : Steps p.tables e below (s₁.setTop (entryFrame m #[.ref x] 1)) (T2.setTop (mkF m 6 #[.val (.ref x)] [.ref x, .int (Int32.ofNat V.slots.size)])) := (c1.trans (st2 _ (Steps.refl _))).trans (by
    refine X2.alen hexec hx2.2.2.2.1 rfl rfl (hb hbytes d4) ?_
    refine XS.aloadN X2.here hexec rfl (hb hbytes d5) rfl rfl ?_
    exact Steps.refl _)
  obtain ⟨v4, T4, X4, E4, g4⟩ := X2.callV hexec (Cdr.law l x cd z) hown (wks W (virtW "java/lang/String" 335 "java/lang/String" Cdr.yN Cdr.yN)) rfl (by decide) (wk W Cdr.tab) (W := 1) (Nat.le_of_ble_eq_true rfl) (Nat.le_of_ble_eq_true rfl) (Nat.le_refl _) (Nat.le_refl _) (hx2.1.fc X2.warmed.alike) hx2.1.is (g := (mkF m 6 #[.val (.ref x)] [.ref x, .int (Int32.ofNat V.slots.size)])) rfl (by rw [hml]; rfl) c3 (argsL := []) (rest := [.int (Int32.ofNat V.slots.size)]) rfl rfl (by show 2 * 0 + (1 + 0) ≤ _; decide) (hb hbytes d6) (⟨rfl, hx2.2.2.1, hx.2.2.2.2.1.cd, s1.there X2.warmed.alike hh2, hz⟩)
  obtain ⟨rfl, q4⟩ := E4
  have c5 : Steps p.tables e below (s₁.setTop (entryFrame m #[.ref x] 1)) (T4.setTop (mkF m 10 #[.val (.ref x)] [.int (Int32.ofNat V.slots.size >>> (cd &&& 31))])) := Steps.trans g4 (by
    refine ishr X4.here hexec rfl (hb hbytes d9) rfl ?_
    exact Steps.refl _)
  rw [hx.2.2.2.2.1.len v31] at c5
  exact ⟨T4, some (.int (Int32.ofNat n)), _, _, _, X4, rfl, rfl, rfl, (fun h => by cases h), ⟨rfl, q4.trans hh2⟩, fun fs hl => c5.trans (X4.ireturnOut hexec hret rfl (Or.inl rfl) (hb hbytes d10) hl)⟩
theorem pays {l : Launch} {R : Room} {p : Program} {e : Env} {below : List Frame} {s : State} {sargs : Array Value} {len W : Nat} (x t : Addr) (V : Cell) (cd : Int32) (n : Nat) (f : Nat → Int32) (z : Int32) (htab : tab.before sargs s = true) (hfr : 2 ≤ R.frames) (hlo : W + 25 ≤ R.locals) :
    Back l R p e below s sargs yN len W (fun A₁ a₁ => A₁.cells + 0 ≤ R.cells ∧ A₁.slots + 0 ≤ R.slots ∧ P x t V cd n f z a₁ A₁.U) (fun A₁ _ v₁ B₁ => E n v₁ A₁.U B₁.U ∧ B₁.locs = A₁.locs ++ [] ∧ B₁.cells = A₁.cells + 0 ∧ B₁.slots = A₁.slots + 0) :=
  (law l x t V cd n f z).pays htab hfr (by omega)
end Len
end StrChars
namespace StrChars.Road
open Jvm Sem ClassFile Op Lib Jvm.Stand Jvm.Free Jvm.Free.XT
open Jvm.Lib.Cold (StaticIs)
theorem consq {a : Array Value} {s : State} {c : Jvm.Cond} {L : List Jvm.Cond} (h0 : c.before a s = true) (h : ∀ w ∈ L, w.before a s = true) : ∀ w ∈ c :: L, w.before a s = true := fun w hw => (List.mem_cons.mp hw).elim (fun e => e ▸ h0) (h w)
/-- the words of String.length(), either coding -/
abbrev wordsLen : List Jvm.Cond := [.code Len.yN Len.yB 1 (some .int), .initialized ST, .fieldLink ST 9 ST "value" "[B", .fieldLink ST 38 ST "COMPACT_STRINGS" "Z", .fieldLink ST 15 ST "coder" "B", .code Cdr.yN Cdr.yB 1 (some .byte), .methodLink ST 335 Cdr.yN, .declares Cdr.yN, .selects ST Cdr.yN Cdr.yN, .instanceMethod Cdr.yN]
theorem tabLen_of {a : Array Value} {s : State} (h : ∀ w ∈ wordsLen, w.before a s = true) : Len.tab.before a s = true := by
  have hc : Cdr.tab.before a s = true := unparts (wk h (.code Cdr.yN Cdr.yB 1 (some .byte))) (wks h (.initialized Cdr.yN.cls :: Cdr.site))
  have q := consq hc h
  exact unparts (wk q (.code Len.yN Len.yB 1 (some .int))) (wks q (.initialized Len.yN.cls :: Len.site))
theorem movedLen {Z s : State} {a0 args : Array Value} (hZ : Z.Warmed39 s.vm) (hw : ∀ d ∈ wordsLen, d.before a0 Z = true) : ∀ d ∈ wordsLen, d.before args s = true := fun d hd => by
  have q := hw d hd
  have t : ∀ d ∈ wordsLen, d = .arrayClass .byte ∨ (d.onTables && d.keepsFace) = true := by decide +kernel
  rcases t d hd with rfl | t
  · exact RoadKit.mvA hZ q
  · exact RoadKit.mv hZ q t
/-- the bytes of the chars cs, low before high -/
def wideBytes : List Int32 → List Value
  | [] => []
  | c :: cs => .int (lo8 c) :: .int (hi8 c) :: wideBytes cs
theorem wide_lo (d : Value) : ∀ (cs : List Int32) (j : Nat), j < cs.length → (wideBytes cs).getD (2 * j) d = .int (lo8 (cs.getD j 0))
  | [], j, h => absurd h (Nat.not_lt_zero j)
  | c :: cs, 0, _ => rfl
  | c :: cs, j + 1, h => by
    have q := wide_lo d cs j (by simpa using h)
    rw [show 2 * (j + 1) = 2 * j + 1 + 1 from by omega]
    simpa [wideBytes] using q
theorem wide_hi (d : Value) : ∀ (cs : List Int32) (j : Nat), j < cs.length → (wideBytes cs).getD (2 * j + 1) d = .int (hi8 (cs.getD j 0))
  | [], j, h => absurd h (Nat.not_lt_zero j)
  | c :: cs, 0, _ => rfl
  | c :: cs, j + 1, h => by
    have q := wide_hi d cs j (by simpa using h)
    rw [show 2 * (j + 1) + 1 = 2 * j + 1 + 1 + 1 from by omega]
    simpa [wideBytes] using q
theorem low_at (d : Value) (cs : List Int32) (j : Nat) (h : j < cs.length) : (cs.map fun c => Value.int (lo8 c)).getD j d = .int (lo8 (cs.getD j 0)) := by
  simp [List.getD_eq_getElem?_getD, h]
/-- an array of N2 bytes vs codes the chars cs by the coder cd -/
def CodA (cs : List Int32) (cd N2 : Int32) (vs : List Value) : Prop := (cd = 0 ∧ N2 = Int32.ofNat cs.length ∧ vs = (cs.map fun c => Value.int (lo8 c)) ∧ ∀ c ∈ cs, ¬ 255 < c) ∨ (cd = 1 ∧ N2 = Int32.ofNat (2 * cs.length) ∧ vs = wideBytes cs ∧ ∃ c ∈ cs, 255 < c)
theorem CodA.cod {cs : List Int32} {cd N2 : Int32} {vs : List Value} {V : Cell} (h : CodA cs cd N2 vs) (hn : 2 * cs.length < 2 ^ 31) (hs : V.slots.size = N2.toNatClampNeg) (hv : RoadKit.Has V vs (.int 0)) : Cod cd cs.length (fun j => cs.getD j 0) V := by
  rcases h with ⟨rfl, rfl, rfl, h⟩ | ⟨rfl, rfl, rfl, c, hc, hw⟩
  · rw [n32 (by omega)] at hs
    exact Or.inl ⟨rfl, hs, fun j hj => ⟨by rw [hv j (by omega), low_at _ _ _ hj], by
      have e : cs.getD j 0 = cs[j] := by simp [List.getD_eq_getElem?_getD, hj]
      show ¬ 255 < cs.getD j 0
      rw [e]; exact h _ (List.getElem_mem _)⟩⟩
  · rw [n32 (by omega)] at hs
    obtain ⟨j, hj, rfl⟩ := List.getElem_of_mem hc
    exact Or.inr ⟨rfl, hs, fun j hj => ⟨by rw [hv _ (by omega), wide_lo _ _ _ hj], by rw [hv _ (by omega), wide_hi _ _ _ hj]⟩, j, hj, by
      have e : cs.getD j 0 = cs[j] := by simp [List.getD_eq_getElem?_getD, hj]
      show 255 < cs.getD j 0
      rw [e]; exact hw⟩
/-- an object of exactly java/lang/String, its two fields found: as the laws ask it -/
theorem strObj {Z U : State} {a0 : Array Value} {kI : Nat} (wi : (Jvm.Cond.instantiable ST kI).before a0 Z = true) (al : Z.vm.Alike U.vm) {x : Addr} {v0 c0 : Value} (E : RoadKit.Exa Z U.heap x ST) (V : RoadKit.Fld Z U.heap x ST "value" "[B" v0) (C : RoadKit.Fld Z U.heap x ST "coder" "B" c0) :
    ∃ (D : Cell) (fV fC : Field), Blank ST x D U ∧ Found ST "value" "[B" fV U ∧ Found ST "coder" "B" fC U ∧ D.slots[fV.slot]? = some v0 ∧ D.slots[fC.slot]? = some c0 ∧ RoadKit.slotOf Z ST "value" "[B" = fV.slot ∧ RoadKit.slotOf Z ST "coder" "B" = fC.slot := by
  obtain ⟨D, cfV, kV, iV, fV, hD, gV, stV, knV, obV, asV, slV⟩ := V
  obtain ⟨D', cfC, kC, iC, fC, hD', gC, stC, -, -, asC, slC⟩ := C
  cases hD.symm.trans hD'
  obtain ⟨D2, kD, e1, e2, e3, e4, e5⟩ := E
  cases hD.symm.trans e1
  obtain ⟨c2, k2, i1, i2, i3, -⟩ := Cond.instantiable_spec wi
  cases e2.symm.trans i1
  cases e3.symm.trans i2
  obtain ⟨kU, u1, u2⟩ := al.2.2 _ _ e3
  exact ⟨D, fV, fC, ⟨hD, ⟨knV, fun q hq => by rw [hq] at obV; cases obV⟩, by rw [al.findClass]; exact e2, kU, u1, by rw [u2]; exact i3, by rw [u2]; exact e5 i3⟩, ⟨SBG.found_only al ⟨cfV, kV, iV, gV⟩, stV⟩, ⟨SBG.found_only al ⟨cfC, kC, iC, gC⟩, stC⟩, slV, slC, by simp [RoadKit.slotOf, gV], by simp [RoadKit.slotOf, gC]⟩
theorem sta_is {Z U : State} (al : Z.vm.Alike U.vm) {C n d : String} {v : Value} (S : RoadKit.Sta Z U.heap C n d v) : StaticIs U C n d v := by
  obtain ⟨cfS, iS, kS, fS, st, cS, t1, t2, t3, t4, t5, t6, t7⟩ := S
  exact StaticIs.there (s := { Z with heap := U.heap }) ⟨cfS, iS, kS, fS, st, cS, t1, t2, t3, t4, t5, (fun q => by rw [q] at t6; cases t6), t7⟩ al rfl
/-- **length() OF SUCH A STRING** -/
theorem lenW {p : Program} {l : Launch} {e : Env} {R : Room} {s : State} {args : Array Value} {below : List Frame} {len W : Nat} {Z : State} {a0 : Array Value} {h : Heap} (hZ : Z.Warmed39 s.vm) (hw : ∀ d ∈ wordsLen, d.before a0 Z = true) {kI : Nat} (wi : (Jvm.Cond.instantiable ST kI).before a0 Z = true)
    {x t : Addr} {kb : ClassId} {cs : List Int32} {cd N2 z : Int32} {vs : List Value} (E : RoadKit.Exa Z h x ST) (V : RoadKit.Fld Z h x ST "value" "[B" (.ref t)) (C : RoadKit.Fld Z h x ST "coder" "B" (.int cd)) (K : RoadKit.Arv Z h t kb .byte N2 vs (.int 0)) (hc : CodA cs cd N2 vs) (hb : ∀ c ∈ cs, ¬ c < 0 ∧ ¬ (65535 : Int32) < c)
    (S : RoadKit.Sta Z h ST "COMPACT_STRINGS" "Z" (.int z)) (hz : ¬ z = 0) (l2 : cs.length ≤ 4000) (hfr : 2 ≤ R.frames) (hlo : W + 25 ≤ R.locals) :
    Back l R p e below s args (⟨"java/lang/String", "length", "()I"⟩ : MethodName) len W (fun P a => a = #[.ref x] ∧ P.U.heap = h ∧ P.cells + 0 ≤ R.cells ∧ P.slots + 0 ≤ R.slots)
      (fun P _ v B => ∃ L, (v = some (.int (Int32.ofNat cs.length)) ∧ L = [] ∧ B.U.heap = h) ∧ B.locs = P.locs ++ L ∧ B.cells = P.cells + 0 ∧ B.slots = P.slots + 0) := by
  obtain ⟨A, K1, K2, K3, K4, K5, K6⟩ := K
  have hcod := hc.cod (by omega) K3 K5
  intro m meth c P g ig mk a X hg hsize hdg hW hn hp'
  obtain ⟨rfl, rfl, r1, r2⟩ := hp'
  have al : Z.vm.Alike P.U.vm := hZ.alike.trans X.warmed.alike
  obtain ⟨D, fV, fC, hB, F1, F2, g1, g2, -, -⟩ := strObj wi al E V C
  have hx : Txt x t A cd cs.length (fun j => cs.getD j 0) P.U := ⟨⟨_, hB.2.2.1, D, hB.1, rfl, by cases q : D.vm <;> first | rfl | exact absurd q (hB.2.1.2 _)⟩, Has.of hB F1 g1, Has.of hB F2 g2, ⟨K1.1, State.isArrayOf_alike al K1.2.1, K1.2.2, by rcases hcod with ⟨-, q, -⟩ | ⟨-, q, -⟩ <;> omega⟩, hcod, fun j hj => by
    have e : cs.getD j 0 = cs[j] := by simp [List.getD_eq_getElem?_getD, hj]
    show ¬ cs.getD j 0 < 0 ∧ ¬ 65535 < cs.getD j 0
    rw [e]; exact hb _ (List.getElem_mem _)⟩
  obtain ⟨v, B, X', ⟨⟨hv, hh⟩, hl, hk, hs⟩, st⟩ := Len.pays x t A cd cs.length (fun j => cs.getD j 0) z (tabLen_of (movedLen hZ hw)) hfr hlo m meth c P g ig mk _ X hg hsize hdg hW hn ⟨r1, r2, rfl, hx, sta_is al S, hz⟩
  exact ⟨v, B, X', ⟨[], ⟨hv, rfl, hh⟩, hl, hk, hs⟩, st⟩
end StrChars.Road
namespace StrChars
open Jvm Sem ClassFile Op Lib Jvm.Stand Jvm.Free.XT Jvm.Free.ALB Jvm.Free.JM Jvm.Free
open Jvm.Lib.Cold (StaticIs)
/-- what place i of a byte[]'s cell holds -/
def yv (A : Cell) (i : Nat) : Int32 := match A.slots[i]? with | some (.int x) => x | _ => 0
theorem yv_get {a : Addr} {A : Cell} {U : State} (h : XT.Arr .byte a A U) (ht : Typed .byte A) {i : Nat} (hi : i < A.slots.size) : A.slots[i]? = some (.int (yv A i)) := by
  have e := Array.getElem?_eq_getElem hi
  have f := ht i _ e
  unfold yv; rw [e]
  generalize A.slots[i] = v at f
  cases v <;> simp [fits] at f ⊢
/-- the two arrays are equal, place for place -/
def EqC (A B : Cell) : Prop := A.slots.size = B.slots.size ∧ ∀ i, i < A.slots.size → yv A i = yv B i
/-- a boolean that says whether p -/
def Says01 (q : Prop) (r : Option Value) (s u : State) : Prop := ∃ v : Int32, r = some (.int v) ∧ u.heap = s.heap ∧ ((v = 1 ∧ q) ∨ (v = 0 ∧ ¬ q))
theorem Says01.mv {q : Prop} : ∀ r (U U' V V' : State), U'.heap = U.heap → V.vm.Alike V'.vm → V'.heap = V.heap → Says01 q r U V → Says01 q r U' V' :=
  fun r U U' V V' h1 _ h2 ⟨v, a, b, c⟩ => ⟨v, a, by rw [h1, h2]; exact b, c⟩
namespace LEq
def yN : MethodName := ⟨"java/lang/StringLatin1", "equals", "([B[B)Z"⟩
abbrev yB : ByteArray := jdk_43_method_13_code
theorem d0 : decode yB 0 = .ok (.aload_n 0, 1) := by decide +kernel
theorem d1 : decode yB 1 = .ok (.arraylength, 1) := by decide +kernel
theorem d2 : decode yB 2 = .ok (.aload_n 1, 1) := by decide +kernel
theorem d3 : decode yB 3 = .ok (.arraylength, 1) := by decide +kernel
theorem d4 : decode yB 4 = .ok (.if_icmp (.ne) 30, 3) := by decide +kernel
theorem d7 : decode yB 7 = .ok (.iconst 0, 1) := by decide +kernel
theorem d8 : decode yB 8 = .ok (.istore_n 2, 1) := by decide +kernel
theorem d9 : decode yB 9 = .ok (.iload_n 2, 1) := by decide +kernel
theorem d10 : decode yB 10 = .ok (.aload_n 0, 1) := by decide +kernel
theorem d11 : decode yB 11 = .ok (.arraylength, 1) := by decide +kernel
theorem d12 : decode yB 12 = .ok (.if_icmp (.ge) 20, 3) := by decide +kernel
theorem d15 : decode yB 15 = .ok (.aload_n 0, 1) := by decide +kernel
theorem d16 : decode yB 16 = .ok (.iload_n 2, 1) := by decide +kernel
theorem d17 : decode yB 17 = .ok (.baload, 1) := by decide +kernel
theorem d18 : decode yB 18 = .ok (.aload_n 1, 1) := by decide +kernel
theorem d19 : decode yB 19 = .ok (.iload_n 2, 1) := by decide +kernel
theorem d20 : decode yB 20 = .ok (.baload, 1) := by decide +kernel
theorem d21 : decode yB 21 = .ok (.if_icmp (.eq) 5, 3) := by decide +kernel
theorem d24 : decode yB 24 = .ok (.iconst 0, 1) := by decide +kernel
theorem d25 : decode yB 25 = .ok (.ireturn, 1) := by decide +kernel
theorem d26 : decode yB 26 = .ok (.iinc 2 1, 3) := by decide +kernel
theorem d29 : decode yB 29 = .ok (.goto (-20), 3) := by decide +kernel
theorem d32 : decode yB 32 = .ok (.iconst 1, 1) := by decide +kernel
theorem d33 : decode yB 33 = .ok (.ireturn, 1) := by decide +kernel
theorem d34 : decode yB 34 = .ok (.iconst 0, 1) := by decide +kernel
theorem d35 : decode yB 35 = .ok (.ireturn, 1) := by decide +kernel
def site : List Cond := []
def tab : Cond := tabOf yN yB 3 (some .boolean) site
def P (a : Addr) (A : Cell) (b : Addr) (B : Cell) (args : Array Value) (s : State) : Prop := args = #[.ref a, .ref b] ∧ XT.Arr .byte a A s ∧ Typed .byte A ∧ XT.Arr .byte b B s ∧ Typed .byte B
/-- whether two byte[] are equal, place for place -/
theorem law (l : Launch) (a : Addr) (A : Cell) (b : Addr) (B : Cell) : Law l yN 2 2 0 0 yB 3 (some .boolean) site (P a A b B) (Says01 (EqC A B)) [] 0 0 := by
  refine Law.of_walk (plainFor_of_name (by decide +kernel)) (by decide +kernel) (by decide +kernel) (by decide) (fun _ _ h => by rw [h.1]; rfl) (fun _ U U' hal hh h => ⟨h.1, h.2.1.mv hal hh, h.2.2.1, h.2.2.2.1.mv hal hh, h.2.2.2.2⟩) (fun r U U' V V' h1 hal h2 h => Says01.mv r U U' V V' h1 hal h2 h) ?_
  intro p e s m args below meth c s₁ X0 hexec hbytes hml hret hlk hnm hown hh0 W hP
  obtain ⟨rfl, hA, tA, hB, tB⟩ := hP
  have a31 := hA.2.2.2
  have b31 := hB.2.2.2
  have hA0 := hA.mv X0.warmed.alike hh0
  have hB0 := hB.mv X0.warmed.alike hh0
  have c1 : Steps p.tables e below (s₁.setTop (entryFrame m #[.ref a, .ref b] 3)) (s₁.setTop (mkF m 0 #[.val (.ref a), .val (.ref b), .unset] [])) := entry rfl
  have c2 : Steps p.tables e below (s₁.setTop (entryFrame m #[.ref a, .ref b] 3)) (s₁.setTop (mkF m 4 #[.val (.ref a), .val (.ref b), .unset] [.int (Int32.ofNat B.slots.size), .int (Int32.ofNat A.slots.size)])) := c1.trans (by
    refine XS.aloadN X0.here hexec rfl (hb hbytes d0) rfl rfl ?_
    refine X0.alen hexec hA0 rfl rfl (hb hbytes d1) ?_
    refine XS.aloadN X0.here hexec rfl (hb hbytes d2) rfl rfl ?_
    refine X0.alen hexec hB0 rfl rfl (hb hbytes d3) ?_
    exact Steps.refl _)
  by_cases hs : A.slots.size = B.slots.size
  · have c3 : Steps p.tables e below (s₁.setTop (entryFrame m #[.ref a, .ref b] 3)) (s₁.setTop (mkF m 9 #[.val (.ref a), .val (.ref b), .val (.int 0)] [])) := c2.trans (by
      refine XS.icmpNo X0.here hexec rfl (hb hbytes d4) rfl (ii_ne_f (by rw [hs])) ?_
      refine iconstV X0.here hexec rfl 0 (hb hbytes d7) (by decide) ?_
      refine XS.istoreN X0.here hexec rfl (hb hbytes d8) rfl rfl ?_
      exact Steps.refl _)
    have loop : ∀ (r i : Nat), i + r = A.slots.size → (∀ j, j < i → yv A j = yv B j) → Steps p.tables e below (s₁.setTop (entryFrame m #[.ref a, .ref b] 3)) (s₁.setTop (mkF m 9 #[.val (.ref a), .val (.ref b), .val (.int (Int32.ofNat i))] [])) → ∃ (pc : Nat) (Ls : Array Slot) (v : Int32), (pc = 25 ∨ pc = 33) ∧ ((v = 1 ∧ EqC A B) ∨ (v = 0 ∧ ¬ EqC A B)) ∧ Steps p.tables e below (s₁.setTop (entryFrame m #[.ref a, .ref b] 3)) (s₁.setTop (mkF m pc Ls [.int v])) := by
      intro r
      induction r with
      | zero =>
        intro i hi he cl
        exact ⟨33, _, 1, Or.inr rfl, Or.inl ⟨rfl, hs, fun j hj => he j (by omega)⟩, cl.trans (by
          refine XS.iloadN X0.here hexec rfl (hb hbytes d9) rfl ?_
          refine XS.aloadN X0.here hexec rfl (hb hbytes d10) rfl rfl ?_
          refine X0.alen hexec hA0 rfl rfl (hb hbytes d11) ?_
          refine XS.icmpYes X0.here hexec rfl (pc0 := 12) rfl (hb hbytes d12) rfl (ii_ge_t (nlt32 (by omega) (by omega))) (by decide) rfl ?_
          refine iconstV X0.here hexec rfl 1 (hb hbytes d32) (by decide) ?_
          exact Steps.refl _)⟩
      | succ r ih =>
        intro i hi he cl
        have c4 : Steps p.tables e below (s₁.setTop (entryFrame m #[.ref a, .ref b] 3)) (s₁.setTop (mkF m 21 #[.val (.ref a), .val (.ref b), .val (.int (Int32.ofNat i))] [.int (yv B i), .int (yv A i)])) := cl.trans (by
          refine XS.iloadN X0.here hexec rfl (hb hbytes d9) rfl ?_
          refine XS.aloadN X0.here hexec rfl (hb hbytes d10) rfl rfl ?_
          refine X0.alen hexec hA0 rfl rfl (hb hbytes d11) ?_
          refine XS.icmpNo X0.here hexec rfl (hb hbytes d12) rfl (ii_ge_f (lt32 (by omega) (by omega))) ?_
          refine XS.aloadN X0.here hexec rfl (hb hbytes d15) rfl rfl ?_
          refine XS.iloadN X0.here hexec rfl (hb hbytes d16) rfl ?_
          refine X0.aget hexec hA0 rfl (yv_get hA tA (i := i) (by omega)) rfl rfl (hb hbytes d17) ?_
          refine XS.aloadN X0.here hexec rfl (hb hbytes d18) rfl rfl ?_
          refine XS.iloadN X0.here hexec rfl (hb hbytes d19) rfl ?_
          refine X0.aget hexec hB0 rfl (yv_get hB tB (i := i) (by omega)) rfl rfl (hb hbytes d20) ?_
          exact Steps.refl _)
        by_cases hv : yv A i = yv B i
        · have c5 : Steps p.tables e below (s₁.setTop (entryFrame m #[.ref a, .ref b] 3)) (s₁.setTop (mkF m 9 #[.val (.ref a), .val (.ref b), .val (.int (Int32.ofNat i + 1))] [])) := c4.trans (by
            refine XS.icmpYes X0.here hexec rfl (pc0 := 21) rfl (hb hbytes d21) rfl (ii_eq_t hv) (by decide) rfl ?_
            refine iincV X0.here hexec rfl 1 (hb hbytes d26) (by decide) rfl rfl ?_
            refine XS.goto X0.here hexec rfl (pc0 := 29) rfl (hb hbytes d29) (by decide) rfl ?_
            exact Steps.refl _)
          rw [succ32] at c5
          exact ih (i + 1) (by omega) (fun j hj => by
            by_cases e : j = i
            · rw [e]; exact hv
            · exact he j (by omega)) c5
        · exact ⟨25, _, 0, Or.inl rfl, Or.inr ⟨rfl, fun q => hv (q.2 i (by omega))⟩, c4.trans (by
            refine XS.icmpNo X0.here hexec rfl (hb hbytes d21) rfl (ii_eq_f hv) ?_
            refine iconstV X0.here hexec rfl 0 (hb hbytes d24) (by decide) ?_
            exact Steps.refl _)⟩
    obtain ⟨pc, Ls, v, hpc, hv, cz⟩ := loop A.slots.size 0 (by omega) (fun j hj => absurd hj (Nat.not_lt_zero j)) c3
    have nv : narrow .boolean (.int v) = .int v := by rcases hv with ⟨rfl, -⟩ | ⟨rfl, -⟩ <;> rfl
    rcases hpc with rfl | rfl
    · exact ⟨s₁, some (.int v), _, _, _, X0, rfl, rfl, rfl, (fun h => by cases h), ⟨v, rfl, hh0, hv⟩, fun fs hl => cz.trans (X0.ireturnOut hexec hret nv (Or.inr (Or.inl rfl)) (hb hbytes d25) hl)⟩
    · exact ⟨s₁, some (.int v), _, _, _, X0, rfl, rfl, rfl, (fun h => by cases h), ⟨v, rfl, hh0, hv⟩, fun fs hl => cz.trans (X0.ireturnOut hexec hret nv (Or.inr (Or.inl rfl)) (hb hbytes d33) hl)⟩
  · have c3 : Steps p.tables e below (s₁.setTop (entryFrame m #[.ref a, .ref b] 3)) (s₁.setTop (mkF m 35 #[.val (.ref a), .val (.ref b), .unset] [.int 0])) := c2.trans (by
      refine XS.icmpYes X0.here hexec rfl (pc0 := 4) rfl (hb hbytes d4) rfl (ii_ne_t (ne32 a31 b31 hs)) (by decide) rfl ?_
      refine iconstV X0.here hexec rfl 0 (hb hbytes d34) (by decide) ?_
      exact Steps.refl _)
    exact ⟨s₁, some (.int 0), _, _, _, X0, rfl, rfl, rfl, (fun h => by cases h), ⟨0, rfl, hh0, Or.inr ⟨rfl, fun q => hs q.1⟩⟩, fun fs hl => c3.trans (X0.ireturnOut hexec hret rfl (Or.inr (Or.inl rfl)) (hb hbytes d35) hl)⟩
end LEq
theorem Cod.ty {cd : Int32} {n : Nat} {f : Nat → Int32} {V : Cell} (h : Cod cd n f V) : Typed .byte V := fun i v hv => by
  have hi : i < V.slots.size := (Array.getElem?_eq_some_iff.mp hv).1
  rcases h with ⟨-, k1, k2⟩ | ⟨-, k1, k2, -⟩
  · rw [(k2 i (by omega)).1] at hv; cases hv; exact fits_lo8 _
  · rcases Nat.mod_two_eq_zero_or_one i with e | e
    · obtain ⟨j, rfl⟩ : ∃ j, i = 2 * j := ⟨i / 2, by omega⟩
      rw [(k2 j (by omega)).1] at hv; cases hv; exact fits_lo8 _
    · obtain ⟨j, rfl⟩ : ∃ j, i = 2 * j + 1 := ⟨i / 2, by omega⟩
      rw [(k2 j (by omega)).2] at hv; cases hv; exact fits_lo8 _
/-- the same text -/
def SameT (n : Nat) (f : Nat → Int32) (k : Nat) (g : Nat → Int32) : Prop := n = k ∧ ∀ j, j < n → f j = g j
theorem lo8_inj {x y : Int32} (h0 : ¬ x < 0) (h1 : ¬ 255 < x) (k0 : ¬ y < 0) (k1 : ¬ 255 < y) (h : lo8 x = lo8 y) : x = y := by
  rw [← lo8_mask h0 h1, ← lo8_mask k0 k1, h]
/-- arrays coded by one coder are equal just where the texts are -/
theorem Cod.eqv {cd : Int32} {n k : Nat} {f g : Nat → Int32} {V V' : Cell} (h : Cod cd n f V) (h' : Cod cd k g V') (hf : ∀ j, j < n → ¬ f j < 0 ∧ ¬ 65535 < f j) (hg : ∀ j, j < k → ¬ g j < 0 ∧ ¬ 65535 < g j) : EqC V V' ↔ SameT n f k g := by
  have yvv : ∀ {W : Cell} {i : Nat} {x : Int32}, W.slots[i]? = some (.int x) → yv W i = x := fun q => by unfold yv; rw [q]
  rcases h with ⟨rfl, k1, k2⟩ | ⟨rfl, k1, k2, -⟩
  · rcases h' with ⟨-, m1, m2⟩ | ⟨e, -⟩
    · constructor
      · rintro ⟨e1, e2⟩
        refine ⟨by omega, fun j hj => ?_⟩
        have q := e2 j (by omega)
        rw [yvv (k2 j hj).1, yvv (m2 j (by omega)).1] at q
        exact lo8_inj (hf j hj).1 (k2 j hj).2 (hg j (by omega)).1 (m2 j (by omega)).2 q
      · rintro ⟨rfl, e2⟩
        refine ⟨by omega, fun j hj => ?_⟩
        rw [yvv (k2 j (by omega)).1, yvv (m2 j (by omega)).1, e2 j (by omega)]
    · exact absurd e (by decide)
  · rcases h' with ⟨e, -⟩ | ⟨-, m1, m2, -⟩
    · exact absurd e (by decide)
    · constructor
      · rintro ⟨e1, e2⟩
        refine ⟨by omega, fun j hj => ?_⟩
        have q1 := e2 (2 * j) (by omega)
        have q2 := e2 (2 * j + 1) (by omega)
        rw [yvv (k2 j hj).1, yvv (m2 j (by omega)).1] at q1
        rw [yvv (k2 j hj).2, yvv (m2 j (by omega)).2] at q2
        rw [← pair_says (hf j hj).1 (hf j hj).2, ← pair_says (hg j (by omega)).1 (hg j (by omega)).2, q1, q2]
      · rintro ⟨rfl, e2⟩
        refine ⟨by omega, fun i hi => ?_⟩
        rcases Nat.mod_two_eq_zero_or_one i with e | e
        · obtain ⟨j, rfl⟩ : ∃ j, i = 2 * j := ⟨i / 2, by omega⟩
          rw [yvv (k2 j (by omega)).1, yvv (m2 j (by omega)).1, e2 j (by omega)]
        · obtain ⟨j, rfl⟩ : ∃ j, i = 2 * j + 1 := ⟨i / 2, by omega⟩
          rw [yvv (k2 j (by omega)).2, yvv (m2 j (by omega)).2, e2 j (by omega)]
/-- two codings differ: so do the texts -/
theorem Cod.dif {cd cd' : Int32} {n k : Nat} {f g : Nat → Int32} {V V' : Cell} (h : Cod cd n f V) (h' : Cod cd' k g V') (hne : ¬ cd = cd') : ¬ SameT n f k g := by
  rintro ⟨rfl, e⟩
  rcases h with ⟨rfl, -, k2⟩ | ⟨rfl, -, -, j, hj, hw⟩
  · rcases h' with ⟨rfl, -⟩ | ⟨-, -, -, j, hj, hw⟩
    · exact hne rfl
    · exact (k2 j hj).2 (by rw [e j hj]; exact hw)
  · rcases h' with ⟨-, -, m2⟩ | ⟨rfl, -⟩
    · exact (m2 j hj).2 (by rw [← e j hj]; exact hw)
    · exact hne rfl
/-- an object of exactly C is an instance of C -/
theorem cinst {p : Program} {l : Launch} {e : Env} {R : Room} {s : State} {m : MethodId} {args : Array Value} {below : List Frame} {meth : Method} {c : Code} {T : State} {locs : List Loc} {cells slots : Nat} (X : Stand p l e R s m args below meth c T locs cells slots) (hexec : p.tables.exec = Jvm.exec) {own C : String} {index : Nat} (hown : s.vm.findClass own = some m.cls) (hlink : (Cond.classLink own index C).before args s = true) {a : Addr} (hE : Exact C a T)
    {g : JFrame} (hg : g.method = m) {rest : List Value} (hstack : g.stack = .ref a :: rest) (hdg : decode c.code g.pc = .ok (.instanceof index, 3)) :
    ∃ T', Stand p l e R s m args below meth c T' locs cells slots ∧ T'.heap = T.heap ∧ ∀ target, Steps p.tables e below (T'.setTop { g with pc := g.pc + 3, stack := .int 1 :: rest }) target → Steps p.tables e below (T.setTop g) target := by
  obtain ⟨cB, h1, D, h2, h3, h4⟩ := hE
  have h1' : s.vm.findClass C = some cB := by rw [← X.warmed.alike.findClass]; exact h1
  obtain ⟨vm', X', st⟩ := X.instanceofYes hexec hown hlink h2 h4 h1' (by rw [h3]; exact Jvm.Free.SB.assignable_self _ _) hg hstack hdg
  exact ⟨_, X', rfl, st⟩
theorem cself {p : Program} {l : Launch} {e : Env} {R : Room} {s : State} {m : MethodId} {args : Array Value} {below : List Frame} {meth : Method} {c : Code} {T : State} {locs : List Loc} {cells slots : Nat} (X : Stand p l e R s m args below meth c T locs cells slots) (hexec : p.tables.exec = Jvm.exec) {own C : String} {index : Nat} (hown : s.vm.findClass own = some m.cls) (hlink : (Cond.classLink own index C).before args s = true) {a : Addr} (hE : Exact C a T)
    {g : JFrame} (hg : g.method = m) {rest : List Value} (hstack : g.stack = .ref a :: rest) (hdg : decode c.code g.pc = .ok (.checkcast index, 3)) :
    ∃ T', Stand p l e R s m args below meth c T' locs cells slots ∧ T'.heap = T.heap ∧ ∀ target, Steps p.tables e below (T'.setTop { g with pc := g.pc + 3, stack := .ref a :: rest }) target → Steps p.tables e below (T.setTop g) target := by
  obtain ⟨cB, h1, D, h2, h3, h4⟩ := hE
  have h1' : s.vm.findClass C = some cB := by rw [← X.warmed.alike.findClass]; exact h1
  obtain ⟨vm', X', st⟩ := X.checkcastYes hexec hown hlink h2 h4 h1' (by rw [h3]; exact Jvm.Free.SB.assignable_self _ _) hg hstack hdg
  exact ⟨_, X', rfl, fun t h => st t (by rw [← hstack] at h; exact h)⟩
namespace SEq
def yN : MethodName := ⟨"java/lang/String", "equals", "(Ljava/lang/Object;)Z"⟩
abbrev yB : ByteArray := jdk_42_method_66_code
theorem d0 : decode yB 0 = .ok (.aload_n 0, 1) := by decide +kernel
theorem d1 : decode yB 1 = .ok (.aload_n 1, 1) := by decide +kernel
theorem d2 : decode yB 2 = .ok (.if_acmp (.ne) 5, 3) := by decide +kernel
theorem d5 : decode yB 5 = .ok (.iconst 1, 1) := by decide +kernel
theorem d6 : decode yB 6 = .ok (.ireturn, 1) := by decide +kernel
theorem d7 : decode yB 7 = .ok (.aload_n 1, 1) := by decide +kernel
theorem d8 : decode yB 8 = .ok (.instanceof 10, 3) := by decide +kernel
theorem d11 : decode yB 11 = .ok (.ifCond (.eq) 43, 3) := by decide +kernel
theorem d14 : decode yB 14 = .ok (.aload_n 1, 1) := by decide +kernel
theorem d15 : decode yB 15 = .ok (.checkcast 10, 3) := by decide +kernel
theorem d18 : decode yB 18 = .ok (.astore_n 2, 1) := by decide +kernel
theorem d19 : decode yB 19 = .ok (.getstatic 38, 3) := by decide +kernel
theorem d22 : decode yB 22 = .ok (.ifCond (.eq) 14, 3) := by decide +kernel
theorem d25 : decode yB 25 = .ok (.aload_n 0, 1) := by decide +kernel
theorem d26 : decode yB 26 = .ok (.getfield 15, 3) := by decide +kernel
theorem d29 : decode yB 29 = .ok (.aload_n 2, 1) := by decide +kernel
theorem d30 : decode yB 30 = .ok (.getfield 15, 3) := by decide +kernel
theorem d33 : decode yB 33 = .ok (.if_icmp (.ne) 21, 3) := by decide +kernel
theorem d36 : decode yB 36 = .ok (.aload_n 0, 1) := by decide +kernel
theorem d37 : decode yB 37 = .ok (.getfield 9, 3) := by decide +kernel
theorem d40 : decode yB 40 = .ok (.aload_n 2, 1) := by decide +kernel
theorem d41 : decode yB 41 = .ok (.getfield 9, 3) := by decide +kernel
theorem d44 : decode yB 44 = .ok (.invokestatic 541, 3) := by decide +kernel
theorem d47 : decode yB 47 = .ok (.ifCond (.eq) 7, 3) := by decide +kernel
theorem d50 : decode yB 50 = .ok (.iconst 1, 1) := by decide +kernel
theorem d51 : decode yB 51 = .ok (.goto 4, 3) := by decide +kernel
theorem d54 : decode yB 54 = .ok (.iconst 0, 1) := by decide +kernel
theorem d55 : decode yB 55 = .ok (.ireturn, 1) := by decide +kernel
def site : List Cond := [.classLink "java/lang/String" 10 "java/lang/String", .fieldLink "java/lang/String" 38 "java/lang/String" "COMPACT_STRINGS" "Z", .fieldLink "java/lang/String" 15 "java/lang/String" "coder" "B", .fieldLink "java/lang/String" 9 "java/lang/String" "value" "[B", LEq.tab] ++ staticW "java/lang/String" 541 LEq.yN
def tab : Cond := tabOf yN yB 3 (some .boolean) site
def P (x t : Addr) (V : Cell) (cd : Int32) (n : Nat) (f : Nat → Int32) (y t' : Addr) (V' : Cell) (cd' : Int32) (k : Nat) (g : Nat → Int32) (z : Int32) (args : Array Value) (s : State) : Prop := args = #[.ref x, .ref y] ∧ Txt x t V cd n f s ∧ Txt y t' V' cd' k g s ∧ StaticIs s "java/lang/String" "COMPACT_STRINGS" "Z" (.int z) ∧ ¬ z = 0
/-- equals(Object) of two Strings: whether the texts are the same -/
theorem law (l : Launch) (x t : Addr) (V : Cell) (cd : Int32) (n : Nat) (f : Nat → Int32) (y t' : Addr) (V' : Cell) (cd' : Int32) (k : Nat) (g : Nat → Int32) (z : Int32) : Law l yN 2 1 1 14 yB 3 (some .boolean) site (P x t V cd n f y t' V' cd' k g z) (Says01 (SameT n f k g)) [] 0 0 := by
  refine Law.of_walk (plainFor_of_name (by decide +kernel)) (by decide +kernel) (by decide +kernel) (by decide) (fun _ _ h => by rw [h.1]; rfl) (fun _ U U' hal hh h => ⟨h.1, h.2.1.mv hal hh, h.2.2.1.mv hal hh, h.2.2.2.1.there hal hh, h.2.2.2.2⟩) (fun r U U' V V' h1 hal h2 h => Says01.mv r U U' V V' h1 hal h2 h) ?_
  intro p e s m args below meth c s₁ X0 hexec hbytes hml hret hlk hnm hown hh0 W hP
  obtain ⟨rfl, hx, hy, s1, hz⟩ := hP
  have c1 : Steps p.tables e below (s₁.setTop (entryFrame m #[.ref x, .ref y] 3)) (s₁.setTop (mkF m 2 #[.val (.ref x), .val (.ref y), .unset] [.ref y, .ref x])) := Steps.trans (entry rfl) (by
    show Steps p.tables e below (s₁.setTop (mkF m 0 #[.val (.ref x), .val (.ref y), .unset] [])) _
    refine XS.aloadN X0.here hexec rfl (hb hbytes d0) rfl rfl ?_
    refine XS.aloadN X0.here hexec rfl (hb hbytes d1) rfl rfl ?_
    exact Steps.refl _)
  by_cases hxy : x = y
  · have c2 : Steps p.tables e below (s₁.setTop (entryFrame m #[.ref x, .ref y] 3)) (s₁.setTop (mkF m 6 #[.val (.ref x), .val (.ref y), .unset] [.int 1])) := c1.trans (by
      refine acmpNo X0.here hexec rfl (hb hbytes d2) rfl rfl rfl (by simp [acmp, hxy]) ?_
      refine iconstV X0.here hexec rfl 1 (hb hbytes d5) (by decide) ?_
      exact Steps.refl _)
    subst hxy
    have ec : cd = cd' := by
      obtain ⟨D, fd, a1, a2, a3⟩ := hx.2.2.1
      obtain ⟨D', fd', b1, b2, b3⟩ := hy.2.2.1
      cases a1.symm.trans b1
      obtain ⟨q1, q2, q3, q4⟩ := a2.1
      obtain ⟨r1, r2, r3, r4⟩ := b2.1
      cases q4.symm.trans r4
      cases a3.symm.trans b3; rfl
    have et : t = t' := by
      obtain ⟨D, fd, a1, a2, a3⟩ := hx.2.1
      obtain ⟨D', fd', b1, b2, b3⟩ := hy.2.1
      cases a1.symm.trans b1
      obtain ⟨q1, q2, q3, q4⟩ := a2.1
      obtain ⟨r1, r2, r3, r4⟩ := b2.1
      cases q4.symm.trans r4
      cases a3.symm.trans b3; rfl
    subst ec et
    have ev : V = V' := by cases hx.2.2.2.1.1.symm.trans hy.2.2.2.1.1; rfl
    subst ev
    have hs : SameT n f k g := (Cod.eqv hx.2.2.2.2.1 hy.2.2.2.2.1 hx.2.2.2.2.2 hy.2.2.2.2.2).mp ⟨rfl, fun _ _ => rfl⟩
    exact ⟨s₁, some (.int 1), _, _, _, X0, rfl, rfl, rfl, (fun h => by cases h), ⟨1, rfl, hh0, Or.inl ⟨rfl, hs⟩⟩, fun fs hl => c2.trans (X0.ireturnOut hexec hret rfl (Or.inr (Or.inl rfl)) (hb hbytes d6) hl)⟩
  · have c2 : Steps p.tables e below (s₁.setTop (entryFrame m #[.ref x, .ref y] 3)) (s₁.setTop (mkF m 8 #[.val (.ref x), .val (.ref y), .unset] [.ref y])) := c1.trans (by
      refine acmpYes X0.here hexec rfl (pc0 := 2) rfl (hb hbytes d2) rfl rfl rfl (by simp [acmp, hxy]) (by decide) rfl ?_
      refine XS.aloadN X0.here hexec rfl (hb hbytes d7) rfl rfl ?_
      exact Steps.refl _)
    obtain ⟨T3, X3, q3, st3⟩ := cinst X0 hexec hown (wk W (.classLink "java/lang/String" 10 "java/lang/String")) (hy.mv X0.warmed.alike hh0).1 (g := (mkF m 8 #[.val (.ref x), .val (.ref y), .unset] [.ref y])) rfl (rest := []) rfl (hb hbytes d8)
    have hh3 := q3.trans hh0
    have c4 : Steps p.tables e below (s₁.setTop (entryFrame m #[.ref x, .ref y] 3)) (T3.setTop (mkF m 15 #[.val (.ref x), .val (.ref y), .unset] [.ref y])) := (c2.trans (st3 _ (Steps.refl _))).trans (by
      refine XS.ifNo X3.here hexec rfl (hb hbytes d11) rfl (i0_eq_f (by decide)) ?_
      refine XS.aloadN X3.here hexec rfl (hb hbytes d14) rfl rfl ?_
      exact Steps.refl _)
    obtain ⟨T5, X5, q5, st5⟩ := cself X3 hexec hown (wk W (.classLink "java/lang/String" 10 "java/lang/String")) (hy.mv X3.warmed.alike hh3).1 (g := (mkF m 15 #[.val (.ref x), .val (.ref y), .unset] [.ref y])) rfl (rest := []) rfl (hb hbytes d15)
    have hh5 := q5.trans hh3
    have c6 : Steps p.tables e below (s₁.setTop (entryFrame m #[.ref x, .ref y] 3)) (T5.setTop (mkF m 19 #[.val (.ref x), .val (.ref y), .val (.ref y)] [])) := (c4.trans (st5 _ (Steps.refl _))).trans (by
      refine XS.astoreN X5.here hexec rfl (hb hbytes d18) rfl rfl rfl ?_
      exact Steps.refl _)
    obtain ⟨T7, X7, q7, st7⟩ := X5.sget hexec hown (wk W (.fieldLink "java/lang/String" 38 "java/lang/String" "COMPACT_STRINGS" "Z")) s1 (fun _ _ h => by rw [hh5]; exact h) (g := (mkF m 19 #[.val (.ref x), .val (.ref y), .val (.ref y)] [])) rfl (hb hbytes d19)
    have hh7 := q7.trans hh5
    have c8 : Steps p.tables e below (s₁.setTop (entryFrame m #[.ref x, .ref y] 3)) (T7.setTop (mkF m 26 #[.val (.ref x), .val (.ref y), .val (.ref y)] [.ref x])) := (c6.trans (st7 _ (Steps.refl _))).trans (by
      refine XS.ifNo X7.here hexec rfl (hb hbytes d22) rfl (i0_eq_f hz) ?_
      refine XS.aloadN X7.here hexec rfl (hb hbytes d25) rfl rfl ?_
      exact Steps.refl _)
    obtain ⟨T9, X9, q9, st9⟩ := X7.hget hexec hown (wk W (.fieldLink "java/lang/String" 15 "java/lang/String" "coder" "B")) (hx.mv X7.warmed.alike hh7).2.2.1 (g := (mkF m 26 #[.val (.ref x), .val (.ref y), .val (.ref y)] [.ref x])) rfl (rest := []) rfl (hb hbytes d26)
    have hh9 := q9.trans hh7
    have c10 : Steps p.tables e below (s₁.setTop (entryFrame m #[.ref x, .ref y] 3)) (T9.setTop (mkF m 30 #[.val (.ref x), .val (.ref y), .val (.ref y)] [.ref y, .int cd])) := (c8.trans (st9 _ (Steps.refl _))).trans (by
      refine XS.aloadN X9.here hexec rfl (hb hbytes d29) rfl rfl ?_
      exact Steps.refl _)
    obtain ⟨T11, X11, q11, st11⟩ := X9.hget hexec hown (wk W (.fieldLink "java/lang/String" 15 "java/lang/String" "coder" "B")) (hy.mv X9.warmed.alike hh9).2.2.1 (g := (mkF m 30 #[.val (.ref x), .val (.ref y), .val (.ref y)] [.ref y, .int cd])) rfl (rest := [.int cd]) rfl (hb hbytes d30)
    have hh11 := q11.trans hh9
    have c12 : Steps p.tables e below (s₁.setTop (entryFrame m #[.ref x, .ref y] 3)) (T11.setTop (mkF m 33 #[.val (.ref x), .val (.ref y), .val (.ref y)] [.int cd', .int cd])) := c10.trans (st11 _ (Steps.refl _))
    by_cases hcd : cd = cd'
    · subst hcd
      have c13 : Steps p.tables e below (s₁.setTop (entryFrame m #[.ref x, .ref y] 3)) (T11.setTop (mkF m 37 #[.val (.ref x), .val (.ref y), .val (.ref y)] [.ref x])) := c12.trans (by
        refine XS.icmpNo X11.here hexec rfl (hb hbytes d33) rfl (ii_ne_f rfl) ?_
        refine XS.aloadN X11.here hexec rfl (hb hbytes d36) rfl rfl ?_
        exact Steps.refl _)
      obtain ⟨T14, X14, q14, st14⟩ := X11.hget hexec hown (wk W (.fieldLink "java/lang/String" 9 "java/lang/String" "value" "[B")) (hx.mv X11.warmed.alike hh11).2.1 (g := (mkF m 37 #[.val (.ref x), .val (.ref y), .val (.ref y)] [.ref x])) rfl (rest := []) rfl (hb hbytes d37)
      have hh14 := q14.trans hh11
      have c15 : Steps p.tables e below (s₁.setTop (entryFrame m #[.ref x, .ref y] 3)) (T14.setTop (mkF m 41 #[.val (.ref x), .val (.ref y), .val (.ref y)] [.ref y, .ref t])) := (c13.trans (st14 _ (Steps.refl _))).trans (by
        refine XS.aloadN X14.here hexec rfl (hb hbytes d40) rfl rfl ?_
        exact Steps.refl _)
      obtain ⟨T16, X16, q16, st16⟩ := X14.hget hexec hown (wk W (.fieldLink "java/lang/String" 9 "java/lang/String" "value" "[B")) (hy.mv X14.warmed.alike hh14).2.1 (g := (mkF m 41 #[.val (.ref x), .val (.ref y), .val (.ref y)] [.ref y, .ref t])) rfl (rest := [.ref t]) rfl (hb hbytes d41)
      have hh16 := q16.trans hh14
      have c17 : Steps p.tables e below (s₁.setTop (entryFrame m #[.ref x, .ref y] 3)) (T16.setTop (mkF m 44 #[.val (.ref x), .val (.ref y), .val (.ref y)] [.ref t', .ref t])) := c15.trans (st16 _ (Steps.refl _))
      obtain ⟨v18, T18, X18, E18, g18⟩ := X16.callS hexec (LEq.law l t V t' V') hown (wks W (staticW "java/lang/String" 541 LEq.yN)) (wk W LEq.tab) (W := 0) (Nat.le_of_ble_eq_true rfl) (Nat.le_of_ble_eq_true rfl) (Nat.le_refl _) (Nat.le_refl _) (g := (mkF m 44 #[.val (.ref x), .val (.ref y), .val (.ref y)] [.ref t', .ref t])) rfl (by rw [hml]; rfl) c17 (argsL := [.ref t, .ref t']) (rest := []) rfl rfl (by show 2 * 0 + 0 ≤ _; decide) (hb hbytes d44) (⟨rfl, hx.2.2.2.1.mv X16.warmed.alike hh16, hx.2.2.2.2.1.ty, hy.2.2.2.1.mv X16.warmed.alike hh16, hy.2.2.2.2.1.ty⟩)
      obtain ⟨v, rfl, q18, hv⟩ := E18
      have iff := Cod.eqv hx.2.2.2.2.1 hy.2.2.2.2.1 hx.2.2.2.2.2 hy.2.2.2.2.2
      rcases hv with ⟨rfl, he⟩ | ⟨rfl, he⟩
      · have c19 : Steps p.tables e below (s₁.setTop (entryFrame m #[.ref x, .ref y] 3)) (T18.setTop (mkF m 55 #[.val (.ref x), .val (.ref y), .val (.ref y)] [.int 1])) := Steps.trans g18 (by
          refine XS.ifNo X18.here hexec rfl (hb hbytes d47) rfl (i0_eq_f (by decide)) ?_
          refine iconstV X18.here hexec rfl 1 (hb hbytes d50) (by decide) ?_
          refine XS.goto X18.here hexec rfl (pc0 := 51) rfl (hb hbytes d51) (by decide) rfl ?_
          exact Steps.refl _)
        exact ⟨T18, some (.int 1), _, _, _, X18, rfl, rfl, rfl, (fun h => by cases h), ⟨1, rfl, q18.trans hh16, Or.inl ⟨rfl, iff.mp he⟩⟩, fun fs hl => c19.trans (X18.ireturnOut hexec hret rfl (Or.inr (Or.inl rfl)) (hb hbytes d55) hl)⟩
      · have c19 : Steps p.tables e below (s₁.setTop (entryFrame m #[.ref x, .ref y] 3)) (T18.setTop (mkF m 55 #[.val (.ref x), .val (.ref y), .val (.ref y)] [.int 0])) := Steps.trans g18 (by
          refine XS.ifYes X18.here hexec rfl (pc0 := 47) rfl (hb hbytes d47) rfl (i0_eq_t rfl) (by decide) rfl ?_
          refine iconstV X18.here hexec rfl 0 (hb hbytes d54) (by decide) ?_
          exact Steps.refl _)
        exact ⟨T18, some (.int 0), _, _, _, X18, rfl, rfl, rfl, (fun h => by cases h), ⟨0, rfl, q18.trans hh16, Or.inr ⟨rfl, fun q => he (iff.mpr q)⟩⟩, fun fs hl => c19.trans (X18.ireturnOut hexec hret rfl (Or.inr (Or.inl rfl)) (hb hbytes d55) hl)⟩
    · have c13 : Steps p.tables e below (s₁.setTop (entryFrame m #[.ref x, .ref y] 3)) (T11.setTop (mkF m 55 #[.val (.ref x), .val (.ref y), .val (.ref y)] [.int 0])) := c12.trans (by
        refine XS.icmpYes X11.here hexec rfl (pc0 := 33) rfl (hb hbytes d33) rfl (ii_ne_t hcd) (by decide) rfl ?_
        refine iconstV X11.here hexec rfl 0 (hb hbytes d54) (by decide) ?_
        exact Steps.refl _)
      exact ⟨T11, some (.int 0), _, _, _, X11, rfl, rfl, rfl, (fun h => by cases h), ⟨0, rfl, hh11, Or.inr ⟨rfl, Cod.dif hx.2.2.2.2.1 hy.2.2.2.2.1 hcd⟩⟩, fun fs hl => c13.trans (X11.ireturnOut hexec hret rfl (Or.inr (Or.inl rfl)) (hb hbytes d55) hl)⟩
theorem pays {l : Launch} {R : Room} {p : Program} {e : Env} {below : List Frame} {s : State} {sargs : Array Value} {len W : Nat} (x t : Addr) (V : Cell) (cd : Int32) (n : Nat) (f : Nat → Int32) (y t' : Addr) (V' : Cell) (cd' : Int32) (k : Nat) (g : Nat → Int32) (z : Int32) (htab : tab.before sargs s = true) (hfr : 2 ≤ R.frames) (hlo : W + 28 ≤ R.locals) :
    Back l R p e below s sargs yN len W (fun A₁ a₁ => A₁.cells + 0 ≤ R.cells ∧ A₁.slots + 0 ≤ R.slots ∧ P x t V cd n f y t' V' cd' k g z a₁ A₁.U) (fun A₁ _ v₁ B₁ => Says01 (SameT n f k g) v₁ A₁.U B₁.U ∧ B₁.locs = A₁.locs ++ [] ∧ B₁.cells = A₁.cells + 0 ∧ B₁.slots = A₁.slots + 0) :=
  (law l x t V cd n f y t' V' cd' k g z).pays htab hfr (by omega)
end SEq
end StrChars
namespace StrChars.Road
open Jvm Sem ClassFile Op Lib Jvm.Stand Jvm.Free Jvm.Free.XT
open Jvm.Lib.Cold (StaticIs)
/-- the words of String.equals(Object) -/
abbrev wordsEq : List Jvm.Cond := [.code SEq.yN SEq.yB 3 (some .boolean), .initialized ST, .classLink ST 10 ST, .fieldLink ST 38 ST "COMPACT_STRINGS" "Z", .fieldLink ST 15 ST "coder" "B", .fieldLink ST 9 ST "value" "[B", .methodLink ST 541 LEq.yN, .static LEq.yN, .code LEq.yN LEq.yB 3 (some .boolean), .initialized "java/lang/StringLatin1"]
theorem tabEq_of {a : Array Value} {s : State} (h : ∀ w ∈ wordsEq, w.before a s = true) : SEq.tab.before a s = true := by
  have hl : LEq.tab.before a s = true := unparts (wk h (.code LEq.yN LEq.yB 3 (some .boolean))) (wks h (.initialized LEq.yN.cls :: LEq.site))
  have q := consq hl h
  exact unparts (wk q (.code SEq.yN SEq.yB 3 (some .boolean))) (wks q (.initialized SEq.yN.cls :: SEq.site))
theorem movedEq {Z s : State} {a0 args : Array Value} (hZ : Z.Warmed39 s.vm) (hw : ∀ d ∈ wordsEq, d.before a0 Z = true) : ∀ d ∈ wordsEq, d.before args s = true := fun d hd => by
  have t : ∀ d ∈ wordsEq, (d.onTables && d.keepsFace) = true := by decide +kernel
  exact RoadKit.mv hZ (hw d hd) (t d hd)
/-- the road's facts of a String, as the laws ask it -/
theorem txt_of {Z U : State} {a0 : Array Value} {kI : Nat} (wi : (Jvm.Cond.instantiable ST kI).before a0 Z = true) (al : Z.vm.Alike U.vm) {x t : Addr} {kb : ClassId} {cs : List Int32} {cd N2 : Int32} {vs : List Value} (E : RoadKit.Exa Z U.heap x ST) (V : RoadKit.Fld Z U.heap x ST "value" "[B" (.ref t)) (C : RoadKit.Fld Z U.heap x ST "coder" "B" (.int cd)) (K : RoadKit.Arv Z U.heap t kb .byte N2 vs (.int 0)) (hc : CodA cs cd N2 vs) (hb : ∀ c ∈ cs, ¬ c < 0 ∧ ¬ (65535 : Int32) < c) (l2 : cs.length ≤ 4000) :
    ∃ A, Txt x t A cd cs.length (fun j => cs.getD j 0) U := by
  obtain ⟨A, K1, K2, K3, K4, K5, K6⟩ := K
  have hcod := hc.cod (by omega) K3 K5
  obtain ⟨D, fV, fC, hB, F1, F2, g1, g2, -, -⟩ := strObj wi al E V C
  exact ⟨A, ⟨_, hB.2.2.1, D, hB.1, rfl, by cases q : D.vm <;> first | rfl | exact absurd q (hB.2.1.2 _)⟩, Has.of hB F1 g1, Has.of hB F2 g2, ⟨K1.1, State.isArrayOf_alike al K1.2.1, K1.2.2, by rcases hcod with ⟨-, q, -⟩ | ⟨-, q, -⟩ <;> omega⟩, hcod, fun j hj => by
    have e : cs.getD j 0 = cs[j] := by simp [List.getD_eq_getElem?_getD, hj]
    show ¬ cs.getD j 0 < 0 ∧ ¬ 65535 < cs.getD j 0
    rw [e]; exact hb _ (List.getElem_mem _)⟩
theorem same_list (cs ds : List Int32) : SameT cs.length (fun j => cs.getD j 0) ds.length (fun j => ds.getD j 0) ↔ cs = ds := by
  constructor
  · rintro ⟨e, q⟩
    refine List.ext_getElem e fun j h1 h2 => ?_
    have := q j h1
    simpa [List.getD_eq_getElem?_getD, h1, h2] using this
  · rintro rfl
    exact ⟨rfl, fun _ _ => rfl⟩
/-- **equals(Object) OF TWO SUCH STRINGS**: 1 just where the chars are the same -/
theorem eqW {p : Program} {l : Launch} {e : Env} {R : Room} {s : State} {args : Array Value} {below : List Frame} {len W : Nat} {Z : State} {a0 : Array Value} {h : Heap} (hZ : Z.Warmed39 s.vm) (hw : ∀ d ∈ wordsEq, d.before a0 Z = true) {kI : Nat} (wi : (Jvm.Cond.instantiable ST kI).before a0 Z = true)
    {x t : Addr} {kb : ClassId} {cs : List Int32} {cd N2 : Int32} {vs : List Value} (E : RoadKit.Exa Z h x ST) (V : RoadKit.Fld Z h x ST "value" "[B" (.ref t)) (C : RoadKit.Fld Z h x ST "coder" "B" (.int cd)) (K : RoadKit.Arv Z h t kb .byte N2 vs (.int 0)) (hc : CodA cs cd N2 vs) (hb : ∀ c ∈ cs, ¬ c < 0 ∧ ¬ (65535 : Int32) < c) (l2 : cs.length ≤ 4000)
    {y t' : Addr} {kb' : ClassId} {ds : List Int32} {cd' N2' : Int32} {vs' : List Value} (E' : RoadKit.Exa Z h y ST) (V' : RoadKit.Fld Z h y ST "value" "[B" (.ref t')) (C' : RoadKit.Fld Z h y ST "coder" "B" (.int cd')) (K' : RoadKit.Arv Z h t' kb' .byte N2' vs' (.int 0)) (hc' : CodA ds cd' N2' vs') (hb' : ∀ c ∈ ds, ¬ c < 0 ∧ ¬ (65535 : Int32) < c) (l2' : ds.length ≤ 4000)
    {z : Int32} (S : RoadKit.Sta Z h ST "COMPACT_STRINGS" "Z" (.int z)) (hz : ¬ z = 0) (hfr : 2 ≤ R.frames) (hlo : W + 28 ≤ R.locals) :
    Back l R p e below s args (⟨"java/lang/String", "equals", "(Ljava/lang/Object;)Z"⟩ : MethodName) len W (fun P a => a = #[.ref x, .ref y] ∧ P.U.heap = h ∧ P.cells + 0 ≤ R.cells ∧ P.slots + 0 ≤ R.slots)
      (fun P _ v B => ∃ L, (((v = some (.int 1) ∧ cs = ds) ∨ (v = some (.int 0) ∧ ¬ cs = ds)) ∧ L = [] ∧ B.U.heap = h) ∧ B.locs = P.locs ++ L ∧ B.cells = P.cells + 0 ∧ B.slots = P.slots + 0) := by
  intro m meth c P g ig mk a X hg hsize hdg hW hn hp'
  obtain ⟨rfl, rfl, r1, r2⟩ := hp'
  have al : Z.vm.Alike P.U.vm := hZ.alike.trans X.warmed.alike
  obtain ⟨A, hx⟩ := txt_of wi al E V C K hc hb l2
  obtain ⟨A', hy⟩ := txt_of wi al E' V' C' K' hc' hb' l2'
  obtain ⟨v, B, X', ⟨⟨w, hv, hh, hq⟩, hl, hk, hs⟩, st⟩ := SEq.pays x t A cd cs.length (fun j => cs.getD j 0) y t' A' cd' ds.length (fun j => ds.getD j 0) z (tabEq_of (movedEq hZ hw)) hfr hlo m meth c P g ig mk _ X hg hsize hdg hW hn ⟨r1, r2, rfl, hx, hy, sta_is al S, hz⟩
  refine ⟨v, B, X', ⟨[], ⟨?_, rfl, hh⟩, hl, hk, hs⟩, st⟩
  rcases hq with ⟨rfl, q⟩ | ⟨rfl, q⟩
  · exact Or.inl ⟨hv, (same_list cs ds).mp q⟩
  · exact Or.inr ⟨hv, fun e => q ((same_list cs ds).mpr e)⟩
end StrChars.Road
namespace StrChars.Road
open Jvm Sem ClassFile Op Lib Jvm.Stand Jvm.Free Jvm.Free.XT
open Jvm.Lib.Cold (StaticIs)
/-- what backV says of its String, as the contracts of this text ask it: cs's low bytes, coder 0 -/
theorem codOf {cs : List Int32} {n : Nat} (hn : cs.length = n) (hb : ∀ c ∈ cs, ¬ 255 < c) : CodA cs 0 (Int32.ofNat n) ((cs.map lo8).map Value.int) := Or.inl ⟨rfl, by rw [hn], by simp [List.map_map, Function.comp_def], hb⟩
end StrChars.Road
end Jvm.Pilot.@@N@@
namespace Jvm.Pilot.@@N@@
open Jvm Jvm.ClassFile Sem Op Lib Jvm.Free Jvm.Stand Jvm.LawKit Jvm.RoadKit Bundle Jvm.Pilot.@@N@@.Jvm.D
abbrev Met (l : Launch) (Z : State) (ws : List Jvm.Cond) (y : MethodName) (code : ByteArray) (ml : Nat) (ret : Option FieldType) (R : Room) (h0 : Heap) (as_ : Array Value) (Q : Option Value → Heap → List Loc → Prop) : Prop := MetFree l y (head1 (Jvm.Cond.code y code ml ret :: ws) R) (fun a U => a = as_ ∧ Z.Warmed39 U.vm ∧ U.heap = h0) (fun _ _ _ _ _ => True) (fun _ U o U' => ∃ vr_ Lr_, o = .returned vr_ ∧ Q vr_ U'.heap Lr_ ∧ FrameEnd U o U' Lr_ R.cells R.slots)
abbrev HW (a0 : Array Value) (Z : State) : Prop := ∀ d ∈ tables_1, d.before a0 Z = true
theorem wt {Z : State} {a0 : Array Value} (hw : ∀ d ∈ tables_1, d.before a0 Z = true) (i : Nat) {d : Jvm.Cond} (h : tables_1[i]? = some d) : d.before a0 Z = true := hw d (List.mem_of_getElem? h)
set_option maxRecDepth 65536
set_option maxHeartbeats 40000000
/-- a String of known chars, Latin-1, at a -/
abbrev c0_ : ByteArray := jdk_42_method_149_code
abbrev c1_ : ByteArray := jdk_42_method_3_code
abbrev c2_ : ByteArray := jdk_52_method_5_code
abbrev c3_ : ByteArray := jdk_52_method_4_code
abbrev c4_ : ByteArray := jdk_52_method_3_code
abbrev c5_ : ByteArray := jdk_52_method_2_code
abbrev c6_ : ByteArray := jdk_52_method_14_code
abbrev c7_ : ByteArray := jdk_52_method_21_code
abbrev c8_ : ByteArray := jdk_52_method_16_code
abbrev c9_ : ByteArray := jdk_52_method_15_code
abbrev c10_ : ByteArray := jdk_52_method_6_code
abbrev c11_ : ByteArray := jdk_41_method_13_code
abbrev c12_ : ByteArray := jdk_42_method_157_code
abbrev c13_ : ByteArray := jdk_52_method_94_code
abbrev c14_ : ByteArray := jdk_52_method_22_code
abbrev c15_ : ByteArray := jdk_65_method_131_code
abbrev c16_ : ByteArray := jdk_29_method_69_code
abbrev c17_ : ByteArray := jdk_29_method_65_code
abbrev c18_ : ByteArray := jdk_65_method_133_code
abbrev c19_ : ByteArray := jdk_65_method_132_code
abbrev c20_ : ByteArray := jdk_42_method_151_code
abbrev c21_ : ByteArray := jdk_43_method_47_code
abbrev c22_ : ByteArray := jdk_52_method_17_code
abbrev c23_ : ByteArray := jdk_52_method_69_code
abbrev c24_ : ByteArray := jdk_41_method_12_code
abbrev c25_ : ByteArray := jdk_42_method_158_code
abbrev c26_ : ByteArray := jdk_42_method_154_code
abbrev c27_ : ByteArray := jdk_42_method_92_code
abbrev c28_ : ByteArray := jdk_68_method_2_code
abbrev c29_ : ByteArray := jdk_67_method_1_code
abbrev c30_ : ByteArray := jdk_65_method_121_code
abbrev c31_ : ByteArray := jdk_48_method_27_code
abbrev c32_ : ByteArray := jdk_68_method_10_code
abbrev c33_ : ByteArray := jdk_68_method_9_code
abbrev c34_ : ByteArray := jdk_42_method_152_code
abbrev c35_ : ByteArray := jdk_52_method_86_code
abbrev c36_ : ByteArray := jdk_43_method_50_code
abbrev c37_ : ByteArray := jdk_68_method_68_code
abbrev c38_ : ByteArray := jdk_68_method_11_code
abbrev c39_ : ByteArray := jdk_68_method_71_code
abbrev c40_ : ByteArray := jdk_42_method_147_code
abbrev c41_ : ByteArray := jdk_68_method_73_code
abbrev c42_ : ByteArray := jdk_68_method_22_code
abbrev c43_ : ByteArray := jdk_67_method_7_code
abbrev c44_ : ByteArray := jdk_68_method_64_code
abbrev c45_ : ByteArray := jdk_68_method_6_code
abbrev c46_ : ByteArray := jdk_67_method_93_code
abbrev c47_ : ByteArray := jdk_42_method_150_code
abbrev c48_ : ByteArray := jdk_42_method_53_code
abbrev c49_ : ByteArray := jdk_67_method_42_code
abbrev c50_ : ByteArray := prog_12_method_2_code
abbrev m0_ : MethodName := ⟨"java/lang/String", "<init>", "([CIILjava/lang/Void;)V"⟩
abbrev m1_ : MethodName := ⟨"java/lang/String", "<init>", "([C)V"⟩
abbrev m2_ : MethodName := ⟨"java/lang/StringUTF16", "getChar", "([BI)C"⟩
abbrev m3_ : MethodName := ⟨"java/lang/StringUTF16", "putChar", "([BII)V"⟩
abbrev m4_ : MethodName := ⟨"java/lang/StringUTF16", "newBytesLength", "(I)I"⟩
abbrev m5_ : MethodName := ⟨"java/lang/StringUTF16", "newBytesFor", "(I)[B"⟩
abbrev m6_ : MethodName := ⟨"java/lang/StringUTF16", "toBytes", "([CII)[B"⟩
abbrev m7_ : MethodName := ⟨"java/lang/StringUTF16", "compress", "([CI[BII)I"⟩
abbrev m8_ : MethodName := ⟨"java/lang/StringUTF16", "compress", "([CII)[B"⟩
abbrev m9_ : MethodName := ⟨"java/lang/StringUTF16", "coderFromArrayLen", "([BI)B"⟩
abbrev m10_ : MethodName := ⟨"java/lang/StringUTF16", "length", "([B)I"⟩
abbrev m11_ : MethodName := ⟨"jdk/internal/util/Preconditions", "checkFromIndexSize", "(IIILjava/util/function/BiFunction;)I"⟩
abbrev m12_ : MethodName := ⟨"java/lang/String", "checkBoundsOffCount", "(III)I"⟩
abbrev m13_ : MethodName := ⟨"java/lang/StringUTF16", "checkBoundsOffCount", "(II[B)V"⟩
abbrev m14_ : MethodName := ⟨"java/lang/StringUTF16", "compress", "([BI[BII)I"⟩
abbrev m15_ : MethodName := ⟨"java/util/Arrays", "checkLength", "(II)V"⟩
abbrev m16_ : MethodName := ⟨"java/lang/Math", "min", "(II)I"⟩
abbrev m17_ : MethodName := ⟨"java/lang/Math", "max", "(II)I"⟩
abbrev m18_ : MethodName := ⟨"java/util/Arrays", "copyOfRangeByte", "([BII)[B"⟩
abbrev m19_ : MethodName := ⟨"java/util/Arrays", "copyOfRange", "([BII)[B"⟩
abbrev m20_ : MethodName := ⟨"java/lang/String", "<init>", "([BB)V"⟩
abbrev m21_ : MethodName := ⟨"java/lang/StringLatin1", "newString", "([BII)Ljava/lang/String;"⟩
abbrev m22_ : MethodName := ⟨"java/lang/StringUTF16", "compress", "([BII)[B"⟩
abbrev m23_ : MethodName := ⟨"java/lang/StringUTF16", "newString", "([BII)Ljava/lang/String;"⟩
abbrev m24_ : MethodName := ⟨"jdk/internal/util/Preconditions", "checkFromToIndex", "(IIILjava/util/function/BiFunction;)I"⟩
abbrev m25_ : MethodName := ⟨"java/lang/String", "checkBoundsBeginEnd", "(III)V"⟩
abbrev m26_ : MethodName := ⟨"java/lang/String", "isLatin1", "()Z"⟩
abbrev m27_ : MethodName := ⟨"java/lang/String", "substring", "(II)Ljava/lang/String;"⟩
abbrev m28_ : MethodName := ⟨"java/lang/String", "length", "()I"⟩
abbrev m29_ : MethodName := ⟨"java/lang/AbstractStringBuilder", "<init>", "(I)V"⟩
abbrev m30_ : MethodName := ⟨"java/lang/StringBuilder", "<init>", "()V"⟩
abbrev m31_ : MethodName := ⟨"java/util/Arrays", "copyOf", "([BI)[B"⟩
abbrev m32_ : MethodName := ⟨"jdk/internal/util/ArraysSupport", "newLength", "(III)I"⟩
abbrev m33_ : MethodName := ⟨"java/lang/AbstractStringBuilder", "newCapacity", "(I)I"⟩
abbrev m34_ : MethodName := ⟨"java/lang/AbstractStringBuilder", "ensureCapacityInternal", "(I)V"⟩
abbrev m35_ : MethodName := ⟨"java/lang/String", "coder", "()B"⟩
abbrev m36_ : MethodName := ⟨"java/lang/StringUTF16", "inflate", "([BI[BII)V"⟩
abbrev m37_ : MethodName := ⟨"java/lang/StringLatin1", "inflate", "([BI[BII)V"⟩
abbrev m38_ : MethodName := ⟨"java/lang/AbstractStringBuilder", "isLatin1", "()Z"⟩
abbrev m39_ : MethodName := ⟨"java/lang/AbstractStringBuilder", "inflate", "()V"⟩
abbrev m40_ : MethodName := ⟨"java/lang/AbstractStringBuilder", "inflateIfNeededFor", "(Ljava/lang/String;)V"⟩
abbrev m41_ : MethodName := ⟨"java/lang/String", "getBytes", "([BIB)V"⟩
abbrev m42_ : MethodName := ⟨"java/lang/AbstractStringBuilder", "putStringAt", "(ILjava/lang/String;)V"⟩
abbrev m43_ : MethodName := ⟨"java/lang/AbstractStringBuilder", "append", "(Ljava/lang/String;)Ljava/lang/AbstractStringBuilder;"⟩
abbrev m44_ : MethodName := ⟨"java/lang/StringBuilder", "append", "(Ljava/lang/String;)Ljava/lang/StringBuilder;"⟩
abbrev m45_ : MethodName := ⟨"java/lang/AbstractStringBuilder", "getValue", "()[B"⟩
abbrev m46_ : MethodName := ⟨"java/lang/AbstractStringBuilder", "length", "()I"⟩
abbrev m47_ : MethodName := ⟨"java/lang/StringBuilder", "length", "()I"⟩
abbrev m48_ : MethodName := ⟨"java/lang/String", "<init>", "(Ljava/lang/AbstractStringBuilder;Ljava/lang/Void;)V"⟩
abbrev m49_ : MethodName := ⟨"java/lang/String", "<init>", "(Ljava/lang/StringBuilder;)V"⟩
abbrev m50_ : MethodName := ⟨"java/lang/StringBuilder", "toString", "()Ljava/lang/String;"⟩
abbrev m51_ : MethodName := ⟨"com/example/atomicity/atomicity/Text", "abbreviate", "(Ljava/lang/String;)Ljava/lang/String;"⟩
abbrev m52_ : MethodName := ⟨"java/lang/String", "equals", "(Ljava/lang/Object;)Z"⟩
def StrV (Z : State) (h : Heap) (a : Addr) (cs : List Int32) : Prop := ∃ (b : Addr) (kb : ClassId) (N : Int32) (vs : List Value), Exa Z h a "java/lang/String" ∧ Fld Z h a "java/lang/String" "value" "[B" (.ref b) ∧ Fld Z h a "java/lang/String" "coder" "B" (.int 0) ∧ Arv Z h b kb .byte N vs (.int 0) ∧ StrChars.Road.CodA cs 0 N vs ∧ (∀ c ∈ cs, ¬ c < 0 ∧ ¬ (65535 : Int32) < c)
theorem StrV.exa {Z : State} {h : Heap} {a : Addr} {cs : List Int32} (S : StrV Z h a cs) : Exa Z h a "java/lang/String" := by obtain ⟨_, _, _, _, e, -⟩ := S; exact e
theorem StrV.lt {Z : State} {h : Heap} {a : Addr} {cs : List Int32} (S : StrV Z h a cs) : a < h.size := S.exa.lt
theorem StrV.ext {Z : State} {h h' : Heap} {a : Addr} {cs : List Int32} (S : StrV Z h a cs) (E : Ext h h') : StrV Z h' a cs := by
  obtain ⟨b, kb, N, vs, e, f, c, v, q⟩ := S
  exact ⟨b, kb, N, vs, e.ext E, f.ext E, c.ext E, v.ext E, q⟩
theorem StrV.keep0 {Z : State} {h h' : Heap} {a : Addr} {cs : List Int32} (S : StrV Z h a cs) (K : Keep h h' []) : StrV Z h' a cs := by
  obtain ⟨b, kb, N, vs, e, f, c, v, q⟩ := S
  exact ⟨b, kb, N, vs, e.keep K, f.keep K nin0, c.keep K nin0, v.keep K nin0, q⟩
/-- neither a String nor an array -/
def NStr (Z : State) (h : Heap) (x : Addr) : Prop := ∃ (C : String) (n : Nat) (a0 : Array Value), Exa Z h x C ∧ C ≠ "java/lang/String" ∧ (Jvm.Cond.instantiable C n).before a0 Z = true
theorem NStr.of {Z : State} {h : Heap} {x : Addr} {C : String} {n : Nat} {a0 : Array Value} (E : Exa Z h x C) (w : (Jvm.Cond.instantiable C n).before a0 Z = true) (q : C ≠ "java/lang/String") : NStr Z h x := ⟨C, n, a0, E, q, w⟩
theorem StrV.keepN {Z : State} {h h' : Heap} {a : Addr} {cs : List Int32} {ws : List Addr} (S : StrV Z h a cs) (K : Keep h h' ws) (hs : ∀ x ∈ ws, NStr Z h x) : StrV Z h' a cs := by
  obtain ⟨b, kb, N, vs, e, f, c, v, q⟩ := S
  have ha : a ∉ ws := fun m => by
    obtain ⟨C, n, a0, E, hne, w⟩ := hs a m
    exact Exa.ne E e hne rfl
  have hb : b ∉ ws := fun m => by
    obtain ⟨C, n, a0, E, hne, w⟩ := hs b m
    exact Exa.neArv E v w rfl
  exact ⟨b, kb, N, vs, e.keep K, f.keep K ha, c.keep K ha, v.keep K hb, q⟩
theorem own_keep {h h' : Heap} (e : h' = h) (ws : List Addr) : Keep h h' ws := by rw [e]; exact Keep.refl _ _
def own_c (x : Int32) : Int32 := ((x &&& (255 : Int32)).toUInt32.toUInt16.toUInt32.toInt32)
def own_k (x : Int32) : Int32 := nar .char (own_c x)
theorem own_k_lat (x : Int32) : ¬ own_k x < 0 ∧ ¬ (255 : Int32) < own_k x := by
  have t : ∀ k : Fin 256, ¬ nar .char ((Int32.ofNat k.val).toUInt32.toUInt16.toUInt32.toInt32) < 0 ∧ ¬ (255 : Int32) < nar .char ((Int32.ofNat k.val).toUInt32.toUInt16.toUInt32.toInt32) := by decide +kernel
  have h : (x &&& 255).toBitVec.toNat < 256 := by
    simp only [Int32.toBitVec_and, BitVec.toNat_and]
    exact Nat.lt_succ_of_le Nat.and_le_right
  have e : (x &&& 255) = Int32.ofNat (x &&& 255).toBitVec.toNat := by
    apply Int32.toBitVec_inj.mp
    show _ = BitVec.ofNat 32 _
    rw [BitVec.ofNat_toNat]; simp
  show ¬ nar .char ((x &&& (255 : Int32)).toUInt32.toUInt16.toUInt32.toInt32) < 0 ∧ ¬ (255 : Int32) < nar .char ((x &&& (255 : Int32)).toUInt32.toUInt16.toUInt32.toInt32)
  rw [e]
  exact t ⟨_, h⟩
theorem own_up (cs : List Int32) (h : ∀ c ∈ cs, ¬ c < 0 ∧ ¬ (255 : Int32) < c) : ∀ c ∈ cs, ¬ c < 0 ∧ ¬ (65535 : Int32) < c := fun c hc => ⟨(h c hc).1, fun q => (h c hc).2 (by rw [Int32.lt_iff_toInt_lt] at q ⊢; have e1 : (65535 : Int32).toInt = 65535 := rfl; have e2 : (255 : Int32).toInt = 255 := rfl; omega)⟩
/-- out of what backV answers -/
theorem own_mkStr {Z : State} {h : Heap} {a t : Addr} {kb : ClassId} {cs : List Int32} {n : Nat} (hn : cs.length = n) (hp : ∀ c ∈ cs, ¬ c < 0 ∧ ¬ (255 : Int32) < c) (E : Exa Z h a "java/lang/String") (C : Fld Z h a "java/lang/String" "coder" "B" (.int 0)) (V : Fld Z h a "java/lang/String" "value" "[B" (.ref t)) (A : Arv Z h t kb .byte (Int32.ofNat n) ((cs.map (fun c => c.toInt8.toInt32)).map Value.int) (.int 0)) : StrV Z h a cs :=
  ⟨t, kb, Int32.ofNat n, _, E, V, C, A, StrChars.Road.codOf hn (fun c hc => (hp c hc).2), own_up cs hp⟩
def own_EL : List (String × Nat) := [("com/example/atomicity/atomicity/Text", 26), ("java/lang/String", 7)]
theorem own_wS {Z : State} {a0 : Array Value} (hw : ∀ d ∈ tables_1, d.before a0 Z = true) : ∀ a ∈ Bundle.stringAtoms, a.before a0 Z = true := fun d hd => hw d ((by decide +kernel : ∀ d ∈ Bundle.stringAtoms, d ∈ tables_1) d hd)
theorem own_safeV {Z : State} {EL : List (String × Nat)} {vm : Vm} {h : Heap} {x : Addr} {k : ClassId} {ty : FieldType} {z : Int32} {vs : List Value} {dv : Value} (hal : Z.vm.Alike vm) (A : Arv Z h x k ty z vs dv) (ht : ty ≠ .byte) : Safe Z EL vm h x := by obtain ⟨c, B, -⟩ := A; exact Safe.arr hal B ht
/-- a call of a callee that may intern and that writes the object x -/
theorem own_backSHs {l : Launch} {p : Program} {e : Env} {R : Room} {s : State} {args : Array Value} {below : List Frame} {Z : State} {a0 : Array Value} {EL : List (String × Nat)} {h : Heap} {vm0 : Vm} {y : MethodName} {bytes : ByteArray} {maxL : Nat} {ret : Option FieldType} {rm : Room} {len W : Nat} {as' : Array Value} {Q : Option Value → Heap → List Loc → Prop} {x : Addr}
    (hM : MetFree l y (head1 [Jvm.Cond.code y bytes maxL ret] rm) (fun a U => a = as' ∧ Z.Warmed39 U.vm ∧ U.heap = h ∧ CHv Z EL U.vm h ∧ Safe Z EL U.vm h x) (fun _ _ _ _ _ => True) (fun _ U o U' => ∃ v L, o = .returned v ∧ Q v U'.heap L ∧ CHr Z EL U.vm U.heap U'.vm U'.heap ∧ ReturnedEndW U o U' L rm.cells rm.slots))
    (hZ : Z.Warmed39 vm0) (wc : (Jvm.Cond.code y bytes maxL ret).before a0 Z = true) (wz : (Jvm.Cond.initialized y.cls).before a0 Z = true) (hf : rm.frames + 1 ≤ R.frames) (hl : W + (maxL + 11) + rm.locals ≤ R.locals) (hEL : EW Z a0 EL) (H : CHv Z EL vm0 h) (hlt : x < h.size) (Sx : Safe Z EL vm0 h x) :
    BackS l R p e below (s.setVm vm0) args y len W (fun A a => a = as' ∧ A.U.heap = h ∧ A.cells + rm.cells ≤ R.cells ∧ A.slots + rm.slots ≤ R.slots)
      (fun A _ v B => ∃ L, Q v B.U.heap L ∧ B.locs = A.locs ++ L ∧ B.cells = A.cells + rm.cells ∧ B.slots = A.slots + rm.slots ∧ CHr Z EL vm0 h B.U.vm B.U.heap) := by
  refine BackS.of_freeW (bytes := bytes) (maxL := maxL) (ret := ret) (E := fun _ first o t L k n => k = rm.cells ∧ n = rm.slots ∧ (∃ v, o = .returned v ∧ Q v t.heap L) ∧ CHr Z EL first.vm first.heap t.vm t.heap) hM hf hl ?_ ?_ (fun _ _ _ _ _ _ _ _ _ => trivial) ?_ ?_
  · intro m meth c A a Y hp
    have hU : Z.Warmed39 A.U.vm := wtrans (s := s.setVm vm0) hZ Y.warmed
    refine ⟨?_, mv hU wc, mv hU wz, hp.2.2.1, hp.2.2.2⟩
    show (Jvm.Cond.and _ .tt).before a A.U = true
    rw [Cond.before_and, mv hU wc]; rfl
  · intro m meth c A a g mk Y hp
    have C := CHv.at Y hZ hEL H
    exact ⟨hp.1, wtrans (s := s.setVm vm0) hZ Y.warmed, hp.2.1, C.1, C.safe hlt Sx⟩
  · rintro _ _ _ _ ⟨v, L, h1, h2, h3, h4⟩
    exact ⟨L, _, _, h4, rfl, rfl, ⟨v, h1, h2⟩, h3⟩
  · rintro m meth c A a g mk v t L k n Y hp _ _ ⟨e1, e2, ⟨v', e3, e4⟩, e5⟩
    cases e3; subst e1 e2
    refine ⟨L, e4, rfl, rfl, rfl, (CHv.at Y hZ hEL H).trans ?_⟩
    rw [← hp.2.1]; exact e5
def QE (Z : State) (a1 : Addr) (h0 : Heap) (n0 : Nat) (v : Option Value) (h : Heap) (L : List Loc) : Prop := v = none ∧ Fr n0 L ∧ Keep h0 h [a1] ∧ StrV Z h a1 []
theorem own_hlen {Z : State} {a0 : Array Value} (hw : ∀ d ∈ tables_1, d.before a0 Z = true) : ∀ d ∈ StrChars.Road.wordsLen, d.before a0 Z = true := fun d hd => hw d ((by decide +kernel : ∀ d ∈ StrChars.Road.wordsLen, d ∈ tables_1) d hd)
theorem own_heq {Z : State} {a0 : Array Value} (hw : ∀ d ∈ tables_1, d.before a0 Z = true) : ∀ d ∈ StrChars.Road.wordsEq, d.before a0 Z = true := fun d hd => hw d ((by decide +kernel : ∀ d ∈ StrChars.Road.wordsEq, d ∈ tables_1) d hd)
theorem k0_0 : decode c0_ 0 = .ok (.aload_n 0, 1) := by decide +kernel
theorem k0_1 : decode c0_ 1 = .ok (.invokespecial 1, 3) := by decide +kernel
theorem k0_4 : decode c0_ 4 = .ok (.iload_n 3, 1) := by decide +kernel
theorem k0_5 : decode c0_ 5 = .ok (.ifCond .ne 22, 3) := by decide +kernel
theorem k0_8 : decode c0_ 8 = .ok (.aload_n 0, 1) := by decide +kernel
theorem k0_9 : decode c0_ 9 = .ok (.ldc 7, 2) := by decide +kernel
theorem k0_11 : decode c0_ 11 = .ok (.getfield 9, 3) := by decide +kernel
theorem k0_14 : decode c0_ 14 = .ok (.putfield 9, 3) := by decide +kernel
theorem k0_17 : decode c0_ 17 = .ok (.aload_n 0, 1) := by decide +kernel
theorem k0_18 : decode c0_ 18 = .ok (.ldc 7, 2) := by decide +kernel
theorem k0_20 : decode c0_ 20 = .ok (.getfield 15, 3) := by decide +kernel
theorem k0_23 : decode c0_ 23 = .ok (.putfield 15, 3) := by decide +kernel
theorem k0_26 : decode c0_ 26 = .ok (.return_, 1) := by decide +kernel
theorem own_lit_empty : (∀ c ∈ ("" : String).toList, c.toNat < 256) ∧ ("" : String).toList.map (fun c => Value.int (Jvm.Lit.byteI c.toNat.toUInt16)) = [] := by decide +kernel
theorem pn0_ : plainName "java/lang/String" = true := by first | (simp [plainName, overriddenIn]; done) | decide +kernel
theorem ef0_ (m : MethodId) (x0 : Addr) (x1 : Addr) (x2 : Int32) (x3 : Int32) : entryFrame m #[(.ref x0), (.ref x1), (.int x2), (.int x3), .null] 6 = mkF m 0 #[.val (.ref x0), .val (.ref x1), .val (.int x2), .val (.int x3), .val .null, .unset] [] := by first | (simp [entryFrame, mkF, argsToLocals, Value.category]; done) | rfl
theorem rmE4 (l : Launch) (Z : State) (a0 : Array Value) (hw : HW a0 Z) (ws : List Jvm.Cond) (hEL : EW Z a0 own_EL) (a1 a2 : Addr) (uv uc : Value) (h0 : Heap) (n0 : Nat) (Z0 : n0 ≤ h0.size) (E_a1 : Exa Z h0 a1 "java/lang/String") (F_value_a1 : Fld Z h0 a1 "java/lang/String" "value" "[B" uv) (F_coder_a1 : Fld Z h0 a1 "java/lang/String" "coder" "B" uc) (g_a1 : n0 ≤ a1) :
    MetFree l m0_ (head1 (Jvm.Cond.code m0_ jdk_42_method_149_code 6 none :: ws) ({ frames := 1, cells := 2, slots := 4, locals := 12 } : Room)) (fun a U => a = #[(.ref a1), (.ref a2), (.int (0 : Int32)), (.int (0 : Int32)), .null] ∧ Z.Warmed39 U.vm ∧ U.heap = h0 ∧ CHv Z own_EL U.vm h0 ∧ Safe Z own_EL U.vm h0 a1) (fun _ _ _ _ _ => True) (fun _ U o U' => ∃ vr_ Lr_, o = .returned vr_ ∧ QE Z a1 h0 n0 vr_ U'.heap Lr_ ∧ CHr Z own_EL U.vm U.heap U'.vm U'.heap ∧ ReturnedEndW U o U' Lr_ 2 4) := by
  refine MetFree.of_bodySF (plainFor_of_name pn0_) hisR ?_
  intro p e s m args below meth c s₁ Bd hml0 hP hK
  obtain ⟨rfl, hZ, hh, hCH0, Sf_a1⟩ := hP
  have hx := Bd.exec
  have hby := Bd.bytes
  have hml : c.maxLocals = 6 := hml0
  have hown : s.vm.findClass "java/lang/String" = some m.cls := findClass_of_methodNamed Bd.named
  have hnm := (name_of_methodNamed Bd.named Bd.method).1
  have X0 : Stand p l e ({ frames := 1, cells := 2, slots := 4, locals := 12 } : Room) (s.setVm s.vm) m #[(.ref a1), (.ref a2), (.int (0 : Int32)), (.int (0 : Int32)), .null] below meth c s₁ [] 0 0 := Stand.of_body Bd
  have e0 : s₁.heap = h0 := by rw [← hh, Bd.state]; rfl
  have N0 := Fr.nil n0
  have CH0 : CHr Z own_EL s.vm h0 s.vm h0 := CHr.refl hCH0
  have hS0 : s.Since s.vm 0 := State.WarmedH.since (State.WarmedH.refl s) 0
  have pre0 : ∀ t, Steps p.tables e below (s₁.setTop (mkF m 0 #[.val (.ref a1), .val (.ref a2), .val (.int (0 : Int32)), .val (.int (0 : Int32)), .val .null, .unset] [])) t → Steps p.tables e below (s₁.setTop (entryFrame m #[(.ref a1), (.ref a2), (.int (0 : Int32)), (.int (0 : Int32)), .null] 6)) t := fun t k => castTop (ef0_ m a1 a2 (0 : Int32) (0 : Int32)) k
  obtain ⟨T1, X1, e1, st1⟩ := initO X0 hx hZ hown (wt hw 12 rfl) (wt hw 13 rfl) (wt hw 14 rfl) e0 (g := (mkF m 1 #[.val (.ref a1), .val (.ref a2), .val (.int (0 : Int32)), .val (.int (0 : Int32)), .val .null, .unset] [(.ref a1)])) rfl (by rw [hml]; rfl) rfl (hb hby k0_1) (by decide) (W := 0) (by show 2 * 0 + _ ≤ _; exact Nat.le_of_eq rfl) (by decide)
  obtain ⟨lit2, T2, h2, kl2, lba2, kk2, X2, e2, E2, hS2, hk2, hZ2, hown2, Ea2, Fc2, Fv2, V2, la2, lb2, C2, Lt2, sf2, st2⟩ := ldcCH X1 hx hZ hown (wt hw 15 rfl) (own_wS hw) e1 hS0 (Nat.zero_le _) hEL (by decide : ("java/lang/String", 7) ∈ own_EL) CH0.1 (vs := []) (z := (0 : Int32)) own_lit_empty (by decide) (by decide) (g := (mkF m 9 #[.val (.ref a1), .val (.ref a2), .val (.int (0 : Int32)), .val (.int (0 : Int32)), .val .null, .unset] [(.ref a1)])) rfl (hb hby k0_9) (n := 0) (by decide) (by decide) (by decide) (by decide)
  have CH1 : CHr Z own_EL s.vm h0 T2.vm h2 := CH0.trans C2
  have K1 : Keep h0 h2 [a1] := (Keep.refl h0 [a1]).ext E2
  have f3 : Safe Z own_EL T2.vm h2 a1 := (C2.safe E_a1.lt Sf_a1)
  have ne2_a1 := sf2 a1 f3
  obtain ⟨T4, X4, e4, st4⟩ := getF X2 hx hZ2 hown2 (host := "") (Or.inl (wt hw 21 rfl)) Via.refl e2 Fv2 (g := (mkF m 11 #[.val (.ref a1), .val (.ref a2), .val (.int (0 : Int32)), .val (.int (0 : Int32)), .val .null, .unset] [(.ref lit2), (.ref a1)])) rfl rfl (hb hby k0_11)
  have f5 : Fld Z h2 a1 "java/lang/String" "value" "[B" uv := (F_value_a1.ext E2)
  have f6 : Exa Z h2 a1 "java/lang/String" := (E_a1.ext E2)
  obtain ⟨T7, h7, X7, e7, W7, st7⟩ := putF X4 hx hZ2 hown2 (host := "") (Or.inl (wt hw 21 rfl)) Via.refl e4 f5 f6 (Or.inr ⟨(wt hw 17 rfl), rfl, hnm⟩) (wt hw 3 rfl) (ty := (.array .byte)) (by decide) rfl rfl (g := (mkF m 14 #[.val (.ref a1), .val (.ref a2), .val (.int (0 : Int32)), .val (.int (0 : Int32)), .val .null, .unset] [(.ref lba2), (.ref a1)])) rfl rfl (hb hby k0_14)
  have Fw7 := f5.same W7
  have Nf7 := Fr.snoc X7 N0 g_a1
  have CH2 : CHr Z own_EL s.vm h0 T2.vm h7 := CH1.trans (CHr.wr W7 f3 CH1.1)
  have K2 : Keep h0 h7 [a1] := K1.wr W7 (Or.inl (List.mem_of_getElem? (i := 0) rfl))
  have f8 : Fld Z h7 lit2 "java/lang/String" "coder" "B" (.int 0) := (Fc2.other W7 (Or.inl (Ne.symm ne2_a1.1)))
  obtain ⟨T9, X9, e9, st9⟩ := getF X7 hx hZ2 hown2 (host := "") (Or.inl (wt hw 22 rfl)) Via.refl e7 f8 (g := (mkF m 20 #[.val (.ref a1), .val (.ref a2), .val (.int (0 : Int32)), .val (.int (0 : Int32)), .val .null, .unset] [(.ref lit2), (.ref a1)])) rfl rfl (hb hby k0_20)
  have f10 : Fld Z h7 a1 "java/lang/String" "coder" "B" uc := ((F_coder_a1.ext E2).other W7 (Or.inr (slot_ne (Or.inr (wt hw 18 rfl)) (Or.inr (wt hw 17 rfl)) (by decide) (t := .byte) (t' := (.array .byte)) (by decide) (by decide))))
  have f11 : Exa Z h7 a1 "java/lang/String" := (f6.wr W7)
  obtain ⟨T12, h12, X12, e12, W12, st12⟩ := putFN X9 hx hZ2 hown2 (wt hw 22 rfl) Via.refl e9 f10 f11 (Or.inr ⟨(wt hw 18 rfl), rfl, hnm⟩) (wt hw 3 rfl) (ty := .byte) (v' := (.int 0)) (by decide) rfl rfl (g := (mkF m 23 #[.val (.ref a1), .val (.ref a2), .val (.int (0 : Int32)), .val (.int (0 : Int32)), .val .null, .unset] [(.int 0), (.ref a1)])) rfl rfl (hb hby k0_23)
  have Fw12 := f10.same W12
  have Nf12 := Fr.snoc X12 Nf7 g_a1
  have f13 : Safe Z own_EL T2.vm h7 a1 := (Safe.wr W7 f3 CH1.1 f3)
  have CH3 : CHr Z own_EL s.vm h0 T2.vm h12 := CH2.trans (CHr.wr W12 f13 CH2.1)
  have K3 : Keep h0 h12 [a1] := K2.wr W12 (Or.inl (List.mem_of_getElem? (i := 0) rfl))
  have f14 : Exa Z h12 a1 "java/lang/String" := (f11.wr W12)
  have f15 : Fld Z h12 a1 "java/lang/String" "value" "[B" (.ref lba2) := (Fw7.other W12 (Or.inr (slot_ne (Or.inr (wt hw 17 rfl)) (Or.inr (wt hw 18 rfl)) (by decide) (t := (.array .byte)) (t' := .byte) (by decide) (by decide))))
  have f16 : Arv Z h12 lba2 kk2 .byte (0 : Int32) [] (.int 0) := ((V2.other W7 (Ne.symm ne2_a1.2)).other W12 (Ne.symm ne2_a1.2))
  have hk_17 := Nat.le_trans hk2 (((Keep.refl h2 [a1]).wr W7 (Or.inl (List.mem_of_getElem? (i := 0) rfl))).wr W12 (Or.inl (List.mem_of_getElem? (i := 0) rfl))).1
  obtain ⟨fs, hr, hrun, hended, hend⟩ := X12.leaveW hS2 (by rw [e12]; exact hk_17) (v := none) (fun _ => rfl)
  refine ⟨_, _, pre0 _ ?_, hrun, hended, _, _, rfl, ?_, ?_, hend.1, hend.2.1, hend.2.2.1, hend.2.2.2.mono (by decide) (by decide)⟩
  · show Steps p.tables e below (s₁.setTop (mkF m 0 #[.val (.ref a1), .val (.ref a2), .val (.int (0 : Int32)), .val (.int (0 : Int32)), .val .null, .unset] [])) _
    refine XS.aloadN X0.here hx rfl (hb hby k0_0) rfl rfl ?_
    show Steps p.tables e below (s₁.setTop (mkF m 1 #[.val (.ref a1), .val (.ref a2), .val (.int (0 : Int32)), .val (.int (0 : Int32)), .val .null, .unset] [(.ref a1)])) _
    refine st1 _ ?_
    refine XS.iloadN X1.here hx rfl (hb hby k0_4) rfl ?_
    show Steps p.tables e below (T1.setTop (mkF m 5 #[.val (.ref a1), .val (.ref a2), .val (.int (0 : Int32)), .val (.int (0 : Int32)), .val .null, .unset] [(.int (0 : Int32))])) _
    refine XS.ifNo X1.here hx rfl (hb hby k0_5) rfl ((if0 _ _).trans (teq (rfl : (0 : Int32) = (0 : Int32))).2) ?_
    refine XS.aloadN X1.here hx rfl (hb hby k0_8) rfl rfl ?_
    show Steps p.tables e below (T1.setTop (mkF m 9 #[.val (.ref a1), .val (.ref a2), .val (.int (0 : Int32)), .val (.int (0 : Int32)), .val .null, .unset] [(.ref a1)])) _
    refine st2 _ ?_
    show Steps p.tables e below (T2.setTop (mkF m 11 #[.val (.ref a1), .val (.ref a2), .val (.int (0 : Int32)), .val (.int (0 : Int32)), .val .null, .unset] [(.ref lit2), (.ref a1)])) _
    refine st4 _ ?_
    show Steps p.tables e below (T4.setTop (mkF m 14 #[.val (.ref a1), .val (.ref a2), .val (.int (0 : Int32)), .val (.int (0 : Int32)), .val .null, .unset] [(.ref lba2), (.ref a1)])) _
    refine st7 _ ?_
    refine XS.aloadN X7.here hx rfl (hb hby k0_17) rfl rfl ?_
    show Steps p.tables e below (T7.setTop (mkF m 18 #[.val (.ref a1), .val (.ref a2), .val (.int (0 : Int32)), .val (.int (0 : Int32)), .val .null, .unset] [(.ref a1)])) _
    refine ldcAgain X7 hx hZ2 hown2 (wt hw 15 rfl) Lt2 (g := (mkF m 18 #[.val (.ref a1), .val (.ref a2), .val (.int (0 : Int32)), .val (.int (0 : Int32)), .val .null, .unset] [(.ref a1)])) rfl (hb hby k0_18) _ ?_
    show Steps p.tables e below (T7.setTop (mkF m 20 #[.val (.ref a1), .val (.ref a2), .val (.int (0 : Int32)), .val (.int (0 : Int32)), .val .null, .unset] [(.ref lit2), (.ref a1)])) _
    refine st9 _ ?_
    show Steps p.tables e below (T9.setTop (mkF m 23 #[.val (.ref a1), .val (.ref a2), .val (.int (0 : Int32)), .val (.int (0 : Int32)), .val .null, .unset] [(.int 0), (.ref a1)])) _
    refine st12 _ ?_
    show Steps p.tables e below (T12.setTop (mkF m 26 #[.val (.ref a1), .val (.ref a2), .val (.int (0 : Int32)), .val (.int (0 : Int32)), .val .null, .unset] [])) _
    exact X12.returnOut hx Bd.returns (hb hby k0_26) hr
  · show QE Z a1 h0 n0 _ T12.heap _
    rw [e12]
    exact ⟨rfl, Nf12, K3, lba2, kk2, (0 : Int32), [], f14, f15, Fw12, f16, StrChars.Road.codOf (cs := []) (n := 0) rfl (fun c hc => nomatch hc), fun c hc => nomatch hc⟩
  · show CHr Z own_EL s.vm s.heap T12.vm T12.heap
    rw [hh, e12]
    exact CH3.trans (CHv.at X12 hZ2 hEL CH3.1)
theorem k1_0 : decode c1_ 0 = .ok (.aload_n 0, 1) := by decide +kernel
theorem k1_1 : decode c1_ 1 = .ok (.aload_n 1, 1) := by decide +kernel
theorem k1_2 : decode c1_ 2 = .ok (.iconst 0, 1) := by decide +kernel
theorem k1_3 : decode c1_ 3 = .ok (.aload_n 1, 1) := by decide +kernel
theorem k1_4 : decode c1_ 4 = .ok (.arraylength, 1) := by decide +kernel
theorem k1_5 : decode c1_ 5 = .ok (.aconst_null, 1) := by decide +kernel
theorem k1_6 : decode c1_ 6 = .ok (.invokespecial 27, 3) := by decide +kernel
theorem k1_9 : decode c1_ 9 = .ok (.return_, 1) := by decide +kernel
theorem pd0_ : parseMethodDescriptor "([CIILjava/lang/Void;)V" = some ⟨[(.array .char), .int, .int, (.object "java/lang/Void")], none⟩ := by decide +kernel
theorem ef1_ (m : MethodId) (x0 : Addr) (x1 : Addr) : entryFrame m #[(.ref x0), (.ref x1)] 2 = mkF m 0 #[.val (.ref x0), .val (.ref x1)] [] := by first | (simp [entryFrame, mkF, argsToLocals, Value.category]; done) | rfl
theorem rmE1 (l : Launch) (Z : State) (a0 : Array Value) (hw : HW a0 Z) (ws : List Jvm.Cond) (hEL : EW Z a0 own_EL) (a1 a2 : Addr) (uv uc : Value) (k2 : ClassId) (vs2 : List Value) (dv2 : Value) (h0 : Heap) (n0 : Nat) (Z0 : n0 ≤ h0.size) (E_a1 : Exa Z h0 a1 "java/lang/String") (F_value_a1 : Fld Z h0 a1 "java/lang/String" "value" "[B" uv) (F_coder_a1 : Fld Z h0 a1 "java/lang/String" "coder" "B" uc) (g_a1 : n0 ≤ a1) (V_a2 : Arv Z h0 a2 k2 .char (0 : Int32) vs2 dv2) :
    MetFree l m1_ (head1 (Jvm.Cond.code m1_ jdk_42_method_3_code 2 none :: ws) ({ frames := 2, cells := 2, slots := 4, locals := 29 } : Room)) (fun a U => a = #[(.ref a1), (.ref a2)] ∧ Z.Warmed39 U.vm ∧ U.heap = h0 ∧ CHv Z own_EL U.vm h0 ∧ Safe Z own_EL U.vm h0 a1) (fun _ _ _ _ _ => True) (fun _ U o U' => ∃ vr_ Lr_, o = .returned vr_ ∧ QE Z a1 h0 n0 vr_ U'.heap Lr_ ∧ CHr Z own_EL U.vm U.heap U'.vm U'.heap ∧ ReturnedEndW U o U' Lr_ 2 4) := by
  refine MetFree.of_bodySF (plainFor_of_name pn0_) hisR ?_
  intro p e s m args below meth c s₁ Bd hml0 hP hK
  obtain ⟨rfl, hZ, hh, hCH0, Sf_a1⟩ := hP
  have hx := Bd.exec
  have hby := Bd.bytes
  have hml : c.maxLocals = 2 := hml0
  have hown : s.vm.findClass "java/lang/String" = some m.cls := findClass_of_methodNamed Bd.named
  have X0 : Stand p l e ({ frames := 2, cells := 2, slots := 4, locals := 29 } : Room) (s.setVm s.vm) m #[(.ref a1), (.ref a2)] below meth c s₁ [] 0 0 := Stand.of_body Bd
  have e0 : s₁.heap = h0 := by rw [← hh, Bd.state]; rfl
  have N0 := Fr.nil n0
  have CH0 : CHr Z own_EL s.vm h0 s.vm h0 := CHr.refl hCH0
  have hS0 : s.Since s.vm 0 := State.WarmedH.since (State.WarmedH.refl s) 0
  have pre0 : ∀ t, Steps p.tables e below (s₁.setTop (mkF m 0 #[.val (.ref a1), .val (.ref a2)] [])) t → Steps p.tables e below (s₁.setTop (entryFrame m #[(.ref a1), (.ref a2)] 2)) t := fun t k => castTop (ef1_ m a1 a2) k
  obtain ⟨cl1, Ar1, q1, S1, N_1, H_1, G1⟩ := id V_a2
  obtain ⟨_, _, ⟨T2, L2, k2, n2⟩, -, X2', hs2, hg2, ⟨Lc2, hQ2, l2, y2, z2, C2⟩, st2⟩ := X0.specialBackS hx (y := m0_) rfl hown (mvT hZ (wt hw 8 rfl)) (mvT hZ (wt hw 9 rfl)) (mvT hZ (wt hw 11 rfl)) (by decide) (own_backSHs (x := a1) (W := 0) (rmE4 l Z a0 hw [] hEL a1 a2 uv uc h0 n0 Z0 E_a1 F_value_a1 F_coder_a1 g_a1) hZ (wt hw 11 rfl) (wt hw 4 rfl) (by decide) (by decide) hEL CH0.1 E_a1.lt Sf_a1) (g := (mkF m 6 #[.val (.ref a1), .val (.ref a2)] [.null, (.int (0 : Int32)), (.int (0 : Int32)), (.ref a2), (.ref a1)])) rfl (by rw [hml]; rfl) (Steps.refl _) (a := a1) (argsL := [(.ref a2), (.int (0 : Int32)), (.int (0 : Int32)), .null]) (rest := []) (lenOf pd0_ rfl) rfl (by show 2 * 0 + _ ≤ _; exact Nat.le_of_eq rfl) (hb hby k1_6) (fun _ _ => ⟨rfl, e0, (by decide : 0 + 2 ≤ _), (by decide : 0 + 4 ≤ _)⟩)
  dsimp only [Pt.U, Pt.locs, Pt.cells, Pt.slots] at X2' l2 y2 z2 st2 hQ2 C2 hs2 hg2
  rw [l2] at X2'
  clear l2; subst y2 z2
  obtain ⟨X2, hS2, hZ2, hown2⟩ := rebS hS0 (by rw [e0]; exact (Nat.zero_le _)) X2' hs2 hg2 hZ hown
  obtain ⟨rfl, N2q, K2q, SV2⟩ := hQ2
  have N2a := Fr.app N0 N2q
  have CH1 : CHr Z own_EL s.vm h0 T2.vm T2.heap := CH0.trans C2
  have K1 : Keep h0 T2.heap [a1] := (Keep.refl h0 [a1]).trans K2q (allS (Or.inl (List.mem_of_getElem? (i := 0) rfl)) all0)
  obtain ⟨fs, hr, hrun, hended, hend⟩ := X2.leaveW hS2 (Nat.le_refl _) (v := none) (fun _ => rfl)
  refine ⟨_, _, pre0 _ ?_, hrun, hended, _, _, rfl, ?_, ?_, hend.1, hend.2.1, hend.2.2.1, hend.2.2.2.mono (by decide) (by decide)⟩
  · show Steps p.tables e below (s₁.setTop (mkF m 0 #[.val (.ref a1), .val (.ref a2)] [])) _
    refine XS.aloadN X0.here hx rfl (hb hby k1_0) rfl rfl ?_
    refine XS.aloadN X0.here hx rfl (hb hby k1_1) rfl rfl ?_
    refine XS.iconst X0.here hx rfl (hb hby k1_2) ?_
    refine XS.aloadN X0.here hx rfl (hb hby k1_3) rfl rfl ?_
    show Steps p.tables e below (s₁.setTop (mkF m 4 #[.val (.ref a1), .val (.ref a2)] [(.ref a2), (.int (0 : Int32)), (.ref a2), (.ref a1)])) _
    refine X0.arraylength hx (by rw [e0]; exact Ar1.1) (State.isArrayOf_alike hZ.alike Ar1.2.1) (g := (mkF m 4 #[.val (.ref a1), .val (.ref a2)] [(.ref a2), (.int (0 : Int32)), (.ref a2), (.ref a1)])) rfl rfl (hb hby k1_4) _ ?_
    rw [len_of S1 N_1]
    refine XS.aconstNull X0.here hx rfl (hb hby k1_5) ?_
    show Steps p.tables e below (s₁.setTop (mkF m 6 #[.val (.ref a1), .val (.ref a2)] [.null, (.int (0 : Int32)), (.int (0 : Int32)), (.ref a2), (.ref a1)])) _
    refine st2.trans ?_
    show Steps p.tables e below (T2.setTop (mkF m 9 #[.val (.ref a1), .val (.ref a2)] [])) _
    exact X2.returnOut hx Bd.returns (hb hby k1_9) hr
  · show QE Z a1 h0 n0 _ T2.heap _
    exact ⟨rfl, N2a, K1, SV2⟩
  · show CHr Z own_EL s.vm s.heap T2.vm T2.heap
    rw [hh]
    exact CH1.trans (CHv.at X2 hZ2 hEL CH1.1)
open StrChars (lo8 hi8 pairCh pair_says shr1)
open StrChars.Road (wideBytes CodA wide_lo wide_hi)
theorem own_toNat {n : Nat} (h : n < 2 ^ 31) : (Int32.ofNat n).toInt = n := Int32.toInt_ofNat_small h
theorem own_clamp {n : Nat} (h : n < 2 ^ 31) : (Int32.ofNat n).toNatClampNeg = n := by simp only [Int32.toNatClampNeg, own_toNat h]; omega
theorem own_nonneg {n : Nat} (h : n < 2 ^ 31) : ¬ (Int32.ofNat n < 0) := by rw [Int32.lt_iff_toInt_lt, own_toNat h]; show ¬ ((n : Int) < 0); omega
theorem own_lt_of {i n : Nat} (hi : i ≤ 4000) (hn : n ≤ 4000) : (Int32.ofNat i < Int32.ofNat n) ↔ i < n := by
  rw [Int32.lt_iff_toInt_lt, own_toNat (by omega), own_toNat (by omega)]; omega
theorem own_eq_of {i n : Nat} (hi : i ≤ 4000) (hn : n ≤ 4000) : (Int32.ofNat i = Int32.ofNat n) ↔ i = n := by
  constructor
  · intro h
    have q := congrArg Int32.toInt h
    rw [own_toNat (by omega), own_toNat (by omega)] at q; omega
  · intro h; rw [h]
theorem own_shl0 (x : Int32) : x <<< ((0 : Int32) &&& 31) = x := by
  apply Int32.toBitVec_inj.mp; simp
theorem own_shr0 (x : Int32) : x >>> ((0 : Int32) &&& 31) = x := by
  apply Int32.toBitVec_inj.mp; simp
theorem own_sub0 (x : Int32) : x - (0 : Int32) = x := by simp
theorem own_add0 (x : Int32) : (0 : Int32) + x = x := by simp
theorem own_add1 (n : Nat) : Int32.ofNat n + (1 : Int32) = Int32.ofNat (n + 1) := (Int32.ofNat_add n 1).symm
theorem own_addN (i n : Nat) : Int32.ofNat i + Int32.ofNat n = Int32.ofNat (i + n) := (Int32.ofNat_add i n).symm
theorem own_shl1 {n : Nat} (h : n ≤ 4000) : Int32.ofNat n <<< ((1 : Int32) &&& 31) = Int32.ofNat (2 * n) := by
  apply Int32.toBitVec_inj.mp
  have e : ((1 : Int32) &&& 31) = 1 := by decide
  rw [e, Int32.toBitVec_shiftLeft]
  show (BitVec.ofNat 32 n) <<< (BitVec.smod 1#32 32#32) = BitVec.ofNat 32 (2 * n)
  have e2 : (BitVec.smod 1#32 32#32) = 1#32 := by decide
  rw [e2]
  apply BitVec.eq_of_toNat_eq
  rw [BitVec.shiftLeft_eq', BitVec.toNat_shiftLeft, BitVec.toNat_ofNat, BitVec.toNat_ofNat, BitVec.toNat_ofNat]
  have e3 : 1 % 2 ^ 32 = 1 := rfl
  rw [e3, Nat.shiftLeft_eq]
  have : n % 2 ^ 32 = n := Nat.mod_eq_of_lt (by omega)
  rw [this]; congr 1; omega
def own_lo (c : Int32) : Value := .int (c.toInt8.toInt32)
theorem own_inb {c : Cell} {n k : Nat} (S : c.slots.size = (Int32.ofNat n).toNatClampNeg) (hk : k < n) (hn : n ≤ 4000) : ¬ (Int32.ofNat k < 0 ∨ c.slots.size ≤ (Int32.ofNat k).toNatClampNeg) := by
  rw [S, own_clamp (by omega), own_clamp (by omega)]
  rintro (q | q)
  · exact own_nonneg (by omega) q
  · omega
theorem own_app {Z : State} {h h' : Heap} {a : Addr} {k : ClassId} {ty : FieldType} {z j : Int32} {vs : List Value} {dv v : Value} (F : Arv Z h a k ty z vs dv) (hv : fits ty v = true) (W : Wr h h' a j.toNatClampNeg v) (hj : j.toNatClampNeg = vs.length) : Arv Z h' a k ty z (vs ++ [v]) dv := by
  obtain ⟨c, A, q1, S, N, H, G⟩ := F.pad (pad_rep vs dv 1)
  have q := Arv.set A q1 S N H G hv W vs.length hj (by simp)
  have e : (vs ++ List.replicate 1 dv).set vs.length v = vs ++ [v] := by simp [List.set_append]
  rw [e] at q; exact q
theorem own_getDm {cs : List Int32} (k : Nat) : (cs.map Value.int).getD k (.int (0 : Int32)) = .int (cs.getD k 0) := by
  simp only [List.getD_eq_getElem?_getD, List.getElem?_map]; cases cs[k]? <;> rfl
theorem own_takeS {cs : List Int32} {k : Nat} (h : k < cs.length) : cs.take (k + 1) = cs.take k ++ [cs.getD k 0] := by
  rw [List.take_add_one, List.getD_eq_getElem?_getD, List.getElem?_eq_getElem h]; rfl
theorem own_narlo (c : Int32) : nar .byte (c.toInt8.toInt32) = c.toInt8.toInt32 := by
  apply Int32.toBitVec_inj.mp
  show ((c.toInt8.toInt32).toInt8.toInt32).toBitVec = _
  simp
theorem own_lostep {cs : List Int32} {k : Nat} (h : k < cs.length) : (cs.take k).map own_lo ++ [.int (nar .byte ((cs.getD k 0).toInt8.toInt32))] = (cs.take (k + 1)).map own_lo := by
  rw [own_takeS h, own_narlo, List.map_append]; rfl
def own_J (cs : List Int32) : Nat := cs.findIdx (fun c => decide ((255 : Int32) < c))
theorem own_J_le (cs : List Int32) : own_J cs ≤ cs.length := List.findIdx_le_length
theorem own_J_lt {cs : List Int32} {k : Nat} (h : k < own_J cs) : ¬ (255 : Int32) < cs.getD k 0 := by
  have hl : k < cs.length := Nat.lt_of_lt_of_le h (own_J_le cs)
  have q := List.not_of_lt_findIdx h
  rw [List.getD_eq_getElem?_getD, List.getElem?_eq_getElem hl]
  simpa using q
theorem own_J_at {cs : List Int32} (h : own_J cs < cs.length) : (255 : Int32) < cs.getD (own_J cs) 0 := by
  have q := List.findIdx_getElem (w := h)
  rw [List.getD_eq_getElem?_getD, List.getElem?_eq_getElem h]
  exact of_decide_eq_true q
theorem own_J_all {cs : List Int32} (h : own_J cs = cs.length) : ∀ c ∈ cs, ¬ (255 : Int32) < c := by
  intro c hc
  obtain ⟨i, hi, rfl⟩ := List.getElem_of_mem hc
  have q := own_J_lt (cs := cs) (k := i) (by rw [h]; exact hi)
  rw [List.getD_eq_getElem?_getD, List.getElem?_eq_getElem hi] at q
  exact q
theorem own_mem {cs : List Int32} {k : Nat} (h : k < cs.length) : cs.getD k 0 ∈ cs := by
  rw [List.getD_eq_getElem?_getD, List.getElem?_eq_getElem h]; exact List.getElem_mem h
theorem own_wlen : ∀ cs : List Int32, (wideBytes cs).length = 2 * cs.length
  | [] => rfl
  | c :: cs => by show (wideBytes cs).length + 1 + 1 = _; rw [own_wlen cs]; simp; omega
theorem own_wapp : ∀ (cs ds : List Int32), wideBytes (cs ++ ds) = wideBytes cs ++ wideBytes ds
  | [], ds => rfl
  | c :: cs, ds => by show _ :: _ :: wideBytes (cs ++ ds) = _; rw [own_wapp cs ds]; rfl
theorem own_wtake : ∀ (cs : List Int32) (n : Nat), (wideBytes cs).take (2 * n) = wideBytes (cs.take n)
  | [], n => by simp [wideBytes]
  | c :: cs, 0 => rfl
  | c :: cs, n + 1 => by
    show ((Value.int (lo8 c) :: .int (hi8 c) :: wideBytes cs).take (2 * n + 1 + 1)) = Value.int (lo8 c) :: .int (hi8 c) :: wideBytes (cs.take n)
    rw [← own_wtake cs n]; rfl
theorem own_wstep (ds : List Int32) (c : Int32) : wideBytes ds ++ [.int (nar .byte ((c >>> ((0 : Int32) &&& 31)).toInt8.toInt32))] ++ [.int (nar .byte ((c >>> ((8 : Int32) &&& 31)).toInt8.toInt32))] = wideBytes (ds ++ [c]) := by
  rw [own_narlo, own_narlo, own_shr0, own_wapp]; simp [wideBytes, lo8, hi8]
theorem own_narch {c : Int32} (h0 : ¬ c < 0) (h1 : ¬ (65535 : Int32) < c) : nar .char c = c := by
  have e0 : (0 : Int32).toInt = 0 := rfl
  have e1 : (65535 : Int32).toInt = 65535 := rfl
  rw [Int32.lt_iff_toInt_lt] at h0 h1
  rw [e0] at h0; rw [e1] at h1
  apply Int32.toBitVec_inj.mp
  show (c.toBitVec.setWidth 16).setWidth 32 = c.toBitVec
  apply BitVec.eq_of_toNat_eq
  have hc : c.toInt = c.toBitVec.toInt := rfl
  rw [hc, BitVec.toInt_eq_toNat_cond] at h0 h1
  rw [BitVec.toNat_setWidth, BitVec.toNat_setWidth]
  have := c.toBitVec.isLt
  have e16 : (2 : Nat) ^ 16 = 65536 := rfl
  have e32 : (2 : Nat) ^ 32 = 4294967296 := rfl
  split at h0 <;> simp_all <;> omega
def StrU (Z : State) (h : Heap) (a : Addr) (cs : List Int32) : Prop := ∃ (b : Addr) (kb : ClassId) (cd N : Int32) (vs : List Value), Exa Z h a "java/lang/String" ∧ Fld Z h a "java/lang/String" "value" "[B" (.ref b) ∧ Fld Z h a "java/lang/String" "coder" "B" (.int cd) ∧ Arv Z h b kb .byte N vs (.int (0 : Int32)) ∧ CodA cs cd N vs ∧ (∀ c ∈ cs, ¬ c < 0 ∧ ¬ (65535 : Int32) < c)
theorem StrU.exa {Z : State} {h : Heap} {a : Addr} {cs : List Int32} (S : StrU Z h a cs) : Exa Z h a "java/lang/String" := by obtain ⟨_, _, _, _, _, e, -⟩ := S; exact e
theorem StrU.ext {Z : State} {h h' : Heap} {a : Addr} {cs : List Int32} (S : StrU Z h a cs) (E : Ext h h') : StrU Z h' a cs := by
  obtain ⟨b, kb, cd, N, vs, e, f, c, v, q⟩ := S
  exact ⟨b, kb, cd, N, vs, e.ext E, f.ext E, c.ext E, v.ext E, q⟩
theorem StrU.keep {Z : State} {h h' : Heap} {a : Addr} {cs : List Int32} {ws : List Addr} (S : StrU Z h a cs) (K : Keep h h' ws) (hs : ∀ x ∈ ws, h.size ≤ x ∨ ∃ (C : String) (n : Nat) (a0 : Array Value), Exa Z h x C ∧ C ≠ "java/lang/String" ∧ (Jvm.Cond.instantiable C n).before a0 Z = true) : StrU Z h' a cs := by
  obtain ⟨b, kb, cd, N, vs, e, f, c, v, q⟩ := S
  have ha : a ∉ ws := fun m => by
    rcases hs a m with z | ⟨C, n, a0, E, hne, w⟩
    · exact absurd e.lt (Nat.not_lt.mpr z)
    · exact Exa.ne E e hne rfl
  have hb : b ∉ ws := fun m => by
    rcases hs b m with z | ⟨C, n, a0, E, hne, w⟩
    · exact absurd v.lt (Nat.not_lt.mpr z)
    · exact Exa.neArv E v w rfl
  exact ⟨b, kb, cd, N, vs, e.keep K, f.keep K ha, c.keep K ha, v.keep K hb, q⟩
def UST (Z : State) : Prop := Sta Z Z.heap "java/lang/StringUTF16" "$assertionsDisabled" "Z" (.int (1 : Int32)) ∧ Sta Z Z.heap "java/lang/StringUTF16" "HI_BYTE_SHIFT" "I" (.int (0 : Int32)) ∧ Sta Z Z.heap "java/lang/StringUTF16" "LO_BYTE_SHIFT" "I" (.int (8 : Int32))
theorem own_gch {ds : List Int32} {j : Nat} (hj : j < ds.length) (h : ∀ c ∈ ds, ¬ c < 0 ∧ ¬ (65535 : Int32) < c) : nar .char (((((lo8 (ds.getD j 0)) &&& (255 : Int32)) <<< ((0 : Int32) &&& 31)) ||| (((hi8 (ds.getD j 0)) &&& (255 : Int32)) <<< ((8 : Int32) &&& 31))).toUInt32.toUInt16.toUInt32.toInt32) = ds.getD j 0 := by
  have hm := h _ (own_mem hj)
  have q := pair_says hm.1 hm.2
  have e : ((((lo8 (ds.getD j 0)) &&& (255 : Int32)) <<< ((0 : Int32) &&& 31)) ||| (((hi8 (ds.getD j 0)) &&& (255 : Int32)) <<< ((8 : Int32) &&& 31))).toUInt32.toUInt16.toUInt32.toInt32 = ds.getD j 0 := q
  rw [e]; exact own_narch hm.1 hm.2
theorem StrU.lt {Z : State} {h : Heap} {a : Addr} {cs : List Int32} (S : StrU Z h a cs) : a < h.size := S.exa.lt
theorem StrU.formL {Z : State} {h : Heap} {a : Addr} {cs : List Int32} {z : Int32} (S : StrU Z h a cs) (hl : ∀ c ∈ cs, ¬ (255 : Int32) < c) (hz : Int32.ofNat cs.length = z) : ∃ (b : Addr) (kb : ClassId), Exa Z h a "java/lang/String" ∧ Fld Z h a "java/lang/String" "value" "[B" (.ref b) ∧ Fld Z h a "java/lang/String" "coder" "B" (.int (0 : Int32)) ∧ Arv Z h b kb .byte z (cs.map own_lo) (.int (0 : Int32)) := by
  obtain ⟨b, kb, cd, N, vs, e, f, c, v, q, u⟩ := S
  rcases q with ⟨rfl, rfl, rfl, q⟩ | ⟨-, -, -, x, hx, q⟩
  · exact ⟨b, kb, e, f, c, hz ▸ v⟩
  · exact absurd q (hl x hx)
theorem StrU.formW {Z : State} {h : Heap} {a : Addr} {cs : List Int32} {z : Int32} (S : StrU Z h a cs) (hl : ∃ c ∈ cs, (255 : Int32) < c) (hz : Int32.ofNat (2 * cs.length) = z) : ∃ (b : Addr) (kb : ClassId), Exa Z h a "java/lang/String" ∧ Fld Z h a "java/lang/String" "value" "[B" (.ref b) ∧ Fld Z h a "java/lang/String" "coder" "B" (.int (1 : Int32)) ∧ Arv Z h b kb .byte z (wideBytes cs) (.int (0 : Int32)) := by
  obtain ⟨b, kb, cd, N, vs, e, f, c, v, q, u⟩ := S
  obtain ⟨x, hx, hxx⟩ := hl
  rcases q with ⟨-, -, -, q⟩ | ⟨rfl, rfl, rfl, q⟩
  · exact absurd hxx (q x hx)
  · exact ⟨b, kb, e, f, c, hz ▸ v⟩
theorem own_latw (cs : List Int32) : (∀ c ∈ cs, ¬ (255 : Int32) < c) ∨ ∃ c ∈ cs, (255 : Int32) < c := by
  by_cases h : ∃ c ∈ cs, (255 : Int32) < c
  · exact Or.inr h
  · exact Or.inl fun c hc q => h ⟨c, hc, q⟩
def SBF (Z : State) (h : Heap) (a : Addr) (cd cnt z : Int32) (vs : List Value) (b : Addr) (kb : ClassId) : Prop := Exa Z h a "java/lang/StringBuilder" ∧ Fld Z h a "java/lang/AbstractStringBuilder" "value" "[B" (.ref b) ∧ Fld Z h a "java/lang/AbstractStringBuilder" "coder" "B" (.int cd) ∧ Fld Z h a "java/lang/AbstractStringBuilder" "count" "I" (.int cnt) ∧ Fld Z h a "java/lang/AbstractStringBuilder" "maybeLatin1" "Z" (.int (0 : Int32)) ∧ Arv Z h b kb .byte z vs (.int (0 : Int32))
def GST (Z : State) : Prop := (∃ G1 : Int32, Sta Z Z.heap "java/lang/String" "COMPACT_STRINGS" "Z" (.int G1) ∧ ¬ (G1 = (0 : Int32))) ∧ (∃ G3 : Value, Sta Z Z.heap "jdk/internal/util/Preconditions" "SIOOBE_FORMATTER" "Ljava/util/function/BiFunction;" G3 ∧ G3.isRef = true) ∧ UST Z
def QB (b : Int32) (h0 : Heap) (n0 : Nat) (v : Option Value) (h : Heap) (L : List Loc) : Prop := v = some (.int b) ∧ Fr n0 L ∧ h = h0
def QN (a : Addr) (h0 : Heap) (n0 : Nat) (v : Option Value) (h : Heap) (L : List Loc) : Prop := v = some (.ref a) ∧ Fr n0 L ∧ h = h0
def QR (h0 : Heap) (n0 : Nat) (v : Option Value) (h : Heap) (L : List Loc) : Prop := v = none ∧ Fr n0 L ∧ h = h0
/-- writes the array b, whose list is now vs -/
def QW (Z : State) (b : Addr) (kb : ClassId) (z : Int32) (vs : List Value) (h0 : Heap) (n0 : Nat) (v : Option Value) (h : Heap) (L : List Loc) : Prop := v = none ∧ Fr n0 L ∧ Keep h0 h [b] ∧ Arv Z h b kb .byte z vs (.int (0 : Int32))
def QWI (Z : State) (x : Int32) (b : Addr) (kb : ClassId) (z : Int32) (vs : List Value) (h0 : Heap) (n0 : Nat) (v : Option Value) (h : Heap) (L : List Loc) : Prop := v = some (.int x) ∧ Fr n0 L ∧ Keep h0 h [b] ∧ Arv Z h b kb .byte z vs (.int (0 : Int32))
/-- a new array -/
def QA (Z : State) (z : Int32) (vs : List Value) (h0 : Heap) (n0 : Nat) (v : Option Value) (h : Heap) (L : List Loc) : Prop := ∃ (t : Addr) (k : ClassId), v = some (.ref t) ∧ Fr n0 L ∧ Keep h0 h [] ∧ h0.size ≤ t ∧ Arv Z h t k .byte z vs (.int (0 : Int32))
/-- a new array that codes cs -/
def QCo (Z : State) (cs : List Int32) (h0 : Heap) (n0 : Nat) (v : Option Value) (h : Heap) (L : List Loc) : Prop := ∃ (t : Addr) (k : ClassId) (cd z : Int32) (vs : List Value), v = some (.ref t) ∧ Fr n0 L ∧ Keep h0 h [] ∧ h0.size ≤ t ∧ Arv Z h t k .byte z vs (.int (0 : Int32)) ∧ CodA cs cd z vs
def QSt (Z : State) (a1 : Addr) (cs : List Int32) (h0 : Heap) (n0 : Nat) (v : Option Value) (h : Heap) (L : List Loc) : Prop := v = none ∧ Fr n0 L ∧ Keep h0 h [a1] ∧ StrU Z h a1 cs
def QSr (Z : State) (cs : List Int32) (h0 : Heap) (n0 : Nat) (v : Option Value) (h : Heap) (L : List Loc) : Prop := ∃ b : Addr, v = some (.ref b) ∧ Fr n0 L ∧ Keep h0 h [] ∧ StrU Z h b cs
def QBB (Z : State) (a1 a2 : Addr) (cd : Int32) (h0 : Heap) (n0 : Nat) (v : Option Value) (h : Heap) (L : List Loc) : Prop := v = none ∧ Fr n0 L ∧ Keep h0 h [a1] ∧ Fld Z h a1 "java/lang/String" "value" "[B" (.ref a2) ∧ Fld Z h a1 "java/lang/String" "coder" "B" (.int cd)
def QSB (Z : State) (r : Option Value) (a1 : Addr) (cd cnt z : Int32) (vs : List Value) (h0 : Heap) (n0 : Nat) (v : Option Value) (h : Heap) (L : List Loc) : Prop := ∃ (t : Addr) (k : ClassId), v = r ∧ Fr n0 L ∧ Keep h0 h [a1] ∧ h0.size ≤ t ∧ SBF Z h a1 cd cnt z vs t k
/-- the array of the builder is written where it lies -/
def QSC (Z : State) (r : Option Value) (a1 b : Addr) (kb : ClassId) (cd cnt z : Int32) (vs : List Value) (h0 : Heap) (n0 : Nat) (v : Option Value) (h : Heap) (L : List Loc) : Prop := v = r ∧ Fr n0 L ∧ Keep h0 h [a1, b] ∧ SBF Z h a1 cd cnt z vs b kb
theorem own_take {vd : List Value} {m : Nat} (h : m ≤ vd.length) (hm : m ≤ 4000) : vd.take m = (List.range (Int32.ofNat m).toNatClampNeg).map fun i => vd.getD ((0 : Int32).toNatClampNeg + i) (.int (0 : Int32)) := by
  rw [own_clamp (by omega)]
  apply List.ext_getElem
  · simp; omega
  · intro i h1 h2
    simp at h1 h2
    show _ = ((List.range m).map fun i => vd.getD (0 + i) (.int (0 : Int32)))[i]
    simp [List.getD_eq_getElem?_getD, show i < vd.length from by omega]
theorem own_takeD {cs : List Int32} {n k : Nat} (h : k < n) : (cs.take n).getD k 0 = cs.getD k 0 := by
  rw [List.getD_eq_getElem?_getD, List.getD_eq_getElem?_getD, List.getElem?_take_of_lt h]
theorem own_JT {cs : List Int32} {n k : Nat} (h : k < own_J (cs.take n)) : ¬ (255 : Int32) < cs.getD k 0 := by
  have hl := own_J_le (cs.take n)
  rw [List.length_take] at hl
  rw [← own_takeD (n := n) (by omega)]; exact own_J_lt h
theorem own_JTat {cs : List Int32} {n : Nat} (hn : n ≤ cs.length) (h : own_J (cs.take n) < n) : (255 : Int32) < cs.getD (own_J (cs.take n)) 0 := by
  rw [← own_takeD h]; exact own_J_at (by rw [List.length_take]; omega)
theorem own_lostepT {cs : List Int32} {n k : Nat} (hn : n ≤ cs.length) (h : k < n) : ((cs.take n).take k).map own_lo ++ [.int (nar .byte ((cs.getD k 0).toInt8.toInt32))] = ((cs.take n).take (k + 1)).map own_lo := by
  rw [← own_takeD h]; exact own_lostep (by rw [List.length_take]; omega)
theorem own_subN {a m : Nat} (h : a ≤ m) (hm : m ≤ 4000) : Int32.ofNat m - Int32.ofNat a = Int32.ofNat (m - a) := by
  apply Int32.toInt_inj.mp
  rw [Int32.toInt_sub, own_toNat (by omega), own_toNat (by omega), own_toNat (by omega), Int.bmod_eq_of_le_mul_two (by omega) (by omega)]; omega
theorem own_or {x y : Int32} (hx : ¬ x < 0) (hy : ¬ y < 0) : ¬ (x ||| y) < 0 := by
  have key : ∀ z : Int32, ¬ z < 0 ↔ z.toBitVec.msb = false := fun z => by
    rw [Int32.lt_iff_toInt_lt]
    have e0 : (0 : Int32).toInt = 0 := rfl
    have hz : z.toInt = z.toBitVec.toInt := rfl
    rw [e0, hz, BitVec.msb_eq_toInt]; simp
  rw [key] at hx hy ⊢
  rw [Int32.toBitVec_or, BitVec.msb_or, hx, hy]; rfl
theorem own_h4 (x : Int32) : (0 : Int32).toNatClampNeg + x.toNatClampNeg ≤ x.toNatClampNeg := by show 0 + _ ≤ _; omega
theorem own_h5 {i n m : Nat} (h : i + n ≤ m) (hm : m ≤ 4000) : (Int32.ofNat i).toNatClampNeg + (Int32.ofNat n).toNatClampNeg ≤ (Int32.ofNat m).toNatClampNeg := by
  rw [own_clamp (by omega), own_clamp (by omega), own_clamp (by omega)]; exact h
theorem own_fill {us : List Value} {m : Nat} (hm : m ≤ 4000) (h : us.length = m) : ([] ++ List.replicate m (Value.int (0 : Int32))).take (0 : Int32).toNatClampNeg ++ us ++ ([] ++ List.replicate m (Value.int (0 : Int32))).drop ((0 : Int32).toNatClampNeg + (Int32.ofNat m).toNatClampNeg) = us := by
  rw [own_clamp (by omega)]
  show ([] : List Value) ++ us ++ ([] ++ List.replicate m (Value.int (0 : Int32))).drop (0 + m) = us
  simp
theorem own_splice {vd us : List Value} {o n k : Nat} (ho : vd.length = o) (hn : us.length = n) (h : o + n ≤ 4000) : (vd ++ List.replicate k (Value.int (0 : Int32))).take (Int32.ofNat o).toNatClampNeg ++ us ++ (vd ++ List.replicate k (Value.int (0 : Int32))).drop ((Int32.ofNat o).toNatClampNeg + (Int32.ofNat n).toNatClampNeg) = vd ++ us ++ List.replicate (k - n) (Value.int (0 : Int32)) := by
  rw [own_clamp (by omega), own_clamp (by omega), ← ho, List.take_left, List.drop_append, ← List.append_assoc]
  have e : List.drop (vd.length + n) vd = [] := List.drop_eq_nil_of_le (by omega)
  rw [e, Nat.add_sub_cancel_left]; simp
theorem own_all {vd : List Value} {n : Nat} (h : vd.length = n) (hn : n ≤ 4000) : vd = (List.range (Int32.ofNat n).toNatClampNeg).map fun i => vd.getD ((0 : Int32).toNatClampNeg + i) (.int (0 : Int32)) := by
  have q := own_take (vd := vd) (m := n) (by omega) hn
  rw [List.take_of_length_le (by omega)] at q; exact q
theorem own_fill2 {us : List Value} {m k : Nat} (hm : m ≤ 4000) (h : us.length = m) : ([] ++ List.replicate (m + k) (Value.int (0 : Int32))).take (0 : Int32).toNatClampNeg ++ us ++ ([] ++ List.replicate (m + k) (Value.int (0 : Int32))).drop ((0 : Int32).toNatClampNeg + (Int32.ofNat m).toNatClampNeg) = us ++ List.replicate k (Value.int (0 : Int32)) := by
  rw [own_clamp (by omega)]
  show ([] : List Value) ++ us ++ ([] ++ List.replicate (m + k) (Value.int (0 : Int32))).drop (0 + m) = _
  simp
def own_dots : List Int32 := [46, 46, 46]
theorem own_dots_lat : ∀ c ∈ own_dots, ¬ (255 : Int32) < c := by decide
theorem own_dots_rng : ∀ c ∈ own_dots, ¬ c < 0 ∧ ¬ (65535 : Int32) < c := by decide
theorem k2_0 : decode c2_ 0 = .ok (.getstatic 44, 3) := by decide +kernel
theorem k2_3 : decode c2_ 3 = .ok (.ifCond .ne 25, 3) := by decide +kernel
theorem k2_28 : decode c2_ 28 = .ok (.iload_n 1, 1) := by decide +kernel
theorem k2_29 : decode c2_ 29 = .ok (.iconst 1, 1) := by decide +kernel
theorem k2_30 : decode c2_ 30 = .ok (.ishl, 1) := by decide +kernel
theorem k2_31 : decode c2_ 31 = .ok (.istore_n 1, 1) := by decide +kernel
theorem k2_32 : decode c2_ 32 = .ok (.aload_n 0, 1) := by decide +kernel
theorem k2_33 : decode c2_ 33 = .ok (.iload_n 1, 1) := by decide +kernel
theorem k2_34 : decode c2_ 34 = .ok (.iinc 1 1, 3) := by decide +kernel
theorem k2_37 : decode c2_ 37 = .ok (.baload, 1) := by decide +kernel
theorem k2_38 : decode c2_ 38 = .ok (.sipush 255, 3) := by decide +kernel
theorem k2_41 : decode c2_ 41 = .ok (.iand, 1) := by decide +kernel
theorem k2_42 : decode c2_ 42 = .ok (.getstatic 59, 3) := by decide +kernel
theorem k2_45 : decode c2_ 45 = .ok (.ishl, 1) := by decide +kernel
theorem k2_46 : decode c2_ 46 = .ok (.aload_n 0, 1) := by decide +kernel
theorem k2_47 : decode c2_ 47 = .ok (.iload_n 1, 1) := by decide +kernel
theorem k2_48 : decode c2_ 48 = .ok (.baload, 1) := by decide +kernel
theorem k2_49 : decode c2_ 49 = .ok (.sipush 255, 3) := by decide +kernel
theorem k2_52 : decode c2_ 52 = .ok (.iand, 1) := by decide +kernel
theorem k2_53 : decode c2_ 53 = .ok (.getstatic 63, 3) := by decide +kernel
theorem k2_56 : decode c2_ 56 = .ok (.ishl, 1) := by decide +kernel
theorem k2_57 : decode c2_ 57 = .ok (.ior, 1) := by decide +kernel
theorem k2_58 : decode c2_ 58 = .ok (.i2c, 1) := by decide +kernel
theorem k2_59 : decode c2_ 59 = .ok (.ireturn, 1) := by decide +kernel
theorem pn1_ : plainName "java/lang/StringUTF16" = true := by first | (simp [plainName, overriddenIn]; done) | decide +kernel
theorem ef2_ (m : MethodId) (x0 : Addr) (x1 : Int32) : entryFrame m #[(.ref x0), (.int x1)] 2 = mkF m 0 #[.val (.ref x0), .val (.int x1)] [] := by first | (simp [entryFrame, mkF, argsToLocals, Value.category]; done) | rfl
theorem rmGc (l : Launch) (Z : State) (a0 : Array Value) (hw : HW a0 Z) (ws : List Jvm.Cond) (b : Addr) (kb : ClassId) (j nn : Nat) (ds : List Int32) (h0 : Heap) (n0 : Nat) (Z0 : n0 ≤ h0.size) (hG : GST Z) (O0 : Old Z n0 h0) (V_b : Arv Z h0 b kb .byte (Int32.ofNat nn) (wideBytes ds) (.int (0 : Int32))) (hj : j < ds.length) (hn : 2 * ds.length ≤ nn) (hm : nn ≤ 4000) (hc : ∀ c ∈ ds, ¬ c < 0 ∧ ¬ (65535 : Int32) < c) :
    Met l Z ws m2_ jdk_52_method_5_code 2 (some .char) ({ frames := 0, cells := 0, slots := 0, locals := 0 } : Room) h0 #[(.ref b), (.int (Int32.ofNat j))] (QB (ds.getD j 0) h0 n0) := by
  refine MetFree.of_bodySF (plainFor_of_name pn1_) hisR ?_
  intro p e s m args below meth c s₁ Bd hml0 hP hK
  obtain ⟨rfl, hZ, hh⟩ := hP
  have hx := Bd.exec
  have hby := Bd.bytes
  have hown : s.vm.findClass "java/lang/StringUTF16" = some m.cls := findClass_of_methodNamed Bd.named
  have X0 : Stand p l e ({ frames := 0, cells := 0, slots := 0, locals := 0 } : Room) s m #[(.ref b), (.int (Int32.ofNat j))] below meth c s₁ [] 0 0 := Stand.of_body Bd
  have e0 : s₁.heap = h0 := by rw [← hh, Bd.state]; rfl
  have N0 := Fr.nil n0
  have pre0 : ∀ t, Steps p.tables e below (s₁.setTop (mkF m 0 #[.val (.ref b), .val (.int (Int32.ofNat j))] [])) t → Steps p.tables e below (s₁.setTop (entryFrame m #[(.ref b), (.int (Int32.ofNat j))] 2)) t := fun t k => castTop (ef2_ m b (Int32.ofNat j)) k
  obtain ⟨⟨G1, O2, P5⟩, ⟨G3, O4, rG3⟩, Sa, Sh, Sl⟩ := id hG
  obtain ⟨T1, X1, e1, st1⟩ := getS2 X0 hx hZ hown (host := "") (Or.inl (wt hw 67 rfl)) Via.refl e0 (Sa.ext O0.2) (g := (mkF m 0 #[.val (.ref b), .val (.int (Int32.ofNat j))] [])) rfl (hb hby k2_0)
  obtain ⟨cl2, Ar2, q2, S2, N_2, H_2, G2⟩ := id V_b
  have hin2 : ¬ ((Int32.ofNat (2 * j)) < 0 ∨ cl2.slots.size ≤ ((Int32.ofNat (2 * j))).toNatClampNeg) := own_inb S2 (by omega) (by omega)
  have hat2 : cl2.slots[((Int32.ofNat (2 * j))).toNatClampNeg]? = some (.int (lo8 (ds.getD j 0))) := H_2.at hin2 (by rw [own_clamp (by omega)]; exact wide_lo _ ds j hj)
  obtain ⟨T3, X3, e3, st3⟩ := getS2 X1 hx hZ hown (host := "") (Or.inl (wt hw 68 rfl)) Via.refl e1 (Sh.ext O0.2) (g := (mkF m 42 #[.val (.ref b), .val (.int (Int32.ofNat (2 * j + 1)))] [(.int ((lo8 (ds.getD j 0)) &&& (255 : Int32)))])) rfl (hb hby k2_42)
  obtain ⟨cl4, Ar4, q4, S4, N_4, H_4, G4⟩ := id V_b
  have hin4 : ¬ ((Int32.ofNat (2 * j + 1)) < 0 ∨ cl4.slots.size ≤ ((Int32.ofNat (2 * j + 1))).toNatClampNeg) := own_inb S4 (by omega) (by omega)
  have hat4 : cl4.slots[((Int32.ofNat (2 * j + 1))).toNatClampNeg]? = some (.int (hi8 (ds.getD j 0))) := H_4.at hin4 (by rw [own_clamp (by omega)]; exact wide_hi _ ds j hj)
  obtain ⟨T5, X5, e5, st5⟩ := getS2 X3 hx hZ hown (host := "") (Or.inl (wt hw 69 rfl)) Via.refl e3 (Sl.ext O0.2) (g := (mkF m 53 #[.val (.ref b), .val (.int (Int32.ofNat (2 * j + 1)))] [(.int ((hi8 (ds.getD j 0)) &&& (255 : Int32))), (.int (((lo8 (ds.getD j 0)) &&& (255 : Int32)) <<< ((0 : Int32) &&& 31)))])) rfl (hb hby k2_53)
  obtain ⟨fs, hr, hrun, hended, hW, hsame⟩ := X5.leave (v := some (.int (nar .char (((((lo8 (ds.getD j 0)) &&& (255 : Int32)) <<< ((0 : Int32) &&& 31)) ||| (((hi8 (ds.getD j 0)) &&& (255 : Int32)) <<< ((8 : Int32) &&& 31))).toUInt32.toUInt16.toUInt32.toInt32)))) (fun h => by rw [Bd.returns] at h; cases h)
  refine ⟨_, _, pre0 _ ?_, hrun, hended, _, _, rfl, ?_, ⟨_, rfl⟩, hW, hsame.mono (by decide) (by decide)⟩
  · show Steps p.tables e below (s₁.setTop (mkF m 0 #[.val (.ref b), .val (.int (Int32.ofNat j))] [])) _
    refine st1 _ ?_
    show Steps p.tables e below (T1.setTop (mkF m 3 #[.val (.ref b), .val (.int (Int32.ofNat j))] [(.int (1 : Int32))])) _
    refine XS.ifYes X1.here hx rfl (pc0 := 3) (pc' := 28) rfl (hb hby k2_3) rfl ((if0 _ _).trans (feq (by decide : ¬ ((1 : Int32) = (0 : Int32)))).2) (by decide) (by decide) ?_
    refine XS.iloadN X1.here hx rfl (hb hby k2_28) rfl ?_
    refine XS.iconst X1.here hx rfl (hb hby k2_29) ?_
    refine XS.ishl X1.here hx rfl (hb hby k2_30) rfl ?_
    show Steps p.tables e below (T1.setTop (mkF m 31 #[.val (.ref b), .val (.int (Int32.ofNat j))] [(.int ((Int32.ofNat j) <<< ((1 : Int32) &&& 31)))])) _
    rw [own_shl1 (by omega)]
    refine XS.istoreN X1.here hx rfl (hb hby k2_31) rfl (l' := #[.val (.ref b), .val (.int (Int32.ofNat (2 * j)))]) rfl ?_
    refine XS.aloadN X1.here hx rfl (hb hby k2_32) rfl rfl ?_
    refine XS.iloadN X1.here hx rfl (hb hby k2_33) rfl ?_
    show Steps p.tables e below (T1.setTop (mkF m 34 #[.val (.ref b), .val (.int (Int32.ofNat (2 * j)))] [(.int (Int32.ofNat (2 * j))), (.ref b)])) _
    refine XS.iinc X1.here hx rfl (hb hby k2_34) rfl (l' := #[.val (.ref b), .val (.int ((Int32.ofNat (2 * j)) + (1 : Int32)))]) rfl ?_
    show Steps p.tables e below (T1.setTop (mkF m 37 #[.val (.ref b), .val (.int ((Int32.ofNat (2 * j)) + (1 : Int32)))] [(.int (Int32.ofNat (2 * j))), (.ref b)])) _
    rw [own_add1]
    show Steps p.tables e below (T1.setTop (mkF m 37 #[.val (.ref b), .val (.int (Int32.ofNat (2 * j + 1)))] [(.int (Int32.ofNat (2 * j))), (.ref b)])) _
    refine X1.baloadBytes hx (j := (Int32.ofNat (2 * j))) (v := (.int (lo8 (ds.getD j 0)))) (by rw [e1]; exact Ar2.1) (State.isArrayOf_alike hZ.alike Ar2.2.1) Ar2.2.2 hin2 hat2 (g := (mkF m 37 #[.val (.ref b), .val (.int (Int32.ofNat (2 * j + 1)))] [(.int (Int32.ofNat (2 * j))), (.ref b)])) rfl rfl (hb hby k2_37) _ ?_
    refine XS.sipush X1.here hx rfl (hb hby k2_38) ?_
    refine XS.iand X1.here hx rfl (hb hby k2_41) rfl ?_
    show Steps p.tables e below (T1.setTop (mkF m 42 #[.val (.ref b), .val (.int (Int32.ofNat (2 * j + 1)))] [(.int ((lo8 (ds.getD j 0)) &&& (255 : Int32)))])) _
    refine st3 _ ?_
    refine XS.ishl X3.here hx rfl (hb hby k2_45) rfl ?_
    refine XS.aloadN X3.here hx rfl (hb hby k2_46) rfl rfl ?_
    refine XS.iloadN X3.here hx rfl (hb hby k2_47) rfl ?_
    show Steps p.tables e below (T3.setTop (mkF m 48 #[.val (.ref b), .val (.int (Int32.ofNat (2 * j + 1)))] [(.int (Int32.ofNat (2 * j + 1))), (.ref b), (.int (((lo8 (ds.getD j 0)) &&& (255 : Int32)) <<< ((0 : Int32) &&& 31)))])) _
    refine X3.baloadBytes hx (j := (Int32.ofNat (2 * j + 1))) (v := (.int (hi8 (ds.getD j 0)))) (by rw [e3]; exact Ar4.1) (State.isArrayOf_alike hZ.alike Ar4.2.1) Ar4.2.2 hin4 hat4 (g := (mkF m 48 #[.val (.ref b), .val (.int (Int32.ofNat (2 * j + 1)))] [(.int (Int32.ofNat (2 * j + 1))), (.ref b), (.int (((lo8 (ds.getD j 0)) &&& (255 : Int32)) <<< ((0 : Int32) &&& 31)))])) rfl rfl (hb hby k2_48) _ ?_
    refine XS.sipush X3.here hx rfl (hb hby k2_49) ?_
    refine XS.iand X3.here hx rfl (hb hby k2_52) rfl ?_
    show Steps p.tables e below (T3.setTop (mkF m 53 #[.val (.ref b), .val (.int (Int32.ofNat (2 * j + 1)))] [(.int ((hi8 (ds.getD j 0)) &&& (255 : Int32))), (.int (((lo8 (ds.getD j 0)) &&& (255 : Int32)) <<< ((0 : Int32) &&& 31)))])) _
    refine st5 _ ?_
    refine XS.ishl X5.here hx rfl (hb hby k2_56) rfl ?_
    refine XS.ior X5.here hx rfl (hb hby k2_57) rfl ?_
    refine XS.i2c X5.here hx rfl (hb hby k2_58) rfl ?_
    show Steps p.tables e below (T5.setTop (mkF m 59 #[.val (.ref b), .val (.int (Int32.ofNat (2 * j + 1)))] [(.int (((((lo8 (ds.getD j 0)) &&& (255 : Int32)) <<< ((0 : Int32) &&& 31)) ||| (((hi8 (ds.getD j 0)) &&& (255 : Int32)) <<< ((8 : Int32) &&& 31))).toUInt32.toUInt16.toUInt32.toInt32))])) _
    exact retN X5 hx (t := .char) Bd.returns (by simp) (hb hby k2_59) hr
  · show QB (ds.getD j 0) h0 n0 _ T5.heap _
    rw [e5]
    exact ⟨congrArg (fun x => some (Value.int x)) (own_gch hj hc), N0, rfl⟩
theorem k3_0 : decode c3_ 0 = .ok (.getstatic 44, 3) := by decide +kernel
theorem k3_3 : decode c3_ 3 = .ok (.ifCond .ne 25, 3) := by decide +kernel
theorem k3_28 : decode c3_ 28 = .ok (.iload_n 1, 1) := by decide +kernel
theorem k3_29 : decode c3_ 29 = .ok (.iconst 1, 1) := by decide +kernel
theorem k3_30 : decode c3_ 30 = .ok (.ishl, 1) := by decide +kernel
theorem k3_31 : decode c3_ 31 = .ok (.istore_n 1, 1) := by decide +kernel
theorem k3_32 : decode c3_ 32 = .ok (.aload_n 0, 1) := by decide +kernel
theorem k3_33 : decode c3_ 33 = .ok (.iload_n 1, 1) := by decide +kernel
theorem k3_34 : decode c3_ 34 = .ok (.iinc 1 1, 3) := by decide +kernel
theorem k3_37 : decode c3_ 37 = .ok (.iload_n 2, 1) := by decide +kernel
theorem k3_38 : decode c3_ 38 = .ok (.getstatic 59, 3) := by decide +kernel
theorem k3_41 : decode c3_ 41 = .ok (.ishr, 1) := by decide +kernel
theorem k3_42 : decode c3_ 42 = .ok (.i2b, 1) := by decide +kernel
theorem k3_43 : decode c3_ 43 = .ok (.bastore, 1) := by decide +kernel
theorem k3_44 : decode c3_ 44 = .ok (.aload_n 0, 1) := by decide +kernel
theorem k3_45 : decode c3_ 45 = .ok (.iload_n 1, 1) := by decide +kernel
theorem k3_46 : decode c3_ 46 = .ok (.iload_n 2, 1) := by decide +kernel
theorem k3_47 : decode c3_ 47 = .ok (.getstatic 63, 3) := by decide +kernel
theorem k3_50 : decode c3_ 50 = .ok (.ishr, 1) := by decide +kernel
theorem k3_51 : decode c3_ 51 = .ok (.i2b, 1) := by decide +kernel
theorem k3_52 : decode c3_ 52 = .ok (.bastore, 1) := by decide +kernel
theorem k3_53 : decode c3_ 53 = .ok (.return_, 1) := by decide +kernel
theorem ef3_ (m : MethodId) (x0 : Addr) (x1 : Int32) (x2 : Int32) : entryFrame m #[(.ref x0), (.int x1), (.int x2)] 3 = mkF m 0 #[.val (.ref x0), .val (.int x1), .val (.int x2)] [] := by first | (simp [entryFrame, mkF, argsToLocals, Value.category]; done) | rfl
theorem rmPc (l : Launch) (Z : State) (a0 : Array Value) (hw : HW a0 Z) (ws : List Jvm.Cond) (b : Addr) (kb : ClassId) (j nn : Nat) (ds : List Int32) (c_ : Int32) (h0 : Heap) (n0 : Nat) (Z0 : n0 ≤ h0.size) (hG : GST Z) (O0 : Old Z n0 h0) (V_b : Arv Z h0 b kb .byte (Int32.ofNat nn) (wideBytes ds) (.int (0 : Int32))) (hj : j = ds.length) (hn : 2 * ds.length + 2 ≤ nn) (hm : nn ≤ 4000) (g_b : n0 ≤ b) :
    Met l Z ws m3_ jdk_52_method_4_code 3 none ({ frames := 0, cells := 0, slots := 0, locals := 0 } : Room) h0 #[(.ref b), (.int (Int32.ofNat j)), (.int c_)] (QW Z b kb (Int32.ofNat nn) (wideBytes (ds ++ [c_])) h0 n0) := by
  refine MetFree.of_bodySF (plainFor_of_name pn1_) hisR ?_
  intro p e s m args below meth c s₁ Bd hml0 hP hK
  obtain ⟨rfl, hZ, hh⟩ := hP
  have hx := Bd.exec
  have hby := Bd.bytes
  have hown : s.vm.findClass "java/lang/StringUTF16" = some m.cls := findClass_of_methodNamed Bd.named
  have X0 : Stand p l e ({ frames := 0, cells := 0, slots := 0, locals := 0 } : Room) s m #[(.ref b), (.int (Int32.ofNat j)), (.int c_)] below meth c s₁ [] 0 0 := Stand.of_body Bd
  have e0 : s₁.heap = h0 := by rw [← hh, Bd.state]; rfl
  have N0 := Fr.nil n0
  have pre0 : ∀ t, Steps p.tables e below (s₁.setTop (mkF m 0 #[.val (.ref b), .val (.int (Int32.ofNat j)), .val (.int c_)] [])) t → Steps p.tables e below (s₁.setTop (entryFrame m #[(.ref b), (.int (Int32.ofNat j)), (.int c_)] 3)) t := fun t k => castTop (ef3_ m b (Int32.ofNat j) c_) k
  obtain ⟨⟨G1, O2, P5⟩, ⟨G3, O4, rG3⟩, Sa, Sh, Sl⟩ := id hG
  obtain ⟨T1, X1, e1, st1⟩ := getS2 X0 hx hZ hown (host := "") (Or.inl (wt hw 67 rfl)) Via.refl e0 (Sa.ext O0.2) (g := (mkF m 0 #[.val (.ref b), .val (.int (Int32.ofNat j)), .val (.int c_)] [])) rfl (hb hby k3_0)
  obtain ⟨T2, X2, e2, st2⟩ := getS2 X1 hx hZ hown (host := "") (Or.inl (wt hw 68 rfl)) Via.refl e1 (Sh.ext O0.2) (g := (mkF m 38 #[.val (.ref b), .val (.int (Int32.ofNat (2 * j + 1))), .val (.int c_)] [(.int c_), (.int (Int32.ofNat (2 * j))), (.ref b)])) rfl (hb hby k3_38)
  obtain ⟨cl3, Ar3, q3, S3, N_3, H_3, G3⟩ := id V_b
  obtain ⟨T4, h4, X4, e4, W4, st4⟩ := stB X2 hx hZ e2 Ar3 (j := (Int32.ofNat (2 * j))) (own_inb S3 (by omega) (by omega)) (g := (mkF m 43 #[.val (.ref b), .val (.int (Int32.ofNat (2 * j + 1))), .val (.int c_)] [(.int ((c_ >>> ((0 : Int32) &&& 31)).toInt8.toInt32)), (.int (Int32.ofNat (2 * j))), (.ref b)])) rfl rfl (hb hby k3_43)
  have Va4 : Arv Z h4 b kb .byte (Int32.ofNat nn) ((wideBytes ds) ++ [.int (nar .byte ((c_ >>> ((0 : Int32) &&& 31)).toInt8.toInt32))]) (.int (0 : Int32)) := own_app V_b (fits_nar_byte _) W4 (by rw [own_clamp (by omega)]; exact (by rw [own_wlen]; omega))
  have Nf4 := Fr.snoc X4 N0 g_b
  have K1 : Keep h0 h4 [b] := (Keep.refl h0 [b]).wr W4 (Or.inl (List.mem_of_getElem? (i := 0) rfl))
  have f6 : Old Z n0 h4 := (O0.wr W4 g_b)
  obtain ⟨T5, X5, e5, st5⟩ := getS2 X4 hx hZ hown (host := "") (Or.inl (wt hw 69 rfl)) Via.refl e4 (Sl.ext f6.2) (g := (mkF m 47 #[.val (.ref b), .val (.int (Int32.ofNat (2 * j + 1))), .val (.int c_)] [(.int c_), (.int (Int32.ofNat (2 * j + 1))), (.ref b)])) rfl (hb hby k3_47)
  obtain ⟨cl7, Ar7, q7, S7, N_7, H_7, G7⟩ := id Va4
  obtain ⟨T8, h8, X8, e8, W8, st8⟩ := stB X5 hx hZ e5 Ar7 (j := (Int32.ofNat (2 * j + 1))) (own_inb S7 (by omega) (by omega)) (g := (mkF m 52 #[.val (.ref b), .val (.int (Int32.ofNat (2 * j + 1))), .val (.int c_)] [(.int ((c_ >>> ((8 : Int32) &&& 31)).toInt8.toInt32)), (.int (Int32.ofNat (2 * j + 1))), (.ref b)])) rfl rfl (hb hby k3_52)
  have Va8 : Arv Z h8 b kb .byte (Int32.ofNat nn) (((wideBytes ds) ++ [.int (nar .byte ((c_ >>> ((0 : Int32) &&& 31)).toInt8.toInt32))]) ++ [.int (nar .byte ((c_ >>> ((8 : Int32) &&& 31)).toInt8.toInt32))]) (.int (0 : Int32)) := own_app Va4 (fits_nar_byte _) W8 (by rw [own_clamp (by omega)]; exact (by rw [List.length_append, own_wlen]; simp; omega))
  have Vb8 : Arv Z h8 b kb .byte (Int32.ofNat nn) (wideBytes (ds ++ [c_])) (.int (0 : Int32)) := by
    have q := Va8
    rw [own_wstep] at q; exact q
  have Nf8 := Fr.snoc X8 Nf4 g_b
  have K2 : Keep h0 h8 [b] := K1.wr W8 (Or.inl (List.mem_of_getElem? (i := 0) rfl))
  obtain ⟨fs, hr, hrun, hended, hW, hsame⟩ := X8.leave (v := none) (fun _ => rfl)
  refine ⟨_, _, pre0 _ ?_, hrun, hended, _, _, rfl, ?_, ⟨_, rfl⟩, hW, hsame.mono (by decide) (by decide)⟩
  · show Steps p.tables e below (s₁.setTop (mkF m 0 #[.val (.ref b), .val (.int (Int32.ofNat j)), .val (.int c_)] [])) _
    refine st1 _ ?_
    show Steps p.tables e below (T1.setTop (mkF m 3 #[.val (.ref b), .val (.int (Int32.ofNat j)), .val (.int c_)] [(.int (1 : Int32))])) _
    refine XS.ifYes X1.here hx rfl (pc0 := 3) (pc' := 28) rfl (hb hby k3_3) rfl ((if0 _ _).trans (feq (by decide : ¬ ((1 : Int32) = (0 : Int32)))).2) (by decide) (by decide) ?_
    refine XS.iloadN X1.here hx rfl (hb hby k3_28) rfl ?_
    refine XS.iconst X1.here hx rfl (hb hby k3_29) ?_
    refine XS.ishl X1.here hx rfl (hb hby k3_30) rfl ?_
    show Steps p.tables e below (T1.setTop (mkF m 31 #[.val (.ref b), .val (.int (Int32.ofNat j)), .val (.int c_)] [(.int ((Int32.ofNat j) <<< ((1 : Int32) &&& 31)))])) _
    rw [own_shl1 (by omega)]
    refine XS.istoreN X1.here hx rfl (hb hby k3_31) rfl (l' := #[.val (.ref b), .val (.int (Int32.ofNat (2 * j))), .val (.int c_)]) rfl ?_
    refine XS.aloadN X1.here hx rfl (hb hby k3_32) rfl rfl ?_
    refine XS.iloadN X1.here hx rfl (hb hby k3_33) rfl ?_
    show Steps p.tables e below (T1.setTop (mkF m 34 #[.val (.ref b), .val (.int (Int32.ofNat (2 * j))), .val (.int c_)] [(.int (Int32.ofNat (2 * j))), (.ref b)])) _
    refine XS.iinc X1.here hx rfl (hb hby k3_34) rfl (l' := #[.val (.ref b), .val (.int ((Int32.ofNat (2 * j)) + (1 : Int32))), .val (.int c_)]) rfl ?_
    show Steps p.tables e below (T1.setTop (mkF m 37 #[.val (.ref b), .val (.int ((Int32.ofNat (2 * j)) + (1 : Int32))), .val (.int c_)] [(.int (Int32.ofNat (2 * j))), (.ref b)])) _
    rw [own_add1]
    refine XS.iloadN X1.here hx rfl (hb hby k3_37) rfl ?_
    show Steps p.tables e below (T1.setTop (mkF m 38 #[.val (.ref b), .val (.int (Int32.ofNat (2 * j + 1))), .val (.int c_)] [(.int c_), (.int (Int32.ofNat (2 * j))), (.ref b)])) _
    refine st2 _ ?_
    refine XS.ishr X2.here hx rfl (hb hby k3_41) rfl ?_
    refine XS.i2b X2.here hx rfl (hb hby k3_42) rfl ?_
    show Steps p.tables e below (T2.setTop (mkF m 43 #[.val (.ref b), .val (.int (Int32.ofNat (2 * j + 1))), .val (.int c_)] [(.int ((c_ >>> ((0 : Int32) &&& 31)).toInt8.toInt32)), (.int (Int32.ofNat (2 * j))), (.ref b)])) _
    refine st4 _ ?_
    refine XS.aloadN X4.here hx rfl (hb hby k3_44) rfl rfl ?_
    refine XS.iloadN X4.here hx rfl (hb hby k3_45) rfl ?_
    refine XS.iloadN X4.here hx rfl (hb hby k3_46) rfl ?_
    show Steps p.tables e below (T4.setTop (mkF m 47 #[.val (.ref b), .val (.int (Int32.ofNat (2 * j + 1))), .val (.int c_)] [(.int c_), (.int (Int32.ofNat (2 * j + 1))), (.ref b)])) _
    refine st5 _ ?_
    refine XS.ishr X5.here hx rfl (hb hby k3_50) rfl ?_
    refine XS.i2b X5.here hx rfl (hb hby k3_51) rfl ?_
    show Steps p.tables e below (T5.setTop (mkF m 52 #[.val (.ref b), .val (.int (Int32.ofNat (2 * j + 1))), .val (.int c_)] [(.int ((c_ >>> ((8 : Int32) &&& 31)).toInt8.toInt32)), (.int (Int32.ofNat (2 * j + 1))), (.ref b)])) _
    refine st8 _ ?_
    show Steps p.tables e below (T8.setTop (mkF m 53 #[.val (.ref b), .val (.int (Int32.ofNat (2 * j + 1))), .val (.int c_)] [])) _
    exact X8.returnOut hx Bd.returns (hb hby k3_53) hr
  · show QW Z b kb (Int32.ofNat nn) (wideBytes (ds ++ [c_])) h0 n0 _ T8.heap _
    rw [e8]
    exact ⟨rfl, Nf8, K2, Vb8⟩
theorem own_nbl {n : Nat} (h : n ≤ 130) : Int32.ofNat n < (1073741823 : Int32) := by
  rw [Int32.lt_iff_toInt_lt, own_toNat (by omega)]; have : (1073741823 : Int32).toInt = 1073741823 := rfl; omega
theorem k4_0 : decode c4_ 0 = .ok (.iload_n 0, 1) := by decide +kernel
theorem k4_1 : decode c4_ 1 = .ok (.ifCond .ge 11, 3) := by decide +kernel
theorem k4_12 : decode c4_ 12 = .ok (.iload_n 0, 1) := by decide +kernel
theorem k4_13 : decode c4_ 13 = .ok (.ldc 20, 2) := by decide +kernel
theorem k4_15 : decode c4_ 15 = .ok (.if_icmp .lt 40, 3) := by decide +kernel
theorem k4_55 : decode c4_ 55 = .ok (.iload_n 0, 1) := by decide +kernel
theorem k4_56 : decode c4_ 56 = .ok (.iconst 1, 1) := by decide +kernel
theorem k4_57 : decode c4_ 57 = .ok (.ishl, 1) := by decide +kernel
theorem k4_58 : decode c4_ 58 = .ok (.ireturn, 1) := by decide +kernel
theorem ef4_ (m : MethodId) (x0 : Int32) : entryFrame m #[(.int x0)] 1 = mkF m 0 #[.val (.int x0)] [] := by first | (simp [entryFrame, mkF, argsToLocals, Value.category]; done) | rfl
theorem rmNl (l : Launch) (Z : State) (a0 : Array Value) (hw : HW a0 Z) (ws : List Jvm.Cond) (nn : Nat) (h0 : Heap) (n0 : Nat) (Z0 : n0 ≤ h0.size) (hm : nn ≤ 130) :
    Met l Z ws m4_ jdk_52_method_3_code 1 (some .int) ({ frames := 0, cells := 0, slots := 0, locals := 0 } : Room) h0 #[(.int (Int32.ofNat nn))] (QB (Int32.ofNat (2 * nn)) h0 n0) := by
  refine MetFree.of_bodySF (plainFor_of_name pn1_) hisR ?_
  intro p e s m args below meth c s₁ Bd hml0 hP hK
  obtain ⟨rfl, hZ, hh⟩ := hP
  have hx := Bd.exec
  have hby := Bd.bytes
  have hown : s.vm.findClass "java/lang/StringUTF16" = some m.cls := findClass_of_methodNamed Bd.named
  have X0 : Stand p l e ({ frames := 0, cells := 0, slots := 0, locals := 0 } : Room) s m #[(.int (Int32.ofNat nn))] below meth c s₁ [] 0 0 := Stand.of_body Bd
  have e0 : s₁.heap = h0 := by rw [← hh, Bd.state]; rfl
  have N0 := Fr.nil n0
  have pre0 : ∀ t, Steps p.tables e below (s₁.setTop (mkF m 0 #[.val (.int (Int32.ofNat nn))] [])) t → Steps p.tables e below (s₁.setTop (entryFrame m #[(.int (Int32.ofNat nn))] 1)) t := fun t k => castTop (ef4_ m (Int32.ofNat nn)) k
  obtain ⟨fs, hr, hrun, hended, hW, hsame⟩ := X0.leave (v := some (.int (Int32.ofNat (2 * nn)))) (fun h => by rw [Bd.returns] at h; cases h)
  refine ⟨_, _, pre0 _ ?_, hrun, hended, _, _, rfl, ?_, ⟨_, rfl⟩, hW, hsame.mono (by decide) (by decide)⟩
  · show Steps p.tables e below (s₁.setTop (mkF m 0 #[.val (.int (Int32.ofNat nn))] [])) _
    refine XS.iloadN X0.here hx rfl (hb hby k4_0) rfl ?_
    show Steps p.tables e below (s₁.setTop (mkF m 1 #[.val (.int (Int32.ofNat nn))] [(.int (Int32.ofNat nn))])) _
    refine XS.ifYes X0.here hx rfl (pc0 := 1) (pc' := 12) rfl (hb hby k4_1) rfl ((if0 _ _).trans (flt (own_nonneg (by omega) : ¬ ((Int32.ofNat nn) < (0 : Int32)))).2.1) (by decide) (by decide) ?_
    refine XS.iloadN X0.here hx rfl (hb hby k4_12) rfl ?_
    show Steps p.tables e below (s₁.setTop (mkF m 13 #[.val (.int (Int32.ofNat nn))] [(.int (Int32.ofNat nn))])) _
    refine X0.ldcInt hx hown (mvT hZ (wt hw 63 rfl)) (g := (mkF m 13 #[.val (.int (Int32.ofNat nn))] [(.int (Int32.ofNat nn))])) rfl (hb hby k4_13) _ ?_
    show Steps p.tables e below (s₁.setTop (mkF m 15 #[.val (.int (Int32.ofNat nn))] [(.int (1073741823 : Int32)), (.int (Int32.ofNat nn))])) _
    refine XS.icmpYes X0.here hx rfl (pc0 := 15) (pc' := 55) rfl (hb hby k4_15) rfl (tlt (own_nbl hm : (Int32.ofNat nn) < (1073741823 : Int32))).1 (by decide) (by decide) ?_
    refine XS.iloadN X0.here hx rfl (hb hby k4_55) rfl ?_
    refine XS.iconst X0.here hx rfl (hb hby k4_56) ?_
    refine XS.ishl X0.here hx rfl (hb hby k4_57) rfl ?_
    show Steps p.tables e below (s₁.setTop (mkF m 58 #[.val (.int (Int32.ofNat nn))] [(.int ((Int32.ofNat nn) <<< ((1 : Int32) &&& 31)))])) _
    rw [own_shl1 (by omega)]
    show Steps p.tables e below (s₁.setTop (mkF m 58 #[.val (.int (Int32.ofNat nn))] [(.int (Int32.ofNat (2 * nn)))])) _
    exact retI X0 hx Bd.returns (hb hby k4_58) hr
  · show QB (Int32.ofNat (2 * nn)) h0 n0 _ s₁.heap _
    rw [e0]
    exact ⟨rfl, N0, rfl⟩
theorem k5_0 : decode c5_ 0 = .ok (.iload_n 0, 1) := by decide +kernel
theorem k5_1 : decode c5_ 1 = .ok (.invokestatic 11, 3) := by decide +kernel
theorem k5_4 : decode c5_ 4 = .ok (.newarray .byte, 2) := by decide +kernel
theorem k5_6 : decode c5_ 6 = .ok (.areturn, 1) := by decide +kernel
theorem pd1_ : parseMethodDescriptor "(I)I" = some ⟨[.int], some .int⟩ := by decide +kernel
theorem ef5_ (m : MethodId) (x0 : Int32) : entryFrame m #[(.int x0)] 1 = mkF m 0 #[.val (.int x0)] [] := by first | (simp [entryFrame, mkF, argsToLocals, Value.category]; done) | rfl
theorem rmNf (l : Launch) (Z : State) (a0 : Array Value) (hw : HW a0 Z) (ws : List Jvm.Cond) (nn : Nat) (h0 : Heap) (n0 : Nat) (Z0 : n0 ≤ h0.size) (hm : nn ≤ 130) :
    Met l Z ws m5_ jdk_52_method_2_code 1 (some (.array .byte)) ({ frames := 1, cells := 1, slots := 260, locals := 12 } : Room) h0 #[(.int (Int32.ofNat nn))] (QA Z (Int32.ofNat (2 * nn)) [] h0 n0) := by
  refine MetFree.of_bodySF (plainFor_of_name pn1_) hisR ?_
  intro p e s m args below meth c s₁ Bd hml0 hP hK
  obtain ⟨rfl, hZ, hh⟩ := hP
  have hx := Bd.exec
  have hby := Bd.bytes
  have hml : c.maxLocals = 1 := hml0
  have hown : s.vm.findClass "java/lang/StringUTF16" = some m.cls := findClass_of_methodNamed Bd.named
  have X0 : Stand p l e ({ frames := 1, cells := 1, slots := 260, locals := 12 } : Room) s m #[(.int (Int32.ofNat nn))] below meth c s₁ [] 0 0 := Stand.of_body Bd
  have e0 : s₁.heap = h0 := by rw [← hh, Bd.state]; rfl
  have N0 := Fr.nil n0
  have pre0 : ∀ t, Steps p.tables e below (s₁.setTop (mkF m 0 #[.val (.int (Int32.ofNat nn))] [])) t → Steps p.tables e below (s₁.setTop (entryFrame m #[(.int (Int32.ofNat nn))] 1)) t := fun t k => castTop (ef5_ m (Int32.ofNat nn)) k
  obtain ⟨_, _, ⟨T1, L1, k1, n1⟩, -, X1, ⟨Lc1, hQ1, l1, y1, z1⟩, st1⟩ := Jvm.LawKit.callS X0 hx (y := m4_) hown (mvT hZ (wt hw 60 rfl)) (mvT hZ (wt hw 61 rfl)) (mvT hZ (wt hw 46 rfl)) (mvT hZ (wt hw 62 rfl)) (by decide) (backOf (W := 0) (rmNl l Z a0 hw [] nn h0 n0 (Nat.le_trans Z0 (Keep.refl h0 []).1) hm) hZ (wt hw 62 rfl) (wt hw 46 rfl) (by decide) (by decide)) (g := (mkF m 1 #[.val (.int (Int32.ofNat nn))] [(.int (Int32.ofNat nn))])) rfl (by rw [hml]; rfl) (argsL := [(.int (Int32.ofNat nn))]) (rest := []) (lenOf pd1_ rfl) rfl (by show 2 * 0 + _ ≤ _; exact Nat.le_of_eq rfl) (hb hby k5_1) (fun _ _ => ⟨rfl, e0, (by decide : 0 + 0 ≤ _), (by decide : 0 + 0 ≤ _)⟩)
  dsimp only [Pt.U, Pt.locs, Pt.cells, Pt.slots] at X1 l1 y1 z1 st1 hQ1
  rw [l1] at X1
  clear l1; subst y1 z1
  obtain ⟨rfl, N1q, e1q⟩ := hQ1
  have N1a := Fr.app N0 N1q
  obtain ⟨T2, h2, ka2, X2, e2, E2, A2, st2⟩ := newP X1 hx hZ (wt hw 16 rfl) e1q (g := (mkF m 4 #[.val (.int (Int32.ofNat nn))] [(.int (Int32.ofNat (2 * nn)))])) rfl (hb hby k5_4) rfl (own_nonneg (by omega)) (cap := 260) (by rw [own_clamp (by omega)]; omega) (by decide) (by decide) (by decide)
  obtain ⟨b2, g2⟩ : ∃ z, z = h0.size := ⟨_, rfl⟩
  rw [← g2] at A2 st2
  have sz_b2 : h0.size ≤ b2 := Nat.le_trans (Keep.refl h0 []).1 (Nat.le_of_eq g2.symm)
  have K1 : Keep h0 h2 [] := (Keep.refl h0 []).ext E2
  have V_b2 : Arv Z h2 b2 ka2 .byte (Int32.ofNat (2 * nn)) [] (.int (0 : Int32)) := Arv.new A2 (own_nonneg (by omega))
  obtain ⟨fs, hr, hrun, hended, hW, hsame⟩ := X2.leave (v := some (.ref b2)) (fun h => by rw [Bd.returns] at h; cases h)
  refine ⟨_, _, pre0 _ ?_, hrun, hended, _, _, rfl, ?_, ⟨_, rfl⟩, hW, hsame.mono (by decide) (by decide)⟩
  · show Steps p.tables e below (s₁.setTop (mkF m 0 #[.val (.int (Int32.ofNat nn))] [])) _
    refine XS.iloadN X0.here hx rfl (hb hby k5_0) rfl ?_
    show Steps p.tables e below (s₁.setTop (mkF m 1 #[.val (.int (Int32.ofNat nn))] [(.int (Int32.ofNat nn))])) _
    refine st1 _ ?_
    show Steps p.tables e below (T1.setTop (mkF m 4 #[.val (.int (Int32.ofNat nn))] [(.int (Int32.ofNat (2 * nn)))])) _
    refine st2 _ ?_
    show Steps p.tables e below (T2.setTop (mkF m 6 #[.val (.int (Int32.ofNat nn))] [(.ref b2)])) _
    jvm_step X2.here [X2.here.top, hx, (hb hby k5_6), X2.method', Bd.returns, Value.isRef, FieldType.isReference]
    first | (intro acts; rw [hr _ acts rfl rfl rfl]) | rw [hr _ _ rfl rfl rfl]
    exact Steps.refl _
  · show QA Z (Int32.ofNat (2 * nn)) [] h0 n0 _ T2.heap _
    rw [e2]
    exact ⟨b2, ka2, rfl, N1a, K1, sz_b2, V_b2⟩
theorem k6_0 : decode c6_ 0 = .ok (.iload_n 2, 1) := by decide +kernel
theorem k6_1 : decode c6_ 1 = .ok (.invokestatic 107, 3) := by decide +kernel
theorem k6_4 : decode c6_ 4 = .ok (.astore_n 3, 1) := by decide +kernel
theorem k6_5 : decode c6_ 5 = .ok (.iconst 0, 1) := by decide +kernel
theorem k6_6 : decode c6_ 6 = .ok (.istore 4, 2) := by decide +kernel
theorem k6_8 : decode c6_ 8 = .ok (.iload 4, 2) := by decide +kernel
theorem k6_10 : decode c6_ 10 = .ok (.iload_n 2, 1) := by decide +kernel
theorem k6_11 : decode c6_ 11 = .ok (.if_icmp .ge 21, 3) := by decide +kernel
theorem k6_14 : decode c6_ 14 = .ok (.aload_n 3, 1) := by decide +kernel
theorem k6_15 : decode c6_ 15 = .ok (.iload 4, 2) := by decide +kernel
theorem k6_17 : decode c6_ 17 = .ok (.aload_n 0, 1) := by decide +kernel
theorem k6_18 : decode c6_ 18 = .ok (.iload_n 1, 1) := by decide +kernel
theorem k6_19 : decode c6_ 19 = .ok (.caload, 1) := by decide +kernel
theorem k6_20 : decode c6_ 20 = .ok (.invokestatic 111, 3) := by decide +kernel
theorem k6_23 : decode c6_ 23 = .ok (.iinc 1 1, 3) := by decide +kernel
theorem k6_26 : decode c6_ 26 = .ok (.iinc 4 1, 3) := by decide +kernel
theorem k6_29 : decode c6_ 29 = .ok (.goto (-21), 3) := by decide +kernel
theorem k6_32 : decode c6_ 32 = .ok (.aload_n 3, 1) := by decide +kernel
theorem k6_33 : decode c6_ 33 = .ok (.areturn, 1) := by decide +kernel
theorem pd2_ : parseMethodDescriptor "(I)[B" = some ⟨[.int], some (.array .byte)⟩ := by decide +kernel
theorem pd3_ : parseMethodDescriptor "([BII)V" = some ⟨[(.array .byte), .int, .int], none⟩ := by decide +kernel
theorem ef6_ (m : MethodId) (x0 : Addr) (x1 : Int32) (x2 : Int32) : entryFrame m #[(.ref x0), (.int x1), (.int x2)] 5 = mkF m 0 #[.val (.ref x0), .val (.int x1), .val (.int x2), .unset, .unset] [] := by first | (simp [entryFrame, mkF, argsToLocals, Value.category]; done) | rfl
theorem rmTb (l : Launch) (Z : State) (a0 : Array Value) (hw : HW a0 Z) (ws : List Jvm.Cond) (a1 : Addr) (kc : ClassId) (nn : Nat) (cs : List Int32) (h0 : Heap) (n0 : Nat) (Z0 : n0 ≤ h0.size) (hG : GST Z) (O0 : Old Z n0 h0) (V_a1 : Arv Z h0 a1 kc .char (Int32.ofNat nn) (cs.map Value.int) (.int (0 : Int32))) (hl : cs.length = nn) (hm : nn ≤ 127) :
    Met l Z ws m6_ jdk_52_method_14_code 5 (some (.array .byte)) ({ frames := 2, cells := 1, slots := 260, locals := 24 } : Room) h0 #[(.ref a1), (.int (0 : Int32)), (.int (Int32.ofNat nn))] (QA Z (Int32.ofNat (2 * nn)) (wideBytes cs) h0 n0) := by
  refine MetFree.of_bodySF (plainFor_of_name pn1_) hisR ?_
  intro p e s m args below meth c s₁ Bd hml0 hP hK
  obtain ⟨rfl, hZ, hh⟩ := hP
  have hx := Bd.exec
  have hby := Bd.bytes
  have hml : c.maxLocals = 5 := hml0
  have hown : s.vm.findClass "java/lang/StringUTF16" = some m.cls := findClass_of_methodNamed Bd.named
  have X0 : Stand p l e ({ frames := 2, cells := 1, slots := 260, locals := 24 } : Room) s m #[(.ref a1), (.int (0 : Int32)), (.int (Int32.ofNat nn))] below meth c s₁ [] 0 0 := Stand.of_body Bd
  have e0 : s₁.heap = h0 := by rw [← hh, Bd.state]; rfl
  have N0 := Fr.nil n0
  have pre0 : ∀ t, Steps p.tables e below (s₁.setTop (mkF m 0 #[.val (.ref a1), .val (.int (0 : Int32)), .val (.int (Int32.ofNat nn)), .unset, .unset] [])) t → Steps p.tables e below (s₁.setTop (entryFrame m #[(.ref a1), (.int (0 : Int32)), (.int (Int32.ofNat nn))] 5)) t := fun t k => castTop (ef6_ m a1 (0 : Int32) (Int32.ofNat nn)) k
  obtain ⟨⟨G1, O2, P5⟩, ⟨G3, O4, rG3⟩, Sa, Sh, Sl⟩ := id hG
  obtain ⟨_, _, ⟨T1, L1, k1, n1⟩, -, X1, ⟨Lc1, hQ1, l1, y1, z1⟩, st1⟩ := Jvm.LawKit.callS X0 hx (y := m5_) hown (mvT hZ (wt hw 57 rfl)) (mvT hZ (wt hw 58 rfl)) (mvT hZ (wt hw 46 rfl)) (mvT hZ (wt hw 59 rfl)) (by decide) (backOf (W := 0) (rmNf l Z a0 hw [] nn h0 n0 (Nat.le_trans Z0 (Keep.refl h0 []).1) (by omega)) hZ (wt hw 59 rfl) (wt hw 46 rfl) (by decide) (by decide)) (g := (mkF m 1 #[.val (.ref a1), .val (.int (0 : Int32)), .val (.int (Int32.ofNat nn)), .unset, .unset] [(.int (Int32.ofNat nn))])) rfl (by rw [hml]; rfl) (argsL := [(.int (Int32.ofNat nn))]) (rest := []) (lenOf pd2_ rfl) rfl (by show 2 * 0 + _ ≤ _; exact Nat.le_of_eq rfl) (hb hby k6_1) (fun _ _ => ⟨rfl, e0, (by decide : 0 + 1 ≤ _), (by decide : 0 + 260 ≤ _)⟩)
  dsimp only [Pt.U, Pt.locs, Pt.cells, Pt.slots] at X1 l1 y1 z1 st1 hQ1
  rw [l1] at X1
  clear l1; subst y1 z1
  obtain ⟨t1, tk1, rfl, N1q, K1q, ts1, Ta1⟩ := hQ1
  have N1a := Fr.app N0 N1q
  have K1 : Keep h0 T1.heap [] := (Keep.refl h0 []).trans K1q all0
  have sz_t1 : h0.size ≤ t1 := Nat.le_trans (Keep.refl h0 []).1 ts1
  have g_t1 : n0 ≤ t1 := Nat.le_trans Z0 sz_t1
  have lp2 : ∀ k : Nat, k ≤ nn → ∃ (T_ : State) (h_ : Heap) (L_ : List Loc) (z_ : Slot), (z_ = .unset ∨ ∃ y : Int32, z_ = .val (.int y)) ∧ Stand p l e ({ frames := 2, cells := 1, slots := 260, locals := 24 } : Room) s m #[(.ref a1), (.int (0 : Int32)), (.int (Int32.ofNat nn))] below meth c T_ L_ 1 260 ∧ T_.heap = h_ ∧ Fr n0 L_ ∧ Keep T1.heap h_ [t1] ∧ Arv Z h_ t1 tk1 .byte (Int32.ofNat (2 * nn)) (wideBytes (cs.take k)) (.int (0 : Int32)) ∧ ∀ t, Steps p.tables e below (T_.setTop (mkF m 8 #[.val (.ref a1), .val (.int (Int32.ofNat k)), .val (.int (Int32.ofNat nn)), .val (.ref t1), .val (.int (Int32.ofNat k))] [])) t → Steps p.tables e below (T1.setTop (mkF m 8 #[.val (.ref a1), .val (.int (0 : Int32)), .val (.int (Int32.ofNat nn)), .val (.ref t1), .val (.int (0 : Int32))] [])) t := by
    intro k
    induction k with
    | zero => intro _; exact ⟨T1, _, _, .unset, Or.inl rfl, X1, rfl, N1a, Keep.refl _ _, Ta1, fun t kk => kk⟩
    | succ k ih =>
      intro hk1
      obtain ⟨T3, h3, L3, z3, zh3, X3, e3, N3l, K3l, V3l, s3l⟩ := ih (Nat.le_of_succ_le hk1)
      have K2 : Keep h0 h3 [] := K1.trans K3l (allS (Or.inr sz_t1) all0)
      have f104 : Arv Z h3 a1 kc .char (Int32.ofNat nn) (cs.map Value.int) (.int (0 : Int32)) := ((V_a1.keep K1q nin0).keep K3l (ninS (Nat.ne_of_lt (Nat.lt_of_lt_of_le V_a1.lt ts1)) nin0))
      obtain ⟨cl105, Ar105, q105, S105, N_105, H_105, G105⟩ := id f104
      have hin105 : ¬ ((Int32.ofNat k) < 0 ∨ cl105.slots.size ≤ ((Int32.ofNat k)).toNatClampNeg) := own_inb S105 (by omega) (by omega)
      have hat105 : cl105.slots[((Int32.ofNat k)).toNatClampNeg]? = some (.int (cs.getD k 0)) := H_105.at hin105 (by rw [own_clamp (by omega)]; exact own_getDm k)
      have f107 : Old Z n0 h3 := ((O0.keep K1q all0).keep K3l (allS g_t1 all0))
      obtain ⟨_, _, ⟨T106, L106, k106, n106⟩, -, X106, ⟨Lc106, hQ106, l106, y106, z106⟩, st106⟩ := Jvm.LawKit.callS X3 hx (y := m3_) hown (mvT hZ (wt hw 64 rfl)) (mvT hZ (wt hw 65 rfl)) (mvT hZ (wt hw 46 rfl)) (mvT hZ (wt hw 66 rfl)) (by decide) (backOf (W := 0) (rmPc l Z a0 hw [] t1 tk1 k (2 * nn) (cs.take k) (cs.getD k 0) h3 n0 (Nat.le_trans Z0 K2.1) hG f107 V3l (by simp; omega) (by rw [List.length_take]; omega) (by omega) g_t1) hZ (wt hw 66 rfl) (wt hw 46 rfl) (by decide) (by decide)) (g := (mkF m 20 #[.val (.ref a1), .val (.int (Int32.ofNat k)), .val (.int (Int32.ofNat nn)), .val (.ref t1), .val (.int (Int32.ofNat k))] [(.int (cs.getD k 0)), (.int (Int32.ofNat k)), (.ref t1)])) rfl (by rw [hml]; rfl) (argsL := [(.ref t1), (.int (Int32.ofNat k)), (.int (cs.getD k 0))]) (rest := []) (lenOf pd3_ rfl) rfl (by show 2 * 0 + _ ≤ _; exact Nat.le_of_eq rfl) (hb hby k6_20) (fun _ _ => ⟨rfl, e3, (by decide : 1 + 0 ≤ _), (by decide : 260 + 0 ≤ _)⟩)
      dsimp only [Pt.U, Pt.locs, Pt.cells, Pt.slots] at X106 l106 y106 z106 st106 hQ106
      rw [l106] at X106
      clear l106; subst y106 z106
      obtain ⟨rfl, N106q, K106q, Pa106⟩ := hQ106
      have N106a := Fr.app N3l N106q
      have Vw108 : Arv Z T106.heap t1 tk1 .byte (Int32.ofNat (2 * nn)) (wideBytes (cs.take (k + 1))) (.int (0 : Int32)) := by
        have q := Pa106
        rw [← own_takeS (by omega)] at q; exact q
      exact ⟨T106, _, _, z3, zh3, X106, rfl, N106a, (((Keep.refl T1.heap [t1]).trans K3l (allS (Or.inl (List.mem_of_getElem? (i := 0) rfl)) all0)).trans K106q (allS (Or.inl (List.mem_of_getElem? (i := 0) rfl)) all0)), Vw108, fun t kk => s3l t (by
        show Steps p.tables e below (T3.setTop (mkF m 8 #[.val (.ref a1), .val (.int (Int32.ofNat k)), .val (.int (Int32.ofNat nn)), .val (.ref t1), .val (.int (Int32.ofNat k))] [])) _
        refine XS.iload X3.here hx rfl (hb hby k6_8) rfl ?_
        refine XS.iloadN X3.here hx rfl (hb hby k6_10) rfl ?_
        show Steps p.tables e below (T3.setTop (mkF m 11 #[.val (.ref a1), .val (.int (Int32.ofNat k)), .val (.int (Int32.ofNat nn)), .val (.ref t1), .val (.int (Int32.ofNat k))] [(.int (Int32.ofNat nn)), (.int (Int32.ofNat k))])) _
        refine XS.icmpNo X3.here hx rfl (hb hby k6_11) rfl (tlt ((own_lt_of (by omega) (by omega)).mpr (by omega) : (Int32.ofNat k) < (Int32.ofNat nn))).2.1 ?_
        refine XS.aloadN X3.here hx rfl (hb hby k6_14) rfl rfl ?_
        refine XS.iload X3.here hx rfl (hb hby k6_15) rfl ?_
        refine XS.aloadN X3.here hx rfl (hb hby k6_17) rfl rfl ?_
        refine XS.iloadN X3.here hx rfl (hb hby k6_18) rfl ?_
        show Steps p.tables e below (T3.setTop (mkF m 19 #[.val (.ref a1), .val (.int (Int32.ofNat k)), .val (.int (Int32.ofNat nn)), .val (.ref t1), .val (.int (Int32.ofNat k))] [(.int (Int32.ofNat k)), (.ref a1), (.int (Int32.ofNat k)), (.ref t1)])) _
        refine X3.caload hx (j := (Int32.ofNat k)) (v := (.int (cs.getD k 0))) (by rw [e3]; exact Ar105.1) (State.isArrayOf_alike hZ.alike Ar105.2.1) Ar105.2.2 hin105 hat105 (g := (mkF m 19 #[.val (.ref a1), .val (.int (Int32.ofNat k)), .val (.int (Int32.ofNat nn)), .val (.ref t1), .val (.int (Int32.ofNat k))] [(.int (Int32.ofNat k)), (.ref a1), (.int (Int32.ofNat k)), (.ref t1)])) rfl rfl (hb hby k6_19) _ ?_
        show Steps p.tables e below (T3.setTop (mkF m 20 #[.val (.ref a1), .val (.int (Int32.ofNat k)), .val (.int (Int32.ofNat nn)), .val (.ref t1), .val (.int (Int32.ofNat k))] [(.int (cs.getD k 0)), (.int (Int32.ofNat k)), (.ref t1)])) _
        refine st106 _ ?_
        show Steps p.tables e below (T106.setTop (mkF m 23 #[.val (.ref a1), .val (.int (Int32.ofNat k)), .val (.int (Int32.ofNat nn)), .val (.ref t1), .val (.int (Int32.ofNat k))] [])) _
        refine XS.iinc X106.here hx rfl (hb hby k6_23) rfl (l' := #[.val (.ref a1), .val (.int ((Int32.ofNat k) + (1 : Int32))), .val (.int (Int32.ofNat nn)), .val (.ref t1), .val (.int (Int32.ofNat k))]) rfl ?_
        show Steps p.tables e below (T106.setTop (mkF m 26 #[.val (.ref a1), .val (.int ((Int32.ofNat k) + (1 : Int32))), .val (.int (Int32.ofNat nn)), .val (.ref t1), .val (.int (Int32.ofNat k))] [])) _
        refine XS.iinc X106.here hx rfl (hb hby k6_26) rfl (l' := #[.val (.ref a1), .val (.int ((Int32.ofNat k) + (1 : Int32))), .val (.int (Int32.ofNat nn)), .val (.ref t1), .val (.int ((Int32.ofNat k) + (1 : Int32)))]) rfl ?_
        refine XS.goto X106.here hx rfl (pc0 := 29) (pc' := 8) rfl (hb hby k6_29) (by decide) (by decide) ?_
        show Steps p.tables e below (T106.setTop (mkF m 8 #[.val (.ref a1), .val (.int ((Int32.ofNat k) + (1 : Int32))), .val (.int (Int32.ofNat nn)), .val (.ref t1), .val (.int ((Int32.ofNat k) + (1 : Int32)))] [])) _
        rw [own_add1]
        exact kk)⟩
  obtain ⟨T2, h2, L2, z2, zh2, X2, e2, N2l, K2l, V2l, st2⟩ := lp2 nn (Nat.le_refl _)
  have K2 : Keep h0 h2 [] := K1.trans K2l (allS (Or.inr sz_t1) all0)
  obtain ⟨fs, hr, hrun, hended, hW, hsame⟩ := X2.leave (v := some (.ref t1)) (fun h => by rw [Bd.returns] at h; cases h)
  refine ⟨_, _, pre0 _ ?_, hrun, hended, _, _, rfl, ?_, ⟨_, rfl⟩, hW, hsame.mono (by decide) (by decide)⟩
  · show Steps p.tables e below (s₁.setTop (mkF m 0 #[.val (.ref a1), .val (.int (0 : Int32)), .val (.int (Int32.ofNat nn)), .unset, .unset] [])) _
    refine XS.iloadN X0.here hx rfl (hb hby k6_0) rfl ?_
    show Steps p.tables e below (s₁.setTop (mkF m 1 #[.val (.ref a1), .val (.int (0 : Int32)), .val (.int (Int32.ofNat nn)), .unset, .unset] [(.int (Int32.ofNat nn))])) _
    refine st1 _ ?_
    refine XS.astoreN X1.here hx rfl (hb hby k6_4) rfl rfl (l' := #[.val (.ref a1), .val (.int (0 : Int32)), .val (.int (Int32.ofNat nn)), .val (.ref t1), .unset]) rfl ?_
    refine XS.iconst X1.here hx rfl (hb hby k6_5) ?_
    refine XS.istore X1.here hx rfl (hb hby k6_6) rfl (l' := #[.val (.ref a1), .val (.int (0 : Int32)), .val (.int (Int32.ofNat nn)), .val (.ref t1), .val (.int (0 : Int32))]) rfl ?_
    show Steps p.tables e below (T1.setTop (mkF m 8 #[.val (.ref a1), .val (.int (0 : Int32)), .val (.int (Int32.ofNat nn)), .val (.ref t1), .val (.int (0 : Int32))] [])) _
    refine st2 _ ?_
    show Steps p.tables e below (T2.setTop (mkF m 8 #[.val (.ref a1), .val (.int (Int32.ofNat nn)), .val (.int (Int32.ofNat nn)), .val (.ref t1), .val (.int (Int32.ofNat nn))] [])) _
    refine XS.iload X2.here hx rfl (hb hby k6_8) rfl ?_
    refine XS.iloadN X2.here hx rfl (hb hby k6_10) rfl ?_
    show Steps p.tables e below (T2.setTop (mkF m 11 #[.val (.ref a1), .val (.int (Int32.ofNat nn)), .val (.int (Int32.ofNat nn)), .val (.ref t1), .val (.int (Int32.ofNat nn))] [(.int (Int32.ofNat nn)), (.int (Int32.ofNat nn))])) _
    refine XS.icmpYes X2.here hx rfl (pc0 := 11) (pc' := 32) rfl (hb hby k6_11) rfl (flt (fun q => Nat.lt_irrefl _ ((own_lt_of (by omega) (by omega)).mp q) : ¬ ((Int32.ofNat nn) < (Int32.ofNat nn)))).2.1 (by decide) (by decide) ?_
    refine XS.aloadN X2.here hx rfl (hb hby k6_32) rfl rfl ?_
    show Steps p.tables e below (T2.setTop (mkF m 33 #[.val (.ref a1), .val (.int (Int32.ofNat nn)), .val (.int (Int32.ofNat nn)), .val (.ref t1), .val (.int (Int32.ofNat nn))] [(.ref t1)])) _
    jvm_step X2.here [X2.here.top, hx, (hb hby k6_33), X2.method', Bd.returns, Value.isRef, FieldType.isReference]
    first | (intro acts; rw [hr _ acts rfl rfl rfl]) | rw [hr _ _ rfl rfl rfl]
    exact Steps.refl _
  · show QA Z (Int32.ofNat (2 * nn)) (wideBytes cs) h0 n0 _ T2.heap _
    rw [e2]
    exact ⟨t1, tk1, rfl, N2l, K2, sz_t1, (by have q := V2l; rw [List.take_of_length_le (by omega)] at q; exact q)⟩
theorem k7_0 : decode c7_ 0 = .ok (.iconst 0, 1) := by decide +kernel
theorem k7_1 : decode c7_ 1 = .ok (.istore 5, 2) := by decide +kernel
theorem k7_3 : decode c7_ 3 = .ok (.iload 5, 2) := by decide +kernel
theorem k7_5 : decode c7_ 5 = .ok (.iload 4, 2) := by decide +kernel
theorem k7_7 : decode c7_ 7 = .ok (.if_icmp .ge 37, 3) := by decide +kernel
theorem k7_10 : decode c7_ 10 = .ok (.aload_n 0, 1) := by decide +kernel
theorem k7_11 : decode c7_ 11 = .ok (.iload_n 1, 1) := by decide +kernel
theorem k7_12 : decode c7_ 12 = .ok (.caload, 1) := by decide +kernel
theorem k7_13 : decode c7_ 13 = .ok (.istore 6, 2) := by decide +kernel
theorem k7_15 : decode c7_ 15 = .ok (.iload 6, 2) := by decide +kernel
theorem k7_17 : decode c7_ 17 = .ok (.sipush 255, 3) := by decide +kernel
theorem k7_20 : decode c7_ 20 = .ok (.if_icmp .le 6, 3) := by decide +kernel
theorem k7_23 : decode c7_ 23 = .ok (.iload 5, 2) := by decide +kernel
theorem k7_25 : decode c7_ 25 = .ok (.ireturn, 1) := by decide +kernel
theorem k7_26 : decode c7_ 26 = .ok (.aload_n 2, 1) := by decide +kernel
theorem k7_27 : decode c7_ 27 = .ok (.iload_n 3, 1) := by decide +kernel
theorem k7_28 : decode c7_ 28 = .ok (.iload 6, 2) := by decide +kernel
theorem k7_30 : decode c7_ 30 = .ok (.i2b, 1) := by decide +kernel
theorem k7_31 : decode c7_ 31 = .ok (.bastore, 1) := by decide +kernel
theorem k7_32 : decode c7_ 32 = .ok (.iinc 1 1, 3) := by decide +kernel
theorem k7_35 : decode c7_ 35 = .ok (.iinc 3 1, 3) := by decide +kernel
theorem k7_38 : decode c7_ 38 = .ok (.iinc 5 1, 3) := by decide +kernel
theorem k7_41 : decode c7_ 41 = .ok (.goto (-38), 3) := by decide +kernel
theorem k7_44 : decode c7_ 44 = .ok (.iload 4, 2) := by decide +kernel
theorem k7_46 : decode c7_ 46 = .ok (.ireturn, 1) := by decide +kernel
theorem ef7_ (m : MethodId) (x0 : Addr) (x1 : Int32) (x2 : Addr) (x3 : Int32) (x4 : Int32) : entryFrame m #[(.ref x0), (.int x1), (.ref x2), (.int x3), (.int x4)] 7 = mkF m 0 #[.val (.ref x0), .val (.int x1), .val (.ref x2), .val (.int x3), .val (.int x4), .unset, .unset] [] := by first | (simp [entryFrame, mkF, argsToLocals, Value.category]; done) | rfl
theorem rmC5 (l : Launch) (Z : State) (a0 : Array Value) (hw : HW a0 Z) (ws : List Jvm.Cond) (a1 b : Addr) (kc kb : ClassId) (nn : Nat) (cs : List Int32) (h0 : Heap) (n0 : Nat) (Z0 : n0 ≤ h0.size) (V_a1 : Arv Z h0 a1 kc .char (Int32.ofNat nn) (cs.map Value.int) (.int (0 : Int32))) (V_b : Arv Z h0 b kb .byte (Int32.ofNat nn) [] (.int (0 : Int32))) (hl : cs.length = nn) (hm : nn ≤ 127) (g_b : n0 ≤ b) (n_ab : a1 ≠ b) :
    Met l Z ws m7_ jdk_52_method_21_code 7 (some .int) ({ frames := 0, cells := 0, slots := 0, locals := 0 } : Room) h0 #[(.ref a1), (.int (0 : Int32)), (.ref b), (.int (0 : Int32)), (.int (Int32.ofNat nn))] (QWI Z (Int32.ofNat (own_J cs)) b kb (Int32.ofNat nn) ((cs.take (own_J cs)).map own_lo) h0 n0) := by
  refine MetFree.of_bodySF (plainFor_of_name pn1_) hisR ?_
  intro p e s m args below meth c s₁ Bd hml0 hP hK
  obtain ⟨rfl, hZ, hh⟩ := hP
  have hx := Bd.exec
  have hby := Bd.bytes
  have X0 : Stand p l e ({ frames := 0, cells := 0, slots := 0, locals := 0 } : Room) s m #[(.ref a1), (.int (0 : Int32)), (.ref b), (.int (0 : Int32)), (.int (Int32.ofNat nn))] below meth c s₁ [] 0 0 := Stand.of_body Bd
  have e0 : s₁.heap = h0 := by rw [← hh, Bd.state]; rfl
  have N0 := Fr.nil n0
  have pre0 : ∀ t, Steps p.tables e below (s₁.setTop (mkF m 0 #[.val (.ref a1), .val (.int (0 : Int32)), .val (.ref b), .val (.int (0 : Int32)), .val (.int (Int32.ofNat nn)), .unset, .unset] [])) t → Steps p.tables e below (s₁.setTop (entryFrame m #[(.ref a1), (.int (0 : Int32)), (.ref b), (.int (0 : Int32)), (.int (Int32.ofNat nn))] 7)) t := fun t k => castTop (ef7_ m a1 (0 : Int32) b (0 : Int32) (Int32.ofNat nn)) k
  have hJ := own_J_le cs
  have lp1 : ∀ k : Nat, k ≤ (own_J cs) → ∃ (T_ : State) (h_ : Heap) (L_ : List Loc) (z_ : Slot), (z_ = .unset ∨ ∃ y : Int32, z_ = .val (.int y)) ∧ Stand p l e ({ frames := 0, cells := 0, slots := 0, locals := 0 } : Room) s m #[(.ref a1), (.int (0 : Int32)), (.ref b), (.int (0 : Int32)), (.int (Int32.ofNat nn))] below meth c T_ L_ 0 0 ∧ T_.heap = h_ ∧ Fr n0 L_ ∧ Keep h0 h_ [b] ∧ Arv Z h_ b kb .byte (Int32.ofNat nn) ((cs.take k).map own_lo) (.int (0 : Int32)) ∧ ∀ t, Steps p.tables e below (T_.setTop (mkF m 3 #[.val (.ref a1), .val (.int (Int32.ofNat k)), .val (.ref b), .val (.int (Int32.ofNat k)), .val (.int (Int32.ofNat nn)), .val (.int (Int32.ofNat k)), z_] [])) t → Steps p.tables e below (s₁.setTop (mkF m 3 #[.val (.ref a1), .val (.int (0 : Int32)), .val (.ref b), .val (.int (0 : Int32)), .val (.int (Int32.ofNat nn)), .val (.int (0 : Int32)), .unset] [])) t := by
    intro k
    induction k with
    | zero => intro _; exact ⟨s₁, _, _, .unset, Or.inl rfl, X0, e0, N0, Keep.refl _ _, V_b, fun t kk => kk⟩
    | succ k ih =>
      intro hk1
      obtain ⟨T2, h2, L2, z2, zh2, X2, e2, N2l, K2l, V2l, s2l⟩ := ih (Nat.le_of_succ_le hk1)
      have K1 : Keep h0 h2 [b] := (Keep.refl h0 [b]).trans K2l (allS (Or.inl (List.mem_of_getElem? (i := 0) rfl)) all0)
      have f103 : Arv Z h2 a1 kc .char (Int32.ofNat nn) (cs.map Value.int) (.int (0 : Int32)) := (V_a1.keep K2l (ninS n_ab nin0))
      obtain ⟨cl104, Ar104, q104, S104, N_104, H_104, G104⟩ := id f103
      have hin104 : ¬ ((Int32.ofNat k) < 0 ∨ cl104.slots.size ≤ ((Int32.ofNat k)).toNatClampNeg) := own_inb S104 (by omega) (by omega)
      have hat104 : cl104.slots[((Int32.ofNat k)).toNatClampNeg]? = some (.int (cs.getD k 0)) := H_104.at hin104 (by rw [own_clamp (by omega)]; exact own_getDm k)
      obtain ⟨cl105, Ar105, q105, S105, N_105, H_105, G105⟩ := id V2l
      obtain ⟨T106, h106, X106, e106, W106, st106⟩ := stB X2 hx hZ e2 Ar105 (j := (Int32.ofNat k)) (own_inb S105 (by omega) (by omega)) (g := (mkF m 31 #[.val (.ref a1), .val (.int (Int32.ofNat k)), .val (.ref b), .val (.int (Int32.ofNat k)), .val (.int (Int32.ofNat nn)), .val (.int (Int32.ofNat k)), .val (.int (cs.getD k 0))] [(.int ((cs.getD k 0).toInt8.toInt32)), (.int (Int32.ofNat k)), (.ref b)])) rfl rfl (hb hby k7_31)
      have Va106 : Arv Z h106 b kb .byte (Int32.ofNat nn) (((cs.take k).map own_lo) ++ [.int (nar .byte ((cs.getD k 0).toInt8.toInt32))]) (.int (0 : Int32)) := own_app V2l (fits_nar_byte _) W106 (by rw [own_clamp (by omega)]; exact (by simp; omega))
      have Vb106 : Arv Z h106 b kb .byte (Int32.ofNat nn) ((cs.take (k + 1)).map own_lo) (.int (0 : Int32)) := by
        have q := Va106
        rw [own_lostep (by omega)] at q; exact q
      have Nf106 := Fr.snoc X106 N2l g_b
      exact ⟨T106, _, _, (.val (.int (cs.getD k 0))), Or.inr ⟨_, rfl⟩, X106, e106, Nf106, (((Keep.refl h0 [b]).trans K2l (allS (Or.inl (List.mem_of_getElem? (i := 0) rfl)) all0)).wr W106 (Or.inl (List.mem_of_getElem? (i := 0) rfl))), Vb106, fun t kk => s2l t (by
        show Steps p.tables e below (T2.setTop (mkF m 3 #[.val (.ref a1), .val (.int (Int32.ofNat k)), .val (.ref b), .val (.int (Int32.ofNat k)), .val (.int (Int32.ofNat nn)), .val (.int (Int32.ofNat k)), z2] [])) _
        refine XS.iload X2.here hx rfl (hb hby k7_3) rfl ?_
        refine XS.iload X2.here hx rfl (hb hby k7_5) rfl ?_
        show Steps p.tables e below (T2.setTop (mkF m 7 #[.val (.ref a1), .val (.int (Int32.ofNat k)), .val (.ref b), .val (.int (Int32.ofNat k)), .val (.int (Int32.ofNat nn)), .val (.int (Int32.ofNat k)), z2] [(.int (Int32.ofNat nn)), (.int (Int32.ofNat k))])) _
        refine XS.icmpNo X2.here hx rfl (hb hby k7_7) rfl (tlt ((own_lt_of (by omega) (by omega)).mpr (by omega) : (Int32.ofNat k) < (Int32.ofNat nn))).2.1 ?_
        refine XS.aloadN X2.here hx rfl (hb hby k7_10) rfl rfl ?_
        refine XS.iloadN X2.here hx rfl (hb hby k7_11) rfl ?_
        show Steps p.tables e below (T2.setTop (mkF m 12 #[.val (.ref a1), .val (.int (Int32.ofNat k)), .val (.ref b), .val (.int (Int32.ofNat k)), .val (.int (Int32.ofNat nn)), .val (.int (Int32.ofNat k)), z2] [(.int (Int32.ofNat k)), (.ref a1)])) _
        refine X2.caload hx (j := (Int32.ofNat k)) (v := (.int (cs.getD k 0))) (by rw [e2]; exact Ar104.1) (State.isArrayOf_alike hZ.alike Ar104.2.1) Ar104.2.2 hin104 hat104 (g := (mkF m 12 #[.val (.ref a1), .val (.int (Int32.ofNat k)), .val (.ref b), .val (.int (Int32.ofNat k)), .val (.int (Int32.ofNat nn)), .val (.int (Int32.ofNat k)), z2] [(.int (Int32.ofNat k)), (.ref a1)])) rfl rfl (hb hby k7_12) _ ?_
        refine XS.istore X2.here hx rfl (hb hby k7_13) rfl (l' := #[.val (.ref a1), .val (.int (Int32.ofNat k)), .val (.ref b), .val (.int (Int32.ofNat k)), .val (.int (Int32.ofNat nn)), .val (.int (Int32.ofNat k)), .val (.int (cs.getD k 0))]) (by rcases zh2 with rfl | ⟨y_, rfl⟩ <;> rfl) ?_
        refine XS.iload X2.here hx rfl (hb hby k7_15) rfl ?_
        refine XS.sipush X2.here hx rfl (hb hby k7_17) ?_
        show Steps p.tables e below (T2.setTop (mkF m 20 #[.val (.ref a1), .val (.int (Int32.ofNat k)), .val (.ref b), .val (.int (Int32.ofNat k)), .val (.int (Int32.ofNat nn)), .val (.int (Int32.ofNat k)), .val (.int (cs.getD k 0))] [(.int (255 : Int32)), (.int (cs.getD k 0))])) _
        refine XS.icmpYes X2.here hx rfl (pc0 := 20) (pc' := 26) rfl (hb hby k7_20) rfl (flt (own_J_lt (by omega) : ¬ ((255 : Int32) < (cs.getD k 0)))).2.2.2 (by decide) (by decide) ?_
        refine XS.aloadN X2.here hx rfl (hb hby k7_26) rfl rfl ?_
        refine XS.iloadN X2.here hx rfl (hb hby k7_27) rfl ?_
        refine XS.iload X2.here hx rfl (hb hby k7_28) rfl ?_
        refine XS.i2b X2.here hx rfl (hb hby k7_30) rfl ?_
        show Steps p.tables e below (T2.setTop (mkF m 31 #[.val (.ref a1), .val (.int (Int32.ofNat k)), .val (.ref b), .val (.int (Int32.ofNat k)), .val (.int (Int32.ofNat nn)), .val (.int (Int32.ofNat k)), .val (.int (cs.getD k 0))] [(.int ((cs.getD k 0).toInt8.toInt32)), (.int (Int32.ofNat k)), (.ref b)])) _
        refine st106 _ ?_
        show Steps p.tables e below (T106.setTop (mkF m 32 #[.val (.ref a1), .val (.int (Int32.ofNat k)), .val (.ref b), .val (.int (Int32.ofNat k)), .val (.int (Int32.ofNat nn)), .val (.int (Int32.ofNat k)), .val (.int (cs.getD k 0))] [])) _
        refine XS.iinc X106.here hx rfl (hb hby k7_32) rfl (l' := #[.val (.ref a1), .val (.int ((Int32.ofNat k) + (1 : Int32))), .val (.ref b), .val (.int (Int32.ofNat k)), .val (.int (Int32.ofNat nn)), .val (.int (Int32.ofNat k)), .val (.int (cs.getD k 0))]) rfl ?_
        show Steps p.tables e below (T106.setTop (mkF m 35 #[.val (.ref a1), .val (.int ((Int32.ofNat k) + (1 : Int32))), .val (.ref b), .val (.int (Int32.ofNat k)), .val (.int (Int32.ofNat nn)), .val (.int (Int32.ofNat k)), .val (.int (cs.getD k 0))] [])) _
        refine XS.iinc X106.here hx rfl (hb hby k7_35) rfl (l' := #[.val (.ref a1), .val (.int ((Int32.ofNat k) + (1 : Int32))), .val (.ref b), .val (.int ((Int32.ofNat k) + (1 : Int32))), .val (.int (Int32.ofNat nn)), .val (.int (Int32.ofNat k)), .val (.int (cs.getD k 0))]) rfl ?_
        show Steps p.tables e below (T106.setTop (mkF m 38 #[.val (.ref a1), .val (.int ((Int32.ofNat k) + (1 : Int32))), .val (.ref b), .val (.int ((Int32.ofNat k) + (1 : Int32))), .val (.int (Int32.ofNat nn)), .val (.int (Int32.ofNat k)), .val (.int (cs.getD k 0))] [])) _
        refine XS.iinc X106.here hx rfl (hb hby k7_38) rfl (l' := #[.val (.ref a1), .val (.int ((Int32.ofNat k) + (1 : Int32))), .val (.ref b), .val (.int ((Int32.ofNat k) + (1 : Int32))), .val (.int (Int32.ofNat nn)), .val (.int ((Int32.ofNat k) + (1 : Int32))), .val (.int (cs.getD k 0))]) rfl ?_
        refine XS.goto X106.here hx rfl (pc0 := 41) (pc' := 3) rfl (hb hby k7_41) (by decide) (by decide) ?_
        show Steps p.tables e below (T106.setTop (mkF m 3 #[.val (.ref a1), .val (.int ((Int32.ofNat k) + (1 : Int32))), .val (.ref b), .val (.int ((Int32.ofNat k) + (1 : Int32))), .val (.int (Int32.ofNat nn)), .val (.int ((Int32.ofNat k) + (1 : Int32))), .val (.int (cs.getD k 0))] [])) _
        rw [own_add1]
        exact kk)⟩
  obtain ⟨T1, h1, L1, z1, zh1, X1, e1, N1l, K1l, V1l, st1⟩ := lp1 (own_J cs) (Nat.le_refl _)
  have K1 : Keep h0 h1 [b] := (Keep.refl h0 [b]).trans K1l (allS (Or.inl (List.mem_of_getElem? (i := 0) rfl)) all0)
  have cut107 : ∀ t, Steps p.tables e below (T1.setTop (mkF m 3 #[.val (.ref a1), .val (.int (Int32.ofNat (own_J cs))), .val (.ref b), .val (.int (Int32.ofNat (own_J cs))), .val (.int (Int32.ofNat nn)), .val (.int (Int32.ofNat (own_J cs))), z1] [])) t → Steps p.tables e below (s₁.setTop (mkF m 0 #[.val (.ref a1), .val (.int (0 : Int32)), .val (.ref b), .val (.int (0 : Int32)), .val (.int (Int32.ofNat nn)), .unset, .unset] [])) t := fun t kk => by
    show Steps p.tables e below (s₁.setTop (mkF m 0 #[.val (.ref a1), .val (.int (0 : Int32)), .val (.ref b), .val (.int (0 : Int32)), .val (.int (Int32.ofNat nn)), .unset, .unset] [])) _
    refine XS.iconst X0.here hx rfl (hb hby k7_0) ?_
    refine XS.istore X0.here hx rfl (hb hby k7_1) rfl (l' := #[.val (.ref a1), .val (.int (0 : Int32)), .val (.ref b), .val (.int (0 : Int32)), .val (.int (Int32.ofNat nn)), .val (.int (0 : Int32)), .unset]) rfl ?_
    show Steps p.tables e below (s₁.setTop (mkF m 3 #[.val (.ref a1), .val (.int (0 : Int32)), .val (.ref b), .val (.int (0 : Int32)), .val (.int (Int32.ofNat nn)), .val (.int (0 : Int32)), .unset] [])) _
    refine st1 _ ?_
    exact kk
  by_cases hJn : own_J cs = nn
  · obtain ⟨fs, hr, hrun, hended, hW, hsame⟩ := X1.leave (v := some (.int (Int32.ofNat nn))) (fun h => by rw [Bd.returns] at h; cases h)
    refine ⟨_, _, pre0 _ ?_, hrun, hended, _, _, rfl, ?_, ⟨_, rfl⟩, hW, hsame.mono (by decide) (by decide)⟩
    · refine cut107 _ ?_
      show Steps p.tables e below (T1.setTop (mkF m 3 #[.val (.ref a1), .val (.int (Int32.ofNat (own_J cs))), .val (.ref b), .val (.int (Int32.ofNat (own_J cs))), .val (.int (Int32.ofNat nn)), .val (.int (Int32.ofNat (own_J cs))), z1] [])) _
      refine XS.iload X1.here hx rfl (hb hby k7_3) rfl ?_
      refine XS.iload X1.here hx rfl (hb hby k7_5) rfl ?_
      show Steps p.tables e below (T1.setTop (mkF m 7 #[.val (.ref a1), .val (.int (Int32.ofNat (own_J cs))), .val (.ref b), .val (.int (Int32.ofNat (own_J cs))), .val (.int (Int32.ofNat nn)), .val (.int (Int32.ofNat (own_J cs))), z1] [(.int (Int32.ofNat nn)), (.int (Int32.ofNat (own_J cs)))])) _
      refine XS.icmpYes X1.here hx rfl (pc0 := 7) (pc' := 44) rfl (hb hby k7_7) rfl (flt (fun q => by have := (own_lt_of (by omega) (by omega)).mp q; omega : ¬ ((Int32.ofNat (own_J cs)) < (Int32.ofNat nn)))).2.1 (by decide) (by decide) ?_
      refine XS.iload X1.here hx rfl (hb hby k7_44) rfl ?_
      show Steps p.tables e below (T1.setTop (mkF m 46 #[.val (.ref a1), .val (.int (Int32.ofNat (own_J cs))), .val (.ref b), .val (.int (Int32.ofNat (own_J cs))), .val (.int (Int32.ofNat nn)), .val (.int (Int32.ofNat (own_J cs))), z1] [(.int (Int32.ofNat nn))])) _
      exact retI X1 hx Bd.returns (hb hby k7_46) hr
    · show QWI Z (Int32.ofNat (own_J cs)) b kb (Int32.ofNat nn) ((cs.take (own_J cs)).map own_lo) h0 n0 _ T1.heap _
      rw [e1]
      exact ⟨by rw [hJn], N1l, K1, V1l⟩
  · have f108 : Arv Z h1 a1 kc .char (Int32.ofNat nn) (cs.map Value.int) (.int (0 : Int32)) := (V_a1.keep K1l (ninS n_ab nin0))
    obtain ⟨cl109, Ar109, q109, S109, N_109, H_109, G109⟩ := id f108
    have hin109 : ¬ ((Int32.ofNat (own_J cs)) < 0 ∨ cl109.slots.size ≤ ((Int32.ofNat (own_J cs))).toNatClampNeg) := own_inb S109 (by omega) (by omega)
    have hat109 : cl109.slots[((Int32.ofNat (own_J cs))).toNatClampNeg]? = some (.int (cs.getD (own_J cs) 0)) := H_109.at hin109 (by rw [own_clamp (by omega)]; exact own_getDm (own_J cs))
    obtain ⟨fs, hr, hrun, hended, hW, hsame⟩ := X1.leave (v := some (.int (Int32.ofNat (own_J cs)))) (fun h => by rw [Bd.returns] at h; cases h)
    refine ⟨_, _, pre0 _ ?_, hrun, hended, _, _, rfl, ?_, ⟨_, rfl⟩, hW, hsame.mono (by decide) (by decide)⟩
    · refine cut107 _ ?_
      show Steps p.tables e below (T1.setTop (mkF m 3 #[.val (.ref a1), .val (.int (Int32.ofNat (own_J cs))), .val (.ref b), .val (.int (Int32.ofNat (own_J cs))), .val (.int (Int32.ofNat nn)), .val (.int (Int32.ofNat (own_J cs))), z1] [])) _
      refine XS.iload X1.here hx rfl (hb hby k7_3) rfl ?_
      refine XS.iload X1.here hx rfl (hb hby k7_5) rfl ?_
      show Steps p.tables e below (T1.setTop (mkF m 7 #[.val (.ref a1), .val (.int (Int32.ofNat (own_J cs))), .val (.ref b), .val (.int (Int32.ofNat (own_J cs))), .val (.int (Int32.ofNat nn)), .val (.int (Int32.ofNat (own_J cs))), z1] [(.int (Int32.ofNat nn)), (.int (Int32.ofNat (own_J cs)))])) _
      refine XS.icmpNo X1.here hx rfl (hb hby k7_7) rfl (tlt ((own_lt_of (by omega) (by omega)).mpr (by omega) : (Int32.ofNat (own_J cs)) < (Int32.ofNat nn))).2.1 ?_
      refine XS.aloadN X1.here hx rfl (hb hby k7_10) rfl rfl ?_
      refine XS.iloadN X1.here hx rfl (hb hby k7_11) rfl ?_
      show Steps p.tables e below (T1.setTop (mkF m 12 #[.val (.ref a1), .val (.int (Int32.ofNat (own_J cs))), .val (.ref b), .val (.int (Int32.ofNat (own_J cs))), .val (.int (Int32.ofNat nn)), .val (.int (Int32.ofNat (own_J cs))), z1] [(.int (Int32.ofNat (own_J cs))), (.ref a1)])) _
      refine X1.caload hx (j := (Int32.ofNat (own_J cs))) (v := (.int (cs.getD (own_J cs) 0))) (by rw [e1]; exact Ar109.1) (State.isArrayOf_alike hZ.alike Ar109.2.1) Ar109.2.2 hin109 hat109 (g := (mkF m 12 #[.val (.ref a1), .val (.int (Int32.ofNat (own_J cs))), .val (.ref b), .val (.int (Int32.ofNat (own_J cs))), .val (.int (Int32.ofNat nn)), .val (.int (Int32.ofNat (own_J cs))), z1] [(.int (Int32.ofNat (own_J cs))), (.ref a1)])) rfl rfl (hb hby k7_12) _ ?_
      refine XS.istore X1.here hx rfl (hb hby k7_13) rfl (l' := #[.val (.ref a1), .val (.int (Int32.ofNat (own_J cs))), .val (.ref b), .val (.int (Int32.ofNat (own_J cs))), .val (.int (Int32.ofNat nn)), .val (.int (Int32.ofNat (own_J cs))), .val (.int (cs.getD (own_J cs) 0))]) (by rcases zh1 with rfl | ⟨y_, rfl⟩ <;> rfl) ?_
      refine XS.iload X1.here hx rfl (hb hby k7_15) rfl ?_
      refine XS.sipush X1.here hx rfl (hb hby k7_17) ?_
      show Steps p.tables e below (T1.setTop (mkF m 20 #[.val (.ref a1), .val (.int (Int32.ofNat (own_J cs))), .val (.ref b), .val (.int (Int32.ofNat (own_J cs))), .val (.int (Int32.ofNat nn)), .val (.int (Int32.ofNat (own_J cs))), .val (.int (cs.getD (own_J cs) 0))] [(.int (255 : Int32)), (.int (cs.getD (own_J cs) 0))])) _
      refine XS.icmpNo X1.here hx rfl (hb hby k7_20) rfl (tlt (own_J_at (by omega) : (255 : Int32) < (cs.getD (own_J cs) 0))).2.2.2 ?_
      refine XS.iload X1.here hx rfl (hb hby k7_23) rfl ?_
      show Steps p.tables e below (T1.setTop (mkF m 25 #[.val (.ref a1), .val (.int (Int32.ofNat (own_J cs))), .val (.ref b), .val (.int (Int32.ofNat (own_J cs))), .val (.int (Int32.ofNat nn)), .val (.int (Int32.ofNat (own_J cs))), .val (.int (cs.getD (own_J cs) 0))] [(.int (Int32.ofNat (own_J cs)))])) _
      exact retI X1 hx Bd.returns (hb hby k7_25) hr
    · show QWI Z (Int32.ofNat (own_J cs)) b kb (Int32.ofNat nn) ((cs.take (own_J cs)).map own_lo) h0 n0 _ T1.heap _
      rw [e1]
      exact ⟨rfl, N1l, K1, V1l⟩
theorem k8_0 : decode c8_ 0 = .ok (.iload_n 2, 1) := by decide +kernel
theorem k8_1 : decode c8_ 1 = .ok (.newarray .byte, 2) := by decide +kernel
theorem k8_3 : decode c8_ 3 = .ok (.astore_n 3, 1) := by decide +kernel
theorem k8_4 : decode c8_ 4 = .ok (.aload_n 0, 1) := by decide +kernel
theorem k8_5 : decode c8_ 5 = .ok (.iload_n 1, 1) := by decide +kernel
theorem k8_6 : decode c8_ 6 = .ok (.aload_n 3, 1) := by decide +kernel
theorem k8_7 : decode c8_ 7 = .ok (.iconst 0, 1) := by decide +kernel
theorem k8_8 : decode c8_ 8 = .ok (.iload_n 2, 1) := by decide +kernel
theorem k8_9 : decode c8_ 9 = .ok (.invokestatic 115, 3) := by decide +kernel
theorem k8_12 : decode c8_ 12 = .ok (.istore 4, 2) := by decide +kernel
theorem k8_14 : decode c8_ 14 = .ok (.iload 4, 2) := by decide +kernel
theorem k8_16 : decode c8_ 16 = .ok (.iload_n 2, 1) := by decide +kernel
theorem k8_17 : decode c8_ 17 = .ok (.if_icmp .eq 40, 3) := by decide +kernel
theorem k8_20 : decode c8_ 20 = .ok (.aload_n 0, 1) := by decide +kernel
theorem k8_21 : decode c8_ 21 = .ok (.iload_n 1, 1) := by decide +kernel
theorem k8_22 : decode c8_ 22 = .ok (.iload_n 2, 1) := by decide +kernel
theorem k8_23 : decode c8_ 23 = .ok (.invokestatic 119, 3) := by decide +kernel
theorem k8_26 : decode c8_ 26 = .ok (.astore 5, 2) := by decide +kernel
theorem k8_28 : decode c8_ 28 = .ok (.aload 5, 2) := by decide +kernel
theorem k8_30 : decode c8_ 30 = .ok (.iload 4, 2) := by decide +kernel
theorem k8_32 : decode c8_ 32 = .ok (.invokestatic 71, 3) := by decide +kernel
theorem k8_35 : decode c8_ 35 = .ok (.sipush 255, 3) := by decide +kernel
theorem k8_38 : decode c8_ 38 = .ok (.if_icmp .gt 16, 3) := by decide +kernel
theorem k8_54 : decode c8_ 54 = .ok (.aload 5, 2) := by decide +kernel
theorem k8_56 : decode c8_ 56 = .ok (.areturn, 1) := by decide +kernel
theorem k8_57 : decode c8_ 57 = .ok (.aload_n 3, 1) := by decide +kernel
theorem k8_58 : decode c8_ 58 = .ok (.areturn, 1) := by decide +kernel
theorem pd4_ : parseMethodDescriptor "([CI[BII)I" = some ⟨[(.array .char), .int, (.array .byte), .int, .int], some .int⟩ := by decide +kernel
theorem pd5_ : parseMethodDescriptor "([CII)[B" = some ⟨[(.array .char), .int, .int], some (.array .byte)⟩ := by decide +kernel
theorem pd6_ : parseMethodDescriptor "([BI)C" = some ⟨[(.array .byte), .int], some .char⟩ := by decide +kernel
theorem ef8_ (m : MethodId) (x0 : Addr) (x1 : Int32) (x2 : Int32) : entryFrame m #[(.ref x0), (.int x1), (.int x2)] 6 = mkF m 0 #[.val (.ref x0), .val (.int x1), .val (.int x2), .unset, .unset, .unset] [] := by first | (simp [entryFrame, mkF, argsToLocals, Value.category]; done) | rfl
theorem rmC3 (l : Launch) (Z : State) (a0 : Array Value) (hw : HW a0 Z) (ws : List Jvm.Cond) (a1 : Addr) (kc : ClassId) (nn : Nat) (cs : List Int32) (h0 : Heap) (n0 : Nat) (Z0 : n0 ≤ h0.size) (hG : GST Z) (O0 : Old Z n0 h0) (V_a1 : Arv Z h0 a1 kc .char (Int32.ofNat nn) (cs.map Value.int) (.int (0 : Int32))) (hl : cs.length = nn) (hm : nn ≤ 127) (hc : ∀ c ∈ cs, ¬ c < 0 ∧ ¬ (65535 : Int32) < c) :
    Met l Z ws m8_ jdk_52_method_16_code 6 (some (.array .byte)) ({ frames := 3, cells := 2, slots := 387, locals := 40 } : Room) h0 #[(.ref a1), (.int (0 : Int32)), (.int (Int32.ofNat nn))] (QCo Z cs h0 n0) := by
  refine MetFree.of_bodySF (plainFor_of_name pn1_) hisR ?_
  intro p e s m args below meth c s₁ Bd hml0 hP hK
  obtain ⟨rfl, hZ, hh⟩ := hP
  have hx := Bd.exec
  have hby := Bd.bytes
  have hml : c.maxLocals = 6 := hml0
  have hown : s.vm.findClass "java/lang/StringUTF16" = some m.cls := findClass_of_methodNamed Bd.named
  have X0 : Stand p l e ({ frames := 3, cells := 2, slots := 387, locals := 40 } : Room) s m #[(.ref a1), (.int (0 : Int32)), (.int (Int32.ofNat nn))] below meth c s₁ [] 0 0 := Stand.of_body Bd
  have e0 : s₁.heap = h0 := by rw [← hh, Bd.state]; rfl
  have N0 := Fr.nil n0
  have pre0 : ∀ t, Steps p.tables e below (s₁.setTop (mkF m 0 #[.val (.ref a1), .val (.int (0 : Int32)), .val (.int (Int32.ofNat nn)), .unset, .unset, .unset] [])) t → Steps p.tables e below (s₁.setTop (entryFrame m #[(.ref a1), (.int (0 : Int32)), (.int (Int32.ofNat nn))] 6)) t := fun t k => castTop (ef8_ m a1 (0 : Int32) (Int32.ofNat nn)) k
  obtain ⟨⟨G1, O2, P5⟩, ⟨G3, O4, rG3⟩, Sa, Sh, Sl⟩ := id hG
  have hJ := own_J_le cs
  obtain ⟨T1, h1, ka1, X1, e1, E1, A1, st1⟩ := newP X0 hx hZ (wt hw 16 rfl) e0 (g := (mkF m 1 #[.val (.ref a1), .val (.int (0 : Int32)), .val (.int (Int32.ofNat nn)), .unset, .unset, .unset] [(.int (Int32.ofNat nn))])) rfl (hb hby k8_1) rfl (own_nonneg (by omega)) (cap := 127) (by rw [own_clamp (by omega)]; omega) (by decide) (by decide) (by decide)
  obtain ⟨b1, g1⟩ : ∃ z, z = h0.size := ⟨_, rfl⟩
  rw [← g1] at A1 st1
  have sz_b1 : h0.size ≤ b1 := Nat.le_trans (Keep.refl h0 []).1 (Nat.le_of_eq g1.symm)
  have g_b1 : n0 ≤ b1 := Nat.le_trans Z0 sz_b1
  have K1 : Keep h0 h1 [] := (Keep.refl h0 []).ext E1
  have V_b1 : Arv Z h1 b1 ka1 .byte (Int32.ofNat nn) [] (.int (0 : Int32)) := Arv.new A1 (own_nonneg (by omega))
  have f3 : Arv Z h1 a1 kc .char (Int32.ofNat nn) (cs.map Value.int) (.int (0 : Int32)) := (V_a1.ext E1)
  obtain ⟨_, _, ⟨T2, L2, k2, n2⟩, -, X2, ⟨Lc2, hQ2, l2, y2, z2⟩, st2⟩ := Jvm.LawKit.callS X1 hx (y := m7_) hown (mvT hZ (wt hw 48 rfl)) (mvT hZ (wt hw 49 rfl)) (mvT hZ (wt hw 46 rfl)) (mvT hZ (wt hw 50 rfl)) (by decide) (backOf (W := 0) (rmC5 l Z a0 hw [] a1 b1 kc ka1 nn cs h1 n0 (Nat.le_trans Z0 K1.1) f3 V_b1 hl hm g_b1 (Nat.ne_of_lt (Nat.lt_of_lt_of_le V_a1.lt (Nat.le_of_eq g1.symm)))) hZ (wt hw 50 rfl) (wt hw 46 rfl) (by decide) (by decide)) (g := (mkF m 9 #[.val (.ref a1), .val (.int (0 : Int32)), .val (.int (Int32.ofNat nn)), .val (.ref b1), .unset, .unset] [(.int (Int32.ofNat nn)), (.int (0 : Int32)), (.ref b1), (.int (0 : Int32)), (.ref a1)])) rfl (by rw [hml]; rfl) (argsL := [(.ref a1), (.int (0 : Int32)), (.ref b1), (.int (0 : Int32)), (.int (Int32.ofNat nn))]) (rest := []) (lenOf pd4_ rfl) rfl (by show 2 * 0 + _ ≤ _; exact Nat.le_of_eq rfl) (hb hby k8_9) (fun _ _ => ⟨rfl, e1, (by decide : 1 + 0 ≤ _), (by decide : 127 + 0 ≤ _)⟩)
  dsimp only [Pt.U, Pt.locs, Pt.cells, Pt.slots] at X2 l2 y2 z2 st2 hQ2
  rw [l2] at X2
  clear l2; subst y2 z2
  obtain ⟨rfl, N2q, K2q, Ca2⟩ := hQ2
  have N2a := Fr.app N0 N2q
  have K2 : Keep h0 T2.heap [] := K1.trans K2q (allS (Or.inr sz_b1) all0)
  have cut4 : ∀ t, Steps p.tables e below (T2.setTop (mkF m 17 #[.val (.ref a1), .val (.int (0 : Int32)), .val (.int (Int32.ofNat nn)), .val (.ref b1), .val (.int (Int32.ofNat (own_J cs))), .unset] [(.int (Int32.ofNat nn)), (.int (Int32.ofNat (own_J cs)))])) t → Steps p.tables e below (s₁.setTop (mkF m 0 #[.val (.ref a1), .val (.int (0 : Int32)), .val (.int (Int32.ofNat nn)), .unset, .unset, .unset] [])) t := fun t kk => by
    show Steps p.tables e below (s₁.setTop (mkF m 0 #[.val (.ref a1), .val (.int (0 : Int32)), .val (.int (Int32.ofNat nn)), .unset, .unset, .unset] [])) _
    refine XS.iloadN X0.here hx rfl (hb hby k8_0) rfl ?_
    show Steps p.tables e below (s₁.setTop (mkF m 1 #[.val (.ref a1), .val (.int (0 : Int32)), .val (.int (Int32.ofNat nn)), .unset, .unset, .unset] [(.int (Int32.ofNat nn))])) _
    refine st1 _ ?_
    refine XS.astoreN X1.here hx rfl (hb hby k8_3) rfl rfl (l' := #[.val (.ref a1), .val (.int (0 : Int32)), .val (.int (Int32.ofNat nn)), .val (.ref b1), .unset, .unset]) rfl ?_
    refine XS.aloadN X1.here hx rfl (hb hby k8_4) rfl rfl ?_
    refine XS.iloadN X1.here hx rfl (hb hby k8_5) rfl ?_
    refine XS.aloadN X1.here hx rfl (hb hby k8_6) rfl rfl ?_
    show Steps p.tables e below (T1.setTop (mkF m 7 #[.val (.ref a1), .val (.int (0 : Int32)), .val (.int (Int32.ofNat nn)), .val (.ref b1), .unset, .unset] [(.ref b1), (.int (0 : Int32)), (.ref a1)])) _
    refine XS.iconst X1.here hx rfl (hb hby k8_7) ?_
    refine XS.iloadN X1.here hx rfl (hb hby k8_8) rfl ?_
    show Steps p.tables e below (T1.setTop (mkF m 9 #[.val (.ref a1), .val (.int (0 : Int32)), .val (.int (Int32.ofNat nn)), .val (.ref b1), .unset, .unset] [(.int (Int32.ofNat nn)), (.int (0 : Int32)), (.ref b1), (.int (0 : Int32)), (.ref a1)])) _
    refine st2 _ ?_
    refine XS.istore X2.here hx rfl (hb hby k8_12) rfl (l' := #[.val (.ref a1), .val (.int (0 : Int32)), .val (.int (Int32.ofNat nn)), .val (.ref b1), .val (.int (Int32.ofNat (own_J cs))), .unset]) rfl ?_
    refine XS.iload X2.here hx rfl (hb hby k8_14) rfl ?_
    refine XS.iloadN X2.here hx rfl (hb hby k8_16) rfl ?_
    exact kk
  by_cases hJn : own_J cs = nn
  · obtain ⟨fs, hr, hrun, hended, hW, hsame⟩ := X2.leave (v := some (.ref b1)) (fun h => by rw [Bd.returns] at h; cases h)
    refine ⟨_, _, pre0 _ ?_, hrun, hended, _, _, rfl, ?_, ⟨_, rfl⟩, hW, hsame.mono (by decide) (by decide)⟩
    · refine cut4 _ ?_
      show Steps p.tables e below (T2.setTop (mkF m 17 #[.val (.ref a1), .val (.int (0 : Int32)), .val (.int (Int32.ofNat nn)), .val (.ref b1), .val (.int (Int32.ofNat (own_J cs))), .unset] [(.int (Int32.ofNat nn)), (.int (Int32.ofNat (own_J cs)))])) _
      refine XS.icmpYes X2.here hx rfl (pc0 := 17) (pc' := 57) rfl (hb hby k8_17) rfl (teq (congrArg Int32.ofNat hJn : (Int32.ofNat (own_J cs)) = (Int32.ofNat nn))).1 (by decide) (by decide) ?_
      refine XS.aloadN X2.here hx rfl (hb hby k8_57) rfl rfl ?_
      show Steps p.tables e below (T2.setTop (mkF m 58 #[.val (.ref a1), .val (.int (0 : Int32)), .val (.int (Int32.ofNat nn)), .val (.ref b1), .val (.int (Int32.ofNat (own_J cs))), .unset] [(.ref b1)])) _
      jvm_step X2.here [X2.here.top, hx, (hb hby k8_58), X2.method', Bd.returns, Value.isRef, FieldType.isReference]
      first | (intro acts; rw [hr _ acts rfl rfl rfl]) | rw [hr _ _ rfl rfl rfl]
      exact Steps.refl _
    · show QCo Z cs h0 n0 _ T2.heap _
      exact ⟨b1, ka1, (0 : Int32), _, _, rfl, N2a, K2, sz_b1, Ca2, Or.inl ⟨rfl, by rw [hl], by rw [hJn, List.take_of_length_le (by omega)]; rfl, own_J_all (by omega)⟩⟩
  · have f6 : Old Z n0 T2.heap := ((O0.ext E1).keep K2q (allS g_b1 all0))
    have f7 : Arv Z T2.heap a1 kc .char (Int32.ofNat nn) (cs.map Value.int) (.int (0 : Int32)) := (f3.keep K2q (ninS (Nat.ne_of_lt (Nat.lt_of_lt_of_le V_a1.lt (Nat.le_of_eq g1.symm))) nin0))
    obtain ⟨_, _, ⟨T5, L5, k5, n5⟩, -, X5, ⟨Lc5, hQ5, l5, y5, z5⟩, st5⟩ := Jvm.LawKit.callS X2 hx (y := m6_) hown (mvT hZ (wt hw 54 rfl)) (mvT hZ (wt hw 55 rfl)) (mvT hZ (wt hw 46 rfl)) (mvT hZ (wt hw 56 rfl)) (by decide) (backOf (W := 0) (rmTb l Z a0 hw [] a1 kc nn cs T2.heap n0 (Nat.le_trans Z0 K2.1) hG f6 f7 hl hm) hZ (wt hw 56 rfl) (wt hw 46 rfl) (by decide) (by decide)) (g := (mkF m 23 #[.val (.ref a1), .val (.int (0 : Int32)), .val (.int (Int32.ofNat nn)), .val (.ref b1), .val (.int (Int32.ofNat (own_J cs))), .unset] [(.int (Int32.ofNat nn)), (.int (0 : Int32)), (.ref a1)])) rfl (by rw [hml]; rfl) (argsL := [(.ref a1), (.int (0 : Int32)), (.int (Int32.ofNat nn))]) (rest := []) (lenOf pd5_ rfl) rfl (by show 2 * 0 + _ ≤ _; exact Nat.le_of_eq rfl) (hb hby k8_23) (fun _ _ => ⟨rfl, rfl, (by decide : 1 + 1 ≤ _), (by decide : 127 + 260 ≤ _)⟩)
    dsimp only [Pt.U, Pt.locs, Pt.cells, Pt.slots] at X5 l5 y5 z5 st5 hQ5
    rw [l5] at X5
    clear l5; subst y5 z5
    obtain ⟨t5, tk5, rfl, N5q, K5q, ts5, Ta5⟩ := hQ5
    have N5a := Fr.app N2a N5q
    have K3 : Keep h0 T5.heap [] := K2.trans K5q all0
    have sz_t5 : h0.size ≤ t5 := Nat.le_trans K2.1 ts5
    have f9 : Old Z n0 T5.heap := (f6.keep K5q all0)
    obtain ⟨_, _, ⟨T8, L8, k8, n8⟩, -, X8, ⟨Lc8, hQ8, l8, y8, z8⟩, st8⟩ := Jvm.LawKit.callS X5 hx (y := m2_) hown (mvT hZ (wt hw 70 rfl)) (mvT hZ (wt hw 71 rfl)) (mvT hZ (wt hw 46 rfl)) (mvT hZ (wt hw 72 rfl)) (by decide) (backOf (W := 0) (rmGc l Z a0 hw [] t5 tk5 (own_J cs) (2 * nn) cs T5.heap n0 (Nat.le_trans Z0 K3.1) hG f9 Ta5 (by omega) (by omega) (by omega) hc) hZ (wt hw 72 rfl) (wt hw 46 rfl) (by decide) (by decide)) (g := (mkF m 32 #[.val (.ref a1), .val (.int (0 : Int32)), .val (.int (Int32.ofNat nn)), .val (.ref b1), .val (.int (Int32.ofNat (own_J cs))), .val (.ref t5)] [(.int (Int32.ofNat (own_J cs))), (.ref t5)])) rfl (by rw [hml]; rfl) (argsL := [(.ref t5), (.int (Int32.ofNat (own_J cs)))]) (rest := []) (lenOf pd6_ rfl) rfl (by show 2 * 0 + _ ≤ _; exact Nat.le_of_eq rfl) (hb hby k8_32) (fun _ _ => ⟨rfl, rfl, (by decide : 2 + 0 ≤ _), (by decide : 387 + 0 ≤ _)⟩)
    dsimp only [Pt.U, Pt.locs, Pt.cells, Pt.slots] at X8 l8 y8 z8 st8 hQ8
    rw [l8] at X8
    clear l8; subst y8 z8
    obtain ⟨rfl, N8q, e8q⟩ := hQ8
    have N8a := Fr.app N5a N8q
    obtain ⟨fs, hr, hrun, hended, hW, hsame⟩ := X8.leave (v := some (.ref t5)) (fun h => by rw [Bd.returns] at h; cases h)
    refine ⟨_, _, pre0 _ ?_, hrun, hended, _, _, rfl, ?_, ⟨_, rfl⟩, hW, hsame.mono (by decide) (by decide)⟩
    · refine cut4 _ ?_
      show Steps p.tables e below (T2.setTop (mkF m 17 #[.val (.ref a1), .val (.int (0 : Int32)), .val (.int (Int32.ofNat nn)), .val (.ref b1), .val (.int (Int32.ofNat (own_J cs))), .unset] [(.int (Int32.ofNat nn)), (.int (Int32.ofNat (own_J cs)))])) _
      refine XS.icmpNo X2.here hx rfl (hb hby k8_17) rfl (feq (fun q => hJn ((own_eq_of (by omega) (by omega)).mp q) : ¬ ((Int32.ofNat (own_J cs)) = (Int32.ofNat nn)))).1 ?_
      refine XS.aloadN X2.here hx rfl (hb hby k8_20) rfl rfl ?_
      refine XS.iloadN X2.here hx rfl (hb hby k8_21) rfl ?_
      refine XS.iloadN X2.here hx rfl (hb hby k8_22) rfl ?_
      show Steps p.tables e below (T2.setTop (mkF m 23 #[.val (.ref a1), .val (.int (0 : Int32)), .val (.int (Int32.ofNat nn)), .val (.ref b1), .val (.int (Int32.ofNat (own_J cs))), .unset] [(.int (Int32.ofNat nn)), (.int (0 : Int32)), (.ref a1)])) _
      refine st5 _ ?_
      refine XS.astore X5.here hx rfl (hb hby k8_26) rfl rfl (l' := #[.val (.ref a1), .val (.int (0 : Int32)), .val (.int (Int32.ofNat nn)), .val (.ref b1), .val (.int (Int32.ofNat (own_J cs))), .val (.ref t5)]) rfl ?_
      refine XS.aload X5.here hx rfl (hb hby k8_28) rfl rfl ?_
      refine XS.iload X5.here hx rfl (hb hby k8_30) rfl ?_
      show Steps p.tables e below (T5.setTop (mkF m 32 #[.val (.ref a1), .val (.int (0 : Int32)), .val (.int (Int32.ofNat nn)), .val (.ref b1), .val (.int (Int32.ofNat (own_J cs))), .val (.ref t5)] [(.int (Int32.ofNat (own_J cs))), (.ref t5)])) _
      refine st8 _ ?_
      refine XS.sipush X8.here hx rfl (hb hby k8_35) ?_
      show Steps p.tables e below (T8.setTop (mkF m 38 #[.val (.ref a1), .val (.int (0 : Int32)), .val (.int (Int32.ofNat nn)), .val (.ref b1), .val (.int (Int32.ofNat (own_J cs))), .val (.ref t5)] [(.int (255 : Int32)), (.int (cs.getD (own_J cs) 0))])) _
      refine XS.icmpYes X8.here hx rfl (pc0 := 38) (pc' := 54) rfl (hb hby k8_38) rfl (tlt (own_J_at (by omega) : (255 : Int32) < (cs.getD (own_J cs) 0))).2.2.1 (by decide) (by decide) ?_
      refine XS.aload X8.here hx rfl (hb hby k8_54) rfl rfl ?_
      show Steps p.tables e below (T8.setTop (mkF m 56 #[.val (.ref a1), .val (.int (0 : Int32)), .val (.int (Int32.ofNat nn)), .val (.ref b1), .val (.int (Int32.ofNat (own_J cs))), .val (.ref t5)] [(.ref t5)])) _
      jvm_step X8.here [X8.here.top, hx, (hb hby k8_56), X8.method', Bd.returns, Value.isRef, FieldType.isReference]
      first | (intro acts; rw [hr _ acts rfl rfl rfl]) | rw [hr _ _ rfl rfl rfl]
      exact Steps.refl _
    · show QCo Z cs h0 n0 _ T8.heap _
      rw [e8q]
      exact ⟨t5, tk5, (1 : Int32), _, _, rfl, N8a, K3, sz_t5, Ta5, Or.inr ⟨rfl, by rw [hl], rfl, _, own_mem (by omega), own_J_at (by omega)⟩⟩
theorem own_cod0 (x : Int32) : nar .byte (((((x - x).toUInt32 >>> ((31 : Int32) &&& 31).toUInt32).toInt32).toInt8.toInt32)) = (0 : Int32) := by rw [Int32.sub_self]; decide
theorem own_cod1 {n : Nat} (h : 0 < n) (hm : n ≤ 127) : nar .byte (((((Int32.ofNat n - Int32.ofNat (2 * n)).toUInt32 >>> ((31 : Int32) &&& 31).toUInt32).toInt32).toInt8.toInt32)) = (1 : Int32) := by
  have t : ∀ k : Fin 128, 0 < k.val → nar .byte (((((Int32.ofNat k.val - Int32.ofNat (2 * k.val)).toUInt32 >>> ((31 : Int32) &&& 31).toUInt32).toInt32).toInt8.toInt32)) = (1 : Int32) := by decide +kernel
  exact t ⟨n, by omega⟩ h
theorem k9_0 : decode c9_ 0 = .ok (.iload_n 1, 1) := by decide +kernel
theorem k9_1 : decode c9_ 1 = .ok (.aload_n 0, 1) := by decide +kernel
theorem k9_2 : decode c9_ 2 = .ok (.arraylength, 1) := by decide +kernel
theorem k9_3 : decode c9_ 3 = .ok (.isub, 1) := by decide +kernel
theorem k9_4 : decode c9_ 4 = .ok (.bipush 31, 2) := by decide +kernel
theorem k9_6 : decode c9_ 6 = .ok (.iushr, 1) := by decide +kernel
theorem k9_7 : decode c9_ 7 = .ok (.i2b, 1) := by decide +kernel
theorem k9_8 : decode c9_ 8 = .ok (.ireturn, 1) := by decide +kernel
theorem ef9_ (m : MethodId) (x0 : Addr) (x1 : Int32) : entryFrame m #[(.ref x0), (.int x1)] 2 = mkF m 0 #[.val (.ref x0), .val (.int x1)] [] := by first | (simp [entryFrame, mkF, argsToLocals, Value.category]; done) | rfl
theorem rmK0 (l : Launch) (Z : State) (a0 : Array Value) (hw : HW a0 Z) (ws : List Jvm.Cond) (b : Addr) (kb : ClassId) (nn : Nat) (vs : List Value) (h0 : Heap) (n0 : Nat) (Z0 : n0 ≤ h0.size) (V_b : Arv Z h0 b kb .byte (Int32.ofNat nn) vs (.int (0 : Int32))) :
    Met l Z ws m9_ jdk_52_method_15_code 2 (some .byte) ({ frames := 0, cells := 0, slots := 0, locals := 0 } : Room) h0 #[(.ref b), (.int (Int32.ofNat nn))] (QB 0 h0 n0) := by
  refine MetFree.of_bodySF (plainFor_of_name pn1_) hisR ?_
  intro p e s m args below meth c s₁ Bd hml0 hP hK
  obtain ⟨rfl, hZ, hh⟩ := hP
  have hx := Bd.exec
  have hby := Bd.bytes
  have X0 : Stand p l e ({ frames := 0, cells := 0, slots := 0, locals := 0 } : Room) s m #[(.ref b), (.int (Int32.ofNat nn))] below meth c s₁ [] 0 0 := Stand.of_body Bd
  have e0 : s₁.heap = h0 := by rw [← hh, Bd.state]; rfl
  have N0 := Fr.nil n0
  have pre0 : ∀ t, Steps p.tables e below (s₁.setTop (mkF m 0 #[.val (.ref b), .val (.int (Int32.ofNat nn))] [])) t → Steps p.tables e below (s₁.setTop (entryFrame m #[(.ref b), (.int (Int32.ofNat nn))] 2)) t := fun t k => castTop (ef9_ m b (Int32.ofNat nn)) k
  obtain ⟨cl1, Ar1, q1, S1, N_1, H_1, G1⟩ := id V_b
  obtain ⟨fs, hr, hrun, hended, hW, hsame⟩ := X0.leave (v := some (.int (nar .byte (((((Int32.ofNat nn) - (Int32.ofNat nn)).toUInt32 >>> ((31 : Int32) &&& 31).toUInt32).toInt32).toInt8.toInt32)))) (fun h => by rw [Bd.returns] at h; cases h)
  refine ⟨_, _, pre0 _ ?_, hrun, hended, _, _, rfl, ?_, ⟨_, rfl⟩, hW, hsame.mono (by decide) (by decide)⟩
  · show Steps p.tables e below (s₁.setTop (mkF m 0 #[.val (.ref b), .val (.int (Int32.ofNat nn))] [])) _
    refine XS.iloadN X0.here hx rfl (hb hby k9_0) rfl ?_
    refine XS.aloadN X0.here hx rfl (hb hby k9_1) rfl rfl ?_
    show Steps p.tables e below (s₁.setTop (mkF m 2 #[.val (.ref b), .val (.int (Int32.ofNat nn))] [(.ref b), (.int (Int32.ofNat nn))])) _
    refine X0.arraylength hx (by rw [e0]; exact Ar1.1) (State.isArrayOf_alike hZ.alike Ar1.2.1) (g := (mkF m 2 #[.val (.ref b), .val (.int (Int32.ofNat nn))] [(.ref b), (.int (Int32.ofNat nn))])) rfl rfl (hb hby k9_2) _ ?_
    rw [len_of S1 N_1]
    refine XS.isub X0.here hx rfl (hb hby k9_3) rfl ?_
    refine XS.bipush X0.here hx rfl (hb hby k9_4) ?_
    refine XS.iushr X0.here hx rfl (hb hby k9_6) rfl ?_
    refine XS.i2b X0.here hx rfl (hb hby k9_7) rfl ?_
    show Steps p.tables e below (s₁.setTop (mkF m 8 #[.val (.ref b), .val (.int (Int32.ofNat nn))] [(.int (((((Int32.ofNat nn) - (Int32.ofNat nn)).toUInt32 >>> ((31 : Int32) &&& 31).toUInt32).toInt32).toInt8.toInt32))])) _
    exact retN X0 hx (t := .byte) Bd.returns (by simp) (hb hby k9_8) hr
  · show QB 0 h0 n0 _ s₁.heap _
    rw [e0]
    exact ⟨congrArg (fun x => some (Value.int x)) (own_cod0 _), N0, rfl⟩
theorem rmK1 (l : Launch) (Z : State) (a0 : Array Value) (hw : HW a0 Z) (ws : List Jvm.Cond) (b : Addr) (kb : ClassId) (nn : Nat) (vs : List Value) (h0 : Heap) (n0 : Nat) (Z0 : n0 ≤ h0.size) (V_b : Arv Z h0 b kb .byte (Int32.ofNat (2 * nn)) vs (.int (0 : Int32))) (hp : 0 < nn) (hm : nn ≤ 127) :
    Met l Z ws m9_ jdk_52_method_15_code 2 (some .byte) ({ frames := 0, cells := 0, slots := 0, locals := 0 } : Room) h0 #[(.ref b), (.int (Int32.ofNat nn))] (QB 1 h0 n0) := by
  refine MetFree.of_bodySF (plainFor_of_name pn1_) hisR ?_
  intro p e s m args below meth c s₁ Bd hml0 hP hK
  obtain ⟨rfl, hZ, hh⟩ := hP
  have hx := Bd.exec
  have hby := Bd.bytes
  have X0 : Stand p l e ({ frames := 0, cells := 0, slots := 0, locals := 0 } : Room) s m #[(.ref b), (.int (Int32.ofNat nn))] below meth c s₁ [] 0 0 := Stand.of_body Bd
  have e0 : s₁.heap = h0 := by rw [← hh, Bd.state]; rfl
  have N0 := Fr.nil n0
  have pre0 : ∀ t, Steps p.tables e below (s₁.setTop (mkF m 0 #[.val (.ref b), .val (.int (Int32.ofNat nn))] [])) t → Steps p.tables e below (s₁.setTop (entryFrame m #[(.ref b), (.int (Int32.ofNat nn))] 2)) t := fun t k => castTop (ef9_ m b (Int32.ofNat nn)) k
  obtain ⟨cl1, Ar1, q1, S1, N_1, H_1, G1⟩ := id V_b
  obtain ⟨fs, hr, hrun, hended, hW, hsame⟩ := X0.leave (v := some (.int (nar .byte (((((Int32.ofNat nn) - (Int32.ofNat (2 * nn))).toUInt32 >>> ((31 : Int32) &&& 31).toUInt32).toInt32).toInt8.toInt32)))) (fun h => by rw [Bd.returns] at h; cases h)
  refine ⟨_, _, pre0 _ ?_, hrun, hended, _, _, rfl, ?_, ⟨_, rfl⟩, hW, hsame.mono (by decide) (by decide)⟩
  · show Steps p.tables e below (s₁.setTop (mkF m 0 #[.val (.ref b), .val (.int (Int32.ofNat nn))] [])) _
    refine XS.iloadN X0.here hx rfl (hb hby k9_0) rfl ?_
    refine XS.aloadN X0.here hx rfl (hb hby k9_1) rfl rfl ?_
    show Steps p.tables e below (s₁.setTop (mkF m 2 #[.val (.ref b), .val (.int (Int32.ofNat nn))] [(.ref b), (.int (Int32.ofNat nn))])) _
    refine X0.arraylength hx (by rw [e0]; exact Ar1.1) (State.isArrayOf_alike hZ.alike Ar1.2.1) (g := (mkF m 2 #[.val (.ref b), .val (.int (Int32.ofNat nn))] [(.ref b), (.int (Int32.ofNat nn))])) rfl rfl (hb hby k9_2) _ ?_
    rw [len_of S1 N_1]
    refine XS.isub X0.here hx rfl (hb hby k9_3) rfl ?_
    refine XS.bipush X0.here hx rfl (hb hby k9_4) ?_
    refine XS.iushr X0.here hx rfl (hb hby k9_6) rfl ?_
    refine XS.i2b X0.here hx rfl (hb hby k9_7) rfl ?_
    show Steps p.tables e below (s₁.setTop (mkF m 8 #[.val (.ref b), .val (.int (Int32.ofNat nn))] [(.int (((((Int32.ofNat nn) - (Int32.ofNat (2 * nn))).toUInt32 >>> ((31 : Int32) &&& 31).toUInt32).toInt32).toInt8.toInt32))])) _
    exact retN X0 hx (t := .byte) Bd.returns (by simp) (hb hby k9_8) hr
  · show QB 1 h0 n0 _ s₁.heap _
    rw [e0]
    exact ⟨congrArg (fun x => some (Value.int x)) (own_cod1 hp hm), N0, rfl⟩
theorem rmK (l : Launch) (Z : State) (a0 : Array Value) (hw : HW a0 Z) (ws : List Jvm.Cond) (b : Addr) (kb : ClassId) (nn : Nat) (cs : List Int32) (cd z : Int32) (vs : List Value) (h0 : Heap) (n0 : Nat) (Z0 : n0 ≤ h0.size) (V : Arv Z h0 b kb .byte z vs (.int (0 : Int32))) (q : CodA cs cd z vs) (hl : cs.length = nn) (hp : 0 < nn) (hm : nn ≤ 127) :
    Met l Z ws m9_ jdk_52_method_15_code 2 (some .byte) ({ frames := 0, cells := 0, slots := 0, locals := 0 } : Room) h0 #[(.ref b), (.int (Int32.ofNat nn))] (QB cd h0 n0) := by
  rcases q with ⟨rfl, rfl, rfl, q⟩ | ⟨rfl, rfl, rfl, q⟩
  · rw [hl] at V; exact rmK0 l Z a0 hw ws b kb nn _ h0 n0 Z0 V
  · rw [hl] at V; exact rmK1 l Z a0 hw ws b kb nn _ h0 n0 Z0 V hp hm
theorem own_cd_nar {cs : List Int32} {cd z : Int32} {vs : List Value} (q : CodA cs cd z vs) : narrow .byte (.int cd) = .int cd ∧ fits .byte (.int cd) = true := by
  rcases q with ⟨rfl, -⟩ | ⟨rfl, -⟩ <;> exact ⟨rfl, rfl⟩
theorem k0_27 : decode c0_ 27 = .ok (.getstatic 38, 3) := by decide +kernel
theorem k0_30 : decode c0_ 30 = .ok (.ifCond .eq 28, 3) := by decide +kernel
theorem k0_33 : decode c0_ 33 = .ok (.aload_n 1, 1) := by decide +kernel
theorem k0_34 : decode c0_ 34 = .ok (.iload_n 2, 1) := by decide +kernel
theorem k0_35 : decode c0_ 35 = .ok (.iload_n 3, 1) := by decide +kernel
theorem k0_36 : decode c0_ 36 = .ok (.invokestatic 177, 3) := by decide +kernel
theorem k0_39 : decode c0_ 39 = .ok (.astore 5, 2) := by decide +kernel
theorem k0_41 : decode c0_ 41 = .ok (.aload_n 0, 1) := by decide +kernel
theorem k0_42 : decode c0_ 42 = .ok (.aload 5, 2) := by decide +kernel
theorem k0_44 : decode c0_ 44 = .ok (.iload_n 3, 1) := by decide +kernel
theorem k0_45 : decode c0_ 45 = .ok (.invokestatic 47, 3) := by decide +kernel
theorem k0_48 : decode c0_ 48 = .ok (.putfield 15, 3) := by decide +kernel
theorem k0_51 : decode c0_ 51 = .ok (.aload_n 0, 1) := by decide +kernel
theorem k0_52 : decode c0_ 52 = .ok (.aload 5, 2) := by decide +kernel
theorem k0_54 : decode c0_ 54 = .ok (.putfield 9, 3) := by decide +kernel
theorem k0_57 : decode c0_ 57 = .ok (.return_, 1) := by decide +kernel
theorem pd7_ : parseMethodDescriptor "([BI)B" = some ⟨[(.array .byte), .int], some .byte⟩ := by decide +kernel
theorem rmI4 (l : Launch) (Z : State) (a0 : Array Value) (hw : HW a0 Z) (ws : List Jvm.Cond) (a1 a2 : Addr) (kc : ClassId) (nn : Nat) (cs : List Int32) (uv uc : Value) (h0 : Heap) (n0 : Nat) (Z0 : n0 ≤ h0.size) (E_a1 : Exa Z h0 a1 "java/lang/String") (F_value_a1 : Fld Z h0 a1 "java/lang/String" "value" "[B" uv) (F_coder_a1 : Fld Z h0 a1 "java/lang/String" "coder" "B" uc) (g_a1 : n0 ≤ a1) (hG : GST Z) (O0 : Old Z n0 h0) (V_a2 : Arv Z h0 a2 kc .char (Int32.ofNat nn) (cs.map Value.int) (.int (0 : Int32))) (hl : cs.length = nn) (hp : 0 < nn) (hm : nn ≤ 127) (hc : ∀ c ∈ cs, ¬ c < 0 ∧ ¬ (65535 : Int32) < c) :
    Met l Z ws m0_ jdk_42_method_149_code 6 none ({ frames := 4, cells := 2, slots := 387, locals := 57 } : Room) h0 #[(.ref a1), (.ref a2), (.int (0 : Int32)), (.int (Int32.ofNat nn)), .null] (QSt Z a1 cs h0 n0) := by
  refine MetFree.of_bodySF (plainFor_of_name pn0_) hisR ?_
  intro p e s m args below meth c s₁ Bd hml0 hP hK
  obtain ⟨rfl, hZ, hh⟩ := hP
  have hx := Bd.exec
  have hby := Bd.bytes
  have hml : c.maxLocals = 6 := hml0
  have hown : s.vm.findClass "java/lang/String" = some m.cls := findClass_of_methodNamed Bd.named
  have hnm := (name_of_methodNamed Bd.named Bd.method).1
  have X0 : Stand p l e ({ frames := 4, cells := 2, slots := 387, locals := 57 } : Room) s m #[(.ref a1), (.ref a2), (.int (0 : Int32)), (.int (Int32.ofNat nn)), .null] below meth c s₁ [] 0 0 := Stand.of_body Bd
  have e0 : s₁.heap = h0 := by rw [← hh, Bd.state]; rfl
  have N0 := Fr.nil n0
  have pre0 : ∀ t, Steps p.tables e below (s₁.setTop (mkF m 0 #[.val (.ref a1), .val (.ref a2), .val (.int (0 : Int32)), .val (.int (Int32.ofNat nn)), .val .null, .unset] [])) t → Steps p.tables e below (s₁.setTop (entryFrame m #[(.ref a1), (.ref a2), (.int (0 : Int32)), (.int (Int32.ofNat nn)), .null] 6)) t := fun t k => castTop (ef0_ m a1 a2 (0 : Int32) (Int32.ofNat nn)) k
  obtain ⟨⟨G1, O2, P5⟩, ⟨G3, O4, rG3⟩, Sa, Sh, Sl⟩ := id hG
  obtain ⟨T1, X1, e1, st1⟩ := initO X0 hx hZ hown (wt hw 12 rfl) (wt hw 13 rfl) (wt hw 14 rfl) e0 (g := (mkF m 1 #[.val (.ref a1), .val (.ref a2), .val (.int (0 : Int32)), .val (.int (Int32.ofNat nn)), .val .null, .unset] [(.ref a1)])) rfl (by rw [hml]; rfl) rfl (hb hby k0_1) (by decide) (W := 0) (by show 2 * 0 + _ ≤ _; exact Nat.le_of_eq rfl) (by decide)
  obtain ⟨T2, X2, e2, st2⟩ := getS2 X1 hx hZ hown (host := "") (Or.inl (wt hw 37 rfl)) Via.refl e1 (O2.ext O0.2) (g := (mkF m 27 #[.val (.ref a1), .val (.ref a2), .val (.int (0 : Int32)), .val (.int (Int32.ofNat nn)), .val .null, .unset] [])) rfl (hb hby k0_27)
  obtain ⟨_, _, ⟨T3, L3, k3, n3⟩, -, X3, ⟨Lc3, hQ3, l3, y3, z3⟩, st3⟩ := Jvm.LawKit.callS X2 hx (y := m8_) hown (mvT hZ (wt hw 44 rfl)) (mvT hZ (wt hw 45 rfl)) (mvT hZ (wt hw 46 rfl)) (mvT hZ (wt hw 47 rfl)) (by decide) (backOf (W := 0) (rmC3 l Z a0 hw [] a2 kc nn cs h0 n0 (Nat.le_trans Z0 (Keep.refl h0 [a1]).1) hG O0 V_a2 hl hm hc) hZ (wt hw 47 rfl) (wt hw 46 rfl) (by decide) (by decide)) (g := (mkF m 36 #[.val (.ref a1), .val (.ref a2), .val (.int (0 : Int32)), .val (.int (Int32.ofNat nn)), .val .null, .unset] [(.int (Int32.ofNat nn)), (.int (0 : Int32)), (.ref a2)])) rfl (by rw [hml]; rfl) (argsL := [(.ref a2), (.int (0 : Int32)), (.int (Int32.ofNat nn))]) (rest := []) (lenOf pd5_ rfl) rfl (by show 2 * 0 + _ ≤ _; exact Nat.le_of_eq rfl) (hb hby k0_36) (fun _ _ => ⟨rfl, e2, (by decide : 0 + 2 ≤ _), (by decide : 0 + 387 ≤ _)⟩)
  dsimp only [Pt.U, Pt.locs, Pt.cells, Pt.slots] at X3 l3 y3 z3 st3 hQ3
  rw [l3] at X3
  clear l3; subst y3 z3
  obtain ⟨t3, tk3, td3, tz3, tv3, rfl, N3q, K3q, ts3, Ta3, tq3⟩ := hQ3
  have N3a := Fr.app N0 N3q
  have K1 : Keep h0 T3.heap [a1] := (Keep.refl h0 [a1]).trans K3q all0
  obtain ⟨_, _, ⟨T4, L4, k4, n4⟩, -, X4, ⟨Lc4, hQ4, l4, y4, z4⟩, st4⟩ := Jvm.LawKit.callS X3 hx (y := m9_) hown (mvT hZ (wt hw 51 rfl)) (mvT hZ (wt hw 52 rfl)) (mvT hZ (wt hw 46 rfl)) (mvT hZ (wt hw 53 rfl)) (by decide) (backOf (W := 1) (rmK l Z a0 hw [] t3 tk3 nn cs td3 tz3 tv3 T3.heap n0 (Nat.le_trans Z0 K1.1) Ta3 tq3 hl hp hm) hZ (wt hw 53 rfl) (wt hw 46 rfl) (by decide) (by decide)) (g := (mkF m 45 #[.val (.ref a1), .val (.ref a2), .val (.int (0 : Int32)), .val (.int (Int32.ofNat nn)), .val .null, .val (.ref t3)] [(.int (Int32.ofNat nn)), (.ref t3), (.ref a1)])) rfl (by rw [hml]; rfl) (argsL := [(.ref t3), (.int (Int32.ofNat nn))]) (rest := [(.ref a1)]) (lenOf pd7_ rfl) rfl (by show 2 * 0 + _ ≤ _; exact Nat.le_of_eq rfl) (hb hby k0_45) (fun _ _ => ⟨rfl, rfl, (by decide : 2 + 0 ≤ _), (by decide : 387 + 0 ≤ _)⟩)
  dsimp only [Pt.U, Pt.locs, Pt.cells, Pt.slots] at X4 l4 y4 z4 st4 hQ4
  rw [l4] at X4
  clear l4; subst y4 z4
  obtain ⟨rfl, N4q, e4q⟩ := hQ4
  have N4a := Fr.app N3a N4q
  have f5 : Fld Z T3.heap a1 "java/lang/String" "coder" "B" uc := (F_coder_a1.keep K3q nin0)
  have f6 : Exa Z T3.heap a1 "java/lang/String" := (E_a1.keep K3q)
  obtain ⟨T7, h7, X7, e7, W7, st7⟩ := putFN X4 hx hZ hown (wt hw 22 rfl) Via.refl e4q f5 f6 (Or.inr ⟨(wt hw 18 rfl), rfl, hnm⟩) (wt hw 3 rfl) (ty := .byte) (v' := (.int td3)) (by decide) (own_cd_nar tq3).1 (own_cd_nar tq3).2 (g := (mkF m 48 #[.val (.ref a1), .val (.ref a2), .val (.int (0 : Int32)), .val (.int (Int32.ofNat nn)), .val .null, .val (.ref t3)] [(.int td3), (.ref a1)])) rfl rfl (hb hby k0_48)
  have Fw7 := f5.same W7
  have Nf7 := Fr.snoc X7 N4a g_a1
  have K2 : Keep h0 h7 [a1] := K1.wr W7 (Or.inl (List.mem_of_getElem? (i := 0) rfl))
  have f8 : Fld Z h7 a1 "java/lang/String" "value" "[B" uv := ((F_value_a1.keep K3q nin0).other W7 (Or.inr (slot_ne (Or.inr (wt hw 17 rfl)) (Or.inr (wt hw 18 rfl)) (by decide) (t := (.array .byte)) (t' := .byte) (by decide) (by decide))))
  have f9 : Exa Z h7 a1 "java/lang/String" := (f6.wr W7)
  obtain ⟨T10, h10, X10, e10, W10, st10⟩ := putF X7 hx hZ hown (host := "") (Or.inl (wt hw 21 rfl)) Via.refl e7 f8 f9 (Or.inr ⟨(wt hw 17 rfl), rfl, hnm⟩) (wt hw 3 rfl) (ty := (.array .byte)) (by decide) rfl rfl (g := (mkF m 54 #[.val (.ref a1), .val (.ref a2), .val (.int (0 : Int32)), .val (.int (Int32.ofNat nn)), .val .null, .val (.ref t3)] [(.ref t3), (.ref a1)])) rfl rfl (hb hby k0_54)
  have Fw10 := f8.same W10
  have Nf10 := Fr.snoc X10 Nf7 g_a1
  have K3 : Keep h0 h10 [a1] := K2.wr W10 (Or.inl (List.mem_of_getElem? (i := 0) rfl))
  have f11 : Exa Z h10 a1 "java/lang/String" := (f9.wr W10)
  have f12 : Fld Z h10 a1 "java/lang/String" "coder" "B" (.int td3) := (Fw7.other W10 (Or.inr (slot_ne (Or.inr (wt hw 18 rfl)) (Or.inr (wt hw 17 rfl)) (by decide) (t := .byte) (t' := (.array .byte)) (by decide) (by decide))))
  have f13 : Arv Z h10 t3 tk3 .byte tz3 tv3 (.int (0 : Int32)) := ((Ta3.other W7 (Ne.symm (Nat.ne_of_lt (Nat.lt_of_lt_of_le E_a1.lt ts3)))).other W10 (Ne.symm (Nat.ne_of_lt (Nat.lt_of_lt_of_le E_a1.lt ts3))))
  obtain ⟨fs, hr, hrun, hended, hW, hsame⟩ := X10.leave (v := none) (fun _ => rfl)
  refine ⟨_, _, pre0 _ ?_, hrun, hended, _, _, rfl, ?_, ⟨_, rfl⟩, hW, hsame.mono (by decide) (by decide)⟩
  · show Steps p.tables e below (s₁.setTop (mkF m 0 #[.val (.ref a1), .val (.ref a2), .val (.int (0 : Int32)), .val (.int (Int32.ofNat nn)), .val .null, .unset] [])) _
    refine XS.aloadN X0.here hx rfl (hb hby k0_0) rfl rfl ?_
    show Steps p.tables e below (s₁.setTop (mkF m 1 #[.val (.ref a1), .val (.ref a2), .val (.int (0 : Int32)), .val (.int (Int32.ofNat nn)), .val .null, .unset] [(.ref a1)])) _
    refine st1 _ ?_
    refine XS.iloadN X1.here hx rfl (hb hby k0_4) rfl ?_
    show Steps p.tables e below (T1.setTop (mkF m 5 #[.val (.ref a1), .val (.ref a2), .val (.int (0 : Int32)), .val (.int (Int32.ofNat nn)), .val .null, .unset] [(.int (Int32.ofNat nn))])) _
    refine XS.ifYes X1.here hx rfl (pc0 := 5) (pc' := 27) rfl (hb hby k0_5) rfl ((if0 _ _).trans (feq (fun q => by have := (own_eq_of (i := nn) (n := 0) (by omega) (by omega)).mp q; omega : ¬ ((Int32.ofNat nn) = (0 : Int32)))).2) (by decide) (by decide) ?_
    show Steps p.tables e below (T1.setTop (mkF m 27 #[.val (.ref a1), .val (.ref a2), .val (.int (0 : Int32)), .val (.int (Int32.ofNat nn)), .val .null, .unset] [])) _
    refine st2 _ ?_
    show Steps p.tables e below (T2.setTop (mkF m 30 #[.val (.ref a1), .val (.ref a2), .val (.int (0 : Int32)), .val (.int (Int32.ofNat nn)), .val .null, .unset] [(.int G1)])) _
    refine XS.ifNo X2.here hx rfl (hb hby k0_30) rfl ((if0 _ _).trans (feq (P5 : ¬ (G1 = (0 : Int32)))).1) ?_
    refine XS.aloadN X2.here hx rfl (hb hby k0_33) rfl rfl ?_
    refine XS.iloadN X2.here hx rfl (hb hby k0_34) rfl ?_
    refine XS.iloadN X2.here hx rfl (hb hby k0_35) rfl ?_
    show Steps p.tables e below (T2.setTop (mkF m 36 #[.val (.ref a1), .val (.ref a2), .val (.int (0 : Int32)), .val (.int (Int32.ofNat nn)), .val .null, .unset] [(.int (Int32.ofNat nn)), (.int (0 : Int32)), (.ref a2)])) _
    refine st3 _ ?_
    refine XS.astore X3.here hx rfl (hb hby k0_39) rfl rfl (l' := #[.val (.ref a1), .val (.ref a2), .val (.int (0 : Int32)), .val (.int (Int32.ofNat nn)), .val .null, .val (.ref t3)]) rfl ?_
    refine XS.aloadN X3.here hx rfl (hb hby k0_41) rfl rfl ?_
    refine XS.aload X3.here hx rfl (hb hby k0_42) rfl rfl ?_
    refine XS.iloadN X3.here hx rfl (hb hby k0_44) rfl ?_
    show Steps p.tables e below (T3.setTop (mkF m 45 #[.val (.ref a1), .val (.ref a2), .val (.int (0 : Int32)), .val (.int (Int32.ofNat nn)), .val .null, .val (.ref t3)] [(.int (Int32.ofNat nn)), (.ref t3), (.ref a1)])) _
    refine st4 _ ?_
    show Steps p.tables e below (T4.setTop (mkF m 48 #[.val (.ref a1), .val (.ref a2), .val (.int (0 : Int32)), .val (.int (Int32.ofNat nn)), .val .null, .val (.ref t3)] [(.int td3), (.ref a1)])) _
    refine st7 _ ?_
    refine XS.aloadN X7.here hx rfl (hb hby k0_51) rfl rfl ?_
    refine XS.aload X7.here hx rfl (hb hby k0_52) rfl rfl ?_
    show Steps p.tables e below (T7.setTop (mkF m 54 #[.val (.ref a1), .val (.ref a2), .val (.int (0 : Int32)), .val (.int (Int32.ofNat nn)), .val .null, .val (.ref t3)] [(.ref t3), (.ref a1)])) _
    refine st10 _ ?_
    show Steps p.tables e below (T10.setTop (mkF m 57 #[.val (.ref a1), .val (.ref a2), .val (.int (0 : Int32)), .val (.int (Int32.ofNat nn)), .val .null, .val (.ref t3)] [])) _
    exact X10.returnOut hx Bd.returns (hb hby k0_57) hr
  · show QSt Z a1 cs h0 n0 _ T10.heap _
    rw [e10]
    exact ⟨rfl, Nf10, K3, t3, _, _, _, _, f11, Fw10, f12, f13, tq3, hc⟩
theorem rmI1 (l : Launch) (Z : State) (a0 : Array Value) (hw : HW a0 Z) (ws : List Jvm.Cond) (a1 a2 : Addr) (kc : ClassId) (nn : Nat) (cs : List Int32) (uv uc : Value) (h0 : Heap) (n0 : Nat) (Z0 : n0 ≤ h0.size) (E_a1 : Exa Z h0 a1 "java/lang/String") (F_value_a1 : Fld Z h0 a1 "java/lang/String" "value" "[B" uv) (F_coder_a1 : Fld Z h0 a1 "java/lang/String" "coder" "B" uc) (g_a1 : n0 ≤ a1) (hG : GST Z) (O0 : Old Z n0 h0) (V_a2 : Arv Z h0 a2 kc .char (Int32.ofNat nn) (cs.map Value.int) (.int (0 : Int32))) (hl : cs.length = nn) (hp : 0 < nn) (hm : nn ≤ 127) (hc : ∀ c ∈ cs, ¬ c < 0 ∧ ¬ (65535 : Int32) < c) :
    Met l Z ws m1_ jdk_42_method_3_code 2 none ({ frames := 5, cells := 2, slots := 387, locals := 74 } : Room) h0 #[(.ref a1), (.ref a2)] (QSt Z a1 cs h0 n0) := by
  refine MetFree.of_bodySF (plainFor_of_name pn0_) hisR ?_
  intro p e s m args below meth c s₁ Bd hml0 hP hK
  obtain ⟨rfl, hZ, hh⟩ := hP
  have hx := Bd.exec
  have hby := Bd.bytes
  have hml : c.maxLocals = 2 := hml0
  have hown : s.vm.findClass "java/lang/String" = some m.cls := findClass_of_methodNamed Bd.named
  have X0 : Stand p l e ({ frames := 5, cells := 2, slots := 387, locals := 74 } : Room) s m #[(.ref a1), (.ref a2)] below meth c s₁ [] 0 0 := Stand.of_body Bd
  have e0 : s₁.heap = h0 := by rw [← hh, Bd.state]; rfl
  have N0 := Fr.nil n0
  have pre0 : ∀ t, Steps p.tables e below (s₁.setTop (mkF m 0 #[.val (.ref a1), .val (.ref a2)] [])) t → Steps p.tables e below (s₁.setTop (entryFrame m #[(.ref a1), (.ref a2)] 2)) t := fun t k => castTop (ef1_ m a1 a2) k
  obtain ⟨⟨G1, O2, P5⟩, ⟨G3, O4, rG3⟩, Sa, Sh, Sl⟩ := id hG
  obtain ⟨cl1, Ar1, q1, S1, N_1, H_1, G1⟩ := id V_a2
  obtain ⟨_, _, ⟨T2, L2, k2, n2⟩, -, X2, ⟨Lc2, hQ2, l2, y2, z2⟩, st2⟩ := X0.specialBack hx (y := m0_) rfl hown (mvT hZ (wt hw 8 rfl)) (mvT hZ (wt hw 9 rfl)) (mvT hZ (wt hw 11 rfl)) (by decide) (backOf (W := 0) (rmI4 l Z a0 hw [] a1 a2 kc nn cs uv uc h0 n0 (Nat.le_trans Z0 (Keep.refl h0 [a1]).1) E_a1 F_value_a1 F_coder_a1 g_a1 hG O0 V_a2 hl hp hm hc) hZ (wt hw 11 rfl) (wt hw 4 rfl) (by decide) (by decide)) (g := (mkF m 6 #[.val (.ref a1), .val (.ref a2)] [.null, (.int (Int32.ofNat nn)), (.int (0 : Int32)), (.ref a2), (.ref a1)])) rfl (by rw [hml]; rfl) (Steps.refl _) (a := a1) (argsL := [(.ref a2), (.int (0 : Int32)), (.int (Int32.ofNat nn)), .null]) (rest := []) (lenOf pd0_ rfl) rfl (by show 2 * 0 + _ ≤ _; exact Nat.le_of_eq rfl) (hb hby k1_6) (fun _ _ => ⟨rfl, e0, (by decide : 0 + 2 ≤ _), (by decide : 0 + 387 ≤ _)⟩)
  dsimp only [Pt.U, Pt.locs, Pt.cells, Pt.slots] at X2 l2 y2 z2 st2 hQ2
  rw [l2] at X2
  clear l2; subst y2 z2
  obtain ⟨rfl, N2q, K2q, SV2⟩ := hQ2
  have N2a := Fr.app N0 N2q
  have K1 : Keep h0 T2.heap [a1] := (Keep.refl h0 [a1]).trans K2q (allS (Or.inl (List.mem_of_getElem? (i := 0) rfl)) all0)
  obtain ⟨fs, hr, hrun, hended, hW, hsame⟩ := X2.leave (v := none) (fun _ => rfl)
  refine ⟨_, _, pre0 _ ?_, hrun, hended, _, _, rfl, ?_, ⟨_, rfl⟩, hW, hsame.mono (by decide) (by decide)⟩
  · show Steps p.tables e below (s₁.setTop (mkF m 0 #[.val (.ref a1), .val (.ref a2)] [])) _
    refine XS.aloadN X0.here hx rfl (hb hby k1_0) rfl rfl ?_
    refine XS.aloadN X0.here hx rfl (hb hby k1_1) rfl rfl ?_
    refine XS.iconst X0.here hx rfl (hb hby k1_2) ?_
    refine XS.aloadN X0.here hx rfl (hb hby k1_3) rfl rfl ?_
    show Steps p.tables e below (s₁.setTop (mkF m 4 #[.val (.ref a1), .val (.ref a2)] [(.ref a2), (.int (0 : Int32)), (.ref a2), (.ref a1)])) _
    refine X0.arraylength hx (by rw [e0]; exact Ar1.1) (State.isArrayOf_alike hZ.alike Ar1.2.1) (g := (mkF m 4 #[.val (.ref a1), .val (.ref a2)] [(.ref a2), (.int (0 : Int32)), (.ref a2), (.ref a1)])) rfl rfl (hb hby k1_4) _ ?_
    rw [len_of S1 N_1]
    refine XS.aconstNull X0.here hx rfl (hb hby k1_5) ?_
    show Steps p.tables e below (s₁.setTop (mkF m 6 #[.val (.ref a1), .val (.ref a2)] [.null, (.int (Int32.ofNat nn)), (.int (0 : Int32)), (.ref a2), (.ref a1)])) _
    refine st2.trans ?_
    show Steps p.tables e below (T2.setTop (mkF m 9 #[.val (.ref a1), .val (.ref a2)] [])) _
    exact X2.returnOut hx Bd.returns (hb hby k1_9) hr
  · show QSt Z a1 cs h0 n0 _ T2.heap _
    exact ⟨rfl, N2a, K1, SV2⟩
theorem k10_0 : decode c10_ 0 = .ok (.aload_n 0, 1) := by decide +kernel
theorem k10_1 : decode c10_ 1 = .ok (.arraylength, 1) := by decide +kernel
theorem k10_2 : decode c10_ 2 = .ok (.iconst 1, 1) := by decide +kernel
theorem k10_3 : decode c10_ 3 = .ok (.ishr, 1) := by decide +kernel
theorem k10_4 : decode c10_ 4 = .ok (.ireturn, 1) := by decide +kernel
theorem ef10_ (m : MethodId) (x0 : Addr) : entryFrame m #[(.ref x0)] 1 = mkF m 0 #[.val (.ref x0)] [] := by first | (simp [entryFrame, mkF, argsToLocals, Value.category]; done) | rfl
theorem rmUl (l : Launch) (Z : State) (a0 : Array Value) (hw : HW a0 Z) (ws : List Jvm.Cond) (b : Addr) (kb : ClassId) (mm : Nat) (vs : List Value) (h0 : Heap) (n0 : Nat) (Z0 : n0 ≤ h0.size) (V_b : Arv Z h0 b kb .byte (Int32.ofNat (2 * mm)) vs (.int (0 : Int32))) (hm : mm ≤ 2000) :
    Met l Z ws m10_ jdk_52_method_6_code 1 (some .int) ({ frames := 0, cells := 0, slots := 0, locals := 0 } : Room) h0 #[(.ref b)] (QB (Int32.ofNat mm) h0 n0) := by
  refine MetFree.of_bodySF (plainFor_of_name pn1_) hisR ?_
  intro p e s m args below meth c s₁ Bd hml0 hP hK
  obtain ⟨rfl, hZ, hh⟩ := hP
  have hx := Bd.exec
  have hby := Bd.bytes
  have X0 : Stand p l e ({ frames := 0, cells := 0, slots := 0, locals := 0 } : Room) s m #[(.ref b)] below meth c s₁ [] 0 0 := Stand.of_body Bd
  have e0 : s₁.heap = h0 := by rw [← hh, Bd.state]; rfl
  have N0 := Fr.nil n0
  have pre0 : ∀ t, Steps p.tables e below (s₁.setTop (mkF m 0 #[.val (.ref b)] [])) t → Steps p.tables e below (s₁.setTop (entryFrame m #[(.ref b)] 1)) t := fun t k => castTop (ef10_ m b) k
  obtain ⟨cl1, Ar1, q1, S1, N_1, H_1, G1⟩ := id V_b
  obtain ⟨fs, hr, hrun, hended, hW, hsame⟩ := X0.leave (v := some (.int (Int32.ofNat mm))) (fun h => by rw [Bd.returns] at h; cases h)
  refine ⟨_, _, pre0 _ ?_, hrun, hended, _, _, rfl, ?_, ⟨_, rfl⟩, hW, hsame.mono (by decide) (by decide)⟩
  · show Steps p.tables e below (s₁.setTop (mkF m 0 #[.val (.ref b)] [])) _
    refine XS.aloadN X0.here hx rfl (hb hby k10_0) rfl rfl ?_
    show Steps p.tables e below (s₁.setTop (mkF m 1 #[.val (.ref b)] [(.ref b)])) _
    refine X0.arraylength hx (by rw [e0]; exact Ar1.1) (State.isArrayOf_alike hZ.alike Ar1.2.1) (g := (mkF m 1 #[.val (.ref b)] [(.ref b)])) rfl rfl (hb hby k10_1) _ ?_
    rw [len_of S1 N_1]
    refine XS.iconst X0.here hx rfl (hb hby k10_2) ?_
    refine XS.ishr X0.here hx rfl (hb hby k10_3) rfl ?_
    show Steps p.tables e below (s₁.setTop (mkF m 4 #[.val (.ref b)] [(.int ((Int32.ofNat (2 * mm)) >>> ((1 : Int32) &&& 31)))])) _
    rw [shr1 (by omega)]
    show Steps p.tables e below (s₁.setTop (mkF m 4 #[.val (.ref b)] [(.int (Int32.ofNat mm))])) _
    exact retI X0 hx Bd.returns (hb hby k10_4) hr
  · show QB (Int32.ofNat mm) h0 n0 _ s₁.heap _
    rw [e0]
    exact ⟨rfl, N0, rfl⟩
theorem k11_0 : decode c11_ 0 = .ok (.iload_n 2, 1) := by decide +kernel
theorem k11_1 : decode c11_ 1 = .ok (.iload_n 0, 1) := by decide +kernel
theorem k11_2 : decode c11_ 2 = .ok (.ior, 1) := by decide +kernel
theorem k11_3 : decode c11_ 3 = .ok (.iload_n 1, 1) := by decide +kernel
theorem k11_4 : decode c11_ 4 = .ok (.ior, 1) := by decide +kernel
theorem k11_5 : decode c11_ 5 = .ok (.ifCond .lt 10, 3) := by decide +kernel
theorem k11_8 : decode c11_ 8 = .ok (.iload_n 1, 1) := by decide +kernel
theorem k11_9 : decode c11_ 9 = .ok (.iload_n 2, 1) := by decide +kernel
theorem k11_10 : decode c11_ 10 = .ok (.iload_n 0, 1) := by decide +kernel
theorem k11_11 : decode c11_ 11 = .ok (.isub, 1) := by decide +kernel
theorem k11_12 : decode c11_ 12 = .ok (.if_icmp .le 11, 3) := by decide +kernel
theorem k11_23 : decode c11_ 23 = .ok (.iload_n 0, 1) := by decide +kernel
theorem k11_24 : decode c11_ 24 = .ok (.ireturn, 1) := by decide +kernel
theorem pn2_ : plainName "jdk/internal/util/Preconditions" = true := by first | (simp [plainName, overriddenIn]; done) | decide +kernel
theorem ef11_ (m : MethodId) (x0 : Int32) (x1 : Int32) (x2 : Int32) (x3 : Value) (r_ : x3.isRef = true) : entryFrame m #[(.int x0), (.int x1), (.int x2), x3] 4 = mkF m 0 #[.val (.int x0), .val (.int x1), .val (.int x2), .val x3] [] := by
  cases x3 <;> first | (cases r_; done) | (simp [entryFrame, mkF, argsToLocals, Value.category]; done) | rfl
theorem rmFx (l : Launch) (Z : State) (a0 : Array Value) (hw : HW a0 Z) (ws : List Jvm.Cond) (x_ y_ mm : Nat) (G3 : Value) (h0 : Heap) (n0 : Nat) (Z0 : n0 ≤ h0.size) (hxy : x_ + y_ ≤ mm) (hm : mm ≤ 4000) (rG3 : G3.isRef = true) :
    Met l Z ws m11_ jdk_41_method_13_code 4 (some .int) ({ frames := 0, cells := 0, slots := 0, locals := 0 } : Room) h0 #[(.int (Int32.ofNat x_)), (.int (Int32.ofNat y_)), (.int (Int32.ofNat mm)), G3] (QB (Int32.ofNat x_) h0 n0) := by
  refine MetFree.of_bodySF (plainFor_of_name pn2_) hisR ?_
  intro p e s m args below meth c s₁ Bd hml0 hP hK
  obtain ⟨rfl, hZ, hh⟩ := hP
  have hx := Bd.exec
  have hby := Bd.bytes
  have X0 : Stand p l e ({ frames := 0, cells := 0, slots := 0, locals := 0 } : Room) s m #[(.int (Int32.ofNat x_)), (.int (Int32.ofNat y_)), (.int (Int32.ofNat mm)), G3] below meth c s₁ [] 0 0 := Stand.of_body Bd
  have e0 : s₁.heap = h0 := by rw [← hh, Bd.state]; rfl
  have N0 := Fr.nil n0
  have pre0 : ∀ t, Steps p.tables e below (s₁.setTop (mkF m 0 #[.val (.int (Int32.ofNat x_)), .val (.int (Int32.ofNat y_)), .val (.int (Int32.ofNat mm)), .val G3] [])) t → Steps p.tables e below (s₁.setTop (entryFrame m #[(.int (Int32.ofNat x_)), (.int (Int32.ofNat y_)), (.int (Int32.ofNat mm)), G3] 4)) t := fun t k => castTop (ef11_ m (Int32.ofNat x_) (Int32.ofNat y_) (Int32.ofNat mm) G3 rG3) k
  obtain ⟨fs, hr, hrun, hended, hW, hsame⟩ := X0.leave (v := some (.int (Int32.ofNat x_))) (fun h => by rw [Bd.returns] at h; cases h)
  refine ⟨_, _, pre0 _ ?_, hrun, hended, _, _, rfl, ?_, ⟨_, rfl⟩, hW, hsame.mono (by decide) (by decide)⟩
  · show Steps p.tables e below (s₁.setTop (mkF m 0 #[.val (.int (Int32.ofNat x_)), .val (.int (Int32.ofNat y_)), .val (.int (Int32.ofNat mm)), .val G3] [])) _
    refine XS.iloadN X0.here hx rfl (hb hby k11_0) rfl ?_
    refine XS.iloadN X0.here hx rfl (hb hby k11_1) rfl ?_
    refine XS.ior X0.here hx rfl (hb hby k11_2) rfl ?_
    refine XS.iloadN X0.here hx rfl (hb hby k11_3) rfl ?_
    refine XS.ior X0.here hx rfl (hb hby k11_4) rfl ?_
    show Steps p.tables e below (s₁.setTop (mkF m 5 #[.val (.int (Int32.ofNat x_)), .val (.int (Int32.ofNat y_)), .val (.int (Int32.ofNat mm)), .val G3] [(.int (((Int32.ofNat mm) ||| (Int32.ofNat x_)) ||| (Int32.ofNat y_)))])) _
    refine XS.ifNo X0.here hx rfl (hb hby k11_5) rfl ((if0 _ _).trans (flt (own_or (own_or (own_nonneg (by omega)) (own_nonneg (by omega))) (own_nonneg (by omega)) : ¬ ((((Int32.ofNat mm) ||| (Int32.ofNat x_)) ||| (Int32.ofNat y_)) < (0 : Int32)))).1) ?_
    refine XS.iloadN X0.here hx rfl (hb hby k11_8) rfl ?_
    refine XS.iloadN X0.here hx rfl (hb hby k11_9) rfl ?_
    refine XS.iloadN X0.here hx rfl (hb hby k11_10) rfl ?_
    refine XS.isub X0.here hx rfl (hb hby k11_11) rfl ?_
    show Steps p.tables e below (s₁.setTop (mkF m 12 #[.val (.int (Int32.ofNat x_)), .val (.int (Int32.ofNat y_)), .val (.int (Int32.ofNat mm)), .val G3] [(.int ((Int32.ofNat mm) - (Int32.ofNat x_))), (.int (Int32.ofNat y_))])) _
    rw [own_subN (by omega) (by omega)]
    show Steps p.tables e below (s₁.setTop (mkF m 12 #[.val (.int (Int32.ofNat x_)), .val (.int (Int32.ofNat y_)), .val (.int (Int32.ofNat mm)), .val G3] [(.int (Int32.ofNat (mm - x_))), (.int (Int32.ofNat y_))])) _
    refine XS.icmpYes X0.here hx rfl (pc0 := 12) (pc' := 23) rfl (hb hby k11_12) rfl (flt (fun q => by have := (own_lt_of (by omega) (by omega)).mp q; omega : ¬ ((Int32.ofNat (mm - x_)) < (Int32.ofNat y_)))).2.2.2 (by decide) (by decide) ?_
    refine XS.iloadN X0.here hx rfl (hb hby k11_23) rfl ?_
    show Steps p.tables e below (s₁.setTop (mkF m 24 #[.val (.int (Int32.ofNat x_)), .val (.int (Int32.ofNat y_)), .val (.int (Int32.ofNat mm)), .val G3] [(.int (Int32.ofNat x_))])) _
    exact retI X0 hx Bd.returns (hb hby k11_24) hr
  · show QB (Int32.ofNat x_) h0 n0 _ s₁.heap _
    rw [e0]
    exact ⟨rfl, N0, rfl⟩
theorem k12_0 : decode c12_ 0 = .ok (.iload_n 0, 1) := by decide +kernel
theorem k12_1 : decode c12_ 1 = .ok (.iload_n 1, 1) := by decide +kernel
theorem k12_2 : decode c12_ 2 = .ok (.iload_n 2, 1) := by decide +kernel
theorem k12_3 : decode c12_ 3 = .ok (.getstatic 1053, 3) := by decide +kernel
theorem k12_6 : decode c12_ 6 = .ok (.invokestatic 1065, 3) := by decide +kernel
theorem k12_9 : decode c12_ 9 = .ok (.ireturn, 1) := by decide +kernel
theorem pd8_ : parseMethodDescriptor "(IIILjava/util/function/BiFunction;)I" = some ⟨[.int, .int, .int, (.object "java/util/function/BiFunction")], some .int⟩ := by decide +kernel
theorem ef12_ (m : MethodId) (x0 : Int32) (x1 : Int32) (x2 : Int32) : entryFrame m #[(.int x0), (.int x1), (.int x2)] 3 = mkF m 0 #[.val (.int x0), .val (.int x1), .val (.int x2)] [] := by first | (simp [entryFrame, mkF, argsToLocals, Value.category]; done) | rfl
theorem rmSx (l : Launch) (Z : State) (a0 : Array Value) (hw : HW a0 Z) (ws : List Jvm.Cond) (x_ y_ mm : Nat) (h0 : Heap) (n0 : Nat) (Z0 : n0 ≤ h0.size) (hG : GST Z) (O0 : Old Z n0 h0) (hxy : x_ + y_ ≤ mm) (hm : mm ≤ 4000) :
    Met l Z ws m12_ jdk_42_method_157_code 3 (some .int) ({ frames := 1, cells := 0, slots := 0, locals := 15 } : Room) h0 #[(.int (Int32.ofNat x_)), (.int (Int32.ofNat y_)), (.int (Int32.ofNat mm))] (QB (Int32.ofNat x_) h0 n0) := by
  refine MetFree.of_bodySF (plainFor_of_name pn0_) hisR ?_
  intro p e s m args below meth c s₁ Bd hml0 hP hK
  obtain ⟨rfl, hZ, hh⟩ := hP
  have hx := Bd.exec
  have hby := Bd.bytes
  have hml : c.maxLocals = 3 := hml0
  have hown : s.vm.findClass "java/lang/String" = some m.cls := findClass_of_methodNamed Bd.named
  have X0 : Stand p l e ({ frames := 1, cells := 0, slots := 0, locals := 15 } : Room) s m #[(.int (Int32.ofNat x_)), (.int (Int32.ofNat y_)), (.int (Int32.ofNat mm))] below meth c s₁ [] 0 0 := Stand.of_body Bd
  have e0 : s₁.heap = h0 := by rw [← hh, Bd.state]; rfl
  have N0 := Fr.nil n0
  have pre0 : ∀ t, Steps p.tables e below (s₁.setTop (mkF m 0 #[.val (.int (Int32.ofNat x_)), .val (.int (Int32.ofNat y_)), .val (.int (Int32.ofNat mm))] [])) t → Steps p.tables e below (s₁.setTop (entryFrame m #[(.int (Int32.ofNat x_)), (.int (Int32.ofNat y_)), (.int (Int32.ofNat mm))] 3)) t := fun t k => castTop (ef12_ m (Int32.ofNat x_) (Int32.ofNat y_) (Int32.ofNat mm)) k
  obtain ⟨⟨G1, O2, P5⟩, ⟨G3, O4, rG3⟩, Sa, Sh, Sl⟩ := id hG
  obtain ⟨T1, X1, e1, st1⟩ := getS2 X0 hx hZ hown (host := "") (Or.inl (wt hw 100 rfl)) Via.refl e0 (O4.ext O0.2) (g := (mkF m 3 #[.val (.int (Int32.ofNat x_)), .val (.int (Int32.ofNat y_)), .val (.int (Int32.ofNat mm))] [(.int (Int32.ofNat mm)), (.int (Int32.ofNat y_)), (.int (Int32.ofNat x_))])) rfl (hb hby k12_3)
  obtain ⟨_, _, ⟨T2, L2, k2, n2⟩, -, X2, ⟨Lc2, hQ2, l2, y2, z2⟩, st2⟩ := Jvm.LawKit.callS X1 hx (y := m11_) hown (mvT hZ (wt hw 243 rfl)) (mvT hZ (wt hw 244 rfl)) (mvT hZ (wt hw 101 rfl)) (mvT hZ (wt hw 245 rfl)) (by decide) (backOf (W := 0) (rmFx l Z a0 hw [] x_ y_ mm G3 h0 n0 (Nat.le_trans Z0 (Keep.refl h0 []).1) hxy hm rG3) hZ (wt hw 245 rfl) (wt hw 101 rfl) (by decide) (by decide)) (g := (mkF m 6 #[.val (.int (Int32.ofNat x_)), .val (.int (Int32.ofNat y_)), .val (.int (Int32.ofNat mm))] [G3, (.int (Int32.ofNat mm)), (.int (Int32.ofNat y_)), (.int (Int32.ofNat x_))])) rfl (by rw [hml]; rfl) (argsL := [(.int (Int32.ofNat x_)), (.int (Int32.ofNat y_)), (.int (Int32.ofNat mm)), G3]) (rest := []) (lenOf pd8_ rfl) rfl (by show 2 * 0 + _ ≤ _; exact Nat.le_of_eq rfl) (hb hby k12_6) (fun _ _ => ⟨rfl, e1, (by decide : 0 + 0 ≤ _), (by decide : 0 + 0 ≤ _)⟩)
  dsimp only [Pt.U, Pt.locs, Pt.cells, Pt.slots] at X2 l2 y2 z2 st2 hQ2
  rw [l2] at X2
  clear l2; subst y2 z2
  obtain ⟨rfl, N2q, e2q⟩ := hQ2
  have N2a := Fr.app N0 N2q
  obtain ⟨fs, hr, hrun, hended, hW, hsame⟩ := X2.leave (v := some (.int (Int32.ofNat x_))) (fun h => by rw [Bd.returns] at h; cases h)
  refine ⟨_, _, pre0 _ ?_, hrun, hended, _, _, rfl, ?_, ⟨_, rfl⟩, hW, hsame.mono (by decide) (by decide)⟩
  · show Steps p.tables e below (s₁.setTop (mkF m 0 #[.val (.int (Int32.ofNat x_)), .val (.int (Int32.ofNat y_)), .val (.int (Int32.ofNat mm))] [])) _
    refine XS.iloadN X0.here hx rfl (hb hby k12_0) rfl ?_
    refine XS.iloadN X0.here hx rfl (hb hby k12_1) rfl ?_
    refine XS.iloadN X0.here hx rfl (hb hby k12_2) rfl ?_
    show Steps p.tables e below (s₁.setTop (mkF m 3 #[.val (.int (Int32.ofNat x_)), .val (.int (Int32.ofNat y_)), .val (.int (Int32.ofNat mm))] [(.int (Int32.ofNat mm)), (.int (Int32.ofNat y_)), (.int (Int32.ofNat x_))])) _
    refine st1 _ ?_
    show Steps p.tables e below (T1.setTop (mkF m 6 #[.val (.int (Int32.ofNat x_)), .val (.int (Int32.ofNat y_)), .val (.int (Int32.ofNat mm))] [G3, (.int (Int32.ofNat mm)), (.int (Int32.ofNat y_)), (.int (Int32.ofNat x_))])) _
    refine st2 _ ?_
    show Steps p.tables e below (T2.setTop (mkF m 9 #[.val (.int (Int32.ofNat x_)), .val (.int (Int32.ofNat y_)), .val (.int (Int32.ofNat mm))] [(.int (Int32.ofNat x_))])) _
    exact retI X2 hx Bd.returns (hb hby k12_9) hr
  · show QB (Int32.ofNat x_) h0 n0 _ T2.heap _
    rw [e2q]
    exact ⟨rfl, N2a, rfl⟩
theorem k13_0 : decode c13_ 0 = .ok (.iload_n 0, 1) := by decide +kernel
theorem k13_1 : decode c13_ 1 = .ok (.iload_n 1, 1) := by decide +kernel
theorem k13_2 : decode c13_ 2 = .ok (.aload_n 2, 1) := by decide +kernel
theorem k13_3 : decode c13_ 3 = .ok (.invokestatic 48, 3) := by decide +kernel
theorem k13_6 : decode c13_ 6 = .ok (.invokestatic 419, 3) := by decide +kernel
theorem k13_9 : decode c13_ 9 = .ok (.pop, 1) := by decide +kernel
theorem k13_10 : decode c13_ 10 = .ok (.return_, 1) := by decide +kernel
theorem pd9_ : parseMethodDescriptor "([B)I" = some ⟨[(.array .byte)], some .int⟩ := by decide +kernel
theorem pd10_ : parseMethodDescriptor "(III)I" = some ⟨[.int, .int, .int], some .int⟩ := by decide +kernel
theorem ef13_ (m : MethodId) (x0 : Int32) (x1 : Int32) (x2 : Addr) : entryFrame m #[(.int x0), (.int x1), (.ref x2)] 3 = mkF m 0 #[.val (.int x0), .val (.int x1), .val (.ref x2)] [] := by first | (simp [entryFrame, mkF, argsToLocals, Value.category]; done) | rfl
theorem rmUx (l : Launch) (Z : State) (a0 : Array Value) (hw : HW a0 Z) (ws : List Jvm.Cond) (x_ y_ mm : Nat) (b : Addr) (kb : ClassId) (vs : List Value) (h0 : Heap) (n0 : Nat) (Z0 : n0 ≤ h0.size) (hG : GST Z) (O0 : Old Z n0 h0) (hxy : x_ + y_ ≤ mm) (hm : mm ≤ 2000) (V_b : Arv Z h0 b kb .byte (Int32.ofNat (2 * mm)) vs (.int (0 : Int32))) :
    Met l Z ws m13_ jdk_52_method_94_code 3 none ({ frames := 2, cells := 0, slots := 0, locals := 29 } : Room) h0 #[(.int (Int32.ofNat x_)), (.int (Int32.ofNat y_)), (.ref b)] (QR h0 n0) := by
  refine MetFree.of_bodySF (plainFor_of_name pn1_) hisR ?_
  intro p e s m args below meth c s₁ Bd hml0 hP hK
  obtain ⟨rfl, hZ, hh⟩ := hP
  have hx := Bd.exec
  have hby := Bd.bytes
  have hml : c.maxLocals = 3 := hml0
  have hown : s.vm.findClass "java/lang/StringUTF16" = some m.cls := findClass_of_methodNamed Bd.named
  have X0 : Stand p l e ({ frames := 2, cells := 0, slots := 0, locals := 29 } : Room) s m #[(.int (Int32.ofNat x_)), (.int (Int32.ofNat y_)), (.ref b)] below meth c s₁ [] 0 0 := Stand.of_body Bd
  have e0 : s₁.heap = h0 := by rw [← hh, Bd.state]; rfl
  have N0 := Fr.nil n0
  have pre0 : ∀ t, Steps p.tables e below (s₁.setTop (mkF m 0 #[.val (.int (Int32.ofNat x_)), .val (.int (Int32.ofNat y_)), .val (.ref b)] [])) t → Steps p.tables e below (s₁.setTop (entryFrame m #[(.int (Int32.ofNat x_)), (.int (Int32.ofNat y_)), (.ref b)] 3)) t := fun t k => castTop (ef13_ m (Int32.ofNat x_) (Int32.ofNat y_) b) k
  obtain ⟨⟨G1, O2, P5⟩, ⟨G3, O4, rG3⟩, Sa, Sh, Sl⟩ := id hG
  obtain ⟨_, _, ⟨T1, L1, k1, n1⟩, -, X1, ⟨Lc1, hQ1, l1, y1, z1⟩, st1⟩ := Jvm.LawKit.callS X0 hx (y := m10_) hown (mvT hZ (wt hw 237 rfl)) (mvT hZ (wt hw 238 rfl)) (mvT hZ (wt hw 46 rfl)) (mvT hZ (wt hw 239 rfl)) (by decide) (backOf (W := 2) (rmUl l Z a0 hw [] b kb mm vs h0 n0 (Nat.le_trans Z0 (Keep.refl h0 []).1) V_b hm) hZ (wt hw 239 rfl) (wt hw 46 rfl) (by decide) (by decide)) (g := (mkF m 3 #[.val (.int (Int32.ofNat x_)), .val (.int (Int32.ofNat y_)), .val (.ref b)] [(.ref b), (.int (Int32.ofNat y_)), (.int (Int32.ofNat x_))])) rfl (by rw [hml]; rfl) (argsL := [(.ref b)]) (rest := [(.int (Int32.ofNat y_)), (.int (Int32.ofNat x_))]) (lenOf pd9_ rfl) rfl (by show 2 * 0 + _ ≤ _; exact Nat.le_of_eq rfl) (hb hby k13_3) (fun _ _ => ⟨rfl, e0, (by decide : 0 + 0 ≤ _), (by decide : 0 + 0 ≤ _)⟩)
  dsimp only [Pt.U, Pt.locs, Pt.cells, Pt.slots] at X1 l1 y1 z1 st1 hQ1
  rw [l1] at X1
  clear l1; subst y1 z1
  obtain ⟨rfl, N1q, e1q⟩ := hQ1
  have N1a := Fr.app N0 N1q
  obtain ⟨_, _, ⟨T2, L2, k2, n2⟩, -, X2, ⟨Lc2, hQ2, l2, y2, z2⟩, st2⟩ := Jvm.LawKit.callS X1 hx (y := m12_) hown (mvT hZ (wt hw 240 rfl)) (mvT hZ (wt hw 241 rfl)) (mvT hZ (wt hw 4 rfl)) (mvT hZ (wt hw 242 rfl)) (by decide) (backOf (W := 0) (rmSx l Z a0 hw [] x_ y_ mm h0 n0 (Nat.le_trans Z0 (Keep.refl h0 []).1) hG O0 hxy (by omega)) hZ (wt hw 242 rfl) (wt hw 4 rfl) (by decide) (by decide)) (g := (mkF m 6 #[.val (.int (Int32.ofNat x_)), .val (.int (Int32.ofNat y_)), .val (.ref b)] [(.int (Int32.ofNat mm)), (.int (Int32.ofNat y_)), (.int (Int32.ofNat x_))])) rfl (by rw [hml]; rfl) (argsL := [(.int (Int32.ofNat x_)), (.int (Int32.ofNat y_)), (.int (Int32.ofNat mm))]) (rest := []) (lenOf pd10_ rfl) rfl (by show 2 * 0 + _ ≤ _; exact Nat.le_of_eq rfl) (hb hby k13_6) (fun _ _ => ⟨rfl, e1q, (by decide : 0 + 0 ≤ _), (by decide : 0 + 0 ≤ _)⟩)
  dsimp only [Pt.U, Pt.locs, Pt.cells, Pt.slots] at X2 l2 y2 z2 st2 hQ2
  rw [l2] at X2
  clear l2; subst y2 z2
  obtain ⟨rfl, N2q, e2q⟩ := hQ2
  have N2a := Fr.app N1a N2q
  obtain ⟨fs, hr, hrun, hended, hW, hsame⟩ := X2.leave (v := none) (fun _ => rfl)
  refine ⟨_, _, pre0 _ ?_, hrun, hended, _, _, rfl, ?_, ⟨_, rfl⟩, hW, hsame.mono (by decide) (by decide)⟩
  · show Steps p.tables e below (s₁.setTop (mkF m 0 #[.val (.int (Int32.ofNat x_)), .val (.int (Int32.ofNat y_)), .val (.ref b)] [])) _
    refine XS.iloadN X0.here hx rfl (hb hby k13_0) rfl ?_
    refine XS.iloadN X0.here hx rfl (hb hby k13_1) rfl ?_
    refine XS.aloadN X0.here hx rfl (hb hby k13_2) rfl rfl ?_
    show Steps p.tables e below (s₁.setTop (mkF m 3 #[.val (.int (Int32.ofNat x_)), .val (.int (Int32.ofNat y_)), .val (.ref b)] [(.ref b), (.int (Int32.ofNat y_)), (.int (Int32.ofNat x_))])) _
    refine st1 _ ?_
    show Steps p.tables e below (T1.setTop (mkF m 6 #[.val (.int (Int32.ofNat x_)), .val (.int (Int32.ofNat y_)), .val (.ref b)] [(.int (Int32.ofNat mm)), (.int (Int32.ofNat y_)), (.int (Int32.ofNat x_))])) _
    refine st2 _ ?_
    refine XS.pop X2.here hx rfl (hb hby k13_9) rfl rfl ?_
    show Steps p.tables e below (T2.setTop (mkF m 10 #[.val (.int (Int32.ofNat x_)), .val (.int (Int32.ofNat y_)), .val (.ref b)] [])) _
    exact X2.returnOut hx Bd.returns (hb hby k13_10) hr
  · show QR h0 n0 _ T2.heap _
    rw [e2q]
    exact ⟨rfl, N2a, rfl⟩
theorem k14_0 : decode c14_ 0 = .ok (.iload_n 1, 1) := by decide +kernel
theorem k14_1 : decode c14_ 1 = .ok (.iload 4, 2) := by decide +kernel
theorem k14_3 : decode c14_ 3 = .ok (.aload_n 0, 1) := by decide +kernel
theorem k14_4 : decode c14_ 4 = .ok (.invokestatic 173, 3) := by decide +kernel
theorem k14_7 : decode c14_ 7 = .ok (.iconst 0, 1) := by decide +kernel
theorem k14_8 : decode c14_ 8 = .ok (.istore 5, 2) := by decide +kernel
theorem k14_10 : decode c14_ 10 = .ok (.iload 5, 2) := by decide +kernel
theorem k14_12 : decode c14_ 12 = .ok (.iload 4, 2) := by decide +kernel
theorem k14_14 : decode c14_ 14 = .ok (.if_icmp .ge 39, 3) := by decide +kernel
theorem k14_17 : decode c14_ 17 = .ok (.aload_n 0, 1) := by decide +kernel
theorem k14_18 : decode c14_ 18 = .ok (.iload_n 1, 1) := by decide +kernel
theorem k14_19 : decode c14_ 19 = .ok (.invokestatic 71, 3) := by decide +kernel
theorem k14_22 : decode c14_ 22 = .ok (.istore 6, 2) := by decide +kernel
theorem k14_24 : decode c14_ 24 = .ok (.iload 6, 2) := by decide +kernel
theorem k14_26 : decode c14_ 26 = .ok (.sipush 255, 3) := by decide +kernel
theorem k14_29 : decode c14_ 29 = .ok (.if_icmp .le 6, 3) := by decide +kernel
theorem k14_32 : decode c14_ 32 = .ok (.iload 5, 2) := by decide +kernel
theorem k14_34 : decode c14_ 34 = .ok (.ireturn, 1) := by decide +kernel
theorem k14_35 : decode c14_ 35 = .ok (.aload_n 2, 1) := by decide +kernel
theorem k14_36 : decode c14_ 36 = .ok (.iload_n 3, 1) := by decide +kernel
theorem k14_37 : decode c14_ 37 = .ok (.iload 6, 2) := by decide +kernel
theorem k14_39 : decode c14_ 39 = .ok (.i2b, 1) := by decide +kernel
theorem k14_40 : decode c14_ 40 = .ok (.bastore, 1) := by decide +kernel
theorem k14_41 : decode c14_ 41 = .ok (.iinc 1 1, 3) := by decide +kernel
theorem k14_44 : decode c14_ 44 = .ok (.iinc 3 1, 3) := by decide +kernel
theorem k14_47 : decode c14_ 47 = .ok (.iinc 5 1, 3) := by decide +kernel
theorem k14_50 : decode c14_ 50 = .ok (.goto (-40), 3) := by decide +kernel
theorem k14_53 : decode c14_ 53 = .ok (.iload 4, 2) := by decide +kernel
theorem k14_55 : decode c14_ 55 = .ok (.ireturn, 1) := by decide +kernel
theorem pd11_ : parseMethodDescriptor "(II[B)V" = some ⟨[.int, .int, (.array .byte)], none⟩ := by decide +kernel
theorem ef14_ (m : MethodId) (x0 : Addr) (x1 : Int32) (x2 : Addr) (x3 : Int32) (x4 : Int32) : entryFrame m #[(.ref x0), (.int x1), (.ref x2), (.int x3), (.int x4)] 7 = mkF m 0 #[.val (.ref x0), .val (.int x1), .val (.ref x2), .val (.int x3), .val (.int x4), .unset, .unset] [] := by first | (simp [entryFrame, mkF, argsToLocals, Value.category]; done) | rfl
theorem rmC7 (l : Launch) (Z : State) (a0 : Array Value) (hw : HW a0 Z) (ws : List Jvm.Cond) (a1 b : Addr) (kc kb : ClassId) (nn : Nat) (cs : List Int32) (h0 : Heap) (n0 : Nat) (Z0 : n0 ≤ h0.size) (hG : GST Z) (O0 : Old Z n0 h0) (V_a1 : Arv Z h0 a1 kc .byte (Int32.ofNat (2 * cs.length)) (wideBytes cs) (.int (0 : Int32))) (V_b : Arv Z h0 b kb .byte (Int32.ofNat nn) [] (.int (0 : Int32))) (hl : nn ≤ cs.length) (hm : cs.length ≤ 127) (hc : ∀ c ∈ cs, ¬ c < 0 ∧ ¬ (65535 : Int32) < c) (g_b : n0 ≤ b) (n_ab : a1 ≠ b) :
    Met l Z ws m14_ jdk_52_method_22_code 7 (some .int) ({ frames := 3, cells := 0, slots := 0, locals := 43 } : Room) h0 #[(.ref a1), (.int (0 : Int32)), (.ref b), (.int (0 : Int32)), (.int (Int32.ofNat nn))] (QWI Z (Int32.ofNat (own_J (cs.take nn))) b kb (Int32.ofNat nn) (((cs.take nn).take (own_J (cs.take nn))).map own_lo) h0 n0) := by
  refine MetFree.of_bodySF (plainFor_of_name pn1_) hisR ?_
  intro p e s m args below meth c s₁ Bd hml0 hP hK
  obtain ⟨rfl, hZ, hh⟩ := hP
  have hx := Bd.exec
  have hby := Bd.bytes
  have hml : c.maxLocals = 7 := hml0
  have hown : s.vm.findClass "java/lang/StringUTF16" = some m.cls := findClass_of_methodNamed Bd.named
  have X0 : Stand p l e ({ frames := 3, cells := 0, slots := 0, locals := 43 } : Room) s m #[(.ref a1), (.int (0 : Int32)), (.ref b), (.int (0 : Int32)), (.int (Int32.ofNat nn))] below meth c s₁ [] 0 0 := Stand.of_body Bd
  have e0 : s₁.heap = h0 := by rw [← hh, Bd.state]; rfl
  have N0 := Fr.nil n0
  have pre0 : ∀ t, Steps p.tables e below (s₁.setTop (mkF m 0 #[.val (.ref a1), .val (.int (0 : Int32)), .val (.ref b), .val (.int (0 : Int32)), .val (.int (Int32.ofNat nn)), .unset, .unset] [])) t → Steps p.tables e below (s₁.setTop (entryFrame m #[(.ref a1), (.int (0 : Int32)), (.ref b), (.int (0 : Int32)), (.int (Int32.ofNat nn))] 7)) t := fun t k => castTop (ef14_ m a1 (0 : Int32) b (0 : Int32) (Int32.ofNat nn)) k
  obtain ⟨⟨G1, O2, P5⟩, ⟨G3, O4, rG3⟩, Sa, Sh, Sl⟩ := id hG
  have hJ := own_J_le (cs.take nn)
  rw [List.length_take] at hJ
  obtain ⟨_, _, ⟨T1, L1, k1, n1⟩, -, X1, ⟨Lc1, hQ1, l1, y1, z1⟩, st1⟩ := Jvm.LawKit.callS X0 hx (y := m13_) hown (mvT hZ (wt hw 234 rfl)) (mvT hZ (wt hw 235 rfl)) (mvT hZ (wt hw 46 rfl)) (mvT hZ (wt hw 236 rfl)) (by decide) (backOf (W := 0) (rmUx l Z a0 hw [] 0 nn cs.length a1 kc (wideBytes cs) h0 n0 (Nat.le_trans Z0 (Keep.refl h0 [b]).1) hG O0 (by omega) (by omega) V_a1) hZ (wt hw 236 rfl) (wt hw 46 rfl) (by decide) (by decide)) (g := (mkF m 4 #[.val (.ref a1), .val (.int (0 : Int32)), .val (.ref b), .val (.int (0 : Int32)), .val (.int (Int32.ofNat nn)), .unset, .unset] [(.ref a1), (.int (Int32.ofNat nn)), (.int (0 : Int32))])) rfl (by rw [hml]; rfl) (argsL := [(.int (0 : Int32)), (.int (Int32.ofNat nn)), (.ref a1)]) (rest := []) (lenOf pd11_ rfl) rfl (by show 2 * 0 + _ ≤ _; exact Nat.le_of_eq rfl) (hb hby k14_4) (fun _ _ => ⟨rfl, e0, (by decide : 0 + 0 ≤ _), (by decide : 0 + 0 ≤ _)⟩)
  dsimp only [Pt.U, Pt.locs, Pt.cells, Pt.slots] at X1 l1 y1 z1 st1 hQ1
  rw [l1] at X1
  clear l1; subst y1 z1
  obtain ⟨rfl, N1q, e1q⟩ := hQ1
  have N1a := Fr.app N0 N1q
  have lp2 : ∀ k : Nat, k ≤ (own_J (cs.take nn)) → ∃ (T_ : State) (h_ : Heap) (L_ : List Loc) (z_ : Slot), (z_ = .unset ∨ ∃ y : Int32, z_ = .val (.int y)) ∧ Stand p l e ({ frames := 3, cells := 0, slots := 0, locals := 43 } : Room) s m #[(.ref a1), (.int (0 : Int32)), (.ref b), (.int (0 : Int32)), (.int (Int32.ofNat nn))] below meth c T_ L_ 0 0 ∧ T_.heap = h_ ∧ Fr n0 L_ ∧ Keep h0 h_ [b] ∧ Arv Z h_ b kb .byte (Int32.ofNat nn) (((cs.take nn).take k).map own_lo) (.int (0 : Int32)) ∧ ∀ t, Steps p.tables e below (T_.setTop (mkF m 10 #[.val (.ref a1), .val (.int (Int32.ofNat k)), .val (.ref b), .val (.int (Int32.ofNat k)), .val (.int (Int32.ofNat nn)), .val (.int (Int32.ofNat k)), z_] [])) t → Steps p.tables e below (T1.setTop (mkF m 10 #[.val (.ref a1), .val (.int (0 : Int32)), .val (.ref b), .val (.int (0 : Int32)), .val (.int (Int32.ofNat nn)), .val (.int (0 : Int32)), .unset] [])) t := by
    intro k
    induction k with
    | zero => intro _; exact ⟨T1, _, _, .unset, Or.inl rfl, X1, e1q, N1a, Keep.refl _ _, V_b, fun t kk => kk⟩
    | succ k ih =>
      intro hk1
      obtain ⟨T3, h3, L3, z3, zh3, X3, e3, N3l, K3l, V3l, s3l⟩ := ih (Nat.le_of_succ_le hk1)
      have K1 : Keep h0 h3 [b] := (Keep.refl h0 [b]).trans K3l (allS (Or.inl (List.mem_of_getElem? (i := 0) rfl)) all0)
      have f105 : Old Z n0 h3 := (O0.keep K3l (allS g_b all0))
      have f106 : Arv Z h3 a1 kc .byte (Int32.ofNat (2 * cs.length)) (wideBytes cs) (.int (0 : Int32)) := (V_a1.keep K3l (ninS n_ab nin0))
      obtain ⟨_, _, ⟨T104, L104, k104, n104⟩, -, X104, ⟨Lc104, hQ104, l104, y104, z104⟩, st104⟩ := Jvm.LawKit.callS X3 hx (y := m2_) hown (mvT hZ (wt hw 70 rfl)) (mvT hZ (wt hw 71 rfl)) (mvT hZ (wt hw 46 rfl)) (mvT hZ (wt hw 72 rfl)) (by decide) (backOf (W := 0) (rmGc l Z a0 hw [] a1 kc k (2 * cs.length) cs h3 n0 (Nat.le_trans Z0 K1.1) hG f105 f106 (by omega) (Nat.le_refl _) (by omega) hc) hZ (wt hw 72 rfl) (wt hw 46 rfl) (by decide) (by decide)) (g := (mkF m 19 #[.val (.ref a1), .val (.int (Int32.ofNat k)), .val (.ref b), .val (.int (Int32.ofNat k)), .val (.int (Int32.ofNat nn)), .val (.int (Int32.ofNat k)), z3] [(.int (Int32.ofNat k)), (.ref a1)])) rfl (by rw [hml]; rfl) (argsL := [(.ref a1), (.int (Int32.ofNat k))]) (rest := []) (lenOf pd6_ rfl) rfl (by show 2 * 0 + _ ≤ _; exact Nat.le_of_eq rfl) (hb hby k14_19) (fun _ _ => ⟨rfl, e3, (by decide : 0 + 0 ≤ _), (by decide : 0 + 0 ≤ _)⟩)
      dsimp only [Pt.U, Pt.locs, Pt.cells, Pt.slots] at X104 l104 y104 z104 st104 hQ104
      rw [l104] at X104
      clear l104; subst y104 z104
      obtain ⟨rfl, N104q, e104q⟩ := hQ104
      have N104a := Fr.app N3l N104q
      obtain ⟨cl107, Ar107, q107, S107, N_107, H_107, G107⟩ := id V3l
      obtain ⟨T108, h108, X108, e108, W108, st108⟩ := stB X104 hx hZ e104q Ar107 (j := (Int32.ofNat k)) (own_inb S107 (by omega) (by omega)) (g := (mkF m 40 #[.val (.ref a1), .val (.int (Int32.ofNat k)), .val (.ref b), .val (.int (Int32.ofNat k)), .val (.int (Int32.ofNat nn)), .val (.int (Int32.ofNat k)), .val (.int (cs.getD k 0))] [(.int ((cs.getD k 0).toInt8.toInt32)), (.int (Int32.ofNat k)), (.ref b)])) rfl rfl (hb hby k14_40)
      have Va108 : Arv Z h108 b kb .byte (Int32.ofNat nn) ((((cs.take nn).take k).map own_lo) ++ [.int (nar .byte ((cs.getD k 0).toInt8.toInt32))]) (.int (0 : Int32)) := own_app V3l (fits_nar_byte _) W108 (by rw [own_clamp (by omega)]; exact (by simp; omega))
      have Vb108 : Arv Z h108 b kb .byte (Int32.ofNat nn) (((cs.take nn).take (k + 1)).map own_lo) (.int (0 : Int32)) := by
        have q := Va108
        rw [own_lostepT hl (by omega)] at q; exact q
      have Nf108 := Fr.snoc X108 N104a g_b
      exact ⟨T108, _, _, (.val (.int (cs.getD k 0))), Or.inr ⟨_, rfl⟩, X108, e108, Nf108, (((Keep.refl h0 [b]).trans K3l (allS (Or.inl (List.mem_of_getElem? (i := 0) rfl)) all0)).wr W108 (Or.inl (List.mem_of_getElem? (i := 0) rfl))), Vb108, fun t kk => s3l t (by
        show Steps p.tables e below (T3.setTop (mkF m 10 #[.val (.ref a1), .val (.int (Int32.ofNat k)), .val (.ref b), .val (.int (Int32.ofNat k)), .val (.int (Int32.ofNat nn)), .val (.int (Int32.ofNat k)), z3] [])) _
        refine XS.iload X3.here hx rfl (hb hby k14_10) rfl ?_
        refine XS.iload X3.here hx rfl (hb hby k14_12) rfl ?_
        show Steps p.tables e below (T3.setTop (mkF m 14 #[.val (.ref a1), .val (.int (Int32.ofNat k)), .val (.ref b), .val (.int (Int32.ofNat k)), .val (.int (Int32.ofNat nn)), .val (.int (Int32.ofNat k)), z3] [(.int (Int32.ofNat nn)), (.int (Int32.ofNat k))])) _
        refine XS.icmpNo X3.here hx rfl (hb hby k14_14) rfl (tlt ((own_lt_of (by omega) (by omega)).mpr (by omega) : (Int32.ofNat k) < (Int32.ofNat nn))).2.1 ?_
        refine XS.aloadN X3.here hx rfl (hb hby k14_17) rfl rfl ?_
        refine XS.iloadN X3.here hx rfl (hb hby k14_18) rfl ?_
        show Steps p.tables e below (T3.setTop (mkF m 19 #[.val (.ref a1), .val (.int (Int32.ofNat k)), .val (.ref b), .val (.int (Int32.ofNat k)), .val (.int (Int32.ofNat nn)), .val (.int (Int32.ofNat k)), z3] [(.int (Int32.ofNat k)), (.ref a1)])) _
        refine st104 _ ?_
        refine XS.istore X104.here hx rfl (hb hby k14_22) rfl (l' := #[.val (.ref a1), .val (.int (Int32.ofNat k)), .val (.ref b), .val (.int (Int32.ofNat k)), .val (.int (Int32.ofNat nn)), .val (.int (Int32.ofNat k)), .val (.int (cs.getD k 0))]) (by rcases zh3 with rfl | ⟨y_, rfl⟩ <;> rfl) ?_
        refine XS.iload X104.here hx rfl (hb hby k14_24) rfl ?_
        refine XS.sipush X104.here hx rfl (hb hby k14_26) ?_
        show Steps p.tables e below (T104.setTop (mkF m 29 #[.val (.ref a1), .val (.int (Int32.ofNat k)), .val (.ref b), .val (.int (Int32.ofNat k)), .val (.int (Int32.ofNat nn)), .val (.int (Int32.ofNat k)), .val (.int (cs.getD k 0))] [(.int (255 : Int32)), (.int (cs.getD k 0))])) _
        refine XS.icmpYes X104.here hx rfl (pc0 := 29) (pc' := 35) rfl (hb hby k14_29) rfl (flt (own_JT (n := nn) (by omega) : ¬ ((255 : Int32) < (cs.getD k 0)))).2.2.2 (by decide) (by decide) ?_
        refine XS.aloadN X104.here hx rfl (hb hby k14_35) rfl rfl ?_
        refine XS.iloadN X104.here hx rfl (hb hby k14_36) rfl ?_
        refine XS.iload X104.here hx rfl (hb hby k14_37) rfl ?_
        refine XS.i2b X104.here hx rfl (hb hby k14_39) rfl ?_
        show Steps p.tables e below (T104.setTop (mkF m 40 #[.val (.ref a1), .val (.int (Int32.ofNat k)), .val (.ref b), .val (.int (Int32.ofNat k)), .val (.int (Int32.ofNat nn)), .val (.int (Int32.ofNat k)), .val (.int (cs.getD k 0))] [(.int ((cs.getD k 0).toInt8.toInt32)), (.int (Int32.ofNat k)), (.ref b)])) _
        refine st108 _ ?_
        show Steps p.tables e below (T108.setTop (mkF m 41 #[.val (.ref a1), .val (.int (Int32.ofNat k)), .val (.ref b), .val (.int (Int32.ofNat k)), .val (.int (Int32.ofNat nn)), .val (.int (Int32.ofNat k)), .val (.int (cs.getD k 0))] [])) _
        refine XS.iinc X108.here hx rfl (hb hby k14_41) rfl (l' := #[.val (.ref a1), .val (.int ((Int32.ofNat k) + (1 : Int32))), .val (.ref b), .val (.int (Int32.ofNat k)), .val (.int (Int32.ofNat nn)), .val (.int (Int32.ofNat k)), .val (.int (cs.getD k 0))]) rfl ?_
        show Steps p.tables e below (T108.setTop (mkF m 44 #[.val (.ref a1), .val (.int ((Int32.ofNat k) + (1 : Int32))), .val (.ref b), .val (.int (Int32.ofNat k)), .val (.int (Int32.ofNat nn)), .val (.int (Int32.ofNat k)), .val (.int (cs.getD k 0))] [])) _
        refine XS.iinc X108.here hx rfl (hb hby k14_44) rfl (l' := #[.val (.ref a1), .val (.int ((Int32.ofNat k) + (1 : Int32))), .val (.ref b), .val (.int ((Int32.ofNat k) + (1 : Int32))), .val (.int (Int32.ofNat nn)), .val (.int (Int32.ofNat k)), .val (.int (cs.getD k 0))]) rfl ?_
        show Steps p.tables e below (T108.setTop (mkF m 47 #[.val (.ref a1), .val (.int ((Int32.ofNat k) + (1 : Int32))), .val (.ref b), .val (.int ((Int32.ofNat k) + (1 : Int32))), .val (.int (Int32.ofNat nn)), .val (.int (Int32.ofNat k)), .val (.int (cs.getD k 0))] [])) _
        refine XS.iinc X108.here hx rfl (hb hby k14_47) rfl (l' := #[.val (.ref a1), .val (.int ((Int32.ofNat k) + (1 : Int32))), .val (.ref b), .val (.int ((Int32.ofNat k) + (1 : Int32))), .val (.int (Int32.ofNat nn)), .val (.int ((Int32.ofNat k) + (1 : Int32))), .val (.int (cs.getD k 0))]) rfl ?_
        refine XS.goto X108.here hx rfl (pc0 := 50) (pc' := 10) rfl (hb hby k14_50) (by decide) (by decide) ?_
        show Steps p.tables e below (T108.setTop (mkF m 10 #[.val (.ref a1), .val (.int ((Int32.ofNat k) + (1 : Int32))), .val (.ref b), .val (.int ((Int32.ofNat k) + (1 : Int32))), .val (.int (Int32.ofNat nn)), .val (.int ((Int32.ofNat k) + (1 : Int32))), .val (.int (cs.getD k 0))] [])) _
        rw [own_add1]
        exact kk)⟩
  obtain ⟨T2, h2, L2, z2, zh2, X2, e2, N2l, K2l, V2l, st2⟩ := lp2 (own_J (cs.take nn)) (Nat.le_refl _)
  have K1 : Keep h0 h2 [b] := (Keep.refl h0 [b]).trans K2l (allS (Or.inl (List.mem_of_getElem? (i := 0) rfl)) all0)
  have cut109 : ∀ t, Steps p.tables e below (T2.setTop (mkF m 10 #[.val (.ref a1), .val (.int (Int32.ofNat (own_J (cs.take nn)))), .val (.ref b), .val (.int (Int32.ofNat (own_J (cs.take nn)))), .val (.int (Int32.ofNat nn)), .val (.int (Int32.ofNat (own_J (cs.take nn)))), z2] [])) t → Steps p.tables e below (s₁.setTop (mkF m 0 #[.val (.ref a1), .val (.int (0 : Int32)), .val (.ref b), .val (.int (0 : Int32)), .val (.int (Int32.ofNat nn)), .unset, .unset] [])) t := fun t kk => by
    show Steps p.tables e below (s₁.setTop (mkF m 0 #[.val (.ref a1), .val (.int (0 : Int32)), .val (.ref b), .val (.int (0 : Int32)), .val (.int (Int32.ofNat nn)), .unset, .unset] [])) _
    refine XS.iloadN X0.here hx rfl (hb hby k14_0) rfl ?_
    refine XS.iload X0.here hx rfl (hb hby k14_1) rfl ?_
    refine XS.aloadN X0.here hx rfl (hb hby k14_3) rfl rfl ?_
    show Steps p.tables e below (s₁.setTop (mkF m 4 #[.val (.ref a1), .val (.int (0 : Int32)), .val (.ref b), .val (.int (0 : Int32)), .val (.int (Int32.ofNat nn)), .unset, .unset] [(.ref a1), (.int (Int32.ofNat nn)), (.int (0 : Int32))])) _
    refine st1 _ ?_
    refine XS.iconst X1.here hx rfl (hb hby k14_7) ?_
    refine XS.istore X1.here hx rfl (hb hby k14_8) rfl (l' := #[.val (.ref a1), .val (.int (0 : Int32)), .val (.ref b), .val (.int (0 : Int32)), .val (.int (Int32.ofNat nn)), .val (.int (0 : Int32)), .unset]) rfl ?_
    show Steps p.tables e below (T1.setTop (mkF m 10 #[.val (.ref a1), .val (.int (0 : Int32)), .val (.ref b), .val (.int (0 : Int32)), .val (.int (Int32.ofNat nn)), .val (.int (0 : Int32)), .unset] [])) _
    refine st2 _ ?_
    exact kk
  by_cases hJn : (own_J (cs.take nn)) = nn
  · obtain ⟨fs, hr, hrun, hended, hW, hsame⟩ := X2.leave (v := some (.int (Int32.ofNat nn))) (fun h => by rw [Bd.returns] at h; cases h)
    refine ⟨_, _, pre0 _ ?_, hrun, hended, _, _, rfl, ?_, ⟨_, rfl⟩, hW, hsame.mono (by decide) (by decide)⟩
    · refine cut109 _ ?_
      show Steps p.tables e below (T2.setTop (mkF m 10 #[.val (.ref a1), .val (.int (Int32.ofNat (own_J (cs.take nn)))), .val (.ref b), .val (.int (Int32.ofNat (own_J (cs.take nn)))), .val (.int (Int32.ofNat nn)), .val (.int (Int32.ofNat (own_J (cs.take nn)))), z2] [])) _
      refine XS.iload X2.here hx rfl (hb hby k14_10) rfl ?_
      refine XS.iload X2.here hx rfl (hb hby k14_12) rfl ?_
      show Steps p.tables e below (T2.setTop (mkF m 14 #[.val (.ref a1), .val (.int (Int32.ofNat (own_J (cs.take nn)))), .val (.ref b), .val (.int (Int32.ofNat (own_J (cs.take nn)))), .val (.int (Int32.ofNat nn)), .val (.int (Int32.ofNat (own_J (cs.take nn)))), z2] [(.int (Int32.ofNat nn)), (.int (Int32.ofNat (own_J (cs.take nn))))])) _
      refine XS.icmpYes X2.here hx rfl (pc0 := 14) (pc' := 53) rfl (hb hby k14_14) rfl (flt (fun q => by have := (own_lt_of (by omega) (by omega)).mp q; omega : ¬ ((Int32.ofNat (own_J (cs.take nn))) < (Int32.ofNat nn)))).2.1 (by decide) (by decide) ?_
      refine XS.iload X2.here hx rfl (hb hby k14_53) rfl ?_
      show Steps p.tables e below (T2.setTop (mkF m 55 #[.val (.ref a1), .val (.int (Int32.ofNat (own_J (cs.take nn)))), .val (.ref b), .val (.int (Int32.ofNat (own_J (cs.take nn)))), .val (.int (Int32.ofNat nn)), .val (.int (Int32.ofNat (own_J (cs.take nn)))), z2] [(.int (Int32.ofNat nn))])) _
      exact retI X2 hx Bd.returns (hb hby k14_55) hr
    · show QWI Z (Int32.ofNat (own_J (cs.take nn))) b kb (Int32.ofNat nn) (((cs.take nn).take (own_J (cs.take nn))).map own_lo) h0 n0 _ T2.heap _
      rw [e2]
      exact ⟨by rw [hJn], N2l, K1, V2l⟩
  · have f111 : Old Z n0 h2 := (O0.keep K2l (allS g_b all0))
    have f112 : Arv Z h2 a1 kc .byte (Int32.ofNat (2 * cs.length)) (wideBytes cs) (.int (0 : Int32)) := (V_a1.keep K2l (ninS n_ab nin0))
    obtain ⟨_, _, ⟨T110, L110, k110, n110⟩, -, X110, ⟨Lc110, hQ110, l110, y110, z110⟩, st110⟩ := Jvm.LawKit.callS X2 hx (y := m2_) hown (mvT hZ (wt hw 70 rfl)) (mvT hZ (wt hw 71 rfl)) (mvT hZ (wt hw 46 rfl)) (mvT hZ (wt hw 72 rfl)) (by decide) (backOf (W := 0) (rmGc l Z a0 hw [] a1 kc (own_J (cs.take nn)) (2 * cs.length) cs h2 n0 (Nat.le_trans Z0 K1.1) hG f111 f112 (by omega) (Nat.le_refl _) (by omega) hc) hZ (wt hw 72 rfl) (wt hw 46 rfl) (by decide) (by decide)) (g := (mkF m 19 #[.val (.ref a1), .val (.int (Int32.ofNat (own_J (cs.take nn)))), .val (.ref b), .val (.int (Int32.ofNat (own_J (cs.take nn)))), .val (.int (Int32.ofNat nn)), .val (.int (Int32.ofNat (own_J (cs.take nn)))), z2] [(.int (Int32.ofNat (own_J (cs.take nn)))), (.ref a1)])) rfl (by rw [hml]; rfl) (argsL := [(.ref a1), (.int (Int32.ofNat (own_J (cs.take nn))))]) (rest := []) (lenOf pd6_ rfl) rfl (by show 2 * 0 + _ ≤ _; exact Nat.le_of_eq rfl) (hb hby k14_19) (fun _ _ => ⟨rfl, e2, (by decide : 0 + 0 ≤ _), (by decide : 0 + 0 ≤ _)⟩)
    dsimp only [Pt.U, Pt.locs, Pt.cells, Pt.slots] at X110 l110 y110 z110 st110 hQ110
    rw [l110] at X110
    clear l110; subst y110 z110
    obtain ⟨rfl, N110q, e110q⟩ := hQ110
    have N110a := Fr.app N2l N110q
    obtain ⟨fs, hr, hrun, hended, hW, hsame⟩ := X110.leave (v := some (.int (Int32.ofNat (own_J (cs.take nn))))) (fun h => by rw [Bd.returns] at h; cases h)
    refine ⟨_, _, pre0 _ ?_, hrun, hended, _, _, rfl, ?_, ⟨_, rfl⟩, hW, hsame.mono (by decide) (by decide)⟩
    · refine cut109 _ ?_
      show Steps p.tables e below (T2.setTop (mkF m 10 #[.val (.ref a1), .val (.int (Int32.ofNat (own_J (cs.take nn)))), .val (.ref b), .val (.int (Int32.ofNat (own_J (cs.take nn)))), .val (.int (Int32.ofNat nn)), .val (.int (Int32.ofNat (own_J (cs.take nn)))), z2] [])) _
      refine XS.iload X2.here hx rfl (hb hby k14_10) rfl ?_
      refine XS.iload X2.here hx rfl (hb hby k14_12) rfl ?_
      show Steps p.tables e below (T2.setTop (mkF m 14 #[.val (.ref a1), .val (.int (Int32.ofNat (own_J (cs.take nn)))), .val (.ref b), .val (.int (Int32.ofNat (own_J (cs.take nn)))), .val (.int (Int32.ofNat nn)), .val (.int (Int32.ofNat (own_J (cs.take nn)))), z2] [(.int (Int32.ofNat nn)), (.int (Int32.ofNat (own_J (cs.take nn))))])) _
      refine XS.icmpNo X2.here hx rfl (hb hby k14_14) rfl (tlt ((own_lt_of (by omega) (by omega)).mpr (by omega) : (Int32.ofNat (own_J (cs.take nn))) < (Int32.ofNat nn))).2.1 ?_
      refine XS.aloadN X2.here hx rfl (hb hby k14_17) rfl rfl ?_
      refine XS.iloadN X2.here hx rfl (hb hby k14_18) rfl ?_
      show Steps p.tables e below (T2.setTop (mkF m 19 #[.val (.ref a1), .val (.int (Int32.ofNat (own_J (cs.take nn)))), .val (.ref b), .val (.int (Int32.ofNat (own_J (cs.take nn)))), .val (.int (Int32.ofNat nn)), .val (.int (Int32.ofNat (own_J (cs.take nn)))), z2] [(.int (Int32.ofNat (own_J (cs.take nn)))), (.ref a1)])) _
      refine st110 _ ?_
      refine XS.istore X110.here hx rfl (hb hby k14_22) rfl (l' := #[.val (.ref a1), .val (.int (Int32.ofNat (own_J (cs.take nn)))), .val (.ref b), .val (.int (Int32.ofNat (own_J (cs.take nn)))), .val (.int (Int32.ofNat nn)), .val (.int (Int32.ofNat (own_J (cs.take nn)))), .val (.int (cs.getD (own_J (cs.take nn)) 0))]) (by rcases zh2 with rfl | ⟨y_, rfl⟩ <;> rfl) ?_
      refine XS.iload X110.here hx rfl (hb hby k14_24) rfl ?_
      refine XS.sipush X110.here hx rfl (hb hby k14_26) ?_
      show Steps p.tables e below (T110.setTop (mkF m 29 #[.val (.ref a1), .val (.int (Int32.ofNat (own_J (cs.take nn)))), .val (.ref b), .val (.int (Int32.ofNat (own_J (cs.take nn)))), .val (.int (Int32.ofNat nn)), .val (.int (Int32.ofNat (own_J (cs.take nn)))), .val (.int (cs.getD (own_J (cs.take nn)) 0))] [(.int (255 : Int32)), (.int (cs.getD (own_J (cs.take nn)) 0))])) _
      refine XS.icmpNo X110.here hx rfl (hb hby k14_29) rfl (tlt (own_JTat hl (by omega) : (255 : Int32) < (cs.getD (own_J (cs.take nn)) 0))).2.2.2 ?_
      refine XS.iload X110.here hx rfl (hb hby k14_32) rfl ?_
      show Steps p.tables e below (T110.setTop (mkF m 34 #[.val (.ref a1), .val (.int (Int32.ofNat (own_J (cs.take nn)))), .val (.ref b), .val (.int (Int32.ofNat (own_J (cs.take nn)))), .val (.int (Int32.ofNat nn)), .val (.int (Int32.ofNat (own_J (cs.take nn)))), .val (.int (cs.getD (own_J (cs.take nn)) 0))] [(.int (Int32.ofNat (own_J (cs.take nn))))])) _
      exact retI X110 hx Bd.returns (hb hby k14_34) hr
    · show QWI Z (Int32.ofNat (own_J (cs.take nn))) b kb (Int32.ofNat nn) (((cs.take nn).take (own_J (cs.take nn))).map own_lo) h0 n0 _ T110.heap _
      rw [e110q]
      exact ⟨rfl, N110a, K1, V2l⟩
theorem k15_0 : decode c15_ 0 = .ok (.iload_n 1, 1) := by decide +kernel
theorem k15_1 : decode c15_ 1 = .ok (.iload_n 0, 1) := by decide +kernel
theorem k15_2 : decode c15_ 2 = .ok (.if_icmp .ge 35, 3) := by decide +kernel
theorem k15_37 : decode c15_ 37 = .ok (.return_, 1) := by decide +kernel
theorem pn3_ : plainName "java/util/Arrays" = true := by first | (simp [plainName, overriddenIn]; done) | decide +kernel
theorem ef15_ (m : MethodId) (x0 : Int32) (x1 : Int32) : entryFrame m #[(.int x0), (.int x1)] 2 = mkF m 0 #[.val (.int x0), .val (.int x1)] [] := by first | (simp [entryFrame, mkF, argsToLocals, Value.category]; done) | rfl
theorem rmCh (l : Launch) (Z : State) (a0 : Array Value) (hw : HW a0 Z) (ws : List Jvm.Cond) (x_ y_ : Int32) (h0 : Heap) (n0 : Nat) (Z0 : n0 ≤ h0.size) (h : ¬ (y_ < x_)) :
    Met l Z ws m15_ jdk_65_method_131_code 2 none ({ frames := 0, cells := 0, slots := 0, locals := 0 } : Room) h0 #[(.int x_), (.int y_)] (QR h0 n0) := by
  refine MetFree.of_bodySF (plainFor_of_name pn3_) hisR ?_
  intro p e s m args below meth c s₁ Bd hml0 hP hK
  obtain ⟨rfl, hZ, hh⟩ := hP
  have hx := Bd.exec
  have hby := Bd.bytes
  have X0 : Stand p l e ({ frames := 0, cells := 0, slots := 0, locals := 0 } : Room) s m #[(.int x_), (.int y_)] below meth c s₁ [] 0 0 := Stand.of_body Bd
  have e0 : s₁.heap = h0 := by rw [← hh, Bd.state]; rfl
  have N0 := Fr.nil n0
  have pre0 : ∀ t, Steps p.tables e below (s₁.setTop (mkF m 0 #[.val (.int x_), .val (.int y_)] [])) t → Steps p.tables e below (s₁.setTop (entryFrame m #[(.int x_), (.int y_)] 2)) t := fun t k => castTop (ef15_ m x_ y_) k
  obtain ⟨fs, hr, hrun, hended, hW, hsame⟩ := X0.leave (v := none) (fun _ => rfl)
  refine ⟨_, _, pre0 _ ?_, hrun, hended, _, _, rfl, ?_, ⟨_, rfl⟩, hW, hsame.mono (by decide) (by decide)⟩
  · show Steps p.tables e below (s₁.setTop (mkF m 0 #[.val (.int x_), .val (.int y_)] [])) _
    refine XS.iloadN X0.here hx rfl (hb hby k15_0) rfl ?_
    refine XS.iloadN X0.here hx rfl (hb hby k15_1) rfl ?_
    show Steps p.tables e below (s₁.setTop (mkF m 2 #[.val (.int x_), .val (.int y_)] [(.int x_), (.int y_)])) _
    refine XS.icmpYes X0.here hx rfl (pc0 := 2) (pc' := 37) rfl (hb hby k15_2) rfl (flt (h : ¬ (y_ < x_))).2.1 (by decide) (by decide) ?_
    show Steps p.tables e below (s₁.setTop (mkF m 37 #[.val (.int x_), .val (.int y_)] [])) _
    exact X0.returnOut hx Bd.returns (hb hby k15_37) hr
  · show QR h0 n0 _ s₁.heap _
    rw [e0]
    exact ⟨rfl, N0, rfl⟩
theorem k16_0 : decode c16_ 0 = .ok (.iload_n 0, 1) := by decide +kernel
theorem k16_1 : decode c16_ 1 = .ok (.iload_n 1, 1) := by decide +kernel
theorem k16_2 : decode c16_ 2 = .ok (.if_icmp .gt 7, 3) := by decide +kernel
theorem k16_9 : decode c16_ 9 = .ok (.iload_n 1, 1) := by decide +kernel
theorem k16_10 : decode c16_ 10 = .ok (.ireturn, 1) := by decide +kernel
theorem ef16_ (m : MethodId) (x0 : Int32) (x1 : Int32) : entryFrame m #[(.int x0), (.int x1)] 2 = mkF m 0 #[.val (.int x0), .val (.int x1)] [] := by first | (simp [entryFrame, mkF, argsToLocals, Value.category]; done) | rfl
theorem rmMinR (l : Launch) (Z : State) (a0 : Array Value) (hw : HW a0 Z) (ws : List Jvm.Cond) (x_ y_ : Int32) (h0 : Heap) (n0 : Nat) (Z0 : n0 ≤ h0.size) (h : y_ < x_) :
    Met l Z ws m16_ jdk_29_method_69_code 2 (some .int) ({ frames := 0, cells := 0, slots := 0, locals := 0 } : Room) h0 #[(.int x_), (.int y_)] (QB y_ h0 n0) := by
  refine MetFree.of_bodySF (Jvm.Free.JP.mathPlain rfl (by decide +kernel)) hisR ?_
  intro p e s m args below meth c s₁ Bd hml0 hP hK
  obtain ⟨rfl, hZ, hh⟩ := hP
  have hx := Bd.exec
  have hby := Bd.bytes
  have X0 : Stand p l e ({ frames := 0, cells := 0, slots := 0, locals := 0 } : Room) s m #[(.int x_), (.int y_)] below meth c s₁ [] 0 0 := Stand.of_body Bd
  have e0 : s₁.heap = h0 := by rw [← hh, Bd.state]; rfl
  have N0 := Fr.nil n0
  have pre0 : ∀ t, Steps p.tables e below (s₁.setTop (mkF m 0 #[.val (.int x_), .val (.int y_)] [])) t → Steps p.tables e below (s₁.setTop (entryFrame m #[(.int x_), (.int y_)] 2)) t := fun t k => castTop (ef16_ m x_ y_) k
  obtain ⟨fs, hr, hrun, hended, hW, hsame⟩ := X0.leave (v := some (.int y_)) (fun h => by rw [Bd.returns] at h; cases h)
  refine ⟨_, _, pre0 _ ?_, hrun, hended, _, _, rfl, ?_, ⟨_, rfl⟩, hW, hsame.mono (by decide) (by decide)⟩
  · show Steps p.tables e below (s₁.setTop (mkF m 0 #[.val (.int x_), .val (.int y_)] [])) _
    refine XS.iloadN X0.here hx rfl (hb hby k16_0) rfl ?_
    refine XS.iloadN X0.here hx rfl (hb hby k16_1) rfl ?_
    show Steps p.tables e below (s₁.setTop (mkF m 2 #[.val (.int x_), .val (.int y_)] [(.int y_), (.int x_)])) _
    refine XS.icmpYes X0.here hx rfl (pc0 := 2) (pc' := 9) rfl (hb hby k16_2) rfl (tlt (h : y_ < x_)).2.2.1 (by decide) (by decide) ?_
    refine XS.iloadN X0.here hx rfl (hb hby k16_9) rfl ?_
    show Steps p.tables e below (s₁.setTop (mkF m 10 #[.val (.int x_), .val (.int y_)] [(.int y_)])) _
    exact retI X0 hx Bd.returns (hb hby k16_10) hr
  · show QB y_ h0 n0 _ s₁.heap _
    rw [e0]
    exact ⟨rfl, N0, rfl⟩
theorem k16_5 : decode c16_ 5 = .ok (.iload_n 0, 1) := by decide +kernel
theorem k16_6 : decode c16_ 6 = .ok (.goto 4, 3) := by decide +kernel
theorem rmMinL (l : Launch) (Z : State) (a0 : Array Value) (hw : HW a0 Z) (ws : List Jvm.Cond) (x_ y_ : Int32) (h0 : Heap) (n0 : Nat) (Z0 : n0 ≤ h0.size) (h : ¬ (y_ < x_)) :
    Met l Z ws m16_ jdk_29_method_69_code 2 (some .int) ({ frames := 0, cells := 0, slots := 0, locals := 0 } : Room) h0 #[(.int x_), (.int y_)] (QB x_ h0 n0) := by
  refine MetFree.of_bodySF (Jvm.Free.JP.mathPlain rfl (by decide +kernel)) hisR ?_
  intro p e s m args below meth c s₁ Bd hml0 hP hK
  obtain ⟨rfl, hZ, hh⟩ := hP
  have hx := Bd.exec
  have hby := Bd.bytes
  have X0 : Stand p l e ({ frames := 0, cells := 0, slots := 0, locals := 0 } : Room) s m #[(.int x_), (.int y_)] below meth c s₁ [] 0 0 := Stand.of_body Bd
  have e0 : s₁.heap = h0 := by rw [← hh, Bd.state]; rfl
  have N0 := Fr.nil n0
  have pre0 : ∀ t, Steps p.tables e below (s₁.setTop (mkF m 0 #[.val (.int x_), .val (.int y_)] [])) t → Steps p.tables e below (s₁.setTop (entryFrame m #[(.int x_), (.int y_)] 2)) t := fun t k => castTop (ef16_ m x_ y_) k
  obtain ⟨fs, hr, hrun, hended, hW, hsame⟩ := X0.leave (v := some (.int x_)) (fun h => by rw [Bd.returns] at h; cases h)
  refine ⟨_, _, pre0 _ ?_, hrun, hended, _, _, rfl, ?_, ⟨_, rfl⟩, hW, hsame.mono (by decide) (by decide)⟩
  · show Steps p.tables e below (s₁.setTop (mkF m 0 #[.val (.int x_), .val (.int y_)] [])) _
    refine XS.iloadN X0.here hx rfl (hb hby k16_0) rfl ?_
    refine XS.iloadN X0.here hx rfl (hb hby k16_1) rfl ?_
    show Steps p.tables e below (s₁.setTop (mkF m 2 #[.val (.int x_), .val (.int y_)] [(.int y_), (.int x_)])) _
    refine XS.icmpNo X0.here hx rfl (hb hby k16_2) rfl (flt (h : ¬ (y_ < x_))).2.2.1 ?_
    refine XS.iloadN X0.here hx rfl (hb hby k16_5) rfl ?_
    refine XS.goto X0.here hx rfl (pc0 := 6) (pc' := 10) rfl (hb hby k16_6) (by decide) (by decide) ?_
    show Steps p.tables e below (s₁.setTop (mkF m 10 #[.val (.int x_), .val (.int y_)] [(.int x_)])) _
    exact retI X0 hx Bd.returns (hb hby k16_10) hr
  · show QB x_ h0 n0 _ s₁.heap _
    rw [e0]
    exact ⟨rfl, N0, rfl⟩
theorem k17_0 : decode c17_ 0 = .ok (.iload_n 0, 1) := by decide +kernel
theorem k17_1 : decode c17_ 1 = .ok (.iload_n 1, 1) := by decide +kernel
theorem k17_2 : decode c17_ 2 = .ok (.if_icmp .lt 7, 3) := by decide +kernel
theorem k17_9 : decode c17_ 9 = .ok (.iload_n 1, 1) := by decide +kernel
theorem k17_10 : decode c17_ 10 = .ok (.ireturn, 1) := by decide +kernel
theorem ef17_ (m : MethodId) (x0 : Int32) (x1 : Int32) : entryFrame m #[(.int x0), (.int x1)] 2 = mkF m 0 #[.val (.int x0), .val (.int x1)] [] := by first | (simp [entryFrame, mkF, argsToLocals, Value.category]; done) | rfl
theorem rmMaxR (l : Launch) (Z : State) (a0 : Array Value) (hw : HW a0 Z) (ws : List Jvm.Cond) (x_ y_ : Int32) (h0 : Heap) (n0 : Nat) (Z0 : n0 ≤ h0.size) (h : x_ < y_) :
    Met l Z ws m17_ jdk_29_method_65_code 2 (some .int) ({ frames := 0, cells := 0, slots := 0, locals := 0 } : Room) h0 #[(.int x_), (.int y_)] (QB y_ h0 n0) := by
  refine MetFree.of_bodySF (Jvm.Free.JP.mathPlain rfl (by decide +kernel)) hisR ?_
  intro p e s m args below meth c s₁ Bd hml0 hP hK
  obtain ⟨rfl, hZ, hh⟩ := hP
  have hx := Bd.exec
  have hby := Bd.bytes
  have X0 : Stand p l e ({ frames := 0, cells := 0, slots := 0, locals := 0 } : Room) s m #[(.int x_), (.int y_)] below meth c s₁ [] 0 0 := Stand.of_body Bd
  have e0 : s₁.heap = h0 := by rw [← hh, Bd.state]; rfl
  have N0 := Fr.nil n0
  have pre0 : ∀ t, Steps p.tables e below (s₁.setTop (mkF m 0 #[.val (.int x_), .val (.int y_)] [])) t → Steps p.tables e below (s₁.setTop (entryFrame m #[(.int x_), (.int y_)] 2)) t := fun t k => castTop (ef17_ m x_ y_) k
  obtain ⟨fs, hr, hrun, hended, hW, hsame⟩ := X0.leave (v := some (.int y_)) (fun h => by rw [Bd.returns] at h; cases h)
  refine ⟨_, _, pre0 _ ?_, hrun, hended, _, _, rfl, ?_, ⟨_, rfl⟩, hW, hsame.mono (by decide) (by decide)⟩
  · show Steps p.tables e below (s₁.setTop (mkF m 0 #[.val (.int x_), .val (.int y_)] [])) _
    refine XS.iloadN X0.here hx rfl (hb hby k17_0) rfl ?_
    refine XS.iloadN X0.here hx rfl (hb hby k17_1) rfl ?_
    show Steps p.tables e below (s₁.setTop (mkF m 2 #[.val (.int x_), .val (.int y_)] [(.int y_), (.int x_)])) _
    refine XS.icmpYes X0.here hx rfl (pc0 := 2) (pc' := 9) rfl (hb hby k17_2) rfl (tlt (h : x_ < y_)).1 (by decide) (by decide) ?_
    refine XS.iloadN X0.here hx rfl (hb hby k17_9) rfl ?_
    show Steps p.tables e below (s₁.setTop (mkF m 10 #[.val (.int x_), .val (.int y_)] [(.int y_)])) _
    exact retI X0 hx Bd.returns (hb hby k17_10) hr
  · show QB y_ h0 n0 _ s₁.heap _
    rw [e0]
    exact ⟨rfl, N0, rfl⟩
theorem k17_5 : decode c17_ 5 = .ok (.iload_n 0, 1) := by decide +kernel
theorem k17_6 : decode c17_ 6 = .ok (.goto 4, 3) := by decide +kernel
theorem rmMaxL (l : Launch) (Z : State) (a0 : Array Value) (hw : HW a0 Z) (ws : List Jvm.Cond) (x_ y_ : Int32) (h0 : Heap) (n0 : Nat) (Z0 : n0 ≤ h0.size) (h : ¬ (x_ < y_)) :
    Met l Z ws m17_ jdk_29_method_65_code 2 (some .int) ({ frames := 0, cells := 0, slots := 0, locals := 0 } : Room) h0 #[(.int x_), (.int y_)] (QB x_ h0 n0) := by
  refine MetFree.of_bodySF (Jvm.Free.JP.mathPlain rfl (by decide +kernel)) hisR ?_
  intro p e s m args below meth c s₁ Bd hml0 hP hK
  obtain ⟨rfl, hZ, hh⟩ := hP
  have hx := Bd.exec
  have hby := Bd.bytes
  have X0 : Stand p l e ({ frames := 0, cells := 0, slots := 0, locals := 0 } : Room) s m #[(.int x_), (.int y_)] below meth c s₁ [] 0 0 := Stand.of_body Bd
  have e0 : s₁.heap = h0 := by rw [← hh, Bd.state]; rfl
  have N0 := Fr.nil n0
  have pre0 : ∀ t, Steps p.tables e below (s₁.setTop (mkF m 0 #[.val (.int x_), .val (.int y_)] [])) t → Steps p.tables e below (s₁.setTop (entryFrame m #[(.int x_), (.int y_)] 2)) t := fun t k => castTop (ef17_ m x_ y_) k
  obtain ⟨fs, hr, hrun, hended, hW, hsame⟩ := X0.leave (v := some (.int x_)) (fun h => by rw [Bd.returns] at h; cases h)
  refine ⟨_, _, pre0 _ ?_, hrun, hended, _, _, rfl, ?_, ⟨_, rfl⟩, hW, hsame.mono (by decide) (by decide)⟩
  · show Steps p.tables e below (s₁.setTop (mkF m 0 #[.val (.int x_), .val (.int y_)] [])) _
    refine XS.iloadN X0.here hx rfl (hb hby k17_0) rfl ?_
    refine XS.iloadN X0.here hx rfl (hb hby k17_1) rfl ?_
    show Steps p.tables e below (s₁.setTop (mkF m 2 #[.val (.int x_), .val (.int y_)] [(.int y_), (.int x_)])) _
    refine XS.icmpNo X0.here hx rfl (hb hby k17_2) rfl (flt (h : ¬ (x_ < y_))).1 ?_
    refine XS.iloadN X0.here hx rfl (hb hby k17_5) rfl ?_
    refine XS.goto X0.here hx rfl (pc0 := 6) (pc' := 10) rfl (hb hby k17_6) (by decide) (by decide) ?_
    show Steps p.tables e below (s₁.setTop (mkF m 10 #[.val (.int x_), .val (.int y_)] [(.int x_)])) _
    exact retI X0 hx Bd.returns (hb hby k17_10) hr
  · show QB x_ h0 n0 _ s₁.heap _
    rw [e0]
    exact ⟨rfl, N0, rfl⟩
theorem k18_0 : decode c18_ 0 = .ok (.iload_n 1, 1) := by decide +kernel
theorem k18_1 : decode c18_ 1 = .ok (.iload_n 2, 1) := by decide +kernel
theorem k18_2 : decode c18_ 2 = .ok (.invokestatic 343, 3) := by decide +kernel
theorem k18_5 : decode c18_ 5 = .ok (.iload_n 2, 1) := by decide +kernel
theorem k18_6 : decode c18_ 6 = .ok (.iload_n 1, 1) := by decide +kernel
theorem k18_7 : decode c18_ 7 = .ok (.isub, 1) := by decide +kernel
theorem k18_8 : decode c18_ 8 = .ok (.istore_n 3, 1) := by decide +kernel
theorem k18_9 : decode c18_ 9 = .ok (.iload_n 3, 1) := by decide +kernel
theorem k18_10 : decode c18_ 10 = .ok (.newarray .byte, 2) := by decide +kernel
theorem k18_12 : decode c18_ 12 = .ok (.astore 4, 2) := by decide +kernel
theorem k18_14 : decode c18_ 14 = .ok (.aload_n 0, 1) := by decide +kernel
theorem k18_15 : decode c18_ 15 = .ok (.iload_n 1, 1) := by decide +kernel
theorem k18_16 : decode c18_ 16 = .ok (.aload 4, 2) := by decide +kernel
theorem k18_18 : decode c18_ 18 = .ok (.iconst 0, 1) := by decide +kernel
theorem k18_19 : decode c18_ 19 = .ok (.aload_n 0, 1) := by decide +kernel
theorem k18_20 : decode c18_ 20 = .ok (.arraylength, 1) := by decide +kernel
theorem k18_21 : decode c18_ 21 = .ok (.iload_n 1, 1) := by decide +kernel
theorem k18_22 : decode c18_ 22 = .ok (.isub, 1) := by decide +kernel
theorem k18_23 : decode c18_ 23 = .ok (.iload_n 3, 1) := by decide +kernel
theorem k18_24 : decode c18_ 24 = .ok (.invokestatic 304, 3) := by decide +kernel
theorem k18_27 : decode c18_ 27 = .ok (.invokestatic 150, 3) := by decide +kernel
theorem k18_30 : decode c18_ 30 = .ok (.aload 4, 2) := by decide +kernel
theorem k18_32 : decode c18_ 32 = .ok (.areturn, 1) := by decide +kernel
theorem pd12_ : parseMethodDescriptor "(II)V" = some ⟨[.int, .int], none⟩ := by decide +kernel
theorem pd13_ : parseMethodDescriptor "(II)I" = some ⟨[.int, .int], some .int⟩ := by decide +kernel
theorem ef18_ (m : MethodId) (x0 : Addr) (x1 : Int32) (x2 : Int32) : entryFrame m #[(.ref x0), (.int x1), (.int x2)] 5 = mkF m 0 #[.val (.ref x0), .val (.int x1), .val (.int x2), .unset, .unset] [] := by first | (simp [entryFrame, mkF, argsToLocals, Value.category]; done) | rfl
theorem rmCb (l : Launch) (Z : State) (a0 : Array Value) (hw : HW a0 Z) (ws : List Jvm.Cond) (a1 : Addr) (kb : ClassId) (mm nn : Nat) (vd : List Value) (h0 : Heap) (n0 : Nat) (Z0 : n0 ≤ h0.size) (V_a1 : Arv Z h0 a1 kb .byte (Int32.ofNat nn) vd (.int (0 : Int32))) (hvd : mm ≤ vd.length) (hmn : mm < nn) (hm : mm ≤ 134) (hn : nn ≤ 4000) :
    Met l Z ws m18_ jdk_65_method_133_code 5 (some (.array .byte)) ({ frames := 1, cells := 1, slots := 134, locals := 40 } : Room) h0 #[(.ref a1), (.int (0 : Int32)), (.int (Int32.ofNat mm))] (QA Z (Int32.ofNat mm) (vd.take mm) h0 n0) := by
  refine MetFree.of_bodySF (plainFor_of_name pn3_) hisR ?_
  intro p e s m args below meth c s₁ Bd hml0 hP hK
  obtain ⟨rfl, hZ, hh⟩ := hP
  have hx := Bd.exec
  have hby := Bd.bytes
  have hml : c.maxLocals = 5 := hml0
  have hown : s.vm.findClass "java/util/Arrays" = some m.cls := findClass_of_methodNamed Bd.named
  have X0 : Stand p l e ({ frames := 1, cells := 1, slots := 134, locals := 40 } : Room) s m #[(.ref a1), (.int (0 : Int32)), (.int (Int32.ofNat mm))] below meth c s₁ [] 0 0 := Stand.of_body Bd
  have e0 : s₁.heap = h0 := by rw [← hh, Bd.state]; rfl
  have N0 := Fr.nil n0
  have pre0 : ∀ t, Steps p.tables e below (s₁.setTop (mkF m 0 #[.val (.ref a1), .val (.int (0 : Int32)), .val (.int (Int32.ofNat mm)), .unset, .unset] [])) t → Steps p.tables e below (s₁.setTop (entryFrame m #[(.ref a1), (.int (0 : Int32)), (.int (Int32.ofNat mm))] 5)) t := fun t k => castTop (ef18_ m a1 (0 : Int32) (Int32.ofNat mm)) k
  obtain ⟨_, _, ⟨T1, L1, k1, n1⟩, -, X1, ⟨Lc1, hQ1, l1, y1, z1⟩, st1⟩ := Jvm.LawKit.callS X0 hx (y := m15_) hown (mvT hZ (wt hw 122 rfl)) (mvT hZ (wt hw 123 rfl)) (mvT hZ (wt hw 117 rfl)) (mvT hZ (wt hw 124 rfl)) (by decide) (backOf (W := 0) (rmCh l Z a0 hw [] (0 : Int32) (Int32.ofNat mm) h0 n0 (Nat.le_trans Z0 (Keep.refl h0 []).1) (own_nonneg (by omega))) hZ (wt hw 124 rfl) (wt hw 117 rfl) (by decide) (by decide)) (g := (mkF m 2 #[.val (.ref a1), .val (.int (0 : Int32)), .val (.int (Int32.ofNat mm)), .unset, .unset] [(.int (Int32.ofNat mm)), (.int (0 : Int32))])) rfl (by rw [hml]; rfl) (argsL := [(.int (0 : Int32)), (.int (Int32.ofNat mm))]) (rest := []) (lenOf pd12_ rfl) rfl (by show 2 * 0 + _ ≤ _; exact Nat.le_of_eq rfl) (hb hby k18_2) (fun _ _ => ⟨rfl, e0, (by decide : 0 + 0 ≤ _), (by decide : 0 + 0 ≤ _)⟩)
  dsimp only [Pt.U, Pt.locs, Pt.cells, Pt.slots] at X1 l1 y1 z1 st1 hQ1
  rw [l1] at X1
  clear l1; subst y1 z1
  obtain ⟨rfl, N1q, e1q⟩ := hQ1
  have N1a := Fr.app N0 N1q
  obtain ⟨T2, h2, ka2, X2, e2, E2, A2, st2⟩ := newP X1 hx hZ (wt hw 16 rfl) e1q (g := (mkF m 10 #[.val (.ref a1), .val (.int (0 : Int32)), .val (.int (Int32.ofNat mm)), .val (.int (Int32.ofNat mm)), .unset] [(.int (Int32.ofNat mm))])) rfl (hb hby k18_10) rfl (own_nonneg (by omega)) (cap := 134) (by rw [own_clamp (by omega)]; omega) (by decide) (by decide) (by decide)
  obtain ⟨b2, g2⟩ : ∃ z, z = h0.size := ⟨_, rfl⟩
  rw [← g2] at A2 st2
  have sz_b2 : h0.size ≤ b2 := Nat.le_trans (Keep.refl h0 []).1 (Nat.le_of_eq g2.symm)
  have g_b2 : n0 ≤ b2 := Nat.le_trans Z0 sz_b2
  have K1 : Keep h0 h2 [] := (Keep.refl h0 []).ext E2
  have V_b2 : Arv Z h2 b2 ka2 .byte (Int32.ofNat mm) [] (.int (0 : Int32)) := Arv.new A2 (own_nonneg (by omega))
  have f3 : Arv Z h2 a1 kb .byte (Int32.ofNat nn) vd (.int (0 : Int32)) := (V_a1.ext E2)
  obtain ⟨cl4, Ar4, q4, S4, N_4, H_4, G4⟩ := id f3
  obtain ⟨_, _, ⟨T5, L5, k5, n5⟩, -, X5, ⟨Lc5, hQ5, l5, y5, z5⟩, st5⟩ := Jvm.LawKit.callS X2 hx (y := m16_) hown (mvT hZ (wt hw 125 rfl)) (mvT hZ (wt hw 126 rfl)) (mvT hZ (wt hw 127 rfl)) (mvT hZ (wt hw 128 rfl)) (by decide) (backOf (W := 4) (rmMinR l Z a0 hw [] (Int32.ofNat nn) (Int32.ofNat mm) h2 n0 (Nat.le_trans Z0 K1.1) ((own_lt_of (by omega) (by omega)).mpr hmn)) hZ (wt hw 128 rfl) (wt hw 127 rfl) (by decide) (by decide)) (g := (mkF m 24 #[.val (.ref a1), .val (.int (0 : Int32)), .val (.int (Int32.ofNat mm)), .val (.int (Int32.ofNat mm)), .val (.ref b2)] [(.int (Int32.ofNat mm)), (.int (Int32.ofNat nn)), (.int (0 : Int32)), (.ref b2), (.int (0 : Int32)), (.ref a1)])) rfl (by rw [hml]; rfl) (argsL := [(.int (Int32.ofNat nn)), (.int (Int32.ofNat mm))]) (rest := [(.int (0 : Int32)), (.ref b2), (.int (0 : Int32)), (.ref a1)]) (lenOf pd13_ rfl) rfl (by show 2 * 0 + _ ≤ _; exact Nat.le_of_eq rfl) (hb hby k18_24) (fun _ _ => ⟨rfl, e2, (by decide : 1 + 0 ≤ _), (by decide : 134 + 0 ≤ _)⟩)
  dsimp only [Pt.U, Pt.locs, Pt.cells, Pt.slots] at X5 l5 y5 z5 st5 hQ5
  rw [l5] at X5
  clear l5; subst y5 z5
  obtain ⟨rfl, N5q, e5q⟩ := hQ5
  have N5a := Fr.app N1a N5q
  have Vp6 : Arv Z h2 b2 ka2 .byte (Int32.ofNat mm) ([] ++ List.replicate mm (Value.int (0 : Int32))) (.int (0 : Int32)) := V_b2.pad (pad_rep [] (.int (0 : Int32)) mm)
  obtain ⟨T7, h7, Lq7, X7, e7, N7a, Kq7, Aq7, st7⟩ := cpA X5 hx hZ hown (wt hw 129 rfl) (wt hw 132 rfl) (wt hw 130 rfl) (wt hw 131 rfl) e5q f3 Vp6 (Or.inl ⟨rfl, rfl⟩) (by decide) (by decide) (own_nonneg (by omega)) (own_h5 (i := 0) (by omega) (by omega)) (own_h4 _) (us := (vd.take mm)) (own_take hvd (by omega)) (by rw [own_clamp (by omega)]; show 0 + mm ≤ _; simp) N5a g_b2 (g := (mkF m 27 #[.val (.ref a1), .val (.int (0 : Int32)), .val (.int (Int32.ofNat mm)), .val (.int (Int32.ofNat mm)), .val (.ref b2)] [(.int (Int32.ofNat mm)), (.int (0 : Int32)), (.ref b2), (.int (0 : Int32)), (.ref a1)])) rfl (by rw [hml]; rfl) rfl (hb hby k18_27) (by decide) (W := 0) (by show 2 * 0 + _ ≤ _; exact Nat.le_of_eq rfl) (by decide)
  have Aw7 : Arv Z h7 b2 ka2 .byte (Int32.ofNat mm) (vd.take mm) (.int (0 : Int32)) := by
    have q := Aq7
    rw [own_fill (by omega) (by simp; omega)] at q; exact q
  have K2 : Keep h0 h7 [] := K1.trans Kq7 (allS (Or.inr sz_b2) all0)
  obtain ⟨fs, hr, hrun, hended, hW, hsame⟩ := X7.leave (v := some (.ref b2)) (fun h => by rw [Bd.returns] at h; cases h)
  refine ⟨_, _, pre0 _ ?_, hrun, hended, _, _, rfl, ?_, ⟨_, rfl⟩, hW, hsame.mono (by decide) (by decide)⟩
  · show Steps p.tables e below (s₁.setTop (mkF m 0 #[.val (.ref a1), .val (.int (0 : Int32)), .val (.int (Int32.ofNat mm)), .unset, .unset] [])) _
    refine XS.iloadN X0.here hx rfl (hb hby k18_0) rfl ?_
    refine XS.iloadN X0.here hx rfl (hb hby k18_1) rfl ?_
    show Steps p.tables e below (s₁.setTop (mkF m 2 #[.val (.ref a1), .val (.int (0 : Int32)), .val (.int (Int32.ofNat mm)), .unset, .unset] [(.int (Int32.ofNat mm)), (.int (0 : Int32))])) _
    refine st1 _ ?_
    refine XS.iloadN X1.here hx rfl (hb hby k18_5) rfl ?_
    refine XS.iloadN X1.here hx rfl (hb hby k18_6) rfl ?_
    refine XS.isub X1.here hx rfl (hb hby k18_7) rfl ?_
    show Steps p.tables e below (T1.setTop (mkF m 8 #[.val (.ref a1), .val (.int (0 : Int32)), .val (.int (Int32.ofNat mm)), .unset, .unset] [(.int ((Int32.ofNat mm) - (0 : Int32)))])) _
    rw [own_sub0]
    refine XS.istoreN X1.here hx rfl (hb hby k18_8) rfl (l' := #[.val (.ref a1), .val (.int (0 : Int32)), .val (.int (Int32.ofNat mm)), .val (.int (Int32.ofNat mm)), .unset]) rfl ?_
    refine XS.iloadN X1.here hx rfl (hb hby k18_9) rfl ?_
    show Steps p.tables e below (T1.setTop (mkF m 10 #[.val (.ref a1), .val (.int (0 : Int32)), .val (.int (Int32.ofNat mm)), .val (.int (Int32.ofNat mm)), .unset] [(.int (Int32.ofNat mm))])) _
    refine st2 _ ?_
    refine XS.astore X2.here hx rfl (hb hby k18_12) rfl rfl (l' := #[.val (.ref a1), .val (.int (0 : Int32)), .val (.int (Int32.ofNat mm)), .val (.int (Int32.ofNat mm)), .val (.ref b2)]) rfl ?_
    refine XS.aloadN X2.here hx rfl (hb hby k18_14) rfl rfl ?_
    refine XS.iloadN X2.here hx rfl (hb hby k18_15) rfl ?_
    refine XS.aload X2.here hx rfl (hb hby k18_16) rfl rfl ?_
    show Steps p.tables e below (T2.setTop (mkF m 18 #[.val (.ref a1), .val (.int (0 : Int32)), .val (.int (Int32.ofNat mm)), .val (.int (Int32.ofNat mm)), .val (.ref b2)] [(.ref b2), (.int (0 : Int32)), (.ref a1)])) _
    refine XS.iconst X2.here hx rfl (hb hby k18_18) ?_
    refine XS.aloadN X2.here hx rfl (hb hby k18_19) rfl rfl ?_
    show Steps p.tables e below (T2.setTop (mkF m 20 #[.val (.ref a1), .val (.int (0 : Int32)), .val (.int (Int32.ofNat mm)), .val (.int (Int32.ofNat mm)), .val (.ref b2)] [(.ref a1), (.int (0 : Int32)), (.ref b2), (.int (0 : Int32)), (.ref a1)])) _
    refine X2.arraylength hx (by rw [e2]; exact Ar4.1) (State.isArrayOf_alike hZ.alike Ar4.2.1) (g := (mkF m 20 #[.val (.ref a1), .val (.int (0 : Int32)), .val (.int (Int32.ofNat mm)), .val (.int (Int32.ofNat mm)), .val (.ref b2)] [(.ref a1), (.int (0 : Int32)), (.ref b2), (.int (0 : Int32)), (.ref a1)])) rfl rfl (hb hby k18_20) _ ?_
    rw [len_of S4 N_4]
    refine XS.iloadN X2.here hx rfl (hb hby k18_21) rfl ?_
    refine XS.isub X2.here hx rfl (hb hby k18_22) rfl ?_
    show Steps p.tables e below (T2.setTop (mkF m 23 #[.val (.ref a1), .val (.int (0 : Int32)), .val (.int (Int32.ofNat mm)), .val (.int (Int32.ofNat mm)), .val (.ref b2)] [(.int ((Int32.ofNat nn) - (0 : Int32))), (.int (0 : Int32)), (.ref b2), (.int (0 : Int32)), (.ref a1)])) _
    rw [own_sub0]
    refine XS.iloadN X2.here hx rfl (hb hby k18_23) rfl ?_
    show Steps p.tables e below (T2.setTop (mkF m 24 #[.val (.ref a1), .val (.int (0 : Int32)), .val (.int (Int32.ofNat mm)), .val (.int (Int32.ofNat mm)), .val (.ref b2)] [(.int (Int32.ofNat mm)), (.int (Int32.ofNat nn)), (.int (0 : Int32)), (.ref b2), (.int (0 : Int32)), (.ref a1)])) _
    refine st5 _ ?_
    show Steps p.tables e below (T5.setTop (mkF m 27 #[.val (.ref a1), .val (.int (0 : Int32)), .val (.int (Int32.ofNat mm)), .val (.int (Int32.ofNat mm)), .val (.ref b2)] [(.int (Int32.ofNat mm)), (.int (0 : Int32)), (.ref b2), (.int (0 : Int32)), (.ref a1)])) _
    refine st7 _ ?_
    refine XS.aload X7.here hx rfl (hb hby k18_30) rfl rfl ?_
    show Steps p.tables e below (T7.setTop (mkF m 32 #[.val (.ref a1), .val (.int (0 : Int32)), .val (.int (Int32.ofNat mm)), .val (.int (Int32.ofNat mm)), .val (.ref b2)] [(.ref b2)])) _
    jvm_step X7.here [X7.here.top, hx, (hb hby k18_32), X7.method', Bd.returns, Value.isRef, FieldType.isReference]
    first | (intro acts; rw [hr _ acts rfl rfl rfl]) | rw [hr _ _ rfl rfl rfl]
    exact Steps.refl _
  · show QA Z (Int32.ofNat mm) (vd.take mm) h0 n0 _ T7.heap _
    rw [e7]
    exact ⟨b2, ka2, rfl, N7a, K2, sz_b2, Aw7⟩
theorem k19_0 : decode c19_ 0 = .ok (.iload_n 1, 1) := by decide +kernel
theorem k19_1 : decode c19_ 1 = .ok (.ifCond .ne 9, 3) := by decide +kernel
theorem k19_4 : decode c19_ 4 = .ok (.iload_n 2, 1) := by decide +kernel
theorem k19_5 : decode c19_ 5 = .ok (.aload_n 0, 1) := by decide +kernel
theorem k19_6 : decode c19_ 6 = .ok (.arraylength, 1) := by decide +kernel
theorem k19_7 : decode c19_ 7 = .ok (.if_icmp .eq 10, 3) := by decide +kernel
theorem k19_10 : decode c19_ 10 = .ok (.aload_n 0, 1) := by decide +kernel
theorem k19_11 : decode c19_ 11 = .ok (.iload_n 1, 1) := by decide +kernel
theorem k19_12 : decode c19_ 12 = .ok (.iload_n 2, 1) := by decide +kernel
theorem k19_13 : decode c19_ 13 = .ok (.invokestatic 339, 3) := by decide +kernel
theorem k19_16 : decode c19_ 16 = .ok (.areturn, 1) := by decide +kernel
theorem pd14_ : parseMethodDescriptor "([BII)[B" = some ⟨[(.array .byte), .int, .int], some (.array .byte)⟩ := by decide +kernel
theorem ef19_ (m : MethodId) (x0 : Addr) (x1 : Int32) (x2 : Int32) : entryFrame m #[(.ref x0), (.int x1), (.int x2)] 3 = mkF m 0 #[.val (.ref x0), .val (.int x1), .val (.int x2)] [] := by first | (simp [entryFrame, mkF, argsToLocals, Value.category]; done) | rfl
theorem rmCr (l : Launch) (Z : State) (a0 : Array Value) (hw : HW a0 Z) (ws : List Jvm.Cond) (a1 : Addr) (kb : ClassId) (mm nn : Nat) (vd : List Value) (h0 : Heap) (n0 : Nat) (Z0 : n0 ≤ h0.size) (V_a1 : Arv Z h0 a1 kb .byte (Int32.ofNat nn) vd (.int (0 : Int32))) (hvd : mm ≤ vd.length) (hmn : mm < nn) (hm : mm ≤ 134) (hn : nn ≤ 4000) :
    Met l Z ws m19_ jdk_65_method_132_code 3 (some (.array .byte)) ({ frames := 2, cells := 1, slots := 134, locals := 60 } : Room) h0 #[(.ref a1), (.int (0 : Int32)), (.int (Int32.ofNat mm))] (QA Z (Int32.ofNat mm) (vd.take mm) h0 n0) := by
  refine MetFree.of_bodySF (plainFor_of_name pn3_) hisR ?_
  intro p e s m args below meth c s₁ Bd hml0 hP hK
  obtain ⟨rfl, hZ, hh⟩ := hP
  have hx := Bd.exec
  have hby := Bd.bytes
  have hml : c.maxLocals = 3 := hml0
  have hown : s.vm.findClass "java/util/Arrays" = some m.cls := findClass_of_methodNamed Bd.named
  have X0 : Stand p l e ({ frames := 2, cells := 1, slots := 134, locals := 60 } : Room) s m #[(.ref a1), (.int (0 : Int32)), (.int (Int32.ofNat mm))] below meth c s₁ [] 0 0 := Stand.of_body Bd
  have e0 : s₁.heap = h0 := by rw [← hh, Bd.state]; rfl
  have N0 := Fr.nil n0
  have pre0 : ∀ t, Steps p.tables e below (s₁.setTop (mkF m 0 #[.val (.ref a1), .val (.int (0 : Int32)), .val (.int (Int32.ofNat mm))] [])) t → Steps p.tables e below (s₁.setTop (entryFrame m #[(.ref a1), (.int (0 : Int32)), (.int (Int32.ofNat mm))] 3)) t := fun t k => castTop (ef19_ m a1 (0 : Int32) (Int32.ofNat mm)) k
  obtain ⟨cl1, Ar1, q1, S1, N_1, H_1, G1⟩ := id V_a1
  obtain ⟨_, _, ⟨T2, L2, k2, n2⟩, -, X2, ⟨Lc2, hQ2, l2, y2, z2⟩, st2⟩ := Jvm.LawKit.callS X0 hx (y := m18_) hown (mvT hZ (wt hw 119 rfl)) (mvT hZ (wt hw 120 rfl)) (mvT hZ (wt hw 117 rfl)) (mvT hZ (wt hw 121 rfl)) (by decide) (backOf (W := 0) (rmCb l Z a0 hw [] a1 kb mm nn vd h0 n0 (Nat.le_trans Z0 (Keep.refl h0 []).1) V_a1 hvd hmn hm hn) hZ (wt hw 121 rfl) (wt hw 117 rfl) (by decide) (by decide)) (g := (mkF m 13 #[.val (.ref a1), .val (.int (0 : Int32)), .val (.int (Int32.ofNat mm))] [(.int (Int32.ofNat mm)), (.int (0 : Int32)), (.ref a1)])) rfl (by rw [hml]; rfl) (argsL := [(.ref a1), (.int (0 : Int32)), (.int (Int32.ofNat mm))]) (rest := []) (lenOf pd14_ rfl) rfl (by show 2 * 0 + _ ≤ _; exact Nat.le_of_eq rfl) (hb hby k19_13) (fun _ _ => ⟨rfl, e0, (by decide : 0 + 1 ≤ _), (by decide : 0 + 134 ≤ _)⟩)
  dsimp only [Pt.U, Pt.locs, Pt.cells, Pt.slots] at X2 l2 y2 z2 st2 hQ2
  rw [l2] at X2
  clear l2; subst y2 z2
  obtain ⟨t2, tk2, rfl, N2q, K2q, ts2, Ta2⟩ := hQ2
  have N2a := Fr.app N0 N2q
  have K1 : Keep h0 T2.heap [] := (Keep.refl h0 []).trans K2q all0
  have sz_t2 : h0.size ≤ t2 := Nat.le_trans (Keep.refl h0 []).1 ts2
  obtain ⟨fs, hr, hrun, hended, hW, hsame⟩ := X2.leave (v := some (.ref t2)) (fun h => by rw [Bd.returns] at h; cases h)
  refine ⟨_, _, pre0 _ ?_, hrun, hended, _, _, rfl, ?_, ⟨_, rfl⟩, hW, hsame.mono (by decide) (by decide)⟩
  · show Steps p.tables e below (s₁.setTop (mkF m 0 #[.val (.ref a1), .val (.int (0 : Int32)), .val (.int (Int32.ofNat mm))] [])) _
    refine XS.iloadN X0.here hx rfl (hb hby k19_0) rfl ?_
    show Steps p.tables e below (s₁.setTop (mkF m 1 #[.val (.ref a1), .val (.int (0 : Int32)), .val (.int (Int32.ofNat mm))] [(.int (0 : Int32))])) _
    refine XS.ifNo X0.here hx rfl (hb hby k19_1) rfl ((if0 _ _).trans (teq (rfl : (0 : Int32) = (0 : Int32))).2) ?_
    refine XS.iloadN X0.here hx rfl (hb hby k19_4) rfl ?_
    refine XS.aloadN X0.here hx rfl (hb hby k19_5) rfl rfl ?_
    show Steps p.tables e below (s₁.setTop (mkF m 6 #[.val (.ref a1), .val (.int (0 : Int32)), .val (.int (Int32.ofNat mm))] [(.ref a1), (.int (Int32.ofNat mm))])) _
    refine X0.arraylength hx (by rw [e0]; exact Ar1.1) (State.isArrayOf_alike hZ.alike Ar1.2.1) (g := (mkF m 6 #[.val (.ref a1), .val (.int (0 : Int32)), .val (.int (Int32.ofNat mm))] [(.ref a1), (.int (Int32.ofNat mm))])) rfl rfl (hb hby k19_6) _ ?_
    rw [len_of S1 N_1]
    show Steps p.tables e below (s₁.setTop (mkF m 7 #[.val (.ref a1), .val (.int (0 : Int32)), .val (.int (Int32.ofNat mm))] [(.int (Int32.ofNat nn)), (.int (Int32.ofNat mm))])) _
    refine XS.icmpNo X0.here hx rfl (hb hby k19_7) rfl (feq (fun q => by have := (own_eq_of (by omega) (by omega)).mp q; omega : ¬ ((Int32.ofNat mm) = (Int32.ofNat nn)))).1 ?_
    refine XS.aloadN X0.here hx rfl (hb hby k19_10) rfl rfl ?_
    refine XS.iloadN X0.here hx rfl (hb hby k19_11) rfl ?_
    refine XS.iloadN X0.here hx rfl (hb hby k19_12) rfl ?_
    show Steps p.tables e below (s₁.setTop (mkF m 13 #[.val (.ref a1), .val (.int (0 : Int32)), .val (.int (Int32.ofNat mm))] [(.int (Int32.ofNat mm)), (.int (0 : Int32)), (.ref a1)])) _
    refine st2 _ ?_
    show Steps p.tables e below (T2.setTop (mkF m 16 #[.val (.ref a1), .val (.int (0 : Int32)), .val (.int (Int32.ofNat mm))] [(.ref t2)])) _
    jvm_step X2.here [X2.here.top, hx, (hb hby k19_16), X2.method', Bd.returns, Value.isRef, FieldType.isReference]
    first | (intro acts; rw [hr _ acts rfl rfl rfl]) | rw [hr _ _ rfl rfl rfl]
    exact Steps.refl _
  · show QA Z (Int32.ofNat mm) (vd.take mm) h0 n0 _ T2.heap _
    exact ⟨t2, tk2, rfl, N2a, K1, sz_t2, Ta2⟩
theorem k20_0 : decode c20_ 0 = .ok (.aload_n 0, 1) := by decide +kernel
theorem k20_1 : decode c20_ 1 = .ok (.invokespecial 1, 3) := by decide +kernel
theorem k20_4 : decode c20_ 4 = .ok (.aload_n 0, 1) := by decide +kernel
theorem k20_5 : decode c20_ 5 = .ok (.aload_n 1, 1) := by decide +kernel
theorem k20_6 : decode c20_ 6 = .ok (.putfield 9, 3) := by decide +kernel
theorem k20_9 : decode c20_ 9 = .ok (.aload_n 0, 1) := by decide +kernel
theorem k20_10 : decode c20_ 10 = .ok (.iload_n 2, 1) := by decide +kernel
theorem k20_11 : decode c20_ 11 = .ok (.putfield 15, 3) := by decide +kernel
theorem k20_14 : decode c20_ 14 = .ok (.return_, 1) := by decide +kernel
theorem ef20_ (m : MethodId) (x0 : Addr) (x1 : Addr) (x2 : Int32) : entryFrame m #[(.ref x0), (.ref x1), (.int x2)] 3 = mkF m 0 #[.val (.ref x0), .val (.ref x1), .val (.int x2)] [] := by first | (simp [entryFrame, mkF, argsToLocals, Value.category]; done) | rfl
theorem rmBB (l : Launch) (Z : State) (a0 : Array Value) (hw : HW a0 Z) (ws : List Jvm.Cond) (a1 a2 : Addr) (cd : Int32) (uv uc : Value) (h0 : Heap) (n0 : Nat) (Z0 : n0 ≤ h0.size) (E_a1 : Exa Z h0 a1 "java/lang/String") (F_value_a1 : Fld Z h0 a1 "java/lang/String" "value" "[B" uv) (F_coder_a1 : Fld Z h0 a1 "java/lang/String" "coder" "B" uc) (g_a1 : n0 ≤ a1) (hcd : narrow .byte (.int cd) = .int cd ∧ fits .byte (.int cd) = true) :
    Met l Z ws m20_ jdk_42_method_151_code 3 none ({ frames := 1, cells := 0, slots := 0, locals := 12 } : Room) h0 #[(.ref a1), (.ref a2), (.int cd)] (QBB Z a1 a2 cd h0 n0) := by
  refine MetFree.of_bodySF (plainFor_of_name pn0_) hisR ?_
  intro p e s m args below meth c s₁ Bd hml0 hP hK
  obtain ⟨rfl, hZ, hh⟩ := hP
  have hx := Bd.exec
  have hby := Bd.bytes
  have hml : c.maxLocals = 3 := hml0
  have hown : s.vm.findClass "java/lang/String" = some m.cls := findClass_of_methodNamed Bd.named
  have hnm := (name_of_methodNamed Bd.named Bd.method).1
  have X0 : Stand p l e ({ frames := 1, cells := 0, slots := 0, locals := 12 } : Room) s m #[(.ref a1), (.ref a2), (.int cd)] below meth c s₁ [] 0 0 := Stand.of_body Bd
  have e0 : s₁.heap = h0 := by rw [← hh, Bd.state]; rfl
  have N0 := Fr.nil n0
  have pre0 : ∀ t, Steps p.tables e below (s₁.setTop (mkF m 0 #[.val (.ref a1), .val (.ref a2), .val (.int cd)] [])) t → Steps p.tables e below (s₁.setTop (entryFrame m #[(.ref a1), (.ref a2), (.int cd)] 3)) t := fun t k => castTop (ef20_ m a1 a2 cd) k
  obtain ⟨T1, X1, e1, st1⟩ := initO X0 hx hZ hown (wt hw 12 rfl) (wt hw 13 rfl) (wt hw 14 rfl) e0 (g := (mkF m 1 #[.val (.ref a1), .val (.ref a2), .val (.int cd)] [(.ref a1)])) rfl (by rw [hml]; rfl) rfl (hb hby k20_1) (by decide) (W := 0) (by show 2 * 0 + _ ≤ _; exact Nat.le_of_eq rfl) (by decide)
  obtain ⟨T2, h2, X2, e2, W2, st2⟩ := putF X1 hx hZ hown (host := "") (Or.inl (wt hw 21 rfl)) Via.refl e1 F_value_a1 E_a1 (Or.inr ⟨(wt hw 17 rfl), rfl, hnm⟩) (wt hw 3 rfl) (ty := (.array .byte)) (by decide) rfl rfl (g := (mkF m 6 #[.val (.ref a1), .val (.ref a2), .val (.int cd)] [(.ref a2), (.ref a1)])) rfl rfl (hb hby k20_6)
  have Fw2 := F_value_a1.same W2
  have Nf2 := Fr.snoc X2 N0 g_a1
  have K1 : Keep h0 h2 [a1] := (Keep.refl h0 [a1]).wr W2 (Or.inl (List.mem_of_getElem? (i := 0) rfl))
  have f3 : Fld Z h2 a1 "java/lang/String" "coder" "B" uc := (F_coder_a1.other W2 (Or.inr (slot_ne (Or.inr (wt hw 18 rfl)) (Or.inr (wt hw 17 rfl)) (by decide) (t := .byte) (t' := (.array .byte)) (by decide) (by decide))))
  have f4 : Exa Z h2 a1 "java/lang/String" := (E_a1.wr W2)
  obtain ⟨T5, h5, X5, e5, W5, st5⟩ := putFN X2 hx hZ hown (wt hw 22 rfl) Via.refl e2 f3 f4 (Or.inr ⟨(wt hw 18 rfl), rfl, hnm⟩) (wt hw 3 rfl) (ty := .byte) (v' := (.int cd)) (by decide) hcd.1 hcd.2 (g := (mkF m 11 #[.val (.ref a1), .val (.ref a2), .val (.int cd)] [(.int cd), (.ref a1)])) rfl rfl (hb hby k20_11)
  have Fw5 := f3.same W5
  have Nf5 := Fr.snoc X5 Nf2 g_a1
  have K2 : Keep h0 h5 [a1] := K1.wr W5 (Or.inl (List.mem_of_getElem? (i := 0) rfl))
  have f6 : Fld Z h5 a1 "java/lang/String" "value" "[B" (.ref a2) := (Fw2.other W5 (Or.inr (slot_ne (Or.inr (wt hw 17 rfl)) (Or.inr (wt hw 18 rfl)) (by decide) (t := (.array .byte)) (t' := .byte) (by decide) (by decide))))
  obtain ⟨fs, hr, hrun, hended, hW, hsame⟩ := X5.leave (v := none) (fun _ => rfl)
  refine ⟨_, _, pre0 _ ?_, hrun, hended, _, _, rfl, ?_, ⟨_, rfl⟩, hW, hsame.mono (by decide) (by decide)⟩
  · show Steps p.tables e below (s₁.setTop (mkF m 0 #[.val (.ref a1), .val (.ref a2), .val (.int cd)] [])) _
    refine XS.aloadN X0.here hx rfl (hb hby k20_0) rfl rfl ?_
    show Steps p.tables e below (s₁.setTop (mkF m 1 #[.val (.ref a1), .val (.ref a2), .val (.int cd)] [(.ref a1)])) _
    refine st1 _ ?_
    refine XS.aloadN X1.here hx rfl (hb hby k20_4) rfl rfl ?_
    refine XS.aloadN X1.here hx rfl (hb hby k20_5) rfl rfl ?_
    show Steps p.tables e below (T1.setTop (mkF m 6 #[.val (.ref a1), .val (.ref a2), .val (.int cd)] [(.ref a2), (.ref a1)])) _
    refine st2 _ ?_
    refine XS.aloadN X2.here hx rfl (hb hby k20_9) rfl rfl ?_
    refine XS.iloadN X2.here hx rfl (hb hby k20_10) rfl ?_
    show Steps p.tables e below (T2.setTop (mkF m 11 #[.val (.ref a1), .val (.ref a2), .val (.int cd)] [(.int cd), (.ref a1)])) _
    refine st5 _ ?_
    show Steps p.tables e below (T5.setTop (mkF m 14 #[.val (.ref a1), .val (.ref a2), .val (.int cd)] [])) _
    exact X5.returnOut hx Bd.returns (hb hby k20_14) hr
  · show QBB Z a1 a2 cd h0 n0 _ T5.heap _
    rw [e5]
    exact ⟨rfl, Nf5, K2, f6, Fw5⟩
theorem k21_0 : decode c21_ 0 = .ok (.iload_n 2, 1) := by decide +kernel
theorem k21_1 : decode c21_ 1 = .ok (.ifCond .ne 6, 3) := by decide +kernel
theorem k21_7 : decode c21_ 7 = .ok (.new 1, 3) := by decide +kernel
theorem k21_10 : decode c21_ 10 = .ok (.dup, 1) := by decide +kernel
theorem k21_11 : decode c21_ 11 = .ok (.aload_n 0, 1) := by decide +kernel
theorem k21_12 : decode c21_ 12 = .ok (.iload_n 1, 1) := by decide +kernel
theorem k21_13 : decode c21_ 13 = .ok (.iload_n 1, 1) := by decide +kernel
theorem k21_14 : decode c21_ 14 = .ok (.iload_n 2, 1) := by decide +kernel
theorem k21_15 : decode c21_ 15 = .ok (.iadd, 1) := by decide +kernel
theorem k21_16 : decode c21_ 16 = .ok (.invokestatic 232, 3) := by decide +kernel
theorem k21_19 : decode c21_ 19 = .ok (.iconst 0, 1) := by decide +kernel
theorem k21_20 : decode c21_ 20 = .ok (.invokespecial 112, 3) := by decide +kernel
theorem k21_23 : decode c21_ 23 = .ok (.areturn, 1) := by decide +kernel
theorem pd15_ : parseMethodDescriptor "([BB)V" = some ⟨[(.array .byte), .byte], none⟩ := by decide +kernel
theorem pn4_ : plainName "java/lang/StringLatin1" = true := by first | (simp [plainName, overriddenIn]; done) | decide +kernel
theorem ef21_ (m : MethodId) (x0 : Addr) (x1 : Int32) (x2 : Int32) : entryFrame m #[(.ref x0), (.int x1), (.int x2)] 3 = mkF m 0 #[.val (.ref x0), .val (.int x1), .val (.int x2)] [] := by first | (simp [entryFrame, mkF, argsToLocals, Value.category]; done) | rfl
theorem rmLn (l : Launch) (Z : State) (a0 : Array Value) (hw : HW a0 Z) (ws : List Jvm.Cond) (b : Addr) (kb : ClassId) (cs : List Int32) (h0 : Heap) (n0 : Nat) (Z0 : n0 ≤ h0.size) (V_b : Arv Z h0 b kb .byte (Int32.ofNat cs.length) (cs.map own_lo) (.int (0 : Int32))) (h64 : 64 < cs.length) (hm : cs.length ≤ 127) (hc : ∀ c ∈ cs, ¬ c < 0 ∧ ¬ (65535 : Int32) < c) (hlat : ∀ c ∈ cs, ¬ (255 : Int32) < c) :
    Met l Z ws m21_ jdk_43_method_47_code 3 (some (.object "java/lang/String")) ({ frames := 3, cells := 2, slots := 138, locals := 76 } : Room) h0 #[(.ref b), (.int (0 : Int32)), (.int (Int32.ofNat 64))] (QSr Z (cs.take 64) h0 n0) := by
  refine MetFree.of_bodySF (plainFor_of_name pn4_) hisR ?_
  intro p e s m args below meth c s₁ Bd hml0 hP hK
  obtain ⟨rfl, hZ, hh⟩ := hP
  have hx := Bd.exec
  have hby := Bd.bytes
  have hml : c.maxLocals = 3 := hml0
  have hown : s.vm.findClass "java/lang/StringLatin1" = some m.cls := findClass_of_methodNamed Bd.named
  have X0 : Stand p l e ({ frames := 3, cells := 2, slots := 138, locals := 76 } : Room) s m #[(.ref b), (.int (0 : Int32)), (.int (Int32.ofNat 64))] below meth c s₁ [] 0 0 := Stand.of_body Bd
  have e0 : s₁.heap = h0 := by rw [← hh, Bd.state]; rfl
  have N0 := Fr.nil n0
  have pre0 : ∀ t, Steps p.tables e below (s₁.setTop (mkF m 0 #[.val (.ref b), .val (.int (0 : Int32)), .val (.int (Int32.ofNat 64))] [])) t → Steps p.tables e below (s₁.setTop (entryFrame m #[(.ref b), (.int (0 : Int32)), (.int (Int32.ofNat 64))] 3)) t := fun t k => castTop (ef21_ m b (0 : Int32) (Int32.ofNat 64)) k
  obtain ⟨T1, h1, X1, e1, E1, A1, D1, -, st1⟩ := newO X0 hx hZ hown (wt hw 114 rfl) (wt hw 3 rfl) (wt hw 4 rfl) e0 (g := (mkF m 7 #[.val (.ref b), .val (.int (0 : Int32)), .val (.int (Int32.ofNat 64))] [])) rfl (hb hby k21_7) (by decide) (by decide)
  obtain ⟨b1, g1⟩ : ∃ z, z = h0.size := ⟨_, rfl⟩
  rw [← g1] at A1 D1 st1
  have sz_b1 : h0.size ≤ b1 := Nat.le_trans (Keep.refl h0 []).1 (Nat.le_of_eq g1.symm)
  have g_b1 : n0 ≤ b1 := Nat.le_trans Z0 sz_b1
  have K1 : Keep h0 h1 [] := (Keep.refl h0 []).ext E1
  have F_value_b1 : Fld Z h1 b1 "java/lang/String" "value" "[B" .null := D1 (Or.inr (wt hw 17 rfl)) (ty := (.array .byte)) (by decide)
  have F_coder_b1 : Fld Z h1 b1 "java/lang/String" "coder" "B" (.int (0 : Int32)) := D1 (Or.inr (wt hw 18 rfl)) (ty := .byte) (by decide)
  have f3 : Arv Z h1 b kb .byte (Int32.ofNat cs.length) (cs.map own_lo) (.int (0 : Int32)) := (V_b.ext E1)
  obtain ⟨_, _, ⟨T2, L2, k2, n2⟩, -, X2, ⟨Lc2, hQ2, l2, y2, z2⟩, st2⟩ := Jvm.LawKit.callS X1 hx (y := m19_) hown (mvT hZ (wt hw 115 rfl)) (mvT hZ (wt hw 116 rfl)) (mvT hZ (wt hw 117 rfl)) (mvT hZ (wt hw 118 rfl)) (by decide) (backOf (W := 2) (rmCr l Z a0 hw [] b kb 64 cs.length (cs.map own_lo) h1 n0 (Nat.le_trans Z0 K1.1) f3 (by simp; omega) h64 (by decide) (by omega)) hZ (wt hw 118 rfl) (wt hw 117 rfl) (by decide) (by decide)) (g := (mkF m 16 #[.val (.ref b), .val (.int (0 : Int32)), .val (.int (Int32.ofNat 64))] [(.int (Int32.ofNat 64)), (.int (0 : Int32)), (.ref b), (.ref b1), (.ref b1)])) rfl (by rw [hml]; rfl) (argsL := [(.ref b), (.int (0 : Int32)), (.int (Int32.ofNat 64))]) (rest := [(.ref b1), (.ref b1)]) (lenOf pd14_ rfl) rfl (by show 2 * 0 + _ ≤ _; exact Nat.le_of_eq rfl) (hb hby k21_16) (fun _ _ => ⟨rfl, e1, (by decide : 1 + 1 ≤ _), (by decide : 4 + 134 ≤ _)⟩)
  dsimp only [Pt.U, Pt.locs, Pt.cells, Pt.slots] at X2 l2 y2 z2 st2 hQ2
  rw [l2] at X2
  clear l2; subst y2 z2
  obtain ⟨t2, tk2, rfl, N2q, K2q, ts2, Ta2⟩ := hQ2
  have N2a := Fr.app N0 N2q
  have K2 : Keep h0 T2.heap [] := K1.trans K2q all0
  have f5 : Exa Z T2.heap b1 "java/lang/String" := (A1.keep K2q)
  have f6 : Fld Z T2.heap b1 "java/lang/String" "value" "[B" .null := (F_value_b1.keep K2q nin0)
  have f7 : Fld Z T2.heap b1 "java/lang/String" "coder" "B" (.int (0 : Int32)) := (F_coder_b1.keep K2q nin0)
  obtain ⟨_, _, ⟨T4, L4, k4, n4⟩, -, X4, ⟨Lc4, hQ4, l4, y4, z4⟩, st4⟩ := X2.specialBack hx (y := m20_) rfl hown (mvT hZ (wt hw 133 rfl)) (mvT hZ (wt hw 134 rfl)) (mvT hZ (wt hw 135 rfl)) (by decide) (backOf (W := 1) (rmBB l Z a0 hw [] b1 t2 (0 : Int32) .null (.int (0 : Int32)) T2.heap n0 (Nat.le_trans Z0 K2.1) f5 f6 f7 g_b1 ⟨rfl, rfl⟩) hZ (wt hw 135 rfl) (wt hw 4 rfl) (by decide) (by decide)) (g := (mkF m 20 #[.val (.ref b), .val (.int (0 : Int32)), .val (.int (Int32.ofNat 64))] [(.int (0 : Int32)), (.ref t2), (.ref b1), (.ref b1)])) rfl (by rw [hml]; rfl) (Steps.refl _) (a := b1) (argsL := [(.ref t2), (.int (0 : Int32))]) (rest := [(.ref b1)]) (lenOf pd15_ rfl) rfl (by show 2 * 0 + _ ≤ _; exact Nat.le_of_eq rfl) (hb hby k21_20) (fun _ _ => ⟨rfl, rfl, (by decide : 2 + 0 ≤ _), (by decide : 138 + 0 ≤ _)⟩)
  dsimp only [Pt.U, Pt.locs, Pt.cells, Pt.slots] at X4 l4 y4 z4 st4 hQ4
  rw [l4] at X4
  clear l4; subst y4 z4
  obtain ⟨rfl, N4q, K4q, Xv4, Xc4⟩ := hQ4
  have N4a := Fr.app N2a N4q
  have K3 : Keep h0 T4.heap [] := K2.trans K4q (allS (Or.inr sz_b1) all0)
  have f8 : Exa Z T4.heap b1 "java/lang/String" := (f5.keep K4q)
  have f9 : Arv Z T4.heap t2 tk2 .byte (Int32.ofNat 64) ((cs.map own_lo).take 64) (.int (0 : Int32)) := (Ta2.keep K4q (ninS (Ne.symm (Nat.ne_of_lt (Nat.lt_of_lt_of_le A1.lt ts2))) nin0))
  obtain ⟨fs, hr, hrun, hended, hW, hsame⟩ := X4.leave (v := some (.ref b1)) (fun h => by rw [Bd.returns] at h; cases h)
  refine ⟨_, _, pre0 _ ?_, hrun, hended, _, _, rfl, ?_, ⟨_, rfl⟩, hW, hsame.mono (by decide) (by decide)⟩
  · show Steps p.tables e below (s₁.setTop (mkF m 0 #[.val (.ref b), .val (.int (0 : Int32)), .val (.int (Int32.ofNat 64))] [])) _
    refine XS.iloadN X0.here hx rfl (hb hby k21_0) rfl ?_
    show Steps p.tables e below (s₁.setTop (mkF m 1 #[.val (.ref b), .val (.int (0 : Int32)), .val (.int (Int32.ofNat 64))] [(.int (Int32.ofNat 64))])) _
    refine XS.ifYes X0.here hx rfl (pc0 := 1) (pc' := 7) rfl (hb hby k21_1) rfl ((if0 _ _).trans (feq (by decide : ¬ ((Int32.ofNat 64) = (0 : Int32)))).2) (by decide) (by decide) ?_
    show Steps p.tables e below (s₁.setTop (mkF m 7 #[.val (.ref b), .val (.int (0 : Int32)), .val (.int (Int32.ofNat 64))] [])) _
    refine st1 _ ?_
    refine XS.dup X1.here hx rfl (hb hby k21_10) rfl rfl ?_
    refine XS.aloadN X1.here hx rfl (hb hby k21_11) rfl rfl ?_
    refine XS.iloadN X1.here hx rfl (hb hby k21_12) rfl ?_
    refine XS.iloadN X1.here hx rfl (hb hby k21_13) rfl ?_
    show Steps p.tables e below (T1.setTop (mkF m 14 #[.val (.ref b), .val (.int (0 : Int32)), .val (.int (Int32.ofNat 64))] [(.int (0 : Int32)), (.int (0 : Int32)), (.ref b), (.ref b1), (.ref b1)])) _
    refine XS.iloadN X1.here hx rfl (hb hby k21_14) rfl ?_
    refine XS.iadd X1.here hx rfl (hb hby k21_15) rfl ?_
    show Steps p.tables e below (T1.setTop (mkF m 16 #[.val (.ref b), .val (.int (0 : Int32)), .val (.int (Int32.ofNat 64))] [(.int ((0 : Int32) + (Int32.ofNat 64))), (.int (0 : Int32)), (.ref b), (.ref b1), (.ref b1)])) _
    rw [own_add0]
    show Steps p.tables e below (T1.setTop (mkF m 16 #[.val (.ref b), .val (.int (0 : Int32)), .val (.int (Int32.ofNat 64))] [(.int (Int32.ofNat 64)), (.int (0 : Int32)), (.ref b), (.ref b1), (.ref b1)])) _
    refine st2 _ ?_
    refine XS.iconst X2.here hx rfl (hb hby k21_19) ?_
    show Steps p.tables e below (T2.setTop (mkF m 20 #[.val (.ref b), .val (.int (0 : Int32)), .val (.int (Int32.ofNat 64))] [(.int (0 : Int32)), (.ref t2), (.ref b1), (.ref b1)])) _
    refine st4.trans ?_
    show Steps p.tables e below (T4.setTop (mkF m 23 #[.val (.ref b), .val (.int (0 : Int32)), .val (.int (Int32.ofNat 64))] [(.ref b1)])) _
    jvm_step X4.here [X4.here.top, hx, (hb hby k21_23), X4.method', Bd.returns, Value.isRef, FieldType.isReference]
    first | (intro acts; rw [hr _ acts rfl rfl rfl]) | rw [hr _ _ rfl rfl rfl]
    exact Steps.refl _
  · show QSr Z (cs.take 64) h0 n0 _ T4.heap _
    exact ⟨b1, rfl, N4a, K3, t2, _, _, _, _, f8, Xv4, Xc4, f9, Or.inl ⟨rfl, by rw [List.length_take, Nat.min_eq_left (by omega)], (List.map_take).symm, fun c hc' => hlat c (List.mem_of_mem_take hc')⟩, fun c hc' => hc c (List.mem_of_mem_take hc')⟩
theorem k22_0 : decode c22_ 0 = .ok (.iload_n 2, 1) := by decide +kernel
theorem k22_1 : decode c22_ 1 = .ok (.newarray .byte, 2) := by decide +kernel
theorem k22_3 : decode c22_ 3 = .ok (.astore_n 3, 1) := by decide +kernel
theorem k22_4 : decode c22_ 4 = .ok (.aload_n 0, 1) := by decide +kernel
theorem k22_5 : decode c22_ 5 = .ok (.iload_n 1, 1) := by decide +kernel
theorem k22_6 : decode c22_ 6 = .ok (.aload_n 3, 1) := by decide +kernel
theorem k22_7 : decode c22_ 7 = .ok (.iconst 0, 1) := by decide +kernel
theorem k22_8 : decode c22_ 8 = .ok (.iload_n 2, 1) := by decide +kernel
theorem k22_9 : decode c22_ 9 = .ok (.invokestatic 123, 3) := by decide +kernel
theorem k22_12 : decode c22_ 12 = .ok (.istore 4, 2) := by decide +kernel
theorem k22_14 : decode c22_ 14 = .ok (.iload 4, 2) := by decide +kernel
theorem k22_16 : decode c22_ 16 = .ok (.iload_n 2, 1) := by decide +kernel
theorem k22_17 : decode c22_ 17 = .ok (.if_icmp .eq 47, 3) := by decide +kernel
theorem k22_20 : decode c22_ 20 = .ok (.aload_n 0, 1) := by decide +kernel
theorem k22_21 : decode c22_ 21 = .ok (.iload_n 1, 1) := by decide +kernel
theorem k22_22 : decode c22_ 22 = .ok (.iconst 1, 1) := by decide +kernel
theorem k22_23 : decode c22_ 23 = .ok (.ishl, 1) := by decide +kernel
theorem k22_24 : decode c22_ 24 = .ok (.iload_n 1, 1) := by decide +kernel
theorem k22_25 : decode c22_ 25 = .ok (.iload_n 2, 1) := by decide +kernel
theorem k22_26 : decode c22_ 26 = .ok (.iadd, 1) := by decide +kernel
theorem k22_27 : decode c22_ 27 = .ok (.invokestatic 11, 3) := by decide +kernel
theorem k22_30 : decode c22_ 30 = .ok (.invokestatic 126, 3) := by decide +kernel
theorem k22_33 : decode c22_ 33 = .ok (.astore 5, 2) := by decide +kernel
theorem k22_35 : decode c22_ 35 = .ok (.aload 5, 2) := by decide +kernel
theorem k22_37 : decode c22_ 37 = .ok (.iload 4, 2) := by decide +kernel
theorem k22_39 : decode c22_ 39 = .ok (.invokestatic 71, 3) := by decide +kernel
theorem k22_42 : decode c22_ 42 = .ok (.sipush 255, 3) := by decide +kernel
theorem k22_45 : decode c22_ 45 = .ok (.if_icmp .gt 16, 3) := by decide +kernel
theorem k22_61 : decode c22_ 61 = .ok (.aload 5, 2) := by decide +kernel
theorem k22_63 : decode c22_ 63 = .ok (.areturn, 1) := by decide +kernel
theorem k22_64 : decode c22_ 64 = .ok (.aload_n 3, 1) := by decide +kernel
theorem k22_65 : decode c22_ 65 = .ok (.areturn, 1) := by decide +kernel
theorem pd16_ : parseMethodDescriptor "([BI[BII)I" = some ⟨[(.array .byte), .int, (.array .byte), .int, .int], some .int⟩ := by decide +kernel
theorem ef22_ (m : MethodId) (x0 : Addr) (x1 : Int32) (x2 : Int32) : entryFrame m #[(.ref x0), (.int x1), (.int x2)] 6 = mkF m 0 #[.val (.ref x0), .val (.int x1), .val (.int x2), .unset, .unset, .unset] [] := by first | (simp [entryFrame, mkF, argsToLocals, Value.category]; done) | rfl
theorem rmCB (l : Launch) (Z : State) (a0 : Array Value) (hw : HW a0 Z) (ws : List Jvm.Cond) (a1 : Addr) (kc : ClassId) (cs : List Int32) (h0 : Heap) (n0 : Nat) (Z0 : n0 ≤ h0.size) (hG : GST Z) (O0 : Old Z n0 h0) (V_a1 : Arv Z h0 a1 kc .byte (Int32.ofNat (2 * cs.length)) (wideBytes cs) (.int (0 : Int32))) (h64 : 64 < cs.length) (hm : cs.length ≤ 127) (hc : ∀ c ∈ cs, ¬ c < 0 ∧ ¬ (65535 : Int32) < c) :
    Met l Z ws m22_ jdk_52_method_17_code 6 (some (.array .byte)) ({ frames := 4, cells := 2, slots := 198, locals := 74 } : Room) h0 #[(.ref a1), (.int (0 : Int32)), (.int (Int32.ofNat 64))] (QCo Z (cs.take 64) h0 n0) := by
  refine MetFree.of_bodySF (plainFor_of_name pn1_) hisR ?_
  intro p e s m args below meth c s₁ Bd hml0 hP hK
  obtain ⟨rfl, hZ, hh⟩ := hP
  have hx := Bd.exec
  have hby := Bd.bytes
  have hml : c.maxLocals = 6 := hml0
  have hown : s.vm.findClass "java/lang/StringUTF16" = some m.cls := findClass_of_methodNamed Bd.named
  have X0 : Stand p l e ({ frames := 4, cells := 2, slots := 198, locals := 74 } : Room) s m #[(.ref a1), (.int (0 : Int32)), (.int (Int32.ofNat 64))] below meth c s₁ [] 0 0 := Stand.of_body Bd
  have e0 : s₁.heap = h0 := by rw [← hh, Bd.state]; rfl
  have N0 := Fr.nil n0
  have pre0 : ∀ t, Steps p.tables e below (s₁.setTop (mkF m 0 #[.val (.ref a1), .val (.int (0 : Int32)), .val (.int (Int32.ofNat 64)), .unset, .unset, .unset] [])) t → Steps p.tables e below (s₁.setTop (entryFrame m #[(.ref a1), (.int (0 : Int32)), (.int (Int32.ofNat 64))] 6)) t := fun t k => castTop (ef22_ m a1 (0 : Int32) (Int32.ofNat 64)) k
  obtain ⟨⟨G1, O2, P5⟩, ⟨G3, O4, rG3⟩, Sa, Sh, Sl⟩ := id hG
  have hJ := own_J_le (cs.take 64)
  rw [List.length_take, Nat.min_eq_left (by omega)] at hJ
  obtain ⟨T1, h1, ka1, X1, e1, E1, A1, st1⟩ := newP X0 hx hZ (wt hw 16 rfl) e0 (g := (mkF m 1 #[.val (.ref a1), .val (.int (0 : Int32)), .val (.int (Int32.ofNat 64)), .unset, .unset, .unset] [(.int (Int32.ofNat 64))])) rfl (hb hby k22_1) rfl (by decide) (cap := 64) (by decide) (by decide) (by decide) (by decide)
  obtain ⟨b1, g1⟩ : ∃ z, z = h0.size := ⟨_, rfl⟩
  rw [← g1] at A1 st1
  have sz_b1 : h0.size ≤ b1 := Nat.le_trans (Keep.refl h0 []).1 (Nat.le_of_eq g1.symm)
  have g_b1 : n0 ≤ b1 := Nat.le_trans Z0 sz_b1
  have K1 : Keep h0 h1 [] := (Keep.refl h0 []).ext E1
  have V_b1 : Arv Z h1 b1 ka1 .byte (Int32.ofNat 64) [] (.int (0 : Int32)) := Arv.new A1 (by decide)
  have f3 : Old Z n0 h1 := (O0.ext E1)
  have f4 : Arv Z h1 a1 kc .byte (Int32.ofNat (2 * cs.length)) (wideBytes cs) (.int (0 : Int32)) := (V_a1.ext E1)
  obtain ⟨_, _, ⟨T2, L2, k2, n2⟩, -, X2, ⟨Lc2, hQ2, l2, y2, z2⟩, st2⟩ := Jvm.LawKit.callS X1 hx (y := m14_) hown (mvT hZ (wt hw 231 rfl)) (mvT hZ (wt hw 232 rfl)) (mvT hZ (wt hw 46 rfl)) (mvT hZ (wt hw 233 rfl)) (by decide) (backOf (W := 0) (rmC7 l Z a0 hw [] a1 b1 kc ka1 64 cs h1 n0 (Nat.le_trans Z0 K1.1) hG f3 f4 V_b1 (by omega) hm hc g_b1 (Nat.ne_of_lt (Nat.lt_of_lt_of_le V_a1.lt (Nat.le_of_eq g1.symm)))) hZ (wt hw 233 rfl) (wt hw 46 rfl) (by decide) (by decide)) (g := (mkF m 9 #[.val (.ref a1), .val (.int (0 : Int32)), .val (.int (Int32.ofNat 64)), .val (.ref b1), .unset, .unset] [(.int (Int32.ofNat 64)), (.int (0 : Int32)), (.ref b1), (.int (0 : Int32)), (.ref a1)])) rfl (by rw [hml]; rfl) (argsL := [(.ref a1), (.int (0 : Int32)), (.ref b1), (.int (0 : Int32)), (.int (Int32.ofNat 64))]) (rest := []) (lenOf pd16_ rfl) rfl (by show 2 * 0 + _ ≤ _; exact Nat.le_of_eq rfl) (hb hby k22_9) (fun _ _ => ⟨rfl, e1, (by decide : 1 + 0 ≤ _), (by decide : 64 + 0 ≤ _)⟩)
  dsimp only [Pt.U, Pt.locs, Pt.cells, Pt.slots] at X2 l2 y2 z2 st2 hQ2
  rw [l2] at X2
  clear l2; subst y2 z2
  obtain ⟨rfl, N2q, K2q, Ca2⟩ := hQ2
  have N2a := Fr.app N0 N2q
  have K2 : Keep h0 T2.heap [] := K1.trans K2q (allS (Or.inr sz_b1) all0)
  have cut5 : ∀ t, Steps p.tables e below (T2.setTop (mkF m 17 #[.val (.ref a1), .val (.int (0 : Int32)), .val (.int (Int32.ofNat 64)), .val (.ref b1), .val (.int (Int32.ofNat (own_J (cs.take 64)))), .unset] [(.int (Int32.ofNat 64)), (.int (Int32.ofNat (own_J (cs.take 64))))])) t → Steps p.tables e below (s₁.setTop (mkF m 0 #[.val (.ref a1), .val (.int (0 : Int32)), .val (.int (Int32.ofNat 64)), .unset, .unset, .unset] [])) t := fun t kk => by
    show Steps p.tables e below (s₁.setTop (mkF m 0 #[.val (.ref a1), .val (.int (0 : Int32)), .val (.int (Int32.ofNat 64)), .unset, .unset, .unset] [])) _
    refine XS.iloadN X0.here hx rfl (hb hby k22_0) rfl ?_
    show Steps p.tables e below (s₁.setTop (mkF m 1 #[.val (.ref a1), .val (.int (0 : Int32)), .val (.int (Int32.ofNat 64)), .unset, .unset, .unset] [(.int (Int32.ofNat 64))])) _
    refine st1 _ ?_
    refine XS.astoreN X1.here hx rfl (hb hby k22_3) rfl rfl (l' := #[.val (.ref a1), .val (.int (0 : Int32)), .val (.int (Int32.ofNat 64)), .val (.ref b1), .unset, .unset]) rfl ?_
    refine XS.aloadN X1.here hx rfl (hb hby k22_4) rfl rfl ?_
    refine XS.iloadN X1.here hx rfl (hb hby k22_5) rfl ?_
    refine XS.aloadN X1.here hx rfl (hb hby k22_6) rfl rfl ?_
    show Steps p.tables e below (T1.setTop (mkF m 7 #[.val (.ref a1), .val (.int (0 : Int32)), .val (.int (Int32.ofNat 64)), .val (.ref b1), .unset, .unset] [(.ref b1), (.int (0 : Int32)), (.ref a1)])) _
    refine XS.iconst X1.here hx rfl (hb hby k22_7) ?_
    refine XS.iloadN X1.here hx rfl (hb hby k22_8) rfl ?_
    show Steps p.tables e below (T1.setTop (mkF m 9 #[.val (.ref a1), .val (.int (0 : Int32)), .val (.int (Int32.ofNat 64)), .val (.ref b1), .unset, .unset] [(.int (Int32.ofNat 64)), (.int (0 : Int32)), (.ref b1), (.int (0 : Int32)), (.ref a1)])) _
    refine st2 _ ?_
    refine XS.istore X2.here hx rfl (hb hby k22_12) rfl (l' := #[.val (.ref a1), .val (.int (0 : Int32)), .val (.int (Int32.ofNat 64)), .val (.ref b1), .val (.int (Int32.ofNat (own_J (cs.take 64)))), .unset]) rfl ?_
    refine XS.iload X2.here hx rfl (hb hby k22_14) rfl ?_
    refine XS.iloadN X2.here hx rfl (hb hby k22_16) rfl ?_
    exact kk
  by_cases hJn : (own_J (cs.take 64)) = 64
  · obtain ⟨fs, hr, hrun, hended, hW, hsame⟩ := X2.leave (v := some (.ref b1)) (fun h => by rw [Bd.returns] at h; cases h)
    refine ⟨_, _, pre0 _ ?_, hrun, hended, _, _, rfl, ?_, ⟨_, rfl⟩, hW, hsame.mono (by decide) (by decide)⟩
    · refine cut5 _ ?_
      show Steps p.tables e below (T2.setTop (mkF m 17 #[.val (.ref a1), .val (.int (0 : Int32)), .val (.int (Int32.ofNat 64)), .val (.ref b1), .val (.int (Int32.ofNat (own_J (cs.take 64)))), .unset] [(.int (Int32.ofNat 64)), (.int (Int32.ofNat (own_J (cs.take 64))))])) _
      refine XS.icmpYes X2.here hx rfl (pc0 := 17) (pc' := 64) rfl (hb hby k22_17) rfl (teq (congrArg Int32.ofNat hJn : (Int32.ofNat (own_J (cs.take 64))) = (Int32.ofNat 64))).1 (by decide) (by decide) ?_
      refine XS.aloadN X2.here hx rfl (hb hby k22_64) rfl rfl ?_
      show Steps p.tables e below (T2.setTop (mkF m 65 #[.val (.ref a1), .val (.int (0 : Int32)), .val (.int (Int32.ofNat 64)), .val (.ref b1), .val (.int (Int32.ofNat (own_J (cs.take 64)))), .unset] [(.ref b1)])) _
      jvm_step X2.here [X2.here.top, hx, (hb hby k22_65), X2.method', Bd.returns, Value.isRef, FieldType.isReference]
      first | (intro acts; rw [hr _ acts rfl rfl rfl]) | rw [hr _ _ rfl rfl rfl]
      exact Steps.refl _
    · show QCo Z (cs.take 64) h0 n0 _ T2.heap _
      exact ⟨b1, ka1, (0 : Int32), _, _, rfl, N2a, K2, sz_b1, Ca2, Or.inl ⟨rfl, by rw [List.length_take, Nat.min_eq_left (by omega)], by rw [hJn, List.take_of_length_le (by simp; omega)]; rfl, own_J_all (by rw [hJn, List.length_take, Nat.min_eq_left (by omega)])⟩⟩
  · have hJ2 : (own_J (cs.take 64)) < (cs.take 64).length := by rw [List.length_take, Nat.min_eq_left (by omega)]; omega
    obtain ⟨_, _, ⟨T6, L6, k6, n6⟩, -, X6, ⟨Lc6, hQ6, l6, y6, z6⟩, st6⟩ := Jvm.LawKit.callS X2 hx (y := m4_) hown (mvT hZ (wt hw 60 rfl)) (mvT hZ (wt hw 61 rfl)) (mvT hZ (wt hw 46 rfl)) (mvT hZ (wt hw 62 rfl)) (by decide) (backOf (W := 2) (rmNl l Z a0 hw [] 64 T2.heap n0 (Nat.le_trans Z0 K2.1) (by decide)) hZ (wt hw 62 rfl) (wt hw 46 rfl) (by decide) (by decide)) (g := (mkF m 27 #[.val (.ref a1), .val (.int (0 : Int32)), .val (.int (Int32.ofNat 64)), .val (.ref b1), .val (.int (Int32.ofNat (own_J (cs.take 64)))), .unset] [(.int (Int32.ofNat 64)), (.int (0 : Int32)), (.ref a1)])) rfl (by rw [hml]; rfl) (argsL := [(.int (Int32.ofNat 64))]) (rest := [(.int (0 : Int32)), (.ref a1)]) (lenOf pd1_ rfl) rfl (by show 2 * 0 + _ ≤ _; exact Nat.le_of_eq rfl) (hb hby k22_27) (fun _ _ => ⟨rfl, rfl, (by decide : 1 + 0 ≤ _), (by decide : 64 + 0 ≤ _)⟩)
    dsimp only [Pt.U, Pt.locs, Pt.cells, Pt.slots] at X6 l6 y6 z6 st6 hQ6
    rw [l6] at X6
    clear l6; subst y6 z6
    obtain ⟨rfl, N6q, e6q⟩ := hQ6
    have N6a := Fr.app N2a N6q
    have f8 : Arv Z T2.heap a1 kc .byte (Int32.ofNat (2 * cs.length)) (wideBytes cs) (.int (0 : Int32)) := (f4.keep K2q (ninS (Nat.ne_of_lt (Nat.lt_of_lt_of_le V_a1.lt (Nat.le_of_eq g1.symm))) nin0))
    obtain ⟨_, _, ⟨T7, L7, k7, n7⟩, -, X7, ⟨Lc7, hQ7, l7, y7, z7⟩, st7⟩ := Jvm.LawKit.callS X6 hx (y := m19_) hown (mvT hZ (wt hw 246 rfl)) (mvT hZ (wt hw 116 rfl)) (mvT hZ (wt hw 117 rfl)) (mvT hZ (wt hw 118 rfl)) (by decide) (backOf (W := 0) (rmCr l Z a0 hw [] a1 kc (2 * 64) (2 * cs.length) (wideBytes cs) T2.heap n0 (Nat.le_trans Z0 K2.1) f8 (by rw [own_wlen]; omega) (by omega) (by decide) (by omega)) hZ (wt hw 118 rfl) (wt hw 117 rfl) (by decide) (by decide)) (g := (mkF m 30 #[.val (.ref a1), .val (.int (0 : Int32)), .val (.int (Int32.ofNat 64)), .val (.ref b1), .val (.int (Int32.ofNat (own_J (cs.take 64)))), .unset] [(.int (Int32.ofNat (2 * 64))), (.int (0 : Int32)), (.ref a1)])) rfl (by rw [hml]; rfl) (argsL := [(.ref a1), (.int (0 : Int32)), (.int (Int32.ofNat (2 * 64)))]) (rest := []) (lenOf pd14_ rfl) rfl (by show 2 * 0 + _ ≤ _; exact Nat.le_of_eq rfl) (hb hby k22_30) (fun _ _ => ⟨rfl, e6q, (by decide : 1 + 1 ≤ _), (by decide : 64 + 134 ≤ _)⟩)
    dsimp only [Pt.U, Pt.locs, Pt.cells, Pt.slots] at X7 l7 y7 z7 st7 hQ7
    rw [l7] at X7
    clear l7; subst y7 z7
    obtain ⟨t7, tk7, rfl, N7q, K7q, ts7, Ta7⟩ := hQ7
    have N7a := Fr.app N6a N7q
    have K3 : Keep h0 T7.heap [] := K2.trans K7q all0
    have sz_t7 : h0.size ≤ t7 := Nat.le_trans K2.1 ts7
    have Wt10 : Arv Z T7.heap t7 tk7 .byte (Int32.ofNat (2 * 64)) (wideBytes (cs.take 64)) (.int (0 : Int32)) := by
      have q := Ta7
      rw [own_wtake] at q; exact q
    have f11 : Old Z n0 T7.heap := ((f3.keep K2q (allS g_b1 all0)).keep K7q all0)
    obtain ⟨_, _, ⟨T9, L9, k9, n9⟩, -, X9, ⟨Lc9, hQ9, l9, y9, z9⟩, st9⟩ := Jvm.LawKit.callS X7 hx (y := m2_) hown (mvT hZ (wt hw 70 rfl)) (mvT hZ (wt hw 71 rfl)) (mvT hZ (wt hw 46 rfl)) (mvT hZ (wt hw 72 rfl)) (by decide) (backOf (W := 0) (rmGc l Z a0 hw [] t7 tk7 (own_J (cs.take 64)) (2 * 64) (cs.take 64) T7.heap n0 (Nat.le_trans Z0 K3.1) hG f11 Wt10 hJ2 (by rw [List.length_take, Nat.min_eq_left (by omega)]; omega) (by decide) (fun c hc' => hc c (List.mem_of_mem_take hc'))) hZ (wt hw 72 rfl) (wt hw 46 rfl) (by decide) (by decide)) (g := (mkF m 39 #[.val (.ref a1), .val (.int (0 : Int32)), .val (.int (Int32.ofNat 64)), .val (.ref b1), .val (.int (Int32.ofNat (own_J (cs.take 64)))), .val (.ref t7)] [(.int (Int32.ofNat (own_J (cs.take 64)))), (.ref t7)])) rfl (by rw [hml]; rfl) (argsL := [(.ref t7), (.int (Int32.ofNat (own_J (cs.take 64))))]) (rest := []) (lenOf pd6_ rfl) rfl (by show 2 * 0 + _ ≤ _; exact Nat.le_of_eq rfl) (hb hby k22_39) (fun _ _ => ⟨rfl, rfl, (by decide : 2 + 0 ≤ _), (by decide : 198 + 0 ≤ _)⟩)
    dsimp only [Pt.U, Pt.locs, Pt.cells, Pt.slots] at X9 l9 y9 z9 st9 hQ9
    rw [l9] at X9
    clear l9; subst y9 z9
    obtain ⟨rfl, N9q, e9q⟩ := hQ9
    have N9a := Fr.app N7a N9q
    obtain ⟨fs, hr, hrun, hended, hW, hsame⟩ := X9.leave (v := some (.ref t7)) (fun h => by rw [Bd.returns] at h; cases h)
    refine ⟨_, _, pre0 _ ?_, hrun, hended, _, _, rfl, ?_, ⟨_, rfl⟩, hW, hsame.mono (by decide) (by decide)⟩
    · refine cut5 _ ?_
      show Steps p.tables e below (T2.setTop (mkF m 17 #[.val (.ref a1), .val (.int (0 : Int32)), .val (.int (Int32.ofNat 64)), .val (.ref b1), .val (.int (Int32.ofNat (own_J (cs.take 64)))), .unset] [(.int (Int32.ofNat 64)), (.int (Int32.ofNat (own_J (cs.take 64))))])) _
      refine XS.icmpNo X2.here hx rfl (hb hby k22_17) rfl (feq (fun q => hJn ((own_eq_of (by omega) (by omega)).mp q) : ¬ ((Int32.ofNat (own_J (cs.take 64))) = (Int32.ofNat 64)))).1 ?_
      refine XS.aloadN X2.here hx rfl (hb hby k22_20) rfl rfl ?_
      refine XS.iloadN X2.here hx rfl (hb hby k22_21) rfl ?_
      refine XS.iconst X2.here hx rfl (hb hby k22_22) ?_
      refine XS.ishl X2.here hx rfl (hb hby k22_23) rfl ?_
      show Steps p.tables e below (T2.setTop (mkF m 24 #[.val (.ref a1), .val (.int (0 : Int32)), .val (.int (Int32.ofNat 64)), .val (.ref b1), .val (.int (Int32.ofNat (own_J (cs.take 64)))), .unset] [(.int ((0 : Int32) <<< ((1 : Int32) &&& 31))), (.ref a1)])) _
      rw [(by decide : ((0 : Int32) <<< ((1 : Int32) &&& 31)) = (0 : Int32))]
      refine XS.iloadN X2.here hx rfl (hb hby k22_24) rfl ?_
      refine XS.iloadN X2.here hx rfl (hb hby k22_25) rfl ?_
      refine XS.iadd X2.here hx rfl (hb hby k22_26) rfl ?_
      show Steps p.tables e below (T2.setTop (mkF m 27 #[.val (.ref a1), .val (.int (0 : Int32)), .val (.int (Int32.ofNat 64)), .val (.ref b1), .val (.int (Int32.ofNat (own_J (cs.take 64)))), .unset] [(.int ((0 : Int32) + (Int32.ofNat 64))), (.int (0 : Int32)), (.ref a1)])) _
      rw [own_add0]
      show Steps p.tables e below (T2.setTop (mkF m 27 #[.val (.ref a1), .val (.int (0 : Int32)), .val (.int (Int32.ofNat 64)), .val (.ref b1), .val (.int (Int32.ofNat (own_J (cs.take 64)))), .unset] [(.int (Int32.ofNat 64)), (.int (0 : Int32)), (.ref a1)])) _
      refine st6 _ ?_
      show Steps p.tables e below (T6.setTop (mkF m 30 #[.val (.ref a1), .val (.int (0 : Int32)), .val (.int (Int32.ofNat 64)), .val (.ref b1), .val (.int (Int32.ofNat (own_J (cs.take 64)))), .unset] [(.int (Int32.ofNat (2 * 64))), (.int (0 : Int32)), (.ref a1)])) _
      refine st7 _ ?_
      refine XS.astore X7.here hx rfl (hb hby k22_33) rfl rfl (l' := #[.val (.ref a1), .val (.int (0 : Int32)), .val (.int (Int32.ofNat 64)), .val (.ref b1), .val (.int (Int32.ofNat (own_J (cs.take 64)))), .val (.ref t7)]) rfl ?_
      refine XS.aload X7.here hx rfl (hb hby k22_35) rfl rfl ?_
      refine XS.iload X7.here hx rfl (hb hby k22_37) rfl ?_
      show Steps p.tables e below (T7.setTop (mkF m 39 #[.val (.ref a1), .val (.int (0 : Int32)), .val (.int (Int32.ofNat 64)), .val (.ref b1), .val (.int (Int32.ofNat (own_J (cs.take 64)))), .val (.ref t7)] [(.int (Int32.ofNat (own_J (cs.take 64)))), (.ref t7)])) _
      refine st9 _ ?_
      refine XS.sipush X9.here hx rfl (hb hby k22_42) ?_
      show Steps p.tables e below (T9.setTop (mkF m 45 #[.val (.ref a1), .val (.int (0 : Int32)), .val (.int (Int32.ofNat 64)), .val (.ref b1), .val (.int (Int32.ofNat (own_J (cs.take 64)))), .val (.ref t7)] [(.int (255 : Int32)), (.int ((cs.take 64).getD (own_J (cs.take 64)) 0))])) _
      refine XS.icmpYes X9.here hx rfl (pc0 := 45) (pc' := 61) rfl (hb hby k22_45) rfl (tlt (own_J_at hJ2 : (255 : Int32) < ((cs.take 64).getD (own_J (cs.take 64)) 0))).2.2.1 (by decide) (by decide) ?_
      refine XS.aload X9.here hx rfl (hb hby k22_61) rfl rfl ?_
      show Steps p.tables e below (T9.setTop (mkF m 63 #[.val (.ref a1), .val (.int (0 : Int32)), .val (.int (Int32.ofNat 64)), .val (.ref b1), .val (.int (Int32.ofNat (own_J (cs.take 64)))), .val (.ref t7)] [(.ref t7)])) _
      jvm_step X9.here [X9.here.top, hx, (hb hby k22_63), X9.method', Bd.returns, Value.isRef, FieldType.isReference]
      first | (intro acts; rw [hr _ acts rfl rfl rfl]) | rw [hr _ _ rfl rfl rfl]
      exact Steps.refl _
    · show QCo Z (cs.take 64) h0 n0 _ T9.heap _
      rw [e9q]
      exact ⟨t7, tk7, (1 : Int32), _, _, rfl, N9a, K3, sz_t7, Wt10, Or.inr ⟨rfl, by rw [List.length_take, Nat.min_eq_left (by omega)], rfl, _, own_mem hJ2, own_J_at hJ2⟩⟩
theorem k23_0 : decode c23_ 0 = .ok (.iload_n 2, 1) := by decide +kernel
theorem k23_1 : decode c23_ 1 = .ok (.ifCond .ne 7, 3) := by decide +kernel
theorem k23_8 : decode c23_ 8 = .ok (.getstatic 251, 3) := by decide +kernel
theorem k23_11 : decode c23_ 11 = .ok (.ifCond .eq 28, 3) := by decide +kernel
theorem k23_14 : decode c23_ 14 = .ok (.aload_n 0, 1) := by decide +kernel
theorem k23_15 : decode c23_ 15 = .ok (.iload_n 1, 1) := by decide +kernel
theorem k23_16 : decode c23_ 16 = .ok (.iload_n 2, 1) := by decide +kernel
theorem k23_17 : decode c23_ 17 = .ok (.invokestatic 257, 3) := by decide +kernel
theorem k23_20 : decode c23_ 20 = .ok (.astore_n 3, 1) := by decide +kernel
theorem k23_21 : decode c23_ 21 = .ok (.aload_n 3, 1) := by decide +kernel
theorem k23_22 : decode c23_ 22 = .ok (.iload_n 2, 1) := by decide +kernel
theorem k23_23 : decode c23_ 23 = .ok (.invokestatic 259, 3) := by decide +kernel
theorem k23_26 : decode c23_ 26 = .ok (.istore 4, 2) := by decide +kernel
theorem k23_28 : decode c23_ 28 = .ok (.new 3, 3) := by decide +kernel
theorem k23_31 : decode c23_ 31 = .ok (.dup, 1) := by decide +kernel
theorem k23_32 : decode c23_ 32 = .ok (.aload_n 3, 1) := by decide +kernel
theorem k23_33 : decode c23_ 33 = .ok (.iload 4, 2) := by decide +kernel
theorem k23_35 : decode c23_ 35 = .ok (.invokespecial 263, 3) := by decide +kernel
theorem k23_38 : decode c23_ 38 = .ok (.areturn, 1) := by decide +kernel
theorem ef23_ (m : MethodId) (x0 : Addr) (x1 : Int32) (x2 : Int32) : entryFrame m #[(.ref x0), (.int x1), (.int x2)] 5 = mkF m 0 #[.val (.ref x0), .val (.int x1), .val (.int x2), .unset, .unset] [] := by first | (simp [entryFrame, mkF, argsToLocals, Value.category]; done) | rfl
theorem rmUn (l : Launch) (Z : State) (a0 : Array Value) (hw : HW a0 Z) (ws : List Jvm.Cond) (b : Addr) (kb : ClassId) (cs : List Int32) (h0 : Heap) (n0 : Nat) (Z0 : n0 ≤ h0.size) (hG : GST Z) (O0 : Old Z n0 h0) (V_b : Arv Z h0 b kb .byte (Int32.ofNat (2 * cs.length)) (wideBytes cs) (.int (0 : Int32))) (h64 : 64 < cs.length) (hm : cs.length ≤ 127) (hc : ∀ c ∈ cs, ¬ c < 0 ∧ ¬ (65535 : Int32) < c) :
    Met l Z ws m23_ jdk_52_method_69_code 5 (some (.object "java/lang/String")) ({ frames := 5, cells := 3, slots := 202, locals := 91 } : Room) h0 #[(.ref b), (.int (0 : Int32)), (.int (Int32.ofNat 64))] (QSr Z (cs.take 64) h0 n0) := by
  refine MetFree.of_bodySF (plainFor_of_name pn1_) hisR ?_
  intro p e s m args below meth c s₁ Bd hml0 hP hK
  obtain ⟨rfl, hZ, hh⟩ := hP
  have hx := Bd.exec
  have hby := Bd.bytes
  have hml : c.maxLocals = 5 := hml0
  have hown : s.vm.findClass "java/lang/StringUTF16" = some m.cls := findClass_of_methodNamed Bd.named
  have X0 : Stand p l e ({ frames := 5, cells := 3, slots := 202, locals := 91 } : Room) s m #[(.ref b), (.int (0 : Int32)), (.int (Int32.ofNat 64))] below meth c s₁ [] 0 0 := Stand.of_body Bd
  have e0 : s₁.heap = h0 := by rw [← hh, Bd.state]; rfl
  have N0 := Fr.nil n0
  have pre0 : ∀ t, Steps p.tables e below (s₁.setTop (mkF m 0 #[.val (.ref b), .val (.int (0 : Int32)), .val (.int (Int32.ofNat 64)), .unset, .unset] [])) t → Steps p.tables e below (s₁.setTop (entryFrame m #[(.ref b), (.int (0 : Int32)), (.int (Int32.ofNat 64))] 5)) t := fun t k => castTop (ef23_ m b (0 : Int32) (Int32.ofNat 64)) k
  obtain ⟨⟨G1, O2, P5⟩, ⟨G3, O4, rG3⟩, Sa, Sh, Sl⟩ := id hG
  obtain ⟨T1, X1, e1, st1⟩ := getS2 X0 hx hZ hown (host := "") (Or.inl (wt hw 227 rfl)) Via.refl e0 (O2.ext O0.2) (g := (mkF m 8 #[.val (.ref b), .val (.int (0 : Int32)), .val (.int (Int32.ofNat 64)), .unset, .unset] [])) rfl (hb hby k23_8)
  obtain ⟨_, _, ⟨T2, L2, k2, n2⟩, -, X2, ⟨Lc2, hQ2, l2, y2, z2⟩, st2⟩ := Jvm.LawKit.callS X1 hx (y := m22_) hown (mvT hZ (wt hw 228 rfl)) (mvT hZ (wt hw 229 rfl)) (mvT hZ (wt hw 46 rfl)) (mvT hZ (wt hw 230 rfl)) (by decide) (backOf (W := 0) (rmCB l Z a0 hw [] b kb cs h0 n0 (Nat.le_trans Z0 (Keep.refl h0 []).1) hG O0 V_b h64 hm hc) hZ (wt hw 230 rfl) (wt hw 46 rfl) (by decide) (by decide)) (g := (mkF m 17 #[.val (.ref b), .val (.int (0 : Int32)), .val (.int (Int32.ofNat 64)), .unset, .unset] [(.int (Int32.ofNat 64)), (.int (0 : Int32)), (.ref b)])) rfl (by rw [hml]; rfl) (argsL := [(.ref b), (.int (0 : Int32)), (.int (Int32.ofNat 64))]) (rest := []) (lenOf pd14_ rfl) rfl (by show 2 * 0 + _ ≤ _; exact Nat.le_of_eq rfl) (hb hby k23_17) (fun _ _ => ⟨rfl, e1, (by decide : 0 + 2 ≤ _), (by decide : 0 + 198 ≤ _)⟩)
  dsimp only [Pt.U, Pt.locs, Pt.cells, Pt.slots] at X2 l2 y2 z2 st2 hQ2
  rw [l2] at X2
  clear l2; subst y2 z2
  obtain ⟨t2, tk2, td2, tz2, tv2, rfl, N2q, K2q, ts2, Ta2, tq2⟩ := hQ2
  have N2a := Fr.app N0 N2q
  have K1 : Keep h0 T2.heap [] := (Keep.refl h0 []).trans K2q all0
  obtain ⟨_, _, ⟨T3, L3, k3, n3⟩, -, X3, ⟨Lc3, hQ3, l3, y3, z3⟩, st3⟩ := Jvm.LawKit.callS X2 hx (y := m9_) hown (mvT hZ (wt hw 247 rfl)) (mvT hZ (wt hw 52 rfl)) (mvT hZ (wt hw 46 rfl)) (mvT hZ (wt hw 53 rfl)) (by decide) (backOf (W := 0) (rmK l Z a0 hw [] t2 tk2 64 (cs.take 64) td2 tz2 tv2 T2.heap n0 (Nat.le_trans Z0 K1.1) Ta2 tq2 (by rw [List.length_take, Nat.min_eq_left (by omega)]) (by decide) (by decide)) hZ (wt hw 53 rfl) (wt hw 46 rfl) (by decide) (by decide)) (g := (mkF m 23 #[.val (.ref b), .val (.int (0 : Int32)), .val (.int (Int32.ofNat 64)), .val (.ref t2), .unset] [(.int (Int32.ofNat 64)), (.ref t2)])) rfl (by rw [hml]; rfl) (argsL := [(.ref t2), (.int (Int32.ofNat 64))]) (rest := []) (lenOf pd7_ rfl) rfl (by show 2 * 0 + _ ≤ _; exact Nat.le_of_eq rfl) (hb hby k23_23) (fun _ _ => ⟨rfl, rfl, (by decide : 2 + 0 ≤ _), (by decide : 198 + 0 ≤ _)⟩)
  dsimp only [Pt.U, Pt.locs, Pt.cells, Pt.slots] at X3 l3 y3 z3 st3 hQ3
  rw [l3] at X3
  clear l3; subst y3 z3
  obtain ⟨rfl, N3q, e3q⟩ := hQ3
  have N3a := Fr.app N2a N3q
  obtain ⟨T4, h4, X4, e4, E4, A4, D4, -, st4⟩ := newO X3 hx hZ hown (wt hw 248 rfl) (wt hw 3 rfl) (wt hw 4 rfl) e3q (g := (mkF m 28 #[.val (.ref b), .val (.int (0 : Int32)), .val (.int (Int32.ofNat 64)), .val (.ref t2), .val (.int td2)] [])) rfl (hb hby k23_28) (by decide) (by decide)
  obtain ⟨b4, g4⟩ : ∃ z, z = T2.heap.size := ⟨_, rfl⟩
  rw [← g4] at A4 D4 st4
  have sz_b4 : h0.size ≤ b4 := Nat.le_trans K1.1 (Nat.le_of_eq g4.symm)
  have g_b4 : n0 ≤ b4 := Nat.le_trans Z0 sz_b4
  have K2 : Keep h0 h4 [] := K1.ext E4
  have F_value_b4 : Fld Z h4 b4 "java/lang/String" "value" "[B" .null := D4 (Or.inr (wt hw 17 rfl)) (ty := (.array .byte)) (by decide)
  have F_coder_b4 : Fld Z h4 b4 "java/lang/String" "coder" "B" (.int (0 : Int32)) := D4 (Or.inr (wt hw 18 rfl)) (ty := .byte) (by decide)
  obtain ⟨_, _, ⟨T5, L5, k5, n5⟩, -, X5, ⟨Lc5, hQ5, l5, y5, z5⟩, st5⟩ := X4.specialBack hx (y := m20_) rfl hown (mvT hZ (wt hw 249 rfl)) (mvT hZ (wt hw 134 rfl)) (mvT hZ (wt hw 135 rfl)) (by decide) (backOf (W := 1) (rmBB l Z a0 hw [] b4 t2 td2 .null (.int (0 : Int32)) h4 n0 (Nat.le_trans Z0 K2.1) A4 F_value_b4 F_coder_b4 g_b4 (own_cd_nar tq2)) hZ (wt hw 135 rfl) (wt hw 4 rfl) (by decide) (by decide)) (g := (mkF m 35 #[.val (.ref b), .val (.int (0 : Int32)), .val (.int (Int32.ofNat 64)), .val (.ref t2), .val (.int td2)] [(.int td2), (.ref t2), (.ref b4), (.ref b4)])) rfl (by rw [hml]; rfl) (Steps.refl _) (a := b4) (argsL := [(.ref t2), (.int td2)]) (rest := [(.ref b4)]) (lenOf pd15_ rfl) rfl (by show 2 * 0 + _ ≤ _; exact Nat.le_of_eq rfl) (hb hby k23_35) (fun _ _ => ⟨rfl, e4, (by decide : 3 + 0 ≤ _), (by decide : 202 + 0 ≤ _)⟩)
  dsimp only [Pt.U, Pt.locs, Pt.cells, Pt.slots] at X5 l5 y5 z5 st5 hQ5
  rw [l5] at X5
  clear l5; subst y5 z5
  obtain ⟨rfl, N5q, K5q, Xv5, Xc5⟩ := hQ5
  have N5a := Fr.app N3a N5q
  have K3 : Keep h0 T5.heap [] := K2.trans K5q (allS (Or.inr sz_b4) all0)
  have f6 : Exa Z T5.heap b4 "java/lang/String" := (A4.keep K5q)
  have f7 : Arv Z T5.heap t2 tk2 .byte tz2 tv2 (.int (0 : Int32)) := ((Ta2.ext E4).keep K5q (ninS (Nat.ne_of_lt (Nat.lt_of_lt_of_le Ta2.lt (Nat.le_of_eq g4.symm))) nin0))
  obtain ⟨fs, hr, hrun, hended, hW, hsame⟩ := X5.leave (v := some (.ref b4)) (fun h => by rw [Bd.returns] at h; cases h)
  refine ⟨_, _, pre0 _ ?_, hrun, hended, _, _, rfl, ?_, ⟨_, rfl⟩, hW, hsame.mono (by decide) (by decide)⟩
  · show Steps p.tables e below (s₁.setTop (mkF m 0 #[.val (.ref b), .val (.int (0 : Int32)), .val (.int (Int32.ofNat 64)), .unset, .unset] [])) _
    refine XS.iloadN X0.here hx rfl (hb hby k23_0) rfl ?_
    show Steps p.tables e below (s₁.setTop (mkF m 1 #[.val (.ref b), .val (.int (0 : Int32)), .val (.int (Int32.ofNat 64)), .unset, .unset] [(.int (Int32.ofNat 64))])) _
    refine XS.ifYes X0.here hx rfl (pc0 := 1) (pc' := 8) rfl (hb hby k23_1) rfl ((if0 _ _).trans (feq (by decide : ¬ ((Int32.ofNat 64) = (0 : Int32)))).2) (by decide) (by decide) ?_
    show Steps p.tables e below (s₁.setTop (mkF m 8 #[.val (.ref b), .val (.int (0 : Int32)), .val (.int (Int32.ofNat 64)), .unset, .unset] [])) _
    refine st1 _ ?_
    show Steps p.tables e below (T1.setTop (mkF m 11 #[.val (.ref b), .val (.int (0 : Int32)), .val (.int (Int32.ofNat 64)), .unset, .unset] [(.int G1)])) _
    refine XS.ifNo X1.here hx rfl (hb hby k23_11) rfl ((if0 _ _).trans (feq (P5 : ¬ (G1 = (0 : Int32)))).1) ?_
    refine XS.aloadN X1.here hx rfl (hb hby k23_14) rfl rfl ?_
    refine XS.iloadN X1.here hx rfl (hb hby k23_15) rfl ?_
    refine XS.iloadN X1.here hx rfl (hb hby k23_16) rfl ?_
    show Steps p.tables e below (T1.setTop (mkF m 17 #[.val (.ref b), .val (.int (0 : Int32)), .val (.int (Int32.ofNat 64)), .unset, .unset] [(.int (Int32.ofNat 64)), (.int (0 : Int32)), (.ref b)])) _
    refine st2 _ ?_
    refine XS.astoreN X2.here hx rfl (hb hby k23_20) rfl rfl (l' := #[.val (.ref b), .val (.int (0 : Int32)), .val (.int (Int32.ofNat 64)), .val (.ref t2), .unset]) rfl ?_
    refine XS.aloadN X2.here hx rfl (hb hby k23_21) rfl rfl ?_
    refine XS.iloadN X2.here hx rfl (hb hby k23_22) rfl ?_
    show Steps p.tables e below (T2.setTop (mkF m 23 #[.val (.ref b), .val (.int (0 : Int32)), .val (.int (Int32.ofNat 64)), .val (.ref t2), .unset] [(.int (Int32.ofNat 64)), (.ref t2)])) _
    refine st3 _ ?_
    refine XS.istore X3.here hx rfl (hb hby k23_26) rfl (l' := #[.val (.ref b), .val (.int (0 : Int32)), .val (.int (Int32.ofNat 64)), .val (.ref t2), .val (.int td2)]) rfl ?_
    show Steps p.tables e below (T3.setTop (mkF m 28 #[.val (.ref b), .val (.int (0 : Int32)), .val (.int (Int32.ofNat 64)), .val (.ref t2), .val (.int td2)] [])) _
    refine st4 _ ?_
    refine XS.dup X4.here hx rfl (hb hby k23_31) rfl rfl ?_
    refine XS.aloadN X4.here hx rfl (hb hby k23_32) rfl rfl ?_
    refine XS.iload X4.here hx rfl (hb hby k23_33) rfl ?_
    show Steps p.tables e below (T4.setTop (mkF m 35 #[.val (.ref b), .val (.int (0 : Int32)), .val (.int (Int32.ofNat 64)), .val (.ref t2), .val (.int td2)] [(.int td2), (.ref t2), (.ref b4), (.ref b4)])) _
    refine st5.trans ?_
    show Steps p.tables e below (T5.setTop (mkF m 38 #[.val (.ref b), .val (.int (0 : Int32)), .val (.int (Int32.ofNat 64)), .val (.ref t2), .val (.int td2)] [(.ref b4)])) _
    jvm_step X5.here [X5.here.top, hx, (hb hby k23_38), X5.method', Bd.returns, Value.isRef, FieldType.isReference]
    first | (intro acts; rw [hr _ acts rfl rfl rfl]) | rw [hr _ _ rfl rfl rfl]
    exact Steps.refl _
  · show QSr Z (cs.take 64) h0 n0 _ T5.heap _
    exact ⟨b4, rfl, N5a, K3, t2, _, _, _, _, f6, Xv5, Xc5, f7, tq2, fun c hc' => hc c (List.mem_of_mem_take hc')⟩
theorem k24_0 : decode c24_ 0 = .ok (.iload_n 0, 1) := by decide +kernel
theorem k24_1 : decode c24_ 1 = .ok (.ifCond .lt 13, 3) := by decide +kernel
theorem k24_4 : decode c24_ 4 = .ok (.iload_n 0, 1) := by decide +kernel
theorem k24_5 : decode c24_ 5 = .ok (.iload_n 1, 1) := by decide +kernel
theorem k24_6 : decode c24_ 6 = .ok (.if_icmp .gt 8, 3) := by decide +kernel
theorem k24_9 : decode c24_ 9 = .ok (.iload_n 1, 1) := by decide +kernel
theorem k24_10 : decode c24_ 10 = .ok (.iload_n 2, 1) := by decide +kernel
theorem k24_11 : decode c24_ 11 = .ok (.if_icmp .le 11, 3) := by decide +kernel
theorem k24_22 : decode c24_ 22 = .ok (.iload_n 0, 1) := by decide +kernel
theorem k24_23 : decode c24_ 23 = .ok (.ireturn, 1) := by decide +kernel
theorem ef24_ (m : MethodId) (x0 : Int32) (x1 : Int32) (x2 : Int32) (x3 : Value) (r_ : x3.isRef = true) : entryFrame m #[(.int x0), (.int x1), (.int x2), x3] 4 = mkF m 0 #[.val (.int x0), .val (.int x1), .val (.int x2), .val x3] [] := by
  cases x3 <;> first | (cases r_; done) | (simp [entryFrame, mkF, argsToLocals, Value.category]; done) | rfl
theorem rmFt (l : Launch) (Z : State) (a0 : Array Value) (hw : HW a0 Z) (ws : List Jvm.Cond) (nn : Nat) (G3 : Value) (h0 : Heap) (n0 : Nat) (Z0 : n0 ≤ h0.size) (h64 : 64 < nn) (hm : nn ≤ 127) (rG3 : G3.isRef = true) :
    Met l Z ws m24_ jdk_41_method_12_code 4 (some .int) ({ frames := 0, cells := 0, slots := 0, locals := 0 } : Room) h0 #[(.int (0 : Int32)), (.int (Int32.ofNat 64)), (.int (Int32.ofNat nn)), G3] (QB 0 h0 n0) := by
  refine MetFree.of_bodySF (plainFor_of_name pn2_) hisR ?_
  intro p e s m args below meth c s₁ Bd hml0 hP hK
  obtain ⟨rfl, hZ, hh⟩ := hP
  have hx := Bd.exec
  have hby := Bd.bytes
  have X0 : Stand p l e ({ frames := 0, cells := 0, slots := 0, locals := 0 } : Room) s m #[(.int (0 : Int32)), (.int (Int32.ofNat 64)), (.int (Int32.ofNat nn)), G3] below meth c s₁ [] 0 0 := Stand.of_body Bd
  have e0 : s₁.heap = h0 := by rw [← hh, Bd.state]; rfl
  have N0 := Fr.nil n0
  have pre0 : ∀ t, Steps p.tables e below (s₁.setTop (mkF m 0 #[.val (.int (0 : Int32)), .val (.int (Int32.ofNat 64)), .val (.int (Int32.ofNat nn)), .val G3] [])) t → Steps p.tables e below (s₁.setTop (entryFrame m #[(.int (0 : Int32)), (.int (Int32.ofNat 64)), (.int (Int32.ofNat nn)), G3] 4)) t := fun t k => castTop (ef24_ m (0 : Int32) (Int32.ofNat 64) (Int32.ofNat nn) G3 rG3) k
  obtain ⟨fs, hr, hrun, hended, hW, hsame⟩ := X0.leave (v := some (.int (0 : Int32))) (fun h => by rw [Bd.returns] at h; cases h)
  refine ⟨_, _, pre0 _ ?_, hrun, hended, _, _, rfl, ?_, ⟨_, rfl⟩, hW, hsame.mono (by decide) (by decide)⟩
  · show Steps p.tables e below (s₁.setTop (mkF m 0 #[.val (.int (0 : Int32)), .val (.int (Int32.ofNat 64)), .val (.int (Int32.ofNat nn)), .val G3] [])) _
    refine XS.iloadN X0.here hx rfl (hb hby k24_0) rfl ?_
    show Steps p.tables e below (s₁.setTop (mkF m 1 #[.val (.int (0 : Int32)), .val (.int (Int32.ofNat 64)), .val (.int (Int32.ofNat nn)), .val G3] [(.int (0 : Int32))])) _
    refine XS.ifNo X0.here hx rfl (hb hby k24_1) rfl ((if0 _ _).trans (flt (by decide : ¬ ((0 : Int32) < (0 : Int32)))).1) ?_
    refine XS.iloadN X0.here hx rfl (hb hby k24_4) rfl ?_
    refine XS.iloadN X0.here hx rfl (hb hby k24_5) rfl ?_
    show Steps p.tables e below (s₁.setTop (mkF m 6 #[.val (.int (0 : Int32)), .val (.int (Int32.ofNat 64)), .val (.int (Int32.ofNat nn)), .val G3] [(.int (Int32.ofNat 64)), (.int (0 : Int32))])) _
    refine XS.icmpNo X0.here hx rfl (hb hby k24_6) rfl (flt (by decide : ¬ ((Int32.ofNat 64) < (0 : Int32)))).2.2.1 ?_
    refine XS.iloadN X0.here hx rfl (hb hby k24_9) rfl ?_
    refine XS.iloadN X0.here hx rfl (hb hby k24_10) rfl ?_
    show Steps p.tables e below (s₁.setTop (mkF m 11 #[.val (.int (0 : Int32)), .val (.int (Int32.ofNat 64)), .val (.int (Int32.ofNat nn)), .val G3] [(.int (Int32.ofNat nn)), (.int (Int32.ofNat 64))])) _
    refine XS.icmpYes X0.here hx rfl (pc0 := 11) (pc' := 22) rfl (hb hby k24_11) rfl (flt (fun q => by have := (own_lt_of (by omega) (by omega)).mp q; omega : ¬ ((Int32.ofNat nn) < (Int32.ofNat 64)))).2.2.2 (by decide) (by decide) ?_
    refine XS.iloadN X0.here hx rfl (hb hby k24_22) rfl ?_
    show Steps p.tables e below (s₁.setTop (mkF m 23 #[.val (.int (0 : Int32)), .val (.int (Int32.ofNat 64)), .val (.int (Int32.ofNat nn)), .val G3] [(.int (0 : Int32))])) _
    exact retI X0 hx Bd.returns (hb hby k24_23) hr
  · show QB 0 h0 n0 _ s₁.heap _
    rw [e0]
    exact ⟨rfl, N0, rfl⟩
theorem k25_0 : decode c25_ 0 = .ok (.iload_n 0, 1) := by decide +kernel
theorem k25_1 : decode c25_ 1 = .ok (.iload_n 1, 1) := by decide +kernel
theorem k25_2 : decode c25_ 2 = .ok (.iload_n 2, 1) := by decide +kernel
theorem k25_3 : decode c25_ 3 = .ok (.getstatic 1053, 3) := by decide +kernel
theorem k25_6 : decode c25_ 6 = .ok (.invokestatic 1062, 3) := by decide +kernel
theorem k25_9 : decode c25_ 9 = .ok (.pop, 1) := by decide +kernel
theorem k25_10 : decode c25_ 10 = .ok (.return_, 1) := by decide +kernel
theorem ef25_ (m : MethodId) (x0 : Int32) (x1 : Int32) (x2 : Int32) : entryFrame m #[(.int x0), (.int x1), (.int x2)] 3 = mkF m 0 #[.val (.int x0), .val (.int x1), .val (.int x2)] [] := by first | (simp [entryFrame, mkF, argsToLocals, Value.category]; done) | rfl
theorem rmBe (l : Launch) (Z : State) (a0 : Array Value) (hw : HW a0 Z) (ws : List Jvm.Cond) (nn : Nat) (h0 : Heap) (n0 : Nat) (Z0 : n0 ≤ h0.size) (hG : GST Z) (O0 : Old Z n0 h0) (h64 : 64 < nn) (hm : nn ≤ 127) :
    Met l Z ws m25_ jdk_42_method_158_code 3 none ({ frames := 1, cells := 0, slots := 0, locals := 15 } : Room) h0 #[(.int (0 : Int32)), (.int (Int32.ofNat 64)), (.int (Int32.ofNat nn))] (QR h0 n0) := by
  refine MetFree.of_bodySF (plainFor_of_name pn0_) hisR ?_
  intro p e s m args below meth c s₁ Bd hml0 hP hK
  obtain ⟨rfl, hZ, hh⟩ := hP
  have hx := Bd.exec
  have hby := Bd.bytes
  have hml : c.maxLocals = 3 := hml0
  have hown : s.vm.findClass "java/lang/String" = some m.cls := findClass_of_methodNamed Bd.named
  have X0 : Stand p l e ({ frames := 1, cells := 0, slots := 0, locals := 15 } : Room) s m #[(.int (0 : Int32)), (.int (Int32.ofNat 64)), (.int (Int32.ofNat nn))] below meth c s₁ [] 0 0 := Stand.of_body Bd
  have e0 : s₁.heap = h0 := by rw [← hh, Bd.state]; rfl
  have N0 := Fr.nil n0
  have pre0 : ∀ t, Steps p.tables e below (s₁.setTop (mkF m 0 #[.val (.int (0 : Int32)), .val (.int (Int32.ofNat 64)), .val (.int (Int32.ofNat nn))] [])) t → Steps p.tables e below (s₁.setTop (entryFrame m #[(.int (0 : Int32)), (.int (Int32.ofNat 64)), (.int (Int32.ofNat nn))] 3)) t := fun t k => castTop (ef25_ m (0 : Int32) (Int32.ofNat 64) (Int32.ofNat nn)) k
  obtain ⟨⟨G1, O2, P5⟩, ⟨G3, O4, rG3⟩, Sa, Sh, Sl⟩ := id hG
  obtain ⟨T1, X1, e1, st1⟩ := getS2 X0 hx hZ hown (host := "") (Or.inl (wt hw 100 rfl)) Via.refl e0 (O4.ext O0.2) (g := (mkF m 3 #[.val (.int (0 : Int32)), .val (.int (Int32.ofNat 64)), .val (.int (Int32.ofNat nn))] [(.int (Int32.ofNat nn)), (.int (Int32.ofNat 64)), (.int (0 : Int32))])) rfl (hb hby k25_3)
  obtain ⟨_, _, ⟨T2, L2, k2, n2⟩, -, X2, ⟨Lc2, hQ2, l2, y2, z2⟩, st2⟩ := Jvm.LawKit.callS X1 hx (y := m24_) hown (mvT hZ (wt hw 102 rfl)) (mvT hZ (wt hw 103 rfl)) (mvT hZ (wt hw 101 rfl)) (mvT hZ (wt hw 104 rfl)) (by decide) (backOf (W := 0) (rmFt l Z a0 hw [] nn G3 h0 n0 (Nat.le_trans Z0 (Keep.refl h0 []).1) h64 hm rG3) hZ (wt hw 104 rfl) (wt hw 101 rfl) (by decide) (by decide)) (g := (mkF m 6 #[.val (.int (0 : Int32)), .val (.int (Int32.ofNat 64)), .val (.int (Int32.ofNat nn))] [G3, (.int (Int32.ofNat nn)), (.int (Int32.ofNat 64)), (.int (0 : Int32))])) rfl (by rw [hml]; rfl) (argsL := [(.int (0 : Int32)), (.int (Int32.ofNat 64)), (.int (Int32.ofNat nn)), G3]) (rest := []) (lenOf pd8_ rfl) rfl (by show 2 * 0 + _ ≤ _; exact Nat.le_of_eq rfl) (hb hby k25_6) (fun _ _ => ⟨rfl, e1, (by decide : 0 + 0 ≤ _), (by decide : 0 + 0 ≤ _)⟩)
  dsimp only [Pt.U, Pt.locs, Pt.cells, Pt.slots] at X2 l2 y2 z2 st2 hQ2
  rw [l2] at X2
  clear l2; subst y2 z2
  obtain ⟨rfl, N2q, e2q⟩ := hQ2
  have N2a := Fr.app N0 N2q
  obtain ⟨fs, hr, hrun, hended, hW, hsame⟩ := X2.leave (v := none) (fun _ => rfl)
  refine ⟨_, _, pre0 _ ?_, hrun, hended, _, _, rfl, ?_, ⟨_, rfl⟩, hW, hsame.mono (by decide) (by decide)⟩
  · show Steps p.tables e below (s₁.setTop (mkF m 0 #[.val (.int (0 : Int32)), .val (.int (Int32.ofNat 64)), .val (.int (Int32.ofNat nn))] [])) _
    refine XS.iloadN X0.here hx rfl (hb hby k25_0) rfl ?_
    refine XS.iloadN X0.here hx rfl (hb hby k25_1) rfl ?_
    refine XS.iloadN X0.here hx rfl (hb hby k25_2) rfl ?_
    show Steps p.tables e below (s₁.setTop (mkF m 3 #[.val (.int (0 : Int32)), .val (.int (Int32.ofNat 64)), .val (.int (Int32.ofNat nn))] [(.int (Int32.ofNat nn)), (.int (Int32.ofNat 64)), (.int (0 : Int32))])) _
    refine st1 _ ?_
    show Steps p.tables e below (T1.setTop (mkF m 6 #[.val (.int (0 : Int32)), .val (.int (Int32.ofNat 64)), .val (.int (Int32.ofNat nn))] [G3, (.int (Int32.ofNat nn)), (.int (Int32.ofNat 64)), (.int (0 : Int32))])) _
    refine st2 _ ?_
    refine XS.pop X2.here hx rfl (hb hby k25_9) rfl rfl ?_
    show Steps p.tables e below (T2.setTop (mkF m 10 #[.val (.int (0 : Int32)), .val (.int (Int32.ofNat 64)), .val (.int (Int32.ofNat nn))] [])) _
    exact X2.returnOut hx Bd.returns (hb hby k25_10) hr
  · show QR h0 n0 _ T2.heap _
    rw [e2q]
    exact ⟨rfl, N2a, rfl⟩
theorem k26_0 : decode c26_ 0 = .ok (.getstatic 38, 3) := by decide +kernel
theorem k26_3 : decode c26_ 3 = .ok (.ifCond .eq 14, 3) := by decide +kernel
theorem k26_6 : decode c26_ 6 = .ok (.aload_n 0, 1) := by decide +kernel
theorem k26_7 : decode c26_ 7 = .ok (.getfield 15, 3) := by decide +kernel
theorem k26_10 : decode c26_ 10 = .ok (.ifCond .ne 7, 3) := by decide +kernel
theorem k26_13 : decode c26_ 13 = .ok (.iconst 1, 1) := by decide +kernel
theorem k26_14 : decode c26_ 14 = .ok (.goto 4, 3) := by decide +kernel
theorem k26_18 : decode c26_ 18 = .ok (.ireturn, 1) := by decide +kernel
theorem ef26_ (m : MethodId) (x0 : Addr) : entryFrame m #[(.ref x0)] 1 = mkF m 0 #[.val (.ref x0)] [] := by first | (simp [entryFrame, mkF, argsToLocals, Value.category]; done) | rfl
theorem rmS0 (l : Launch) (Z : State) (a0 : Array Value) (hw : HW a0 Z) (ws : List Jvm.Cond) (a1 : Addr) (h0 : Heap) (n0 : Nat) (Z0 : n0 ≤ h0.size) (hG : GST Z) (O0 : Old Z n0 h0) (F_coder_a1 : Fld Z h0 a1 "java/lang/String" "coder" "B" (.int (0 : Int32))) :
    Met l Z ws m26_ jdk_42_method_154_code 1 (some .boolean) ({ frames := 0, cells := 0, slots := 0, locals := 0 } : Room) h0 #[(.ref a1)] (QB 1 h0 n0) := by
  refine MetFree.of_bodySF (plainFor_of_name pn0_) hisR ?_
  intro p e s m args below meth c s₁ Bd hml0 hP hK
  obtain ⟨rfl, hZ, hh⟩ := hP
  have hx := Bd.exec
  have hby := Bd.bytes
  have hown : s.vm.findClass "java/lang/String" = some m.cls := findClass_of_methodNamed Bd.named
  have X0 : Stand p l e ({ frames := 0, cells := 0, slots := 0, locals := 0 } : Room) s m #[(.ref a1)] below meth c s₁ [] 0 0 := Stand.of_body Bd
  have e0 : s₁.heap = h0 := by rw [← hh, Bd.state]; rfl
  have N0 := Fr.nil n0
  have pre0 : ∀ t, Steps p.tables e below (s₁.setTop (mkF m 0 #[.val (.ref a1)] [])) t → Steps p.tables e below (s₁.setTop (entryFrame m #[(.ref a1)] 1)) t := fun t k => castTop (ef26_ m a1) k
  obtain ⟨⟨G1, O2, P5⟩, ⟨G3, O4, rG3⟩, Sa, Sh, Sl⟩ := id hG
  obtain ⟨T1, X1, e1, st1⟩ := getS2 X0 hx hZ hown (host := "") (Or.inl (wt hw 37 rfl)) Via.refl e0 (O2.ext O0.2) (g := (mkF m 0 #[.val (.ref a1)] [])) rfl (hb hby k26_0)
  obtain ⟨T2, X2, e2, st2⟩ := getF X1 hx hZ hown (host := "") (Or.inl (wt hw 22 rfl)) Via.refl e1 F_coder_a1 (g := (mkF m 7 #[.val (.ref a1)] [(.ref a1)])) rfl rfl (hb hby k26_7)
  obtain ⟨fs, hr, hrun, hended, hW, hsame⟩ := X2.leave (v := some (.int (1 : Int32))) (fun h => by rw [Bd.returns] at h; cases h)
  refine ⟨_, _, pre0 _ ?_, hrun, hended, _, _, rfl, ?_, ⟨_, rfl⟩, hW, hsame.mono (by decide) (by decide)⟩
  · show Steps p.tables e below (s₁.setTop (mkF m 0 #[.val (.ref a1)] [])) _
    refine st1 _ ?_
    show Steps p.tables e below (T1.setTop (mkF m 3 #[.val (.ref a1)] [(.int G1)])) _
    refine XS.ifNo X1.here hx rfl (hb hby k26_3) rfl ((if0 _ _).trans (feq (P5 : ¬ (G1 = (0 : Int32)))).1) ?_
    refine XS.aloadN X1.here hx rfl (hb hby k26_6) rfl rfl ?_
    show Steps p.tables e below (T1.setTop (mkF m 7 #[.val (.ref a1)] [(.ref a1)])) _
    refine st2 _ ?_
    show Steps p.tables e below (T2.setTop (mkF m 10 #[.val (.ref a1)] [(.int (0 : Int32))])) _
    refine XS.ifNo X2.here hx rfl (hb hby k26_10) rfl ((if0 _ _).trans (teq (by decide : (0 : Int32) = (0 : Int32))).2) ?_
    refine XS.iconst X2.here hx rfl (hb hby k26_13) ?_
    refine XS.goto X2.here hx rfl (pc0 := 14) (pc' := 18) rfl (hb hby k26_14) (by decide) (by decide) ?_
    show Steps p.tables e below (T2.setTop (mkF m 18 #[.val (.ref a1)] [(.int (1 : Int32))])) _
    exact retN X2 hx (t := .boolean) Bd.returns (by simp) (hb hby k26_18) hr
  · show QB 1 h0 n0 _ T2.heap _
    rw [e2]
    exact ⟨rfl, N0, rfl⟩
theorem k26_17 : decode c26_ 17 = .ok (.iconst 0, 1) := by decide +kernel
theorem rmS1 (l : Launch) (Z : State) (a0 : Array Value) (hw : HW a0 Z) (ws : List Jvm.Cond) (a1 : Addr) (h0 : Heap) (n0 : Nat) (Z0 : n0 ≤ h0.size) (hG : GST Z) (O0 : Old Z n0 h0) (F_coder_a1 : Fld Z h0 a1 "java/lang/String" "coder" "B" (.int (1 : Int32))) :
    Met l Z ws m26_ jdk_42_method_154_code 1 (some .boolean) ({ frames := 0, cells := 0, slots := 0, locals := 0 } : Room) h0 #[(.ref a1)] (QB 0 h0 n0) := by
  refine MetFree.of_bodySF (plainFor_of_name pn0_) hisR ?_
  intro p e s m args below meth c s₁ Bd hml0 hP hK
  obtain ⟨rfl, hZ, hh⟩ := hP
  have hx := Bd.exec
  have hby := Bd.bytes
  have hown : s.vm.findClass "java/lang/String" = some m.cls := findClass_of_methodNamed Bd.named
  have X0 : Stand p l e ({ frames := 0, cells := 0, slots := 0, locals := 0 } : Room) s m #[(.ref a1)] below meth c s₁ [] 0 0 := Stand.of_body Bd
  have e0 : s₁.heap = h0 := by rw [← hh, Bd.state]; rfl
  have N0 := Fr.nil n0
  have pre0 : ∀ t, Steps p.tables e below (s₁.setTop (mkF m 0 #[.val (.ref a1)] [])) t → Steps p.tables e below (s₁.setTop (entryFrame m #[(.ref a1)] 1)) t := fun t k => castTop (ef26_ m a1) k
  obtain ⟨⟨G1, O2, P5⟩, ⟨G3, O4, rG3⟩, Sa, Sh, Sl⟩ := id hG
  obtain ⟨T1, X1, e1, st1⟩ := getS2 X0 hx hZ hown (host := "") (Or.inl (wt hw 37 rfl)) Via.refl e0 (O2.ext O0.2) (g := (mkF m 0 #[.val (.ref a1)] [])) rfl (hb hby k26_0)
  obtain ⟨T2, X2, e2, st2⟩ := getF X1 hx hZ hown (host := "") (Or.inl (wt hw 22 rfl)) Via.refl e1 F_coder_a1 (g := (mkF m 7 #[.val (.ref a1)] [(.ref a1)])) rfl rfl (hb hby k26_7)
  obtain ⟨fs, hr, hrun, hended, hW, hsame⟩ := X2.leave (v := some (.int (0 : Int32))) (fun h => by rw [Bd.returns] at h; cases h)
  refine ⟨_, _, pre0 _ ?_, hrun, hended, _, _, rfl, ?_, ⟨_, rfl⟩, hW, hsame.mono (by decide) (by decide)⟩
  · show Steps p.tables e below (s₁.setTop (mkF m 0 #[.val (.ref a1)] [])) _
    refine st1 _ ?_
    show Steps p.tables e below (T1.setTop (mkF m 3 #[.val (.ref a1)] [(.int G1)])) _
    refine XS.ifNo X1.here hx rfl (hb hby k26_3) rfl ((if0 _ _).trans (feq (P5 : ¬ (G1 = (0 : Int32)))).1) ?_
    refine XS.aloadN X1.here hx rfl (hb hby k26_6) rfl rfl ?_
    show Steps p.tables e below (T1.setTop (mkF m 7 #[.val (.ref a1)] [(.ref a1)])) _
    refine st2 _ ?_
    show Steps p.tables e below (T2.setTop (mkF m 10 #[.val (.ref a1)] [(.int (1 : Int32))])) _
    refine XS.ifYes X2.here hx rfl (pc0 := 10) (pc' := 17) rfl (hb hby k26_10) rfl ((if0 _ _).trans (feq (by decide : ¬ ((1 : Int32) = (0 : Int32)))).2) (by decide) (by decide) ?_
    refine XS.iconst X2.here hx rfl (hb hby k26_17) ?_
    show Steps p.tables e below (T2.setTop (mkF m 18 #[.val (.ref a1)] [(.int (0 : Int32))])) _
    exact retN X2 hx (t := .boolean) Bd.returns (by simp) (hb hby k26_18) hr
  · show QB 0 h0 n0 _ T2.heap _
    rw [e2]
    exact ⟨rfl, N0, rfl⟩
theorem k27_0 : decode c27_ 0 = .ok (.aload_n 0, 1) := by decide +kernel
theorem k27_1 : decode c27_ 1 = .ok (.invokevirtual 505, 3) := by decide +kernel
theorem k27_4 : decode c27_ 4 = .ok (.istore_n 3, 1) := by decide +kernel
theorem k27_5 : decode c27_ 5 = .ok (.iload_n 1, 1) := by decide +kernel
theorem k27_6 : decode c27_ 6 = .ok (.iload_n 2, 1) := by decide +kernel
theorem k27_7 : decode c27_ 7 = .ok (.iload_n 3, 1) := by decide +kernel
theorem k27_8 : decode c27_ 8 = .ok (.invokestatic 521, 3) := by decide +kernel
theorem k27_11 : decode c27_ 11 = .ok (.iload_n 1, 1) := by decide +kernel
theorem k27_12 : decode c27_ 12 = .ok (.ifCond .ne 10, 3) := by decide +kernel
theorem k27_15 : decode c27_ 15 = .ok (.iload_n 2, 1) := by decide +kernel
theorem k27_16 : decode c27_ 16 = .ok (.iload_n 3, 1) := by decide +kernel
theorem k27_17 : decode c27_ 17 = .ok (.if_icmp .ne 5, 3) := by decide +kernel
theorem k27_22 : decode c27_ 22 = .ok (.iload_n 2, 1) := by decide +kernel
theorem k27_23 : decode c27_ 23 = .ok (.iload_n 1, 1) := by decide +kernel
theorem k27_24 : decode c27_ 24 = .ok (.isub, 1) := by decide +kernel
theorem k27_25 : decode c27_ 25 = .ok (.istore 4, 2) := by decide +kernel
theorem k27_27 : decode c27_ 27 = .ok (.aload_n 0, 1) := by decide +kernel
theorem k27_28 : decode c27_ 28 = .ok (.invokevirtual 492, 3) := by decide +kernel
theorem k27_31 : decode c27_ 31 = .ok (.ifCond .eq 16, 3) := by decide +kernel
theorem k27_34 : decode c27_ 34 = .ok (.aload_n 0, 1) := by decide +kernel
theorem k27_35 : decode c27_ 35 = .ok (.getfield 9, 3) := by decide +kernel
theorem k27_38 : decode c27_ 38 = .ok (.iload_n 1, 1) := by decide +kernel
theorem k27_39 : decode c27_ 39 = .ok (.iload 4, 2) := by decide +kernel
theorem k27_41 : decode c27_ 41 = .ok (.invokestatic 685, 3) := by decide +kernel
theorem k27_44 : decode c27_ 44 = .ok (.goto 13, 3) := by decide +kernel
theorem k27_57 : decode c27_ 57 = .ok (.areturn, 1) := by decide +kernel
theorem pd17_ : parseMethodDescriptor "()I" = some ⟨[], some .int⟩ := by decide +kernel
theorem pd18_ : parseMethodDescriptor "(III)V" = some ⟨[.int, .int, .int], none⟩ := by decide +kernel
theorem pd19_ : parseMethodDescriptor "()Z" = some ⟨[], some .boolean⟩ := by decide +kernel
theorem pd20_ : parseMethodDescriptor "([BII)Ljava/lang/String;" = some ⟨[(.array .byte), .int, .int], some (.object "java/lang/String")⟩ := by decide +kernel
theorem ef27_ (m : MethodId) (x0 : Addr) (x1 : Int32) (x2 : Int32) : entryFrame m #[(.ref x0), (.int x1), (.int x2)] 5 = mkF m 0 #[.val (.ref x0), .val (.int x1), .val (.int x2), .unset, .unset] [] := by first | (simp [entryFrame, mkF, argsToLocals, Value.category]; done) | rfl
theorem rsub0 (l : Launch) (Z : State) (a0 : Array Value) (hw : HW a0 Z) (ws : List Jvm.Cond) (a1 : Addr) (cs : List Int32) (h0 : Heap) (n0 : Nat) (Z0 : n0 ≤ h0.size) (hG : GST Z) (O0 : Old Z n0 h0) (S_a1 : StrU Z h0 a1 cs) (h64 : 64 < cs.length) (hm : cs.length ≤ 127) (hc : ∀ c ∈ cs, ¬ c < 0 ∧ ¬ (65535 : Int32) < c) (hlw : ∀ c ∈ cs, ¬ (255 : Int32) < c) :
    Met l Z ws m27_ jdk_42_method_92_code 5 (some (.object "java/lang/String")) ({ frames := 6, cells := 3, slots := 202, locals := 107 } : Room) h0 #[(.ref a1), (.int (0 : Int32)), (.int (Int32.ofNat 64))] (QSr Z (cs.take 64) h0 n0) := by
  refine MetFree.of_bodySF (plainFor_of_name pn0_) hisR ?_
  intro p e s m args below meth c s₁ Bd hml0 hP hK
  obtain ⟨rfl, hZ, hh⟩ := hP
  have hx := Bd.exec
  have hby := Bd.bytes
  have hml : c.maxLocals = 5 := hml0
  have hown : s.vm.findClass "java/lang/String" = some m.cls := findClass_of_methodNamed Bd.named
  have X0 : Stand p l e ({ frames := 6, cells := 3, slots := 202, locals := 107 } : Room) s m #[(.ref a1), (.int (0 : Int32)), (.int (Int32.ofNat 64))] below meth c s₁ [] 0 0 := Stand.of_body Bd
  have e0 : s₁.heap = h0 := by rw [← hh, Bd.state]; rfl
  have N0 := Fr.nil n0
  have pre0 : ∀ t, Steps p.tables e below (s₁.setTop (mkF m 0 #[.val (.ref a1), .val (.int (0 : Int32)), .val (.int (Int32.ofNat 64)), .unset, .unset] [])) t → Steps p.tables e below (s₁.setTop (entryFrame m #[(.ref a1), (.int (0 : Int32)), (.int (Int32.ofNat 64))] 5)) t := fun t k => castTop (ef27_ m a1 (0 : Int32) (Int32.ofNat 64)) k
  obtain ⟨⟨G1, O2, P5⟩, ⟨G3, O4, rG3⟩, Sa, Sh, Sl⟩ := id hG
  obtain ⟨sb1, sk1, sE1, sV1, sC1, sA1⟩ := StrU.formL (z := (Int32.ofNat cs.length)) S_a1 hlw rfl
  obtain ⟨sb3, sk3, sd3, sN3, sv3, sE3, sV3, sC3, sA3, sc3, su3⟩ := id S_a1
  obtain ⟨cq2, kq2, q2a, q2b, q2c⟩ := isOf hZ e0 S_a1.exa
  obtain ⟨_, _, ⟨T2, L2, k2, n2⟩, -, X2, ⟨Lc2, hQ2, l2, y2, z2⟩, st2⟩ := X0.virtualBack hx (y := m28_) (z := m28_) hown (mvT hZ (wt hw 96 rfl)) (mvT hZ (wt hw 28 rfl)) (notFace_of_selects (args := #[]) (mvT hZ (wt hw 30 rfl))) (mvT hZ (wt hw 30 rfl)) (mvT hZ (wt hw 29 rfl)) (by decide) (StrChars.Road.lenW (W := 0) hZ (own_hlen hw) (kI := 4) (wt hw 3 rfl) sE3 sV3 sC3 sA3 sc3 su3 (O2.ext O0.2) P5 (by omega) (by decide) (by decide)) q2a q2c (g := (mkF m 1 #[.val (.ref a1), .val (.int (0 : Int32)), .val (.int (Int32.ofNat 64)), .unset, .unset] [(.ref a1)])) rfl (by rw [hml]; rfl) (Steps.refl _) (argsL := []) (rest := []) (lenOf pd17_ rfl) rfl (by show 2 * 0 + _ ≤ _; exact Nat.le_of_eq rfl) (hb hby k27_1) (fun _ _ => ⟨rfl, e0, (by decide : 0 + 0 ≤ _), (by decide : 0 + 0 ≤ _)⟩)
  dsimp only [Pt.U, Pt.locs, Pt.cells, Pt.slots] at X2 l2 y2 z2 st2 hQ2
  rw [l2] at X2
  clear l2; subst y2 z2
  obtain ⟨rfl, rfl, e2q⟩ := hQ2
  have N2a := Fr.app N0 (Fr.nil n0)
  obtain ⟨_, _, ⟨T4, L4, k4, n4⟩, -, X4, ⟨Lc4, hQ4, l4, y4, z4⟩, st4⟩ := Jvm.LawKit.callS X2 hx (y := m25_) hown (mvT hZ (wt hw 97 rfl)) (mvT hZ (wt hw 98 rfl)) (mvT hZ (wt hw 4 rfl)) (mvT hZ (wt hw 99 rfl)) (by decide) (backOf (W := 0) (rmBe l Z a0 hw [] cs.length h0 n0 (Nat.le_trans Z0 (Keep.refl h0 []).1) hG O0 h64 hm) hZ (wt hw 99 rfl) (wt hw 4 rfl) (by decide) (by decide)) (g := (mkF m 8 #[.val (.ref a1), .val (.int (0 : Int32)), .val (.int (Int32.ofNat 64)), .val (.int (Int32.ofNat cs.length)), .unset] [(.int (Int32.ofNat cs.length)), (.int (Int32.ofNat 64)), (.int (0 : Int32))])) rfl (by rw [hml]; rfl) (argsL := [(.int (0 : Int32)), (.int (Int32.ofNat 64)), (.int (Int32.ofNat cs.length))]) (rest := []) (lenOf pd18_ rfl) rfl (by show 2 * 0 + _ ≤ _; exact Nat.le_of_eq rfl) (hb hby k27_8) (fun _ _ => ⟨rfl, e2q, (by decide : 0 + 0 ≤ _), (by decide : 0 + 0 ≤ _)⟩)
  dsimp only [Pt.U, Pt.locs, Pt.cells, Pt.slots] at X4 l4 y4 z4 st4 hQ4
  rw [l4] at X4
  clear l4; subst y4 z4
  obtain ⟨rfl, N4q, e4q⟩ := hQ4
  have N4a := Fr.app N2a N4q
  obtain ⟨cq5, kq5, q5a, q5b, q5c⟩ := isOf hZ e4q S_a1.exa
  obtain ⟨_, _, ⟨T5, L5, k5, n5⟩, -, X5, ⟨Lc5, hQ5, l5, y5, z5⟩, st5⟩ := X4.virtualBack hx (y := m26_) (z := m26_) hown (mvT hZ (wt hw 105 rfl)) (mvT hZ (wt hw 106 rfl)) (notFace_of_selects (args := #[]) (mvT hZ (wt hw 108 rfl))) (mvT hZ (wt hw 108 rfl)) (mvT hZ (wt hw 107 rfl)) (by decide) (backOf (W := 0) (rmS0 l Z a0 hw [] a1 h0 n0 (Nat.le_trans Z0 (Keep.refl h0 []).1) hG O0 sC1) hZ (wt hw 109 rfl) (wt hw 4 rfl) (by decide) (by decide)) q5a q5c (g := (mkF m 28 #[.val (.ref a1), .val (.int (0 : Int32)), .val (.int (Int32.ofNat 64)), .val (.int (Int32.ofNat cs.length)), .val (.int (Int32.ofNat 64))] [(.ref a1)])) rfl (by rw [hml]; rfl) (Steps.refl _) (argsL := []) (rest := []) (lenOf pd19_ rfl) rfl (by show 2 * 0 + _ ≤ _; exact Nat.le_of_eq rfl) (hb hby k27_28) (fun _ _ => ⟨rfl, e4q, (by decide : 0 + 0 ≤ _), (by decide : 0 + 0 ≤ _)⟩)
  dsimp only [Pt.U, Pt.locs, Pt.cells, Pt.slots] at X5 l5 y5 z5 st5 hQ5
  rw [l5] at X5
  clear l5; subst y5 z5
  obtain ⟨rfl, N5q, e5q⟩ := hQ5
  have N5a := Fr.app N4a N5q
  obtain ⟨T6, X6, e6, st6⟩ := getF X5 hx hZ hown (host := "") (Or.inl (wt hw 21 rfl)) Via.refl e5q sV1 (g := (mkF m 35 #[.val (.ref a1), .val (.int (0 : Int32)), .val (.int (Int32.ofNat 64)), .val (.int (Int32.ofNat cs.length)), .val (.int (Int32.ofNat 64))] [(.ref a1)])) rfl rfl (hb hby k27_35)
  obtain ⟨_, _, ⟨T7, L7, k7, n7⟩, -, X7, ⟨Lc7, hQ7, l7, y7, z7⟩, st7⟩ := Jvm.LawKit.callS X6 hx (y := m21_) hown (mvT hZ (wt hw 110 rfl)) (mvT hZ (wt hw 111 rfl)) (mvT hZ (wt hw 112 rfl)) (mvT hZ (wt hw 113 rfl)) (by decide) (backOf (W := 0) (rmLn l Z a0 hw [] sb1 sk1 cs h0 n0 (Nat.le_trans Z0 (Keep.refl h0 []).1) sA1 h64 hm hc hlw) hZ (wt hw 113 rfl) (wt hw 112 rfl) (by decide) (by decide)) (g := (mkF m 41 #[.val (.ref a1), .val (.int (0 : Int32)), .val (.int (Int32.ofNat 64)), .val (.int (Int32.ofNat cs.length)), .val (.int (Int32.ofNat 64))] [(.int (Int32.ofNat 64)), (.int (0 : Int32)), (.ref sb1)])) rfl (by rw [hml]; rfl) (argsL := [(.ref sb1), (.int (0 : Int32)), (.int (Int32.ofNat 64))]) (rest := []) (lenOf pd20_ rfl) rfl (by show 2 * 0 + _ ≤ _; exact Nat.le_of_eq rfl) (hb hby k27_41) (fun _ _ => ⟨rfl, e6, (by decide : 0 + 2 ≤ _), (by decide : 0 + 138 ≤ _)⟩)
  dsimp only [Pt.U, Pt.locs, Pt.cells, Pt.slots] at X7 l7 y7 z7 st7 hQ7
  rw [l7] at X7
  clear l7; subst y7 z7
  obtain ⟨r7, rfl, N7q, K7q, SV7⟩ := hQ7
  have N7a := Fr.app N5a N7q
  have K1 : Keep h0 T7.heap [] := (Keep.refl h0 []).trans K7q all0
  obtain ⟨fs, hr, hrun, hended, hW, hsame⟩ := X7.leave (v := some (.ref r7)) (fun h => by rw [Bd.returns] at h; cases h)
  refine ⟨_, _, pre0 _ ?_, hrun, hended, _, _, rfl, ?_, ⟨_, rfl⟩, hW, hsame.mono (by decide) (by decide)⟩
  · show Steps p.tables e below (s₁.setTop (mkF m 0 #[.val (.ref a1), .val (.int (0 : Int32)), .val (.int (Int32.ofNat 64)), .unset, .unset] [])) _
    refine XS.aloadN X0.here hx rfl (hb hby k27_0) rfl rfl ?_
    show Steps p.tables e below (s₁.setTop (mkF m 1 #[.val (.ref a1), .val (.int (0 : Int32)), .val (.int (Int32.ofNat 64)), .unset, .unset] [(.ref a1)])) _
    refine st2.trans ?_
    refine XS.istoreN X2.here hx rfl (hb hby k27_4) rfl (l' := #[.val (.ref a1), .val (.int (0 : Int32)), .val (.int (Int32.ofNat 64)), .val (.int (Int32.ofNat cs.length)), .unset]) rfl ?_
    refine XS.iloadN X2.here hx rfl (hb hby k27_5) rfl ?_
    refine XS.iloadN X2.here hx rfl (hb hby k27_6) rfl ?_
    refine XS.iloadN X2.here hx rfl (hb hby k27_7) rfl ?_
    show Steps p.tables e below (T2.setTop (mkF m 8 #[.val (.ref a1), .val (.int (0 : Int32)), .val (.int (Int32.ofNat 64)), .val (.int (Int32.ofNat cs.length)), .unset] [(.int (Int32.ofNat cs.length)), (.int (Int32.ofNat 64)), (.int (0 : Int32))])) _
    refine st4 _ ?_
    refine XS.iloadN X4.here hx rfl (hb hby k27_11) rfl ?_
    show Steps p.tables e below (T4.setTop (mkF m 12 #[.val (.ref a1), .val (.int (0 : Int32)), .val (.int (Int32.ofNat 64)), .val (.int (Int32.ofNat cs.length)), .unset] [(.int (0 : Int32))])) _
    refine XS.ifNo X4.here hx rfl (hb hby k27_12) rfl ((if0 _ _).trans (teq (rfl : (0 : Int32) = (0 : Int32))).2) ?_
    refine XS.iloadN X4.here hx rfl (hb hby k27_15) rfl ?_
    refine XS.iloadN X4.here hx rfl (hb hby k27_16) rfl ?_
    show Steps p.tables e below (T4.setTop (mkF m 17 #[.val (.ref a1), .val (.int (0 : Int32)), .val (.int (Int32.ofNat 64)), .val (.int (Int32.ofNat cs.length)), .unset] [(.int (Int32.ofNat cs.length)), (.int (Int32.ofNat 64))])) _
    refine XS.icmpYes X4.here hx rfl (pc0 := 17) (pc' := 22) rfl (hb hby k27_17) rfl (feq (fun q => by have := (own_eq_of (by omega) (by omega)).mp q; omega : ¬ ((Int32.ofNat 64) = (Int32.ofNat cs.length)))).2 (by decide) (by decide) ?_
    refine XS.iloadN X4.here hx rfl (hb hby k27_22) rfl ?_
    refine XS.iloadN X4.here hx rfl (hb hby k27_23) rfl ?_
    refine XS.isub X4.here hx rfl (hb hby k27_24) rfl ?_
    show Steps p.tables e below (T4.setTop (mkF m 25 #[.val (.ref a1), .val (.int (0 : Int32)), .val (.int (Int32.ofNat 64)), .val (.int (Int32.ofNat cs.length)), .unset] [(.int ((Int32.ofNat 64) - (0 : Int32)))])) _
    rw [own_sub0]
    refine XS.istore X4.here hx rfl (hb hby k27_25) rfl (l' := #[.val (.ref a1), .val (.int (0 : Int32)), .val (.int (Int32.ofNat 64)), .val (.int (Int32.ofNat cs.length)), .val (.int (Int32.ofNat 64))]) rfl ?_
    refine XS.aloadN X4.here hx rfl (hb hby k27_27) rfl rfl ?_
    show Steps p.tables e below (T4.setTop (mkF m 28 #[.val (.ref a1), .val (.int (0 : Int32)), .val (.int (Int32.ofNat 64)), .val (.int (Int32.ofNat cs.length)), .val (.int (Int32.ofNat 64))] [(.ref a1)])) _
    refine st5.trans ?_
    show Steps p.tables e below (T5.setTop (mkF m 31 #[.val (.ref a1), .val (.int (0 : Int32)), .val (.int (Int32.ofNat 64)), .val (.int (Int32.ofNat cs.length)), .val (.int (Int32.ofNat 64))] [(.int (1 : Int32))])) _
    refine XS.ifNo X5.here hx rfl (hb hby k27_31) rfl ((if0 _ _).trans (feq (by decide : ¬ ((1 : Int32) = (0 : Int32)))).1) ?_
    refine XS.aloadN X5.here hx rfl (hb hby k27_34) rfl rfl ?_
    show Steps p.tables e below (T5.setTop (mkF m 35 #[.val (.ref a1), .val (.int (0 : Int32)), .val (.int (Int32.ofNat 64)), .val (.int (Int32.ofNat cs.length)), .val (.int (Int32.ofNat 64))] [(.ref a1)])) _
    refine st6 _ ?_
    refine XS.iloadN X6.here hx rfl (hb hby k27_38) rfl ?_
    refine XS.iload X6.here hx rfl (hb hby k27_39) rfl ?_
    show Steps p.tables e below (T6.setTop (mkF m 41 #[.val (.ref a1), .val (.int (0 : Int32)), .val (.int (Int32.ofNat 64)), .val (.int (Int32.ofNat cs.length)), .val (.int (Int32.ofNat 64))] [(.int (Int32.ofNat 64)), (.int (0 : Int32)), (.ref sb1)])) _
    refine st7 _ ?_
    refine XS.goto X7.here hx rfl (pc0 := 44) (pc' := 57) rfl (hb hby k27_44) (by decide) (by decide) ?_
    show Steps p.tables e below (T7.setTop (mkF m 57 #[.val (.ref a1), .val (.int (0 : Int32)), .val (.int (Int32.ofNat 64)), .val (.int (Int32.ofNat cs.length)), .val (.int (Int32.ofNat 64))] [(.ref r7)])) _
    jvm_step X7.here [X7.here.top, hx, (hb hby k27_57), X7.method', Bd.returns, Value.isRef, FieldType.isReference]
    first | (intro acts; rw [hr _ acts rfl rfl rfl]) | rw [hr _ _ rfl rfl rfl]
    exact Steps.refl _
  · show QSr Z (cs.take 64) h0 n0 _ T7.heap _
    exact ⟨r7, rfl, N7a, K1, SV7⟩
theorem k27_47 : decode c27_ 47 = .ok (.aload_n 0, 1) := by decide +kernel
theorem k27_48 : decode c27_ 48 = .ok (.getfield 9, 3) := by decide +kernel
theorem k27_51 : decode c27_ 51 = .ok (.iload_n 1, 1) := by decide +kernel
theorem k27_52 : decode c27_ 52 = .ok (.iload 4, 2) := by decide +kernel
theorem k27_54 : decode c27_ 54 = .ok (.invokestatic 689, 3) := by decide +kernel
theorem rsub1 (l : Launch) (Z : State) (a0 : Array Value) (hw : HW a0 Z) (ws : List Jvm.Cond) (a1 : Addr) (cs : List Int32) (h0 : Heap) (n0 : Nat) (Z0 : n0 ≤ h0.size) (hG : GST Z) (O0 : Old Z n0 h0) (S_a1 : StrU Z h0 a1 cs) (h64 : 64 < cs.length) (hm : cs.length ≤ 127) (hc : ∀ c ∈ cs, ¬ c < 0 ∧ ¬ (65535 : Int32) < c) (hlw : ∃ c ∈ cs, (255 : Int32) < c) :
    Met l Z ws m27_ jdk_42_method_92_code 5 (some (.object "java/lang/String")) ({ frames := 6, cells := 3, slots := 202, locals := 107 } : Room) h0 #[(.ref a1), (.int (0 : Int32)), (.int (Int32.ofNat 64))] (QSr Z (cs.take 64) h0 n0) := by
  refine MetFree.of_bodySF (plainFor_of_name pn0_) hisR ?_
  intro p e s m args below meth c s₁ Bd hml0 hP hK
  obtain ⟨rfl, hZ, hh⟩ := hP
  have hx := Bd.exec
  have hby := Bd.bytes
  have hml : c.maxLocals = 5 := hml0
  have hown : s.vm.findClass "java/lang/String" = some m.cls := findClass_of_methodNamed Bd.named
  have X0 : Stand p l e ({ frames := 6, cells := 3, slots := 202, locals := 107 } : Room) s m #[(.ref a1), (.int (0 : Int32)), (.int (Int32.ofNat 64))] below meth c s₁ [] 0 0 := Stand.of_body Bd
  have e0 : s₁.heap = h0 := by rw [← hh, Bd.state]; rfl
  have N0 := Fr.nil n0
  have pre0 : ∀ t, Steps p.tables e below (s₁.setTop (mkF m 0 #[.val (.ref a1), .val (.int (0 : Int32)), .val (.int (Int32.ofNat 64)), .unset, .unset] [])) t → Steps p.tables e below (s₁.setTop (entryFrame m #[(.ref a1), (.int (0 : Int32)), (.int (Int32.ofNat 64))] 5)) t := fun t k => castTop (ef27_ m a1 (0 : Int32) (Int32.ofNat 64)) k
  obtain ⟨⟨G1, O2, P5⟩, ⟨G3, O4, rG3⟩, Sa, Sh, Sl⟩ := id hG
  obtain ⟨sb1, sk1, sE1, sV1, sC1, sA1⟩ := StrU.formW (z := (Int32.ofNat (2 * cs.length))) S_a1 hlw rfl
  obtain ⟨sb3, sk3, sd3, sN3, sv3, sE3, sV3, sC3, sA3, sc3, su3⟩ := id S_a1
  obtain ⟨cq2, kq2, q2a, q2b, q2c⟩ := isOf hZ e0 S_a1.exa
  obtain ⟨_, _, ⟨T2, L2, k2, n2⟩, -, X2, ⟨Lc2, hQ2, l2, y2, z2⟩, st2⟩ := X0.virtualBack hx (y := m28_) (z := m28_) hown (mvT hZ (wt hw 96 rfl)) (mvT hZ (wt hw 28 rfl)) (notFace_of_selects (args := #[]) (mvT hZ (wt hw 30 rfl))) (mvT hZ (wt hw 30 rfl)) (mvT hZ (wt hw 29 rfl)) (by decide) (StrChars.Road.lenW (W := 0) hZ (own_hlen hw) (kI := 4) (wt hw 3 rfl) sE3 sV3 sC3 sA3 sc3 su3 (O2.ext O0.2) P5 (by omega) (by decide) (by decide)) q2a q2c (g := (mkF m 1 #[.val (.ref a1), .val (.int (0 : Int32)), .val (.int (Int32.ofNat 64)), .unset, .unset] [(.ref a1)])) rfl (by rw [hml]; rfl) (Steps.refl _) (argsL := []) (rest := []) (lenOf pd17_ rfl) rfl (by show 2 * 0 + _ ≤ _; exact Nat.le_of_eq rfl) (hb hby k27_1) (fun _ _ => ⟨rfl, e0, (by decide : 0 + 0 ≤ _), (by decide : 0 + 0 ≤ _)⟩)
  dsimp only [Pt.U, Pt.locs, Pt.cells, Pt.slots] at X2 l2 y2 z2 st2 hQ2
  rw [l2] at X2
  clear l2; subst y2 z2
  obtain ⟨rfl, rfl, e2q⟩ := hQ2
  have N2a := Fr.app N0 (Fr.nil n0)
  obtain ⟨_, _, ⟨T4, L4, k4, n4⟩, -, X4, ⟨Lc4, hQ4, l4, y4, z4⟩, st4⟩ := Jvm.LawKit.callS X2 hx (y := m25_) hown (mvT hZ (wt hw 97 rfl)) (mvT hZ (wt hw 98 rfl)) (mvT hZ (wt hw 4 rfl)) (mvT hZ (wt hw 99 rfl)) (by decide) (backOf (W := 0) (rmBe l Z a0 hw [] cs.length h0 n0 (Nat.le_trans Z0 (Keep.refl h0 []).1) hG O0 h64 hm) hZ (wt hw 99 rfl) (wt hw 4 rfl) (by decide) (by decide)) (g := (mkF m 8 #[.val (.ref a1), .val (.int (0 : Int32)), .val (.int (Int32.ofNat 64)), .val (.int (Int32.ofNat cs.length)), .unset] [(.int (Int32.ofNat cs.length)), (.int (Int32.ofNat 64)), (.int (0 : Int32))])) rfl (by rw [hml]; rfl) (argsL := [(.int (0 : Int32)), (.int (Int32.ofNat 64)), (.int (Int32.ofNat cs.length))]) (rest := []) (lenOf pd18_ rfl) rfl (by show 2 * 0 + _ ≤ _; exact Nat.le_of_eq rfl) (hb hby k27_8) (fun _ _ => ⟨rfl, e2q, (by decide : 0 + 0 ≤ _), (by decide : 0 + 0 ≤ _)⟩)
  dsimp only [Pt.U, Pt.locs, Pt.cells, Pt.slots] at X4 l4 y4 z4 st4 hQ4
  rw [l4] at X4
  clear l4; subst y4 z4
  obtain ⟨rfl, N4q, e4q⟩ := hQ4
  have N4a := Fr.app N2a N4q
  obtain ⟨cq5, kq5, q5a, q5b, q5c⟩ := isOf hZ e4q S_a1.exa
  obtain ⟨_, _, ⟨T5, L5, k5, n5⟩, -, X5, ⟨Lc5, hQ5, l5, y5, z5⟩, st5⟩ := X4.virtualBack hx (y := m26_) (z := m26_) hown (mvT hZ (wt hw 105 rfl)) (mvT hZ (wt hw 106 rfl)) (notFace_of_selects (args := #[]) (mvT hZ (wt hw 108 rfl))) (mvT hZ (wt hw 108 rfl)) (mvT hZ (wt hw 107 rfl)) (by decide) (backOf (W := 0) (rmS1 l Z a0 hw [] a1 h0 n0 (Nat.le_trans Z0 (Keep.refl h0 []).1) hG O0 sC1) hZ (wt hw 109 rfl) (wt hw 4 rfl) (by decide) (by decide)) q5a q5c (g := (mkF m 28 #[.val (.ref a1), .val (.int (0 : Int32)), .val (.int (Int32.ofNat 64)), .val (.int (Int32.ofNat cs.length)), .val (.int (Int32.ofNat 64))] [(.ref a1)])) rfl (by rw [hml]; rfl) (Steps.refl _) (argsL := []) (rest := []) (lenOf pd19_ rfl) rfl (by show 2 * 0 + _ ≤ _; exact Nat.le_of_eq rfl) (hb hby k27_28) (fun _ _ => ⟨rfl, e4q, (by decide : 0 + 0 ≤ _), (by decide : 0 + 0 ≤ _)⟩)
  dsimp only [Pt.U, Pt.locs, Pt.cells, Pt.slots] at X5 l5 y5 z5 st5 hQ5
  rw [l5] at X5
  clear l5; subst y5 z5
  obtain ⟨rfl, N5q, e5q⟩ := hQ5
  have N5a := Fr.app N4a N5q
  obtain ⟨T6, X6, e6, st6⟩ := getF X5 hx hZ hown (host := "") (Or.inl (wt hw 21 rfl)) Via.refl e5q sV1 (g := (mkF m 48 #[.val (.ref a1), .val (.int (0 : Int32)), .val (.int (Int32.ofNat 64)), .val (.int (Int32.ofNat cs.length)), .val (.int (Int32.ofNat 64))] [(.ref a1)])) rfl rfl (hb hby k27_48)
  obtain ⟨_, _, ⟨T7, L7, k7, n7⟩, -, X7, ⟨Lc7, hQ7, l7, y7, z7⟩, st7⟩ := Jvm.LawKit.callS X6 hx (y := m23_) hown (mvT hZ (wt hw 224 rfl)) (mvT hZ (wt hw 225 rfl)) (mvT hZ (wt hw 46 rfl)) (mvT hZ (wt hw 226 rfl)) (by decide) (backOf (W := 0) (rmUn l Z a0 hw [] sb1 sk1 cs h0 n0 (Nat.le_trans Z0 (Keep.refl h0 []).1) hG O0 sA1 h64 hm hc) hZ (wt hw 226 rfl) (wt hw 46 rfl) (by decide) (by decide)) (g := (mkF m 54 #[.val (.ref a1), .val (.int (0 : Int32)), .val (.int (Int32.ofNat 64)), .val (.int (Int32.ofNat cs.length)), .val (.int (Int32.ofNat 64))] [(.int (Int32.ofNat 64)), (.int (0 : Int32)), (.ref sb1)])) rfl (by rw [hml]; rfl) (argsL := [(.ref sb1), (.int (0 : Int32)), (.int (Int32.ofNat 64))]) (rest := []) (lenOf pd20_ rfl) rfl (by show 2 * 0 + _ ≤ _; exact Nat.le_of_eq rfl) (hb hby k27_54) (fun _ _ => ⟨rfl, e6, (by decide : 0 + 3 ≤ _), (by decide : 0 + 202 ≤ _)⟩)
  dsimp only [Pt.U, Pt.locs, Pt.cells, Pt.slots] at X7 l7 y7 z7 st7 hQ7
  rw [l7] at X7
  clear l7; subst y7 z7
  obtain ⟨r7, rfl, N7q, K7q, SV7⟩ := hQ7
  have N7a := Fr.app N5a N7q
  have K1 : Keep h0 T7.heap [] := (Keep.refl h0 []).trans K7q all0
  obtain ⟨fs, hr, hrun, hended, hW, hsame⟩ := X7.leave (v := some (.ref r7)) (fun h => by rw [Bd.returns] at h; cases h)
  refine ⟨_, _, pre0 _ ?_, hrun, hended, _, _, rfl, ?_, ⟨_, rfl⟩, hW, hsame.mono (by decide) (by decide)⟩
  · show Steps p.tables e below (s₁.setTop (mkF m 0 #[.val (.ref a1), .val (.int (0 : Int32)), .val (.int (Int32.ofNat 64)), .unset, .unset] [])) _
    refine XS.aloadN X0.here hx rfl (hb hby k27_0) rfl rfl ?_
    show Steps p.tables e below (s₁.setTop (mkF m 1 #[.val (.ref a1), .val (.int (0 : Int32)), .val (.int (Int32.ofNat 64)), .unset, .unset] [(.ref a1)])) _
    refine st2.trans ?_
    refine XS.istoreN X2.here hx rfl (hb hby k27_4) rfl (l' := #[.val (.ref a1), .val (.int (0 : Int32)), .val (.int (Int32.ofNat 64)), .val (.int (Int32.ofNat cs.length)), .unset]) rfl ?_
    refine XS.iloadN X2.here hx rfl (hb hby k27_5) rfl ?_
    refine XS.iloadN X2.here hx rfl (hb hby k27_6) rfl ?_
    refine XS.iloadN X2.here hx rfl (hb hby k27_7) rfl ?_
    show Steps p.tables e below (T2.setTop (mkF m 8 #[.val (.ref a1), .val (.int (0 : Int32)), .val (.int (Int32.ofNat 64)), .val (.int (Int32.ofNat cs.length)), .unset] [(.int (Int32.ofNat cs.length)), (.int (Int32.ofNat 64)), (.int (0 : Int32))])) _
    refine st4 _ ?_
    refine XS.iloadN X4.here hx rfl (hb hby k27_11) rfl ?_
    show Steps p.tables e below (T4.setTop (mkF m 12 #[.val (.ref a1), .val (.int (0 : Int32)), .val (.int (Int32.ofNat 64)), .val (.int (Int32.ofNat cs.length)), .unset] [(.int (0 : Int32))])) _
    refine XS.ifNo X4.here hx rfl (hb hby k27_12) rfl ((if0 _ _).trans (teq (rfl : (0 : Int32) = (0 : Int32))).2) ?_
    refine XS.iloadN X4.here hx rfl (hb hby k27_15) rfl ?_
    refine XS.iloadN X4.here hx rfl (hb hby k27_16) rfl ?_
    show Steps p.tables e below (T4.setTop (mkF m 17 #[.val (.ref a1), .val (.int (0 : Int32)), .val (.int (Int32.ofNat 64)), .val (.int (Int32.ofNat cs.length)), .unset] [(.int (Int32.ofNat cs.length)), (.int (Int32.ofNat 64))])) _
    refine XS.icmpYes X4.here hx rfl (pc0 := 17) (pc' := 22) rfl (hb hby k27_17) rfl (feq (fun q => by have := (own_eq_of (by omega) (by omega)).mp q; omega : ¬ ((Int32.ofNat 64) = (Int32.ofNat cs.length)))).2 (by decide) (by decide) ?_
    refine XS.iloadN X4.here hx rfl (hb hby k27_22) rfl ?_
    refine XS.iloadN X4.here hx rfl (hb hby k27_23) rfl ?_
    refine XS.isub X4.here hx rfl (hb hby k27_24) rfl ?_
    show Steps p.tables e below (T4.setTop (mkF m 25 #[.val (.ref a1), .val (.int (0 : Int32)), .val (.int (Int32.ofNat 64)), .val (.int (Int32.ofNat cs.length)), .unset] [(.int ((Int32.ofNat 64) - (0 : Int32)))])) _
    rw [own_sub0]
    refine XS.istore X4.here hx rfl (hb hby k27_25) rfl (l' := #[.val (.ref a1), .val (.int (0 : Int32)), .val (.int (Int32.ofNat 64)), .val (.int (Int32.ofNat cs.length)), .val (.int (Int32.ofNat 64))]) rfl ?_
    refine XS.aloadN X4.here hx rfl (hb hby k27_27) rfl rfl ?_
    show Steps p.tables e below (T4.setTop (mkF m 28 #[.val (.ref a1), .val (.int (0 : Int32)), .val (.int (Int32.ofNat 64)), .val (.int (Int32.ofNat cs.length)), .val (.int (Int32.ofNat 64))] [(.ref a1)])) _
    refine st5.trans ?_
    show Steps p.tables e below (T5.setTop (mkF m 31 #[.val (.ref a1), .val (.int (0 : Int32)), .val (.int (Int32.ofNat 64)), .val (.int (Int32.ofNat cs.length)), .val (.int (Int32.ofNat 64))] [(.int (0 : Int32))])) _
    refine XS.ifYes X5.here hx rfl (pc0 := 31) (pc' := 47) rfl (hb hby k27_31) rfl ((if0 _ _).trans (teq (by decide : (0 : Int32) = (0 : Int32))).1) (by decide) (by decide) ?_
    refine XS.aloadN X5.here hx rfl (hb hby k27_47) rfl rfl ?_
    show Steps p.tables e below (T5.setTop (mkF m 48 #[.val (.ref a1), .val (.int (0 : Int32)), .val (.int (Int32.ofNat 64)), .val (.int (Int32.ofNat cs.length)), .val (.int (Int32.ofNat 64))] [(.ref a1)])) _
    refine st6 _ ?_
    refine XS.iloadN X6.here hx rfl (hb hby k27_51) rfl ?_
    refine XS.iload X6.here hx rfl (hb hby k27_52) rfl ?_
    show Steps p.tables e below (T6.setTop (mkF m 54 #[.val (.ref a1), .val (.int (0 : Int32)), .val (.int (Int32.ofNat 64)), .val (.int (Int32.ofNat cs.length)), .val (.int (Int32.ofNat 64))] [(.int (Int32.ofNat 64)), (.int (0 : Int32)), (.ref sb1)])) _
    refine st7 _ ?_
    show Steps p.tables e below (T7.setTop (mkF m 57 #[.val (.ref a1), .val (.int (0 : Int32)), .val (.int (Int32.ofNat 64)), .val (.int (Int32.ofNat cs.length)), .val (.int (Int32.ofNat 64))] [(.ref r7)])) _
    jvm_step X7.here [X7.here.top, hx, (hb hby k27_57), X7.method', Bd.returns, Value.isRef, FieldType.isReference]
    first | (intro acts; rw [hr _ acts rfl rfl rfl]) | rw [hr _ _ rfl rfl rfl]
    exact Steps.refl _
  · show QSr Z (cs.take 64) h0 n0 _ T7.heap _
    exact ⟨r7, rfl, N7a, K1, SV7⟩
theorem rmSub (l : Launch) (Z : State) (a0 : Array Value) (hw : HW a0 Z) (ws : List Jvm.Cond) (a1 : Addr) (cs : List Int32) (h0 : Heap) (n0 : Nat) (Z0 : n0 ≤ h0.size) (hG : GST Z) (O0 : Old Z n0 h0) (S : StrU Z h0 a1 cs) (h64 : 64 < cs.length) (hm : cs.length ≤ 127) (hc : ∀ c ∈ cs, ¬ c < 0 ∧ ¬ (65535 : Int32) < c) :
    Met l Z ws m27_ jdk_42_method_92_code 5 (some (.object "java/lang/String")) ({ frames := 6, cells := 3, slots := 202, locals := 107 } : Room) h0 #[(.ref a1), (.int (0 : Int32)), (.int (Int32.ofNat 64))] (QSr Z (cs.take 64) h0 n0) := by
  rcases own_latw cs with q | q
  · exact rsub0 l Z a0 hw ws a1 cs h0 n0 Z0 hG O0 S h64 hm hc q
  · exact rsub1 l Z a0 hw ws a1 cs h0 n0 Z0 hG O0 S h64 hm hc q
theorem k28_0 : decode c28_ 0 = .ok (.aload_n 0, 1) := by decide +kernel
theorem k28_1 : decode c28_ 1 = .ok (.invokespecial 3, 3) := by decide +kernel
theorem k28_4 : decode c28_ 4 = .ok (.getstatic 18, 3) := by decide +kernel
theorem k28_7 : decode c28_ 7 = .ok (.ifCond .eq 18, 3) := by decide +kernel
theorem k28_10 : decode c28_ 10 = .ok (.aload_n 0, 1) := by decide +kernel
theorem k28_11 : decode c28_ 11 = .ok (.iload_n 1, 1) := by decide +kernel
theorem k28_12 : decode c28_ 12 = .ok (.newarray .byte, 2) := by decide +kernel
theorem k28_14 : decode c28_ 14 = .ok (.putfield 15, 3) := by decide +kernel
theorem k28_17 : decode c28_ 17 = .ok (.aload_n 0, 1) := by decide +kernel
theorem k28_18 : decode c28_ 18 = .ok (.iconst 0, 1) := by decide +kernel
theorem k28_19 : decode c28_ 19 = .ok (.putfield 22, 3) := by decide +kernel
theorem k28_22 : decode c28_ 22 = .ok (.goto 16, 3) := by decide +kernel
theorem k28_38 : decode c28_ 38 = .ok (.return_, 1) := by decide +kernel
theorem pn5_ : plainName "java/lang/AbstractStringBuilder" = true := by first | (simp [plainName, overriddenIn]; done) | decide +kernel
theorem ef28_ (m : MethodId) (x0 : Addr) (x1 : Int32) : entryFrame m #[(.ref x0), (.int x1)] 2 = mkF m 0 #[.val (.ref x0), .val (.int x1)] [] := by first | (simp [entryFrame, mkF, argsToLocals, Value.category]; done) | rfl
theorem rmAi (l : Launch) (Z : State) (a0 : Array Value) (hw : HW a0 Z) (ws : List Jvm.Cond) (a1 : Addr) (h0 : Heap) (n0 : Nat) (Z0 : n0 ≤ h0.size) (hG : GST Z) (O0 : Old Z n0 h0) (E_a1 : Exa Z h0 a1 "java/lang/StringBuilder") (F_value_a1 : Fld Z h0 a1 "java/lang/AbstractStringBuilder" "value" "[B" .null) (F_coder_a1 : Fld Z h0 a1 "java/lang/AbstractStringBuilder" "coder" "B" (.int (0 : Int32))) (F_count_a1 : Fld Z h0 a1 "java/lang/AbstractStringBuilder" "count" "I" (.int (0 : Int32))) (F_maybeLatin1_a1 : Fld Z h0 a1 "java/lang/AbstractStringBuilder" "maybeLatin1" "Z" (.int (0 : Int32))) (g_a1 : n0 ≤ a1) :
    Met l Z ws m29_ jdk_68_method_2_code 2 none ({ frames := 1, cells := 1, slots := 16, locals := 12 } : Room) h0 #[(.ref a1), (.int (16 : Int32))] (QSB Z none a1 0 0 (16 : Int32) [] h0 n0) := by
  refine MetFree.of_bodySF (plainFor_of_name pn5_) hisR ?_
  intro p e s m args below meth c s₁ Bd hml0 hP hK
  obtain ⟨rfl, hZ, hh⟩ := hP
  have hx := Bd.exec
  have hby := Bd.bytes
  have hml : c.maxLocals = 2 := hml0
  have hown : s.vm.findClass "java/lang/AbstractStringBuilder" = some m.cls := findClass_of_methodNamed Bd.named
  have X0 : Stand p l e ({ frames := 1, cells := 1, slots := 16, locals := 12 } : Room) s m #[(.ref a1), (.int (16 : Int32))] below meth c s₁ [] 0 0 := Stand.of_body Bd
  have e0 : s₁.heap = h0 := by rw [← hh, Bd.state]; rfl
  have N0 := Fr.nil n0
  have pre0 : ∀ t, Steps p.tables e below (s₁.setTop (mkF m 0 #[.val (.ref a1), .val (.int (16 : Int32))] [])) t → Steps p.tables e below (s₁.setTop (entryFrame m #[(.ref a1), (.int (16 : Int32))] 2)) t := fun t k => castTop (ef28_ m a1 (16 : Int32)) k
  obtain ⟨⟨G1, O2, P5⟩, ⟨G3, O4, rG3⟩, Sa, Sh, Sl⟩ := id hG
  obtain ⟨T1, X1, e1, st1⟩ := initO X0 hx hZ hown (wt hw 85 rfl) (wt hw 13 rfl) (wt hw 14 rfl) e0 (g := (mkF m 1 #[.val (.ref a1), .val (.int (16 : Int32))] [(.ref a1)])) rfl (by rw [hml]; rfl) rfl (hb hby k28_1) (by decide) (W := 0) (by show 2 * 0 + _ ≤ _; exact Nat.le_of_eq rfl) (by decide)
  obtain ⟨T2, X2, e2, st2⟩ := getS2 X1 hx hZ hown (host := "") (Or.inl (wt hw 86 rfl)) Via.refl e1 (O2.ext O0.2) (g := (mkF m 4 #[.val (.ref a1), .val (.int (16 : Int32))] [])) rfl (hb hby k28_4)
  obtain ⟨T3, h3, ka3, X3, e3, E3, A3, st3⟩ := newP X2 hx hZ (wt hw 16 rfl) e2 (g := (mkF m 12 #[.val (.ref a1), .val (.int (16 : Int32))] [(.int (16 : Int32)), (.ref a1)])) rfl (hb hby k28_12) rfl (by decide) (cap := 16) (by decide) (by decide) (by decide) (by decide)
  obtain ⟨b3, g3⟩ : ∃ z, z = h0.size := ⟨_, rfl⟩
  rw [← g3] at A3 st3
  have sz_b3 : h0.size ≤ b3 := Nat.le_trans (Keep.refl h0 [a1]).1 (Nat.le_of_eq g3.symm)
  have K1 : Keep h0 h3 [a1] := (Keep.refl h0 [a1]).ext E3
  have V_b3 : Arv Z h3 b3 ka3 .byte (16 : Int32) [] (.int (0 : Int32)) := Arv.new A3 (by decide)
  have f4 : Fld Z h3 a1 "java/lang/AbstractStringBuilder" "value" "[B" .null := (F_value_a1.ext E3)
  have f5 : Exa Z h3 a1 "java/lang/StringBuilder" := (E_a1.ext E3)
  obtain ⟨T6, h6, X6, e6, W6, st6⟩ := putF X3 hx hZ hown (host := "") (Or.inl (wt hw 87 rfl)) Via.refl e3 f4 f5 (Or.inl (wt hw 88 rfl)) (wt hw 74 rfl) (ty := (.array .byte)) (by decide) rfl rfl (g := (mkF m 14 #[.val (.ref a1), .val (.int (16 : Int32))] [(.ref b3), (.ref a1)])) rfl rfl (hb hby k28_14)
  have Fw6 := f4.same W6
  have Nf6 := Fr.snoc X6 N0 g_a1
  have K2 : Keep h0 h6 [a1] := K1.wr W6 (Or.inl (List.mem_of_getElem? (i := 0) rfl))
  have f7 : Fld Z h6 a1 "java/lang/AbstractStringBuilder" "coder" "B" (.int (0 : Int32)) := ((F_coder_a1.ext E3).other W6 (Or.inr (slot_ne (Or.inl (wt hw 90 rfl)) (Or.inl (wt hw 88 rfl)) (by decide) (t := .byte) (t' := (.array .byte)) (by decide) (by decide))))
  have f8 : Exa Z h6 a1 "java/lang/StringBuilder" := (f5.wr W6)
  obtain ⟨T9, h9, X9, e9, W9, st9⟩ := putFN X6 hx hZ hown (wt hw 89 rfl) Via.refl e6 f7 f8 (Or.inl (wt hw 90 rfl)) (wt hw 74 rfl) (ty := .byte) (v' := (.int (0 : Int32))) (by decide) rfl rfl (g := (mkF m 19 #[.val (.ref a1), .val (.int (16 : Int32))] [(.int (0 : Int32)), (.ref a1)])) rfl rfl (hb hby k28_19)
  have Fw9 := f7.same W9
  have Nf9 := Fr.snoc X9 Nf6 g_a1
  have K3 : Keep h0 h9 [a1] := K2.wr W9 (Or.inl (List.mem_of_getElem? (i := 0) rfl))
  have f10 : Exa Z h9 a1 "java/lang/StringBuilder" := (f8.wr W9)
  have f11 : Fld Z h9 a1 "java/lang/AbstractStringBuilder" "value" "[B" (.ref b3) := (Fw6.other W9 (Or.inr (slot_ne (Or.inl (wt hw 88 rfl)) (Or.inl (wt hw 90 rfl)) (by decide) (t := (.array .byte)) (t' := .byte) (by decide) (by decide))))
  have f12 : Fld Z h9 a1 "java/lang/AbstractStringBuilder" "count" "I" (.int (0 : Int32)) := (((F_count_a1.ext E3).other W6 (Or.inr (slot_ne (Or.inl (wt hw 148 rfl)) (Or.inl (wt hw 88 rfl)) (by decide) (t := .int) (t' := (.array .byte)) (by decide) (by decide)))).other W9 (Or.inr (slot_ne (Or.inl (wt hw 148 rfl)) (Or.inl (wt hw 90 rfl)) (by decide) (t := .int) (t' := .byte) (by decide) (by decide))))
  have f13 : Fld Z h9 a1 "java/lang/AbstractStringBuilder" "maybeLatin1" "Z" (.int (0 : Int32)) := (((F_maybeLatin1_a1.ext E3).other W6 (Or.inr (slot_ne (Or.inl (wt hw 265 rfl)) (Or.inl (wt hw 88 rfl)) (by decide) (t := .boolean) (t' := (.array .byte)) (by decide) (by decide)))).other W9 (Or.inr (slot_ne (Or.inl (wt hw 265 rfl)) (Or.inl (wt hw 90 rfl)) (by decide) (t := .boolean) (t' := .byte) (by decide) (by decide))))
  have f14 : Arv Z h9 b3 ka3 .byte (16 : Int32) [] (.int (0 : Int32)) := ((V_b3.other W6 (Ne.symm (Nat.ne_of_lt (Nat.lt_of_lt_of_le E_a1.lt (Nat.le_of_eq g3.symm))))).other W9 (Ne.symm (Nat.ne_of_lt (Nat.lt_of_lt_of_le E_a1.lt (Nat.le_of_eq g3.symm)))))
  obtain ⟨fs, hr, hrun, hended, hW, hsame⟩ := X9.leave (v := none) (fun _ => rfl)
  refine ⟨_, _, pre0 _ ?_, hrun, hended, _, _, rfl, ?_, ⟨_, rfl⟩, hW, hsame.mono (by decide) (by decide)⟩
  · show Steps p.tables e below (s₁.setTop (mkF m 0 #[.val (.ref a1), .val (.int (16 : Int32))] [])) _
    refine XS.aloadN X0.here hx rfl (hb hby k28_0) rfl rfl ?_
    show Steps p.tables e below (s₁.setTop (mkF m 1 #[.val (.ref a1), .val (.int (16 : Int32))] [(.ref a1)])) _
    refine st1 _ ?_
    show Steps p.tables e below (T1.setTop (mkF m 4 #[.val (.ref a1), .val (.int (16 : Int32))] [])) _
    refine st2 _ ?_
    show Steps p.tables e below (T2.setTop (mkF m 7 #[.val (.ref a1), .val (.int (16 : Int32))] [(.int G1)])) _
    refine XS.ifNo X2.here hx rfl (hb hby k28_7) rfl ((if0 _ _).trans (feq (P5 : ¬ (G1 = (0 : Int32)))).1) ?_
    refine XS.aloadN X2.here hx rfl (hb hby k28_10) rfl rfl ?_
    refine XS.iloadN X2.here hx rfl (hb hby k28_11) rfl ?_
    show Steps p.tables e below (T2.setTop (mkF m 12 #[.val (.ref a1), .val (.int (16 : Int32))] [(.int (16 : Int32)), (.ref a1)])) _
    refine st3 _ ?_
    show Steps p.tables e below (T3.setTop (mkF m 14 #[.val (.ref a1), .val (.int (16 : Int32))] [(.ref b3), (.ref a1)])) _
    refine st6 _ ?_
    refine XS.aloadN X6.here hx rfl (hb hby k28_17) rfl rfl ?_
    refine XS.iconst X6.here hx rfl (hb hby k28_18) ?_
    show Steps p.tables e below (T6.setTop (mkF m 19 #[.val (.ref a1), .val (.int (16 : Int32))] [(.int (0 : Int32)), (.ref a1)])) _
    refine st9 _ ?_
    refine XS.goto X9.here hx rfl (pc0 := 22) (pc' := 38) rfl (hb hby k28_22) (by decide) (by decide) ?_
    show Steps p.tables e below (T9.setTop (mkF m 38 #[.val (.ref a1), .val (.int (16 : Int32))] [])) _
    exact X9.returnOut hx Bd.returns (hb hby k28_38) hr
  · show QSB Z none a1 0 0 (16 : Int32) [] h0 n0 _ T9.heap _
    rw [e9]
    exact ⟨b3, ka3, rfl, Nf9, K3, sz_b3, ⟨f10, f11, Fw9, f12, f13, f14⟩⟩
theorem k29_0 : decode c29_ 0 = .ok (.aload_n 0, 1) := by decide +kernel
theorem k29_1 : decode c29_ 1 = .ok (.bipush 16, 2) := by decide +kernel
theorem k29_3 : decode c29_ 3 = .ok (.invokespecial 1, 3) := by decide +kernel
theorem k29_6 : decode c29_ 6 = .ok (.return_, 1) := by decide +kernel
theorem pd21_ : parseMethodDescriptor "(I)V" = some ⟨[.int], none⟩ := by decide +kernel
theorem pn6_ : plainName "java/lang/StringBuilder" = true := by first | (simp [plainName, overriddenIn]; done) | decide +kernel
theorem ef29_ (m : MethodId) (x0 : Addr) : entryFrame m #[(.ref x0)] 1 = mkF m 0 #[.val (.ref x0)] [] := by first | (simp [entryFrame, mkF, argsToLocals, Value.category]; done) | rfl
theorem rmSi (l : Launch) (Z : State) (a0 : Array Value) (hw : HW a0 Z) (ws : List Jvm.Cond) (a1 : Addr) (h0 : Heap) (n0 : Nat) (Z0 : n0 ≤ h0.size) (hG : GST Z) (O0 : Old Z n0 h0) (E_a1 : Exa Z h0 a1 "java/lang/StringBuilder") (F_value_a1 : Fld Z h0 a1 "java/lang/AbstractStringBuilder" "value" "[B" .null) (F_coder_a1 : Fld Z h0 a1 "java/lang/AbstractStringBuilder" "coder" "B" (.int (0 : Int32))) (F_count_a1 : Fld Z h0 a1 "java/lang/AbstractStringBuilder" "count" "I" (.int (0 : Int32))) (F_maybeLatin1_a1 : Fld Z h0 a1 "java/lang/AbstractStringBuilder" "maybeLatin1" "Z" (.int (0 : Int32))) (g_a1 : n0 ≤ a1) :
    Met l Z ws m30_ jdk_67_method_1_code 1 none ({ frames := 2, cells := 1, slots := 16, locals := 25 } : Room) h0 #[(.ref a1)] (QSB Z none a1 0 0 (16 : Int32) [] h0 n0) := by
  refine MetFree.of_bodySF (plainFor_of_name pn6_) hisR ?_
  intro p e s m args below meth c s₁ Bd hml0 hP hK
  obtain ⟨rfl, hZ, hh⟩ := hP
  have hx := Bd.exec
  have hby := Bd.bytes
  have hml : c.maxLocals = 1 := hml0
  have hown : s.vm.findClass "java/lang/StringBuilder" = some m.cls := findClass_of_methodNamed Bd.named
  have X0 : Stand p l e ({ frames := 2, cells := 1, slots := 16, locals := 25 } : Room) s m #[(.ref a1)] below meth c s₁ [] 0 0 := Stand.of_body Bd
  have e0 : s₁.heap = h0 := by rw [← hh, Bd.state]; rfl
  have N0 := Fr.nil n0
  have pre0 : ∀ t, Steps p.tables e below (s₁.setTop (mkF m 0 #[.val (.ref a1)] [])) t → Steps p.tables e below (s₁.setTop (entryFrame m #[(.ref a1)] 1)) t := fun t k => castTop (ef29_ m a1) k
  obtain ⟨⟨G1, O2, P5⟩, ⟨G3, O4, rG3⟩, Sa, Sh, Sl⟩ := id hG
  obtain ⟨_, _, ⟨T1, L1, k1, n1⟩, -, X1, ⟨Lc1, hQ1, l1, y1, z1⟩, st1⟩ := X0.specialBack hx (y := m29_) rfl hown (mvT hZ (wt hw 79 rfl)) (mvT hZ (wt hw 80 rfl)) (mvT hZ (wt hw 84 rfl)) (by decide) (backOf (W := 0) (rmAi l Z a0 hw [] a1 h0 n0 (Nat.le_trans Z0 (Keep.refl h0 [a1]).1) hG O0 E_a1 F_value_a1 F_coder_a1 F_count_a1 F_maybeLatin1_a1 g_a1) hZ (wt hw 84 rfl) (wt hw 83 rfl) (by decide) (by decide)) (g := (mkF m 3 #[.val (.ref a1)] [(.int (16 : Int32)), (.ref a1)])) rfl (by rw [hml]; rfl) (Steps.refl _) (a := a1) (argsL := [(.int (16 : Int32))]) (rest := []) (lenOf pd21_ rfl) rfl (by show 2 * 0 + _ ≤ _; exact Nat.le_of_eq rfl) (hb hby k29_3) (fun _ _ => ⟨rfl, e0, (by decide : 0 + 1 ≤ _), (by decide : 0 + 16 ≤ _)⟩)
  dsimp only [Pt.U, Pt.locs, Pt.cells, Pt.slots] at X1 l1 y1 z1 st1 hQ1
  rw [l1] at X1
  clear l1; subst y1 z1
  obtain ⟨t1, tk1, rfl, N1q, K1q, ts1, Sb1⟩ := hQ1
  have N1a := Fr.app N0 N1q
  have K1 : Keep h0 T1.heap [a1] := (Keep.refl h0 [a1]).trans K1q (allS (Or.inl (List.mem_of_getElem? (i := 0) rfl)) all0)
  have sz_t1 : h0.size ≤ t1 := Nat.le_trans (Keep.refl h0 [a1]).1 ts1
  obtain ⟨bE2, bV2, bC2, bN2, bM2, bA2⟩ := id Sb1
  obtain ⟨fs, hr, hrun, hended, hW, hsame⟩ := X1.leave (v := none) (fun _ => rfl)
  refine ⟨_, _, pre0 _ ?_, hrun, hended, _, _, rfl, ?_, ⟨_, rfl⟩, hW, hsame.mono (by decide) (by decide)⟩
  · show Steps p.tables e below (s₁.setTop (mkF m 0 #[.val (.ref a1)] [])) _
    refine XS.aloadN X0.here hx rfl (hb hby k29_0) rfl rfl ?_
    refine XS.bipush X0.here hx rfl (hb hby k29_1) ?_
    show Steps p.tables e below (s₁.setTop (mkF m 3 #[.val (.ref a1)] [(.int (16 : Int32)), (.ref a1)])) _
    refine st1.trans ?_
    show Steps p.tables e below (T1.setTop (mkF m 6 #[.val (.ref a1)] [])) _
    exact X1.returnOut hx Bd.returns (hb hby k29_6) hr
  · show QSB Z none a1 0 0 (16 : Int32) [] h0 n0 _ T1.heap _
    exact ⟨t1, tk1, rfl, N1a, K1, sz_t1, ⟨bE2, bV2, bC2, bN2, bM2, bA2⟩⟩
theorem own_selSelf {s : State} {args : Array Value} {y : MethodName} (hinst : (Jvm.Cond.instanceMethod y).before args s = true) (hpriv : s.PrivateAt y) (nf : NotFace s y) (hy : y.cls ≠ "java/lang/invoke/MethodHandle" ∧ y.cls ≠ "java/lang/invoke/VarHandle") : (Jvm.Cond.selects y.cls y y).before args s = true := by
  obtain ⟨mk, methM, hnamed, hmethM, -, -⟩ := Cond.instanceMethod_spec hinst
  obtain ⟨k, hk, hni⟩ := nf mk hnamed
  exact selects_self_of_private (findClass_of_methodNamed hnamed) hk hni hpriv hinst hy
theorem own_nf {s : State} {y y2 : MethodName} (nf : NotFace s y2) (hd : ∃ m, s.methodNamed? y2 = some m) (e : y2.cls = y.cls) : NotFace s y := fun r h => by
  obtain ⟨m, hm⟩ := hd
  obtain ⟨k, hk, hni⟩ := nf m hm
  have h1 := findClass_of_methodNamed h
  have h2 := findClass_of_methodNamed hm
  rw [e, h1] at h2
  exact ⟨k, by rw [Option.some.inj h2]; exact hk, hni⟩
theorem own_same {s : State} {args : Array Value} {y y2 : MethodName} (hd : (Jvm.Cond.declares y).before args s = true) (nf : NotFace s y) (hy : y.cls ≠ "java/lang/invoke/MethodHandle" ∧ y.cls ≠ "java/lang/invoke/VarHandle") : (Jvm.Cond.sameMethod y.cls y.cls y.name y.desc).before args s = true := by
  obtain ⟨m, meth, hn, -, -, -⟩ := Cond.declares_spec hd
  obtain ⟨k, hk, hni⟩ := nf m hn
  have hc := findClass_of_methodNamed hn
  have hf := State.methodFound?_of_named hn hy
  have hn' : s.methodNamed? ⟨y.cls, y.name, y.desc⟩ = some m := hn
  simp [Cond.before, Cond.holds, Cond.value, hc, hf, hn', hk, hni]
theorem own_named {s : State} {args : Array Value} {y : MethodName} (h : (Jvm.Cond.declares y).before args s = true) : ∃ m, s.methodNamed? y = some m := by
  obtain ⟨m, -, h, -⟩ := Cond.declares_spec h; exact ⟨m, h⟩
theorem k30_0 : decode c30_ 0 = .ok (.iload_n 1, 1) := by decide +kernel
theorem k30_1 : decode c30_ 1 = .ok (.aload_n 0, 1) := by decide +kernel
theorem k30_2 : decode c30_ 2 = .ok (.arraylength, 1) := by decide +kernel
theorem k30_3 : decode c30_ 3 = .ok (.if_icmp .ne 11, 3) := by decide +kernel
theorem k30_14 : decode c30_ 14 = .ok (.iload_n 1, 1) := by decide +kernel
theorem k30_15 : decode c30_ 15 = .ok (.newarray .byte, 2) := by decide +kernel
theorem k30_17 : decode c30_ 17 = .ok (.astore_n 2, 1) := by decide +kernel
theorem k30_18 : decode c30_ 18 = .ok (.aload_n 0, 1) := by decide +kernel
theorem k30_19 : decode c30_ 19 = .ok (.iconst 0, 1) := by decide +kernel
theorem k30_20 : decode c30_ 20 = .ok (.aload_n 2, 1) := by decide +kernel
theorem k30_21 : decode c30_ 21 = .ok (.iconst 0, 1) := by decide +kernel
theorem k30_22 : decode c30_ 22 = .ok (.aload_n 0, 1) := by decide +kernel
theorem k30_23 : decode c30_ 23 = .ok (.arraylength, 1) := by decide +kernel
theorem k30_24 : decode c30_ 24 = .ok (.iload_n 1, 1) := by decide +kernel
theorem k30_25 : decode c30_ 25 = .ok (.invokestatic 304, 3) := by decide +kernel
theorem k30_28 : decode c30_ 28 = .ok (.invokestatic 150, 3) := by decide +kernel
theorem k30_31 : decode c30_ 31 = .ok (.aload_n 2, 1) := by decide +kernel
theorem k30_32 : decode c30_ 32 = .ok (.areturn, 1) := by decide +kernel
theorem ef30_ (m : MethodId) (x0 : Addr) (x1 : Int32) : entryFrame m #[(.ref x0), (.int x1)] 3 = mkF m 0 #[.val (.ref x0), .val (.int x1), .unset] [] := by first | (simp [entryFrame, mkF, argsToLocals, Value.category]; done) | rfl
theorem rmCo (l : Launch) (Z : State) (a0 : Array Value) (hw : HW a0 Z) (ws : List Jvm.Cond) (a1 : Addr) (kb : ClassId) (od nw : Nat) (vs : List Value) (h0 : Heap) (n0 : Nat) (Z0 : n0 ≤ h0.size) (V_a1 : Arv Z h0 a1 kb .byte (Int32.ofNat od) vs (.int (0 : Int32))) (hvs : vs.length ≤ od) (hod : od < nw) (hnw : nw ≤ 260) :
    Met l Z ws m31_ jdk_65_method_121_code 3 (some (.array .byte)) ({ frames := 1, cells := 1, slots := 260, locals := 40 } : Room) h0 #[(.ref a1), (.int (Int32.ofNat nw))] (QA Z (Int32.ofNat nw) vs h0 n0) := by
  refine MetFree.of_bodySF (plainFor_of_name pn3_) hisR ?_
  intro p e s m args below meth c s₁ Bd hml0 hP hK
  obtain ⟨rfl, hZ, hh⟩ := hP
  have hx := Bd.exec
  have hby := Bd.bytes
  have hml : c.maxLocals = 3 := hml0
  have hown : s.vm.findClass "java/util/Arrays" = some m.cls := findClass_of_methodNamed Bd.named
  have X0 : Stand p l e ({ frames := 1, cells := 1, slots := 260, locals := 40 } : Room) s m #[(.ref a1), (.int (Int32.ofNat nw))] below meth c s₁ [] 0 0 := Stand.of_body Bd
  have e0 : s₁.heap = h0 := by rw [← hh, Bd.state]; rfl
  have N0 := Fr.nil n0
  have pre0 : ∀ t, Steps p.tables e below (s₁.setTop (mkF m 0 #[.val (.ref a1), .val (.int (Int32.ofNat nw)), .unset] [])) t → Steps p.tables e below (s₁.setTop (entryFrame m #[(.ref a1), (.int (Int32.ofNat nw))] 3)) t := fun t k => castTop (ef30_ m a1 (Int32.ofNat nw)) k
  obtain ⟨cl1, Ar1, q1, S1, N_1, H_1, G1⟩ := id V_a1
  obtain ⟨T2, h2, ka2, X2, e2, E2, A2, st2⟩ := newP X0 hx hZ (wt hw 16 rfl) e0 (g := (mkF m 15 #[.val (.ref a1), .val (.int (Int32.ofNat nw)), .unset] [(.int (Int32.ofNat nw))])) rfl (hb hby k30_15) rfl (own_nonneg (by omega)) (cap := 260) (by rw [own_clamp (by omega)]; omega) (by decide) (by decide) (by decide)
  obtain ⟨b2, g2⟩ : ∃ z, z = h0.size := ⟨_, rfl⟩
  rw [← g2] at A2 st2
  have sz_b2 : h0.size ≤ b2 := Nat.le_trans (Keep.refl h0 []).1 (Nat.le_of_eq g2.symm)
  have g_b2 : n0 ≤ b2 := Nat.le_trans Z0 sz_b2
  have K1 : Keep h0 h2 [] := (Keep.refl h0 []).ext E2
  have V_b2 : Arv Z h2 b2 ka2 .byte (Int32.ofNat nw) [] (.int (0 : Int32)) := Arv.new A2 (own_nonneg (by omega))
  have f3 : Arv Z h2 a1 kb .byte (Int32.ofNat od) vs (.int (0 : Int32)) := (V_a1.ext E2)
  obtain ⟨cl4, Ar4, q4, S4, N_4, H_4, G4⟩ := id f3
  obtain ⟨_, _, ⟨T5, L5, k5, n5⟩, -, X5, ⟨Lc5, hQ5, l5, y5, z5⟩, st5⟩ := Jvm.LawKit.callS X2 hx (y := m16_) hown (mvT hZ (wt hw 125 rfl)) (mvT hZ (wt hw 126 rfl)) (mvT hZ (wt hw 127 rfl)) (mvT hZ (wt hw 128 rfl)) (by decide) (backOf (W := 4) (rmMinL l Z a0 hw [] (Int32.ofNat od) (Int32.ofNat nw) h2 n0 (Nat.le_trans Z0 K1.1) (fun q => by have := (own_lt_of (by omega) (by omega)).mp q; omega)) hZ (wt hw 128 rfl) (wt hw 127 rfl) (by decide) (by decide)) (g := (mkF m 25 #[.val (.ref a1), .val (.int (Int32.ofNat nw)), .val (.ref b2)] [(.int (Int32.ofNat nw)), (.int (Int32.ofNat od)), (.int (0 : Int32)), (.ref b2), (.int (0 : Int32)), (.ref a1)])) rfl (by rw [hml]; rfl) (argsL := [(.int (Int32.ofNat od)), (.int (Int32.ofNat nw))]) (rest := [(.int (0 : Int32)), (.ref b2), (.int (0 : Int32)), (.ref a1)]) (lenOf pd13_ rfl) rfl (by show 2 * 0 + _ ≤ _; exact Nat.le_of_eq rfl) (hb hby k30_25) (fun _ _ => ⟨rfl, e2, (by decide : 1 + 0 ≤ _), (by decide : 260 + 0 ≤ _)⟩)
  dsimp only [Pt.U, Pt.locs, Pt.cells, Pt.slots] at X5 l5 y5 z5 st5 hQ5
  rw [l5] at X5
  clear l5; subst y5 z5
  obtain ⟨rfl, N5q, e5q⟩ := hQ5
  have N5a := Fr.app N0 N5q
  have Vp6 : Arv Z h2 b2 ka2 .byte (Int32.ofNat nw) ([] ++ List.replicate (od + (nw - od)) (Value.int (0 : Int32))) (.int (0 : Int32)) := V_b2.pad (pad_rep [] (.int (0 : Int32)) (od + (nw - od)))
  have Vp7 : Arv Z h2 a1 kb .byte (Int32.ofNat od) (vs ++ List.replicate (od - vs.length) (Value.int (0 : Int32))) (.int (0 : Int32)) := f3.pad (pad_rep vs (.int (0 : Int32)) (od - vs.length))
  obtain ⟨T8, h8, Lq8, X8, e8, N8a, Kq8, Aq8, st8⟩ := cpA X5 hx hZ hown (wt hw 129 rfl) (wt hw 132 rfl) (wt hw 130 rfl) (wt hw 131 rfl) e5q Vp7 Vp6 (Or.inl ⟨rfl, rfl⟩) (by decide) (by decide) (own_nonneg (by omega)) (own_h4 _) (show (0 : Int32).toNatClampNeg + (Int32.ofNat od).toNatClampNeg ≤ (Int32.ofNat nw).toNatClampNeg from own_h5 (i := 0) (by omega) (by omega)) (us := (vs ++ List.replicate (od - vs.length) (Value.int (0 : Int32)))) (own_all (n := od) (by simp; omega) (by omega)) (by rw [own_clamp (by omega)]; show 0 + od ≤ _; simp) N5a g_b2 (g := (mkF m 28 #[.val (.ref a1), .val (.int (Int32.ofNat nw)), .val (.ref b2)] [(.int (Int32.ofNat od)), (.int (0 : Int32)), (.ref b2), (.int (0 : Int32)), (.ref a1)])) rfl (by rw [hml]; rfl) rfl (hb hby k30_28) (by decide) (W := 0) (by show 2 * 0 + _ ≤ _; exact Nat.le_of_eq rfl) (by decide)
  have Aw8 : Arv Z h8 b2 ka2 .byte (Int32.ofNat nw) vs (.int (0 : Int32)) := by
    have q := Aq8
    have q2 := own_fill2 (us := (vs ++ List.replicate (od - vs.length) (Value.int (0 : Int32)))) (m := od) (k := nw - od) (by omega) (by simp; omega)
    rw [q2] at q
    refine q.pad fun i => ?_
    rw [pad_rep, pad_rep]
  have K2 : Keep h0 h8 [] := K1.trans Kq8 (allS (Or.inr sz_b2) all0)
  obtain ⟨fs, hr, hrun, hended, hW, hsame⟩ := X8.leave (v := some (.ref b2)) (fun h => by rw [Bd.returns] at h; cases h)
  refine ⟨_, _, pre0 _ ?_, hrun, hended, _, _, rfl, ?_, ⟨_, rfl⟩, hW, hsame.mono (by decide) (by decide)⟩
  · show Steps p.tables e below (s₁.setTop (mkF m 0 #[.val (.ref a1), .val (.int (Int32.ofNat nw)), .unset] [])) _
    refine XS.iloadN X0.here hx rfl (hb hby k30_0) rfl ?_
    refine XS.aloadN X0.here hx rfl (hb hby k30_1) rfl rfl ?_
    show Steps p.tables e below (s₁.setTop (mkF m 2 #[.val (.ref a1), .val (.int (Int32.ofNat nw)), .unset] [(.ref a1), (.int (Int32.ofNat nw))])) _
    refine X0.arraylength hx (by rw [e0]; exact Ar1.1) (State.isArrayOf_alike hZ.alike Ar1.2.1) (g := (mkF m 2 #[.val (.ref a1), .val (.int (Int32.ofNat nw)), .unset] [(.ref a1), (.int (Int32.ofNat nw))])) rfl rfl (hb hby k30_2) _ ?_
    rw [len_of S1 N_1]
    show Steps p.tables e below (s₁.setTop (mkF m 3 #[.val (.ref a1), .val (.int (Int32.ofNat nw)), .unset] [(.int (Int32.ofNat od)), (.int (Int32.ofNat nw))])) _
    refine XS.icmpYes X0.here hx rfl (pc0 := 3) (pc' := 14) rfl (hb hby k30_3) rfl (feq (fun q => by have := (own_eq_of (by omega) (by omega)).mp q; omega : ¬ ((Int32.ofNat nw) = (Int32.ofNat od)))).2 (by decide) (by decide) ?_
    refine XS.iloadN X0.here hx rfl (hb hby k30_14) rfl ?_
    show Steps p.tables e below (s₁.setTop (mkF m 15 #[.val (.ref a1), .val (.int (Int32.ofNat nw)), .unset] [(.int (Int32.ofNat nw))])) _
    refine st2 _ ?_
    refine XS.astoreN X2.here hx rfl (hb hby k30_17) rfl rfl (l' := #[.val (.ref a1), .val (.int (Int32.ofNat nw)), .val (.ref b2)]) rfl ?_
    refine XS.aloadN X2.here hx rfl (hb hby k30_18) rfl rfl ?_
    refine XS.iconst X2.here hx rfl (hb hby k30_19) ?_
    refine XS.aloadN X2.here hx rfl (hb hby k30_20) rfl rfl ?_
    show Steps p.tables e below (T2.setTop (mkF m 21 #[.val (.ref a1), .val (.int (Int32.ofNat nw)), .val (.ref b2)] [(.ref b2), (.int (0 : Int32)), (.ref a1)])) _
    refine XS.iconst X2.here hx rfl (hb hby k30_21) ?_
    refine XS.aloadN X2.here hx rfl (hb hby k30_22) rfl rfl ?_
    show Steps p.tables e below (T2.setTop (mkF m 23 #[.val (.ref a1), .val (.int (Int32.ofNat nw)), .val (.ref b2)] [(.ref a1), (.int (0 : Int32)), (.ref b2), (.int (0 : Int32)), (.ref a1)])) _
    refine X2.arraylength hx (by rw [e2]; exact Ar4.1) (State.isArrayOf_alike hZ.alike Ar4.2.1) (g := (mkF m 23 #[.val (.ref a1), .val (.int (Int32.ofNat nw)), .val (.ref b2)] [(.ref a1), (.int (0 : Int32)), (.ref b2), (.int (0 : Int32)), (.ref a1)])) rfl rfl (hb hby k30_23) _ ?_
    rw [len_of S4 N_4]
    refine XS.iloadN X2.here hx rfl (hb hby k30_24) rfl ?_
    show Steps p.tables e below (T2.setTop (mkF m 25 #[.val (.ref a1), .val (.int (Int32.ofNat nw)), .val (.ref b2)] [(.int (Int32.ofNat nw)), (.int (Int32.ofNat od)), (.int (0 : Int32)), (.ref b2), (.int (0 : Int32)), (.ref a1)])) _
    refine st5 _ ?_
    show Steps p.tables e below (T5.setTop (mkF m 28 #[.val (.ref a1), .val (.int (Int32.ofNat nw)), .val (.ref b2)] [(.int (Int32.ofNat od)), (.int (0 : Int32)), (.ref b2), (.int (0 : Int32)), (.ref a1)])) _
    refine st8 _ ?_
    refine XS.aloadN X8.here hx rfl (hb hby k30_31) rfl rfl ?_
    show Steps p.tables e below (T8.setTop (mkF m 32 #[.val (.ref a1), .val (.int (Int32.ofNat nw)), .val (.ref b2)] [(.ref b2)])) _
    jvm_step X8.here [X8.here.top, hx, (hb hby k30_32), X8.method', Bd.returns, Value.isRef, FieldType.isReference]
    first | (intro acts; rw [hr _ acts rfl rfl rfl]) | rw [hr _ _ rfl rfl rfl]
    exact Steps.refl _
  · show QA Z (Int32.ofNat nw) vs h0 n0 _ T8.heap _
    rw [e8]
    exact ⟨b2, ka2, rfl, N8a, K2, sz_b2, Aw8⟩
theorem rmMx (l : Launch) (Z : State) (a0 : Array Value) (hw : HW a0 Z) (ws : List Jvm.Cond) (x_ y_ mx : Int32) (h0 : Heap) (n0 : Nat) (Z0 : n0 ≤ h0.size) (h : (x_ < y_ ∧ mx = y_) ∨ (¬ (x_ < y_) ∧ mx = x_)) :
    Met l Z ws m17_ jdk_29_method_65_code 2 (some .int) ({ frames := 0, cells := 0, slots := 0, locals := 0 } : Room) h0 #[(.int x_), (.int y_)] (QB mx h0 n0) := by
  rcases h with ⟨h, rfl⟩ | ⟨h, rfl⟩
  · exact rmMaxR l Z a0 hw ws _ _ h0 n0 Z0 h
  · exact rmMaxL l Z a0 hw ws _ _ h0 n0 Z0 h
theorem k31_0 : decode c31_ 0 = .ok (.iload_n 0, 1) := by decide +kernel
theorem k31_1 : decode c31_ 1 = .ok (.iload_n 1, 1) := by decide +kernel
theorem k31_2 : decode c31_ 2 = .ok (.iload_n 2, 1) := by decide +kernel
theorem k31_3 : decode c31_ 3 = .ok (.invokestatic 194, 3) := by decide +kernel
theorem k31_6 : decode c31_ 6 = .ok (.iadd, 1) := by decide +kernel
theorem k31_7 : decode c31_ 7 = .ok (.istore_n 3, 1) := by decide +kernel
theorem k31_8 : decode c31_ 8 = .ok (.iconst 0, 1) := by decide +kernel
theorem k31_9 : decode c31_ 9 = .ok (.iload_n 3, 1) := by decide +kernel
theorem k31_10 : decode c31_ 10 = .ok (.if_icmp .ge 11, 3) := by decide +kernel
theorem k31_13 : decode c31_ 13 = .ok (.iload_n 3, 1) := by decide +kernel
theorem k31_14 : decode c31_ 14 = .ok (.ldc 200, 2) := by decide +kernel
theorem k31_16 : decode c31_ 16 = .ok (.if_icmp .gt 5, 3) := by decide +kernel
theorem k31_19 : decode c31_ 19 = .ok (.iload_n 3, 1) := by decide +kernel
theorem k31_20 : decode c31_ 20 = .ok (.ireturn, 1) := by decide +kernel
theorem pn7_ : plainName "jdk/internal/util/ArraysSupport" = true := by first | (simp [plainName, overriddenIn]; done) | decide +kernel
theorem ef31_ (m : MethodId) (x0 : Int32) (x1 : Int32) (x2 : Int32) : entryFrame m #[(.int x0), (.int x1), (.int x2)] 4 = mkF m 0 #[.val (.int x0), .val (.int x1), .val (.int x2), .unset] [] := by first | (simp [entryFrame, mkF, argsToLocals, Value.category]; done) | rfl
theorem rmNg (l : Launch) (Z : State) (a0 : Array Value) (hw : HW a0 Z) (ws : List Jvm.Cond) (od gr pf mx nw : Int32) (h0 : Heap) (n0 : Nat) (Z0 : n0 ≤ h0.size) (hmx : (gr < pf ∧ mx = pf) ∨ (¬ (gr < pf) ∧ mx = gr)) (e1 : od + mx = nw) (h1 : (0 : Int32) < nw) (h2 : ¬ ((2147483639 : Int32) < nw)) :
    Met l Z ws m32_ jdk_48_method_27_code 4 (some .int) ({ frames := 1, cells := 0, slots := 0, locals := 14 } : Room) h0 #[(.int od), (.int gr), (.int pf)] (QB nw h0 n0) := by
  refine MetFree.of_bodySF (plainFor_of_name pn7_) hisR ?_
  intro p e s m args below meth c s₁ Bd hml0 hP hK
  obtain ⟨rfl, hZ, hh⟩ := hP
  have hx := Bd.exec
  have hby := Bd.bytes
  have hml : c.maxLocals = 4 := hml0
  have hown : s.vm.findClass "jdk/internal/util/ArraysSupport" = some m.cls := findClass_of_methodNamed Bd.named
  have X0 : Stand p l e ({ frames := 1, cells := 0, slots := 0, locals := 14 } : Room) s m #[(.int od), (.int gr), (.int pf)] below meth c s₁ [] 0 0 := Stand.of_body Bd
  have e0 : s₁.heap = h0 := by rw [← hh, Bd.state]; rfl
  have N0 := Fr.nil n0
  have pre0 : ∀ t, Steps p.tables e below (s₁.setTop (mkF m 0 #[.val (.int od), .val (.int gr), .val (.int pf), .unset] [])) t → Steps p.tables e below (s₁.setTop (entryFrame m #[(.int od), (.int gr), (.int pf)] 4)) t := fun t k => castTop (ef31_ m od gr pf) k
  obtain ⟨_, _, ⟨T1, L1, k1, n1⟩, -, X1, ⟨Lc1, hQ1, l1, y1, z1⟩, st1⟩ := Jvm.LawKit.callS X0 hx (y := m17_) hown (mvT hZ (wt hw 163 rfl)) (mvT hZ (wt hw 164 rfl)) (mvT hZ (wt hw 127 rfl)) (mvT hZ (wt hw 165 rfl)) (by decide) (backOf (W := 1) (rmMx l Z a0 hw [] gr pf mx h0 n0 (Nat.le_trans Z0 (Keep.refl h0 []).1) hmx) hZ (wt hw 165 rfl) (wt hw 127 rfl) (by decide) (by decide)) (g := (mkF m 3 #[.val (.int od), .val (.int gr), .val (.int pf), .unset] [(.int pf), (.int gr), (.int od)])) rfl (by rw [hml]; rfl) (argsL := [(.int gr), (.int pf)]) (rest := [(.int od)]) (lenOf pd13_ rfl) rfl (by show 2 * 0 + _ ≤ _; exact Nat.le_of_eq rfl) (hb hby k31_3) (fun _ _ => ⟨rfl, e0, (by decide : 0 + 0 ≤ _), (by decide : 0 + 0 ≤ _)⟩)
  dsimp only [Pt.U, Pt.locs, Pt.cells, Pt.slots] at X1 l1 y1 z1 st1 hQ1
  rw [l1] at X1
  clear l1; subst y1 z1
  obtain ⟨rfl, N1q, e1q⟩ := hQ1
  have N1a := Fr.app N0 N1q
  obtain ⟨fs, hr, hrun, hended, hW, hsame⟩ := X1.leave (v := some (.int nw)) (fun h => by rw [Bd.returns] at h; cases h)
  refine ⟨_, _, pre0 _ ?_, hrun, hended, _, _, rfl, ?_, ⟨_, rfl⟩, hW, hsame.mono (by decide) (by decide)⟩
  · show Steps p.tables e below (s₁.setTop (mkF m 0 #[.val (.int od), .val (.int gr), .val (.int pf), .unset] [])) _
    refine XS.iloadN X0.here hx rfl (hb hby k31_0) rfl ?_
    refine XS.iloadN X0.here hx rfl (hb hby k31_1) rfl ?_
    refine XS.iloadN X0.here hx rfl (hb hby k31_2) rfl ?_
    show Steps p.tables e below (s₁.setTop (mkF m 3 #[.val (.int od), .val (.int gr), .val (.int pf), .unset] [(.int pf), (.int gr), (.int od)])) _
    refine st1 _ ?_
    refine XS.iadd X1.here hx rfl (hb hby k31_6) rfl ?_
    show Steps p.tables e below (T1.setTop (mkF m 7 #[.val (.int od), .val (.int gr), .val (.int pf), .unset] [(.int (od + mx))])) _
    rw [e1]
    refine XS.istoreN X1.here hx rfl (hb hby k31_7) rfl (l' := #[.val (.int od), .val (.int gr), .val (.int pf), .val (.int nw)]) rfl ?_
    refine XS.iconst X1.here hx rfl (hb hby k31_8) ?_
    refine XS.iloadN X1.here hx rfl (hb hby k31_9) rfl ?_
    show Steps p.tables e below (T1.setTop (mkF m 10 #[.val (.int od), .val (.int gr), .val (.int pf), .val (.int nw)] [(.int nw), (.int (0 : Int32))])) _
    refine XS.icmpNo X1.here hx rfl (hb hby k31_10) rfl (tlt (h1 : (0 : Int32) < nw)).2.1 ?_
    refine XS.iloadN X1.here hx rfl (hb hby k31_13) rfl ?_
    show Steps p.tables e below (T1.setTop (mkF m 14 #[.val (.int od), .val (.int gr), .val (.int pf), .val (.int nw)] [(.int nw)])) _
    refine X1.ldcInt hx hown (mvT hZ (wt hw 166 rfl)) (g := (mkF m 14 #[.val (.int od), .val (.int gr), .val (.int pf), .val (.int nw)] [(.int nw)])) rfl (hb hby k31_14) _ ?_
    show Steps p.tables e below (T1.setTop (mkF m 16 #[.val (.int od), .val (.int gr), .val (.int pf), .val (.int nw)] [(.int (2147483639 : Int32)), (.int nw)])) _
    refine XS.icmpNo X1.here hx rfl (hb hby k31_16) rfl (flt (h2 : ¬ ((2147483639 : Int32) < nw))).2.2.1 ?_
    refine XS.iloadN X1.here hx rfl (hb hby k31_19) rfl ?_
    show Steps p.tables e below (T1.setTop (mkF m 20 #[.val (.int od), .val (.int gr), .val (.int pf), .val (.int nw)] [(.int nw)])) _
    exact retI X1 hx Bd.returns (hb hby k31_20) hr
  · show QB nw h0 n0 _ T1.heap _
    rw [e1q]
    exact ⟨rfl, N1a, rfl⟩
theorem k32_0 : decode c32_ 0 = .ok (.aload_n 0, 1) := by decide +kernel
theorem k32_1 : decode c32_ 1 = .ok (.getfield 15, 3) := by decide +kernel
theorem k32_4 : decode c32_ 4 = .ok (.arraylength, 1) := by decide +kernel
theorem k32_5 : decode c32_ 5 = .ok (.istore_n 2, 1) := by decide +kernel
theorem k32_6 : decode c32_ 6 = .ok (.iload_n 1, 1) := by decide +kernel
theorem k32_7 : decode c32_ 7 = .ok (.aload_n 0, 1) := by decide +kernel
theorem k32_8 : decode c32_ 8 = .ok (.getfield 22, 3) := by decide +kernel
theorem k32_11 : decode c32_ 11 = .ok (.ishl, 1) := by decide +kernel
theorem k32_12 : decode c32_ 12 = .ok (.istore_n 3, 1) := by decide +kernel
theorem k32_13 : decode c32_ 13 = .ok (.iload_n 3, 1) := by decide +kernel
theorem k32_14 : decode c32_ 14 = .ok (.iload_n 2, 1) := by decide +kernel
theorem k32_15 : decode c32_ 15 = .ok (.isub, 1) := by decide +kernel
theorem k32_16 : decode c32_ 16 = .ok (.istore 4, 2) := by decide +kernel
theorem k32_18 : decode c32_ 18 = .ok (.iload_n 2, 1) := by decide +kernel
theorem k32_19 : decode c32_ 19 = .ok (.iload 4, 2) := by decide +kernel
theorem k32_21 : decode c32_ 21 = .ok (.iload_n 2, 1) := by decide +kernel
theorem k32_22 : decode c32_ 22 = .ok (.iconst 2, 1) := by decide +kernel
theorem k32_23 : decode c32_ 23 = .ok (.aload_n 0, 1) := by decide +kernel
theorem k32_24 : decode c32_ 24 = .ok (.getfield 22, 3) := by decide +kernel
theorem k32_27 : decode c32_ 27 = .ok (.ishl, 1) := by decide +kernel
theorem k32_28 : decode c32_ 28 = .ok (.iadd, 1) := by decide +kernel
theorem k32_29 : decode c32_ 29 = .ok (.invokestatic 114, 3) := by decide +kernel
theorem k32_32 : decode c32_ 32 = .ok (.istore 5, 2) := by decide +kernel
theorem k32_34 : decode c32_ 34 = .ok (.iload 5, 2) := by decide +kernel
theorem k32_36 : decode c32_ 36 = .ok (.ldc 39, 2) := by decide +kernel
theorem k32_38 : decode c32_ 38 = .ok (.if_icmp .ne 13, 3) := by decide +kernel
theorem k32_51 : decode c32_ 51 = .ok (.iload 5, 2) := by decide +kernel
theorem k32_53 : decode c32_ 53 = .ok (.aload_n 0, 1) := by decide +kernel
theorem k32_54 : decode c32_ 54 = .ok (.getfield 22, 3) := by decide +kernel
theorem k32_57 : decode c32_ 57 = .ok (.ishr, 1) := by decide +kernel
theorem k32_58 : decode c32_ 58 = .ok (.ireturn, 1) := by decide +kernel
theorem ef32_ (m : MethodId) (x0 : Addr) (x1 : Int32) : entryFrame m #[(.ref x0), (.int x1)] 6 = mkF m 0 #[.val (.ref x0), .val (.int x1), .unset, .unset, .unset, .unset] [] := by first | (simp [entryFrame, mkF, argsToLocals, Value.category]; done) | rfl
theorem rmNc (l : Launch) (Z : State) (a0 : Array Value) (hw : HW a0 Z) (ws : List Jvm.Cond) (a1 b : Addr) (kb : ClassId) (cnt cd od m_ mb gr pw pf mx nw nc : Int32) (vs : List Value) (h0 : Heap) (n0 : Nat) (Z0 : n0 ≤ h0.size) (B_a1 : SBF Z h0 a1 cd cnt od vs b kb) (g_a1 : n0 ≤ a1) (c1 : m_ <<< (cd &&& 31) = mb) (c2 : mb - od = gr) (c3 : (2 : Int32) <<< (cd &&& 31) = pw) (c4 : od + pw = pf) (hmx : (gr < pf ∧ mx = pf) ∨ (¬ (gr < pf) ∧ mx = gr)) (e1 : od + mx = nw) (h1 : (0 : Int32) < nw) (h2 : ¬ ((2147483639 : Int32) < nw)) (h3 : ¬ (nw = (2147483647 : Int32))) (c5 : nw >>> (cd &&& 31) = nc) :
    Met l Z ws m33_ jdk_68_method_10_code 6 (some .int) ({ frames := 2, cells := 0, slots := 0, locals := 29 } : Room) h0 #[(.ref a1), (.int m_)] (QB nc h0 n0) := by
  refine MetFree.of_bodySF (plainFor_of_name pn5_) hisR ?_
  intro p e s m args below meth c s₁ Bd hml0 hP hK
  obtain ⟨rfl, hZ, hh⟩ := hP
  have hx := Bd.exec
  have hby := Bd.bytes
  have hml : c.maxLocals = 6 := hml0
  have hown : s.vm.findClass "java/lang/AbstractStringBuilder" = some m.cls := findClass_of_methodNamed Bd.named
  have X0 : Stand p l e ({ frames := 2, cells := 0, slots := 0, locals := 29 } : Room) s m #[(.ref a1), (.int m_)] below meth c s₁ [] 0 0 := Stand.of_body Bd
  have e0 : s₁.heap = h0 := by rw [← hh, Bd.state]; rfl
  have N0 := Fr.nil n0
  have pre0 : ∀ t, Steps p.tables e below (s₁.setTop (mkF m 0 #[.val (.ref a1), .val (.int m_), .unset, .unset, .unset, .unset] [])) t → Steps p.tables e below (s₁.setTop (entryFrame m #[(.ref a1), (.int m_)] 6)) t := fun t k => castTop (ef32_ m a1 m_) k
  obtain ⟨bE1, bV1, bC1, bN1, bM1, bA1⟩ := id B_a1
  obtain ⟨T2, X2, e2, st2⟩ := getF X0 hx hZ hown (host := "") (Or.inl (wt hw 87 rfl)) Via.refl e0 bV1 (g := (mkF m 1 #[.val (.ref a1), .val (.int m_), .unset, .unset, .unset, .unset] [(.ref a1)])) rfl rfl (hb hby k32_1)
  obtain ⟨cl3, Ar3, q3, S3, N_3, H_3, G3⟩ := id bA1
  obtain ⟨T4, X4, e4, st4⟩ := getF X2 hx hZ hown (host := "") (Or.inl (wt hw 89 rfl)) Via.refl e2 bC1 (g := (mkF m 8 #[.val (.ref a1), .val (.int m_), .val (.int od), .unset, .unset, .unset] [(.ref a1), (.int m_)])) rfl rfl (hb hby k32_8)
  obtain ⟨T5, X5, e5, st5⟩ := getF X4 hx hZ hown (host := "") (Or.inl (wt hw 89 rfl)) Via.refl e4 bC1 (g := (mkF m 24 #[.val (.ref a1), .val (.int m_), .val (.int od), .val (.int mb), .val (.int gr), .unset] [(.ref a1), (.int (2 : Int32)), (.int od), (.int gr), (.int od)])) rfl rfl (hb hby k32_24)
  obtain ⟨_, _, ⟨T6, L6, k6, n6⟩, -, X6, ⟨Lc6, hQ6, l6, y6, z6⟩, st6⟩ := Jvm.LawKit.callS X5 hx (y := m32_) hown (mvT hZ (wt hw 159 rfl)) (mvT hZ (wt hw 160 rfl)) (mvT hZ (wt hw 161 rfl)) (mvT hZ (wt hw 162 rfl)) (by decide) (backOf (W := 0) (rmNg l Z a0 hw [] od gr pf mx nw h0 n0 (Nat.le_trans Z0 (Keep.refl h0 []).1) hmx e1 h1 h2) hZ (wt hw 162 rfl) (wt hw 161 rfl) (by decide) (by decide)) (g := (mkF m 29 #[.val (.ref a1), .val (.int m_), .val (.int od), .val (.int mb), .val (.int gr), .unset] [(.int pf), (.int gr), (.int od)])) rfl (by rw [hml]; rfl) (argsL := [(.int od), (.int gr), (.int pf)]) (rest := []) (lenOf pd10_ rfl) rfl (by show 2 * 0 + _ ≤ _; exact Nat.le_of_eq rfl) (hb hby k32_29) (fun _ _ => ⟨rfl, e5, (by decide : 0 + 0 ≤ _), (by decide : 0 + 0 ≤ _)⟩)
  dsimp only [Pt.U, Pt.locs, Pt.cells, Pt.slots] at X6 l6 y6 z6 st6 hQ6
  rw [l6] at X6
  clear l6; subst y6 z6
  obtain ⟨rfl, N6q, e6q⟩ := hQ6
  have N6a := Fr.app N0 N6q
  obtain ⟨T7, X7, e7, st7⟩ := getF X6 hx hZ hown (host := "") (Or.inl (wt hw 89 rfl)) Via.refl e6q bC1 (g := (mkF m 54 #[.val (.ref a1), .val (.int m_), .val (.int od), .val (.int mb), .val (.int gr), .val (.int nw)] [(.ref a1), (.int nw)])) rfl rfl (hb hby k32_54)
  obtain ⟨fs, hr, hrun, hended, hW, hsame⟩ := X7.leave (v := some (.int nc)) (fun h => by rw [Bd.returns] at h; cases h)
  refine ⟨_, _, pre0 _ ?_, hrun, hended, _, _, rfl, ?_, ⟨_, rfl⟩, hW, hsame.mono (by decide) (by decide)⟩
  · show Steps p.tables e below (s₁.setTop (mkF m 0 #[.val (.ref a1), .val (.int m_), .unset, .unset, .unset, .unset] [])) _
    refine XS.aloadN X0.here hx rfl (hb hby k32_0) rfl rfl ?_
    show Steps p.tables e below (s₁.setTop (mkF m 1 #[.val (.ref a1), .val (.int m_), .unset, .unset, .unset, .unset] [(.ref a1)])) _
    refine st2 _ ?_
    show Steps p.tables e below (T2.setTop (mkF m 4 #[.val (.ref a1), .val (.int m_), .unset, .unset, .unset, .unset] [(.ref b)])) _
    refine X2.arraylength hx (by rw [e2]; exact Ar3.1) (State.isArrayOf_alike hZ.alike Ar3.2.1) (g := (mkF m 4 #[.val (.ref a1), .val (.int m_), .unset, .unset, .unset, .unset] [(.ref b)])) rfl rfl (hb hby k32_4) _ ?_
    rw [len_of S3 N_3]
    refine XS.istoreN X2.here hx rfl (hb hby k32_5) rfl (l' := #[.val (.ref a1), .val (.int m_), .val (.int od), .unset, .unset, .unset]) rfl ?_
    refine XS.iloadN X2.here hx rfl (hb hby k32_6) rfl ?_
    refine XS.aloadN X2.here hx rfl (hb hby k32_7) rfl rfl ?_
    show Steps p.tables e below (T2.setTop (mkF m 8 #[.val (.ref a1), .val (.int m_), .val (.int od), .unset, .unset, .unset] [(.ref a1), (.int m_)])) _
    refine st4 _ ?_
    refine XS.ishl X4.here hx rfl (hb hby k32_11) rfl ?_
    show Steps p.tables e below (T4.setTop (mkF m 12 #[.val (.ref a1), .val (.int m_), .val (.int od), .unset, .unset, .unset] [(.int (m_ <<< (cd &&& 31)))])) _
    rw [c1]
    refine XS.istoreN X4.here hx rfl (hb hby k32_12) rfl (l' := #[.val (.ref a1), .val (.int m_), .val (.int od), .val (.int mb), .unset, .unset]) rfl ?_
    refine XS.iloadN X4.here hx rfl (hb hby k32_13) rfl ?_
    refine XS.iloadN X4.here hx rfl (hb hby k32_14) rfl ?_
    refine XS.isub X4.here hx rfl (hb hby k32_15) rfl ?_
    show Steps p.tables e below (T4.setTop (mkF m 16 #[.val (.ref a1), .val (.int m_), .val (.int od), .val (.int mb), .unset, .unset] [(.int (mb - od))])) _
    rw [c2]
    refine XS.istore X4.here hx rfl (hb hby k32_16) rfl (l' := #[.val (.ref a1), .val (.int m_), .val (.int od), .val (.int mb), .val (.int gr), .unset]) rfl ?_
    refine XS.iloadN X4.here hx rfl (hb hby k32_18) rfl ?_
    refine XS.iload X4.here hx rfl (hb hby k32_19) rfl ?_
    refine XS.iloadN X4.here hx rfl (hb hby k32_21) rfl ?_
    show Steps p.tables e below (T4.setTop (mkF m 22 #[.val (.ref a1), .val (.int m_), .val (.int od), .val (.int mb), .val (.int gr), .unset] [(.int od), (.int gr), (.int od)])) _
    refine XS.iconst X4.here hx rfl (hb hby k32_22) ?_
    refine XS.aloadN X4.here hx rfl (hb hby k32_23) rfl rfl ?_
    show Steps p.tables e below (T4.setTop (mkF m 24 #[.val (.ref a1), .val (.int m_), .val (.int od), .val (.int mb), .val (.int gr), .unset] [(.ref a1), (.int (2 : Int32)), (.int od), (.int gr), (.int od)])) _
    refine st5 _ ?_
    refine XS.ishl X5.here hx rfl (hb hby k32_27) rfl ?_
    show Steps p.tables e below (T5.setTop (mkF m 28 #[.val (.ref a1), .val (.int m_), .val (.int od), .val (.int mb), .val (.int gr), .unset] [(.int ((2 : Int32) <<< (cd &&& 31))), (.int od), (.int gr), (.int od)])) _
    rw [c3]
    refine XS.iadd X5.here hx rfl (hb hby k32_28) rfl ?_
    show Steps p.tables e below (T5.setTop (mkF m 29 #[.val (.ref a1), .val (.int m_), .val (.int od), .val (.int mb), .val (.int gr), .unset] [(.int (od + pw)), (.int gr), (.int od)])) _
    rw [c4]
    show Steps p.tables e below (T5.setTop (mkF m 29 #[.val (.ref a1), .val (.int m_), .val (.int od), .val (.int mb), .val (.int gr), .unset] [(.int pf), (.int gr), (.int od)])) _
    refine st6 _ ?_
    refine XS.istore X6.here hx rfl (hb hby k32_32) rfl (l' := #[.val (.ref a1), .val (.int m_), .val (.int od), .val (.int mb), .val (.int gr), .val (.int nw)]) rfl ?_
    refine XS.iload X6.here hx rfl (hb hby k32_34) rfl ?_
    show Steps p.tables e below (T6.setTop (mkF m 36 #[.val (.ref a1), .val (.int m_), .val (.int od), .val (.int mb), .val (.int gr), .val (.int nw)] [(.int nw)])) _
    refine X6.ldcInt hx hown (mvT hZ (wt hw 167 rfl)) (g := (mkF m 36 #[.val (.ref a1), .val (.int m_), .val (.int od), .val (.int mb), .val (.int gr), .val (.int nw)] [(.int nw)])) rfl (hb hby k32_36) _ ?_
    show Steps p.tables e below (T6.setTop (mkF m 38 #[.val (.ref a1), .val (.int m_), .val (.int od), .val (.int mb), .val (.int gr), .val (.int nw)] [(.int (2147483647 : Int32)), (.int nw)])) _
    refine XS.icmpYes X6.here hx rfl (pc0 := 38) (pc' := 51) rfl (hb hby k32_38) rfl (feq (h3 : ¬ (nw = (2147483647 : Int32)))).2 (by decide) (by decide) ?_
    refine XS.iload X6.here hx rfl (hb hby k32_51) rfl ?_
    refine XS.aloadN X6.here hx rfl (hb hby k32_53) rfl rfl ?_
    show Steps p.tables e below (T6.setTop (mkF m 54 #[.val (.ref a1), .val (.int m_), .val (.int od), .val (.int mb), .val (.int gr), .val (.int nw)] [(.ref a1), (.int nw)])) _
    refine st7 _ ?_
    refine XS.ishr X7.here hx rfl (hb hby k32_57) rfl ?_
    show Steps p.tables e below (T7.setTop (mkF m 58 #[.val (.ref a1), .val (.int m_), .val (.int od), .val (.int mb), .val (.int gr), .val (.int nw)] [(.int (nw >>> (cd &&& 31)))])) _
    rw [c5]
    show Steps p.tables e below (T7.setTop (mkF m 58 #[.val (.ref a1), .val (.int m_), .val (.int od), .val (.int mb), .val (.int gr), .val (.int nw)] [(.int nc)])) _
    exact retI X7 hx Bd.returns (hb hby k32_58) hr
  · show QB nc h0 n0 _ T7.heap _
    rw [e7]
    exact ⟨rfl, N6a, rfl⟩
theorem rmCo' (l : Launch) (Z : State) (a0 : Array Value) (hw : HW a0 Z) (ws : List Jvm.Cond) (a1 : Addr) (kb : ClassId) (od nw : Nat) (oi ni : Int32) (vs : List Value) (h0 : Heap) (n0 : Nat) (Z0 : n0 ≤ h0.size) (V : Arv Z h0 a1 kb .byte oi vs (.int (0 : Int32))) (hvs : vs.length ≤ od) (hod : od < nw) (hnw : nw ≤ 260) (ho : oi = Int32.ofNat od) (hn : ni = Int32.ofNat nw) :
    Met l Z ws m31_ jdk_65_method_121_code 3 (some (.array .byte)) ({ frames := 1, cells := 1, slots := 260, locals := 40 } : Room) h0 #[(.ref a1), (.int ni)] (QA Z ni vs h0 n0) := by
  subst ho hn
  exact rmCo l Z a0 hw ws a1 kb od nw vs h0 n0 Z0 V hvs hod hnw
theorem k33_0 : decode c33_ 0 = .ok (.aload_n 0, 1) := by decide +kernel
theorem k33_1 : decode c33_ 1 = .ok (.getfield 15, 3) := by decide +kernel
theorem k33_4 : decode c33_ 4 = .ok (.arraylength, 1) := by decide +kernel
theorem k33_5 : decode c33_ 5 = .ok (.aload_n 0, 1) := by decide +kernel
theorem k33_6 : decode c33_ 6 = .ok (.getfield 22, 3) := by decide +kernel
theorem k33_9 : decode c33_ 9 = .ok (.ishr, 1) := by decide +kernel
theorem k33_10 : decode c33_ 10 = .ok (.istore_n 2, 1) := by decide +kernel
theorem k33_11 : decode c33_ 11 = .ok (.iload_n 1, 1) := by decide +kernel
theorem k33_12 : decode c33_ 12 = .ok (.iload_n 2, 1) := by decide +kernel
theorem k33_13 : decode c33_ 13 = .ok (.isub, 1) := by decide +kernel
theorem k33_14 : decode c33_ 14 = .ok (.ifCond .le 24, 3) := by decide +kernel
theorem k33_17 : decode c33_ 17 = .ok (.aload_n 0, 1) := by decide +kernel
theorem k33_18 : decode c33_ 18 = .ok (.aload_n 0, 1) := by decide +kernel
theorem k33_19 : decode c33_ 19 = .ok (.getfield 15, 3) := by decide +kernel
theorem k33_22 : decode c33_ 22 = .ok (.aload_n 0, 1) := by decide +kernel
theorem k33_23 : decode c33_ 23 = .ok (.iload_n 1, 1) := by decide +kernel
theorem k33_24 : decode c33_ 24 = .ok (.invokevirtual 104, 3) := by decide +kernel
theorem k33_27 : decode c33_ 27 = .ok (.aload_n 0, 1) := by decide +kernel
theorem k33_28 : decode c33_ 28 = .ok (.getfield 22, 3) := by decide +kernel
theorem k33_31 : decode c33_ 31 = .ok (.ishl, 1) := by decide +kernel
theorem k33_32 : decode c33_ 32 = .ok (.invokestatic 108, 3) := by decide +kernel
theorem k33_35 : decode c33_ 35 = .ok (.putfield 15, 3) := by decide +kernel
theorem k33_38 : decode c33_ 38 = .ok (.return_, 1) := by decide +kernel
theorem pd22_ : parseMethodDescriptor "([BI)[B" = some ⟨[(.array .byte), .int], some (.array .byte)⟩ := by decide +kernel
theorem ef33_ (m : MethodId) (x0 : Addr) (x1 : Int32) : entryFrame m #[(.ref x0), (.int x1)] 3 = mkF m 0 #[.val (.ref x0), .val (.int x1), .unset] [] := by first | (simp [entryFrame, mkF, argsToLocals, Value.category]; done) | rfl
theorem rmEn (l : Launch) (Z : State) (a0 : Array Value) (hw : HW a0 Z) (ws : List Jvm.Cond) (a1 b : Addr) (kb : ClassId) (cnt cd od m_ mb gr pw pf mx nw nc : Int32) (vs : List Value) (ol nl : Nat) (cc gg : Int32) (h0 : Heap) (n0 : Nat) (Z0 : n0 ≤ h0.size) (B_a1 : SBF Z h0 a1 cd cnt od vs b kb) (g_a1 : n0 ≤ a1) (c1 : m_ <<< (cd &&& 31) = mb) (c2 : mb - od = gr) (c3 : (2 : Int32) <<< (cd &&& 31) = pw) (c4 : od + pw = pf) (hmx : (gr < pf ∧ mx = pf) ∨ (¬ (gr < pf) ∧ mx = gr)) (e1 : od + mx = nw) (h1 : (0 : Int32) < nw) (h2 : ¬ ((2147483639 : Int32) < nw)) (h3 : ¬ (nw = (2147483647 : Int32))) (c5 : nw >>> (cd &&& 31) = nc) (hvs : vs.length ≤ ol) (hol : od = Int32.ofNat ol) (hnl : nw = Int32.ofNat nl) (hlt : ol < nl) (hnx : nl ≤ 260) (d1 : od >>> (cd &&& 31) = cc) (d2 : m_ - cc = gg) (d3 : (0 : Int32) < gg) (d4 : nc <<< (cd &&& 31) = nw) :
    Met l Z ws m34_ jdk_68_method_9_code 3 none ({ frames := 3, cells := 1, slots := 260, locals := 55 } : Room) h0 #[(.ref a1), (.int m_)] (QSB Z none a1 cd cnt nw vs h0 n0) := by
  refine MetFree.of_bodySF (plainFor_of_name pn5_) hisR ?_
  intro p e s m args below meth c s₁ Bd hml0 hP hK
  obtain ⟨rfl, hZ, hh⟩ := hP
  have hx := Bd.exec
  have hby := Bd.bytes
  have hml : c.maxLocals = 3 := hml0
  have hown : s.vm.findClass "java/lang/AbstractStringBuilder" = some m.cls := findClass_of_methodNamed Bd.named
  have X0 : Stand p l e ({ frames := 3, cells := 1, slots := 260, locals := 55 } : Room) s m #[(.ref a1), (.int m_)] below meth c s₁ [] 0 0 := Stand.of_body Bd
  have e0 : s₁.heap = h0 := by rw [← hh, Bd.state]; rfl
  have N0 := Fr.nil n0
  have pre0 : ∀ t, Steps p.tables e below (s₁.setTop (mkF m 0 #[.val (.ref a1), .val (.int m_), .unset] [])) t → Steps p.tables e below (s₁.setTop (entryFrame m #[(.ref a1), (.int m_)] 3)) t := fun t k => castTop (ef33_ m a1 m_) k
  obtain ⟨bE1, bV1, bC1, bN1, bM1, bA1⟩ := id B_a1
  obtain ⟨T2, X2, e2, st2⟩ := getF X0 hx hZ hown (host := "") (Or.inl (wt hw 87 rfl)) Via.refl e0 bV1 (g := (mkF m 1 #[.val (.ref a1), .val (.int m_), .unset] [(.ref a1)])) rfl rfl (hb hby k33_1)
  obtain ⟨cl3, Ar3, q3, S3, N_3, H_3, G3⟩ := id bA1
  obtain ⟨T4, X4, e4, st4⟩ := getF X2 hx hZ hown (host := "") (Or.inl (wt hw 89 rfl)) Via.refl e2 bC1 (g := (mkF m 6 #[.val (.ref a1), .val (.int m_), .unset] [(.ref a1), (.int od)])) rfl rfl (hb hby k33_6)
  obtain ⟨T5, X5, e5, st5⟩ := getF X4 hx hZ hown (host := "") (Or.inl (wt hw 87 rfl)) Via.refl e4 bV1 (g := (mkF m 19 #[.val (.ref a1), .val (.int m_), .val (.int cc)] [(.ref a1), (.ref a1)])) rfl rfl (hb hby k33_19)
  obtain ⟨cq6, q6, q6'⟩ := bE1.cell
  obtain ⟨_, _, ⟨T6, L6, k6, n6⟩, -, X6, ⟨Lc6, hQ6, l6, y6, z6⟩, st6⟩ := X5.privateBack hx (y := m33_) hown (mvT hZ (wt hw 154 rfl)) (mvT hZ (wt hw 155 rfl)) (own_selSelf (mvT hZ (wt hw 155 rfl)) (Cond.privateMethod_at (mvP hZ (wt hw 156 rfl) (args := #[]))) (notFace_of_selects (args := #[]) (mvT hZ (wt hw 157 rfl))) (by decide)) (Cond.privateMethod_at (mvP hZ (wt hw 156 rfl) (args := #[]))) (mvT hZ (wt hw 158 rfl)) (by decide) (backOf (W := 2) (rmNc l Z a0 hw [] a1 b kb cnt cd od m_ mb gr pw pf mx nw nc vs h0 n0 (Nat.le_trans Z0 (Keep.refl h0 [a1]).1) ⟨bE1, bV1, bC1, bN1, bM1, bA1⟩ g_a1 c1 c2 c3 c4 hmx e1 h1 h2 h3 c5) hZ (wt hw 158 rfl) (wt hw 83 rfl) (by decide) (by decide)) (g := (mkF m 24 #[.val (.ref a1), .val (.int m_), .val (.int cc)] [(.int m_), (.ref a1), (.ref b), (.ref a1)])) rfl (by rw [hml]; rfl) (Steps.refl _) (a := a1) (by rw [e5]; exact q6) q6' (argsL := [(.int m_)]) (rest := [(.ref b), (.ref a1)]) (lenOf pd1_ rfl) rfl (by show 2 * 0 + _ ≤ _; exact Nat.le_of_eq rfl) (hb hby k33_24) (fun _ _ => ⟨rfl, e5, (by decide : 0 + 0 ≤ _), (by decide : 0 + 0 ≤ _)⟩)
  dsimp only [Pt.U, Pt.locs, Pt.cells, Pt.slots] at X6 l6 y6 z6 st6 hQ6
  rw [l6] at X6
  clear l6; subst y6 z6
  obtain ⟨rfl, N6q, e6q⟩ := hQ6
  have N6a := Fr.app N0 N6q
  obtain ⟨T7, X7, e7, st7⟩ := getF X6 hx hZ hown (host := "") (Or.inl (wt hw 89 rfl)) Via.refl e6q bC1 (g := (mkF m 28 #[.val (.ref a1), .val (.int m_), .val (.int cc)] [(.ref a1), (.int nc), (.ref b), (.ref a1)])) rfl rfl (hb hby k33_28)
  obtain ⟨_, _, ⟨T8, L8, k8, n8⟩, -, X8, ⟨Lc8, hQ8, l8, y8, z8⟩, st8⟩ := Jvm.LawKit.callS X7 hx (y := m31_) hown (mvT hZ (wt hw 168 rfl)) (mvT hZ (wt hw 169 rfl)) (mvT hZ (wt hw 117 rfl)) (mvT hZ (wt hw 170 rfl)) (by decide) (backOf (W := 1) (rmCo' l Z a0 hw [] b kb ol nl od nw vs h0 n0 (Nat.le_trans Z0 (Keep.refl h0 [a1]).1) bA1 hvs hlt hnx hol hnl) hZ (wt hw 170 rfl) (wt hw 117 rfl) (by decide) (by decide)) (g := (mkF m 32 #[.val (.ref a1), .val (.int m_), .val (.int cc)] [(.int nw), (.ref b), (.ref a1)])) rfl (by rw [hml]; rfl) (argsL := [(.ref b), (.int nw)]) (rest := [(.ref a1)]) (lenOf pd22_ rfl) rfl (by show 2 * 0 + _ ≤ _; exact Nat.le_of_eq rfl) (hb hby k33_32) (fun _ _ => ⟨rfl, e7, (by decide : 0 + 1 ≤ _), (by decide : 0 + 260 ≤ _)⟩)
  dsimp only [Pt.U, Pt.locs, Pt.cells, Pt.slots] at X8 l8 y8 z8 st8 hQ8
  rw [l8] at X8
  clear l8; subst y8 z8
  obtain ⟨t8, tk8, rfl, N8q, K8q, ts8, Ta8⟩ := hQ8
  have N8a := Fr.app N6a N8q
  have K1 : Keep h0 T8.heap [a1] := (Keep.refl h0 [a1]).trans K8q all0
  have sz_t8 : h0.size ≤ t8 := Nat.le_trans (Keep.refl h0 [a1]).1 ts8
  have f9 : Fld Z T8.heap a1 "java/lang/AbstractStringBuilder" "value" "[B" (.ref b) := (bV1.keep K8q nin0)
  have f10 : Exa Z T8.heap a1 "java/lang/StringBuilder" := (bE1.keep K8q)
  obtain ⟨T11, h11, X11, e11, W11, st11⟩ := putF X8 hx hZ hown (host := "") (Or.inl (wt hw 87 rfl)) Via.refl rfl f9 f10 (Or.inl (wt hw 88 rfl)) (wt hw 74 rfl) (ty := (.array .byte)) (by decide) rfl rfl (g := (mkF m 35 #[.val (.ref a1), .val (.int m_), .val (.int cc)] [(.ref t8), (.ref a1)])) rfl rfl (hb hby k33_35)
  have Fw11 := f9.same W11
  have Nf11 := Fr.snoc X11 N8a g_a1
  have K2 : Keep h0 h11 [a1] := K1.wr W11 (Or.inl (List.mem_of_getElem? (i := 0) rfl))
  have f12 : Exa Z h11 a1 "java/lang/StringBuilder" := (f10.wr W11)
  have f13 : Fld Z h11 a1 "java/lang/AbstractStringBuilder" "coder" "B" (.int cd) := ((bC1.keep K8q nin0).other W11 (Or.inr (slot_ne (Or.inl (wt hw 90 rfl)) (Or.inl (wt hw 88 rfl)) (by decide) (t := .byte) (t' := (.array .byte)) (by decide) (by decide))))
  have f14 : Fld Z h11 a1 "java/lang/AbstractStringBuilder" "count" "I" (.int cnt) := ((bN1.keep K8q nin0).other W11 (Or.inr (slot_ne (Or.inl (wt hw 148 rfl)) (Or.inl (wt hw 88 rfl)) (by decide) (t := .int) (t' := (.array .byte)) (by decide) (by decide))))
  have f15 : Fld Z h11 a1 "java/lang/AbstractStringBuilder" "maybeLatin1" "Z" (.int (0 : Int32)) := ((bM1.keep K8q nin0).other W11 (Or.inr (slot_ne (Or.inl (wt hw 265 rfl)) (Or.inl (wt hw 88 rfl)) (by decide) (t := .boolean) (t' := (.array .byte)) (by decide) (by decide))))
  have f16 : Arv Z h11 t8 tk8 .byte nw vs (.int (0 : Int32)) := (Ta8.other W11 (Ne.symm (Nat.ne_of_lt (Nat.lt_of_lt_of_le bE1.lt ts8))))
  obtain ⟨fs, hr, hrun, hended, hW, hsame⟩ := X11.leave (v := none) (fun _ => rfl)
  refine ⟨_, _, pre0 _ ?_, hrun, hended, _, _, rfl, ?_, ⟨_, rfl⟩, hW, hsame.mono (by decide) (by decide)⟩
  · show Steps p.tables e below (s₁.setTop (mkF m 0 #[.val (.ref a1), .val (.int m_), .unset] [])) _
    refine XS.aloadN X0.here hx rfl (hb hby k33_0) rfl rfl ?_
    show Steps p.tables e below (s₁.setTop (mkF m 1 #[.val (.ref a1), .val (.int m_), .unset] [(.ref a1)])) _
    refine st2 _ ?_
    show Steps p.tables e below (T2.setTop (mkF m 4 #[.val (.ref a1), .val (.int m_), .unset] [(.ref b)])) _
    refine X2.arraylength hx (by rw [e2]; exact Ar3.1) (State.isArrayOf_alike hZ.alike Ar3.2.1) (g := (mkF m 4 #[.val (.ref a1), .val (.int m_), .unset] [(.ref b)])) rfl rfl (hb hby k33_4) _ ?_
    rw [len_of S3 N_3]
    refine XS.aloadN X2.here hx rfl (hb hby k33_5) rfl rfl ?_
    show Steps p.tables e below (T2.setTop (mkF m 6 #[.val (.ref a1), .val (.int m_), .unset] [(.ref a1), (.int od)])) _
    refine st4 _ ?_
    refine XS.ishr X4.here hx rfl (hb hby k33_9) rfl ?_
    show Steps p.tables e below (T4.setTop (mkF m 10 #[.val (.ref a1), .val (.int m_), .unset] [(.int (od >>> (cd &&& 31)))])) _
    rw [d1]
    refine XS.istoreN X4.here hx rfl (hb hby k33_10) rfl (l' := #[.val (.ref a1), .val (.int m_), .val (.int cc)]) rfl ?_
    refine XS.iloadN X4.here hx rfl (hb hby k33_11) rfl ?_
    refine XS.iloadN X4.here hx rfl (hb hby k33_12) rfl ?_
    refine XS.isub X4.here hx rfl (hb hby k33_13) rfl ?_
    show Steps p.tables e below (T4.setTop (mkF m 14 #[.val (.ref a1), .val (.int m_), .val (.int cc)] [(.int (m_ - cc))])) _
    rw [d2]
    show Steps p.tables e below (T4.setTop (mkF m 14 #[.val (.ref a1), .val (.int m_), .val (.int cc)] [(.int gg)])) _
    refine XS.ifNo X4.here hx rfl (hb hby k33_14) rfl ((if0 _ _).trans (tlt (d3 : (0 : Int32) < gg)).2.2.2) ?_
    refine XS.aloadN X4.here hx rfl (hb hby k33_17) rfl rfl ?_
    refine XS.aloadN X4.here hx rfl (hb hby k33_18) rfl rfl ?_
    show Steps p.tables e below (T4.setTop (mkF m 19 #[.val (.ref a1), .val (.int m_), .val (.int cc)] [(.ref a1), (.ref a1)])) _
    refine st5 _ ?_
    refine XS.aloadN X5.here hx rfl (hb hby k33_22) rfl rfl ?_
    refine XS.iloadN X5.here hx rfl (hb hby k33_23) rfl ?_
    show Steps p.tables e below (T5.setTop (mkF m 24 #[.val (.ref a1), .val (.int m_), .val (.int cc)] [(.int m_), (.ref a1), (.ref b), (.ref a1)])) _
    refine st6.trans ?_
    refine XS.aloadN X6.here hx rfl (hb hby k33_27) rfl rfl ?_
    show Steps p.tables e below (T6.setTop (mkF m 28 #[.val (.ref a1), .val (.int m_), .val (.int cc)] [(.ref a1), (.int nc), (.ref b), (.ref a1)])) _
    refine st7 _ ?_
    refine XS.ishl X7.here hx rfl (hb hby k33_31) rfl ?_
    show Steps p.tables e below (T7.setTop (mkF m 32 #[.val (.ref a1), .val (.int m_), .val (.int cc)] [(.int (nc <<< (cd &&& 31))), (.ref b), (.ref a1)])) _
    rw [d4]
    show Steps p.tables e below (T7.setTop (mkF m 32 #[.val (.ref a1), .val (.int m_), .val (.int cc)] [(.int nw), (.ref b), (.ref a1)])) _
    refine st8 _ ?_
    show Steps p.tables e below (T8.setTop (mkF m 35 #[.val (.ref a1), .val (.int m_), .val (.int cc)] [(.ref t8), (.ref a1)])) _
    refine st11 _ ?_
    show Steps p.tables e below (T11.setTop (mkF m 38 #[.val (.ref a1), .val (.int m_), .val (.int cc)] [])) _
    exact X11.returnOut hx Bd.returns (hb hby k33_38) hr
  · show QSB Z none a1 cd cnt nw vs h0 n0 _ T11.heap _
    rw [e11]
    exact ⟨t8, tk8, rfl, Nf11, K2, sz_t8, ⟨f12, Fw11, f13, f14, f15, f16⟩⟩
theorem k34_0 : decode c34_ 0 = .ok (.getstatic 38, 3) := by decide +kernel
theorem k34_3 : decode c34_ 3 = .ok (.ifCond .eq 10, 3) := by decide +kernel
theorem k34_6 : decode c34_ 6 = .ok (.aload_n 0, 1) := by decide +kernel
theorem k34_7 : decode c34_ 7 = .ok (.getfield 15, 3) := by decide +kernel
theorem k34_10 : decode c34_ 10 = .ok (.goto 4, 3) := by decide +kernel
theorem k34_14 : decode c34_ 14 = .ok (.ireturn, 1) := by decide +kernel
theorem ef34_ (m : MethodId) (x0 : Addr) : entryFrame m #[(.ref x0)] 1 = mkF m 0 #[.val (.ref x0)] [] := by first | (simp [entryFrame, mkF, argsToLocals, Value.category]; done) | rfl
theorem rmCd0 (l : Launch) (Z : State) (a0 : Array Value) (hw : HW a0 Z) (ws : List Jvm.Cond) (a1 : Addr) (h0 : Heap) (n0 : Nat) (Z0 : n0 ≤ h0.size) (hG : GST Z) (O0 : Old Z n0 h0) (F_coder_a1 : Fld Z h0 a1 "java/lang/String" "coder" "B" (.int (0 : Int32))) :
    Met l Z ws m35_ jdk_42_method_152_code 1 (some .byte) ({ frames := 0, cells := 0, slots := 0, locals := 0 } : Room) h0 #[(.ref a1)] (QB 0 h0 n0) := by
  refine MetFree.of_bodySF (plainFor_of_name pn0_) hisR ?_
  intro p e s m args below meth c s₁ Bd hml0 hP hK
  obtain ⟨rfl, hZ, hh⟩ := hP
  have hx := Bd.exec
  have hby := Bd.bytes
  have hown : s.vm.findClass "java/lang/String" = some m.cls := findClass_of_methodNamed Bd.named
  have X0 : Stand p l e ({ frames := 0, cells := 0, slots := 0, locals := 0 } : Room) s m #[(.ref a1)] below meth c s₁ [] 0 0 := Stand.of_body Bd
  have e0 : s₁.heap = h0 := by rw [← hh, Bd.state]; rfl
  have N0 := Fr.nil n0
  have pre0 : ∀ t, Steps p.tables e below (s₁.setTop (mkF m 0 #[.val (.ref a1)] [])) t → Steps p.tables e below (s₁.setTop (entryFrame m #[(.ref a1)] 1)) t := fun t k => castTop (ef34_ m a1) k
  obtain ⟨⟨G1, O2, P5⟩, ⟨G3, O4, rG3⟩, Sa, Sh, Sl⟩ := id hG
  obtain ⟨T1, X1, e1, st1⟩ := getS2 X0 hx hZ hown (host := "") (Or.inl (wt hw 37 rfl)) Via.refl e0 (O2.ext O0.2) (g := (mkF m 0 #[.val (.ref a1)] [])) rfl (hb hby k34_0)
  obtain ⟨T2, X2, e2, st2⟩ := getF X1 hx hZ hown (host := "") (Or.inl (wt hw 22 rfl)) Via.refl e1 F_coder_a1 (g := (mkF m 7 #[.val (.ref a1)] [(.ref a1)])) rfl rfl (hb hby k34_7)
  obtain ⟨fs, hr, hrun, hended, hW, hsame⟩ := X2.leave (v := some (.int (0 : Int32))) (fun h => by rw [Bd.returns] at h; cases h)
  refine ⟨_, _, pre0 _ ?_, hrun, hended, _, _, rfl, ?_, ⟨_, rfl⟩, hW, hsame.mono (by decide) (by decide)⟩
  · show Steps p.tables e below (s₁.setTop (mkF m 0 #[.val (.ref a1)] [])) _
    refine st1 _ ?_
    show Steps p.tables e below (T1.setTop (mkF m 3 #[.val (.ref a1)] [(.int G1)])) _
    refine XS.ifNo X1.here hx rfl (hb hby k34_3) rfl ((if0 _ _).trans (feq (P5 : ¬ (G1 = (0 : Int32)))).1) ?_
    refine XS.aloadN X1.here hx rfl (hb hby k34_6) rfl rfl ?_
    show Steps p.tables e below (T1.setTop (mkF m 7 #[.val (.ref a1)] [(.ref a1)])) _
    refine st2 _ ?_
    refine XS.goto X2.here hx rfl (pc0 := 10) (pc' := 14) rfl (hb hby k34_10) (by decide) (by decide) ?_
    show Steps p.tables e below (T2.setTop (mkF m 14 #[.val (.ref a1)] [(.int (0 : Int32))])) _
    exact retN X2 hx (t := .byte) Bd.returns (by simp) (hb hby k34_14) hr
  · show QB 0 h0 n0 _ T2.heap _
    rw [e2]
    exact ⟨rfl, N0, rfl⟩
theorem rmCd1 (l : Launch) (Z : State) (a0 : Array Value) (hw : HW a0 Z) (ws : List Jvm.Cond) (a1 : Addr) (h0 : Heap) (n0 : Nat) (Z0 : n0 ≤ h0.size) (hG : GST Z) (O0 : Old Z n0 h0) (F_coder_a1 : Fld Z h0 a1 "java/lang/String" "coder" "B" (.int (1 : Int32))) :
    Met l Z ws m35_ jdk_42_method_152_code 1 (some .byte) ({ frames := 0, cells := 0, slots := 0, locals := 0 } : Room) h0 #[(.ref a1)] (QB 1 h0 n0) := by
  refine MetFree.of_bodySF (plainFor_of_name pn0_) hisR ?_
  intro p e s m args below meth c s₁ Bd hml0 hP hK
  obtain ⟨rfl, hZ, hh⟩ := hP
  have hx := Bd.exec
  have hby := Bd.bytes
  have hown : s.vm.findClass "java/lang/String" = some m.cls := findClass_of_methodNamed Bd.named
  have X0 : Stand p l e ({ frames := 0, cells := 0, slots := 0, locals := 0 } : Room) s m #[(.ref a1)] below meth c s₁ [] 0 0 := Stand.of_body Bd
  have e0 : s₁.heap = h0 := by rw [← hh, Bd.state]; rfl
  have N0 := Fr.nil n0
  have pre0 : ∀ t, Steps p.tables e below (s₁.setTop (mkF m 0 #[.val (.ref a1)] [])) t → Steps p.tables e below (s₁.setTop (entryFrame m #[(.ref a1)] 1)) t := fun t k => castTop (ef34_ m a1) k
  obtain ⟨⟨G1, O2, P5⟩, ⟨G3, O4, rG3⟩, Sa, Sh, Sl⟩ := id hG
  obtain ⟨T1, X1, e1, st1⟩ := getS2 X0 hx hZ hown (host := "") (Or.inl (wt hw 37 rfl)) Via.refl e0 (O2.ext O0.2) (g := (mkF m 0 #[.val (.ref a1)] [])) rfl (hb hby k34_0)
  obtain ⟨T2, X2, e2, st2⟩ := getF X1 hx hZ hown (host := "") (Or.inl (wt hw 22 rfl)) Via.refl e1 F_coder_a1 (g := (mkF m 7 #[.val (.ref a1)] [(.ref a1)])) rfl rfl (hb hby k34_7)
  obtain ⟨fs, hr, hrun, hended, hW, hsame⟩ := X2.leave (v := some (.int (1 : Int32))) (fun h => by rw [Bd.returns] at h; cases h)
  refine ⟨_, _, pre0 _ ?_, hrun, hended, _, _, rfl, ?_, ⟨_, rfl⟩, hW, hsame.mono (by decide) (by decide)⟩
  · show Steps p.tables e below (s₁.setTop (mkF m 0 #[.val (.ref a1)] [])) _
    refine st1 _ ?_
    show Steps p.tables e below (T1.setTop (mkF m 3 #[.val (.ref a1)] [(.int G1)])) _
    refine XS.ifNo X1.here hx rfl (hb hby k34_3) rfl ((if0 _ _).trans (feq (P5 : ¬ (G1 = (0 : Int32)))).1) ?_
    refine XS.aloadN X1.here hx rfl (hb hby k34_6) rfl rfl ?_
    show Steps p.tables e below (T1.setTop (mkF m 7 #[.val (.ref a1)] [(.ref a1)])) _
    refine st2 _ ?_
    refine XS.goto X2.here hx rfl (pc0 := 10) (pc' := 14) rfl (hb hby k34_10) (by decide) (by decide) ?_
    show Steps p.tables e below (T2.setTop (mkF m 14 #[.val (.ref a1)] [(.int (1 : Int32))])) _
    exact retN X2 hx (t := .byte) Bd.returns (by simp) (hb hby k34_14) hr
  · show QB 1 h0 n0 _ T2.heap _
    rw [e2]
    exact ⟨rfl, N0, rfl⟩
theorem k35_0 : decode c35_ 0 = .ok (.iload_n 3, 1) := by decide +kernel
theorem k35_1 : decode c35_ 1 = .ok (.iload 4, 2) := by decide +kernel
theorem k35_3 : decode c35_ 3 = .ok (.aload_n 2, 1) := by decide +kernel
theorem k35_4 : decode c35_ 4 = .ok (.invokestatic 173, 3) := by decide +kernel
theorem k35_7 : decode c35_ 7 = .ok (.iconst 0, 1) := by decide +kernel
theorem k35_8 : decode c35_ 8 = .ok (.istore 5, 2) := by decide +kernel
theorem k35_10 : decode c35_ 10 = .ok (.iload 5, 2) := by decide +kernel
theorem k35_12 : decode c35_ 12 = .ok (.iload 4, 2) := by decide +kernel
theorem k35_14 : decode c35_ 14 = .ok (.if_icmp .ge 27, 3) := by decide +kernel
theorem k35_41 : decode c35_ 41 = .ok (.return_, 1) := by decide +kernel
theorem ef35_ (m : MethodId) (x0 : Addr) (x1 : Int32) (x2 : Addr) (x3 : Int32) (x4 : Int32) : entryFrame m #[(.ref x0), (.int x1), (.ref x2), (.int x3), (.int x4)] 6 = mkF m 0 #[.val (.ref x0), .val (.int x1), .val (.ref x2), .val (.int x3), .val (.int x4), .unset] [] := by first | (simp [entryFrame, mkF, argsToLocals, Value.category]; done) | rfl
theorem rmU0 (l : Launch) (Z : State) (a0 : Array Value) (hw : HW a0 Z) (ws : List Jvm.Cond) (a1 b : Addr) (kb : ClassId) (vs : List Value) (h0 : Heap) (n0 : Nat) (Z0 : n0 ≤ h0.size) (hG : GST Z) (O0 : Old Z n0 h0) (V_b : Arv Z h0 b kb .byte (Int32.ofNat (2 * 64)) vs (.int (0 : Int32))) :
    Met l Z ws m36_ jdk_52_method_86_code 6 none ({ frames := 3, cells := 0, slots := 0, locals := 43 } : Room) h0 #[(.ref a1), (.int (0 : Int32)), (.ref b), (.int (0 : Int32)), (.int (0 : Int32))] (QR h0 n0) := by
  refine MetFree.of_bodySF (plainFor_of_name pn1_) hisR ?_
  intro p e s m args below meth c s₁ Bd hml0 hP hK
  obtain ⟨rfl, hZ, hh⟩ := hP
  have hx := Bd.exec
  have hby := Bd.bytes
  have hml : c.maxLocals = 6 := hml0
  have hown : s.vm.findClass "java/lang/StringUTF16" = some m.cls := findClass_of_methodNamed Bd.named
  have X0 : Stand p l e ({ frames := 3, cells := 0, slots := 0, locals := 43 } : Room) s m #[(.ref a1), (.int (0 : Int32)), (.ref b), (.int (0 : Int32)), (.int (0 : Int32))] below meth c s₁ [] 0 0 := Stand.of_body Bd
  have e0 : s₁.heap = h0 := by rw [← hh, Bd.state]; rfl
  have N0 := Fr.nil n0
  have pre0 : ∀ t, Steps p.tables e below (s₁.setTop (mkF m 0 #[.val (.ref a1), .val (.int (0 : Int32)), .val (.ref b), .val (.int (0 : Int32)), .val (.int (0 : Int32)), .unset] [])) t → Steps p.tables e below (s₁.setTop (entryFrame m #[(.ref a1), (.int (0 : Int32)), (.ref b), (.int (0 : Int32)), (.int (0 : Int32))] 6)) t := fun t k => castTop (ef35_ m a1 (0 : Int32) b (0 : Int32) (0 : Int32)) k
  obtain ⟨⟨G1, O2, P5⟩, ⟨G3, O4, rG3⟩, Sa, Sh, Sl⟩ := id hG
  obtain ⟨_, _, ⟨T1, L1, k1, n1⟩, -, X1, ⟨Lc1, hQ1, l1, y1, z1⟩, st1⟩ := Jvm.LawKit.callS X0 hx (y := m13_) hown (mvT hZ (wt hw 234 rfl)) (mvT hZ (wt hw 235 rfl)) (mvT hZ (wt hw 46 rfl)) (mvT hZ (wt hw 236 rfl)) (by decide) (backOf (W := 0) (rmUx l Z a0 hw [] 0 0 64 b kb vs h0 n0 (Nat.le_trans Z0 (Keep.refl h0 []).1) hG O0 (by decide) (by decide) V_b) hZ (wt hw 236 rfl) (wt hw 46 rfl) (by decide) (by decide)) (g := (mkF m 4 #[.val (.ref a1), .val (.int (0 : Int32)), .val (.ref b), .val (.int (0 : Int32)), .val (.int (0 : Int32)), .unset] [(.ref b), (.int (0 : Int32)), (.int (0 : Int32))])) rfl (by rw [hml]; rfl) (argsL := [(.int (0 : Int32)), (.int (0 : Int32)), (.ref b)]) (rest := []) (lenOf pd11_ rfl) rfl (by show 2 * 0 + _ ≤ _; exact Nat.le_of_eq rfl) (hb hby k35_4) (fun _ _ => ⟨rfl, e0, (by decide : 0 + 0 ≤ _), (by decide : 0 + 0 ≤ _)⟩)
  dsimp only [Pt.U, Pt.locs, Pt.cells, Pt.slots] at X1 l1 y1 z1 st1 hQ1
  rw [l1] at X1
  clear l1; subst y1 z1
  obtain ⟨rfl, N1q, e1q⟩ := hQ1
  have N1a := Fr.app N0 N1q
  obtain ⟨fs, hr, hrun, hended, hW, hsame⟩ := X1.leave (v := none) (fun _ => rfl)
  refine ⟨_, _, pre0 _ ?_, hrun, hended, _, _, rfl, ?_, ⟨_, rfl⟩, hW, hsame.mono (by decide) (by decide)⟩
  · show Steps p.tables e below (s₁.setTop (mkF m 0 #[.val (.ref a1), .val (.int (0 : Int32)), .val (.ref b), .val (.int (0 : Int32)), .val (.int (0 : Int32)), .unset] [])) _
    refine XS.iloadN X0.here hx rfl (hb hby k35_0) rfl ?_
    refine XS.iload X0.here hx rfl (hb hby k35_1) rfl ?_
    refine XS.aloadN X0.here hx rfl (hb hby k35_3) rfl rfl ?_
    show Steps p.tables e below (s₁.setTop (mkF m 4 #[.val (.ref a1), .val (.int (0 : Int32)), .val (.ref b), .val (.int (0 : Int32)), .val (.int (0 : Int32)), .unset] [(.ref b), (.int (0 : Int32)), (.int (0 : Int32))])) _
    refine st1 _ ?_
    refine XS.iconst X1.here hx rfl (hb hby k35_7) ?_
    refine XS.istore X1.here hx rfl (hb hby k35_8) rfl (l' := #[.val (.ref a1), .val (.int (0 : Int32)), .val (.ref b), .val (.int (0 : Int32)), .val (.int (0 : Int32)), .val (.int (0 : Int32))]) rfl ?_
    refine XS.iload X1.here hx rfl (hb hby k35_10) rfl ?_
    refine XS.iload X1.here hx rfl (hb hby k35_12) rfl ?_
    show Steps p.tables e below (T1.setTop (mkF m 14 #[.val (.ref a1), .val (.int (0 : Int32)), .val (.ref b), .val (.int (0 : Int32)), .val (.int (0 : Int32)), .val (.int (0 : Int32))] [(.int (0 : Int32)), (.int (0 : Int32))])) _
    refine XS.icmpYes X1.here hx rfl (pc0 := 14) (pc' := 41) rfl (hb hby k35_14) rfl (flt (by decide : ¬ ((0 : Int32) < (0 : Int32)))).2.1 (by decide) (by decide) ?_
    show Steps p.tables e below (T1.setTop (mkF m 41 #[.val (.ref a1), .val (.int (0 : Int32)), .val (.ref b), .val (.int (0 : Int32)), .val (.int (0 : Int32)), .val (.int (0 : Int32))] [])) _
    exact X1.returnOut hx Bd.returns (hb hby k35_41) hr
  · show QR h0 n0 _ T1.heap _
    rw [e1q]
    exact ⟨rfl, N1a, rfl⟩
theorem k36_0 : decode c36_ 0 = .ok (.aload_n 0, 1) := by decide +kernel
theorem k36_1 : decode c36_ 1 = .ok (.iload_n 1, 1) := by decide +kernel
theorem k36_2 : decode c36_ 2 = .ok (.aload_n 2, 1) := by decide +kernel
theorem k36_3 : decode c36_ 3 = .ok (.iload_n 3, 1) := by decide +kernel
theorem k36_4 : decode c36_ 4 = .ok (.iload 4, 2) := by decide +kernel
theorem k36_6 : decode c36_ 6 = .ok (.invokestatic 240, 3) := by decide +kernel
theorem k36_9 : decode c36_ 9 = .ok (.return_, 1) := by decide +kernel
theorem pd23_ : parseMethodDescriptor "([BI[BII)V" = some ⟨[(.array .byte), .int, (.array .byte), .int, .int], none⟩ := by decide +kernel
theorem ef36_ (m : MethodId) (x0 : Addr) (x1 : Int32) (x2 : Addr) (x3 : Int32) (x4 : Int32) : entryFrame m #[(.ref x0), (.int x1), (.ref x2), (.int x3), (.int x4)] 5 = mkF m 0 #[.val (.ref x0), .val (.int x1), .val (.ref x2), .val (.int x3), .val (.int x4)] [] := by first | (simp [entryFrame, mkF, argsToLocals, Value.category]; done) | rfl
theorem rmL0 (l : Launch) (Z : State) (a0 : Array Value) (hw : HW a0 Z) (ws : List Jvm.Cond) (a1 b : Addr) (kb : ClassId) (vs : List Value) (h0 : Heap) (n0 : Nat) (Z0 : n0 ≤ h0.size) (hG : GST Z) (O0 : Old Z n0 h0) (V_b : Arv Z h0 b kb .byte (Int32.ofNat (2 * 64)) vs (.int (0 : Int32))) :
    Met l Z ws m37_ jdk_43_method_50_code 5 none ({ frames := 4, cells := 0, slots := 0, locals := 60 } : Room) h0 #[(.ref a1), (.int (0 : Int32)), (.ref b), (.int (0 : Int32)), (.int (0 : Int32))] (QR h0 n0) := by
  refine MetFree.of_bodySF (plainFor_of_name pn4_) hisR ?_
  intro p e s m args below meth c s₁ Bd hml0 hP hK
  obtain ⟨rfl, hZ, hh⟩ := hP
  have hx := Bd.exec
  have hby := Bd.bytes
  have hml : c.maxLocals = 5 := hml0
  have hown : s.vm.findClass "java/lang/StringLatin1" = some m.cls := findClass_of_methodNamed Bd.named
  have X0 : Stand p l e ({ frames := 4, cells := 0, slots := 0, locals := 60 } : Room) s m #[(.ref a1), (.int (0 : Int32)), (.ref b), (.int (0 : Int32)), (.int (0 : Int32))] below meth c s₁ [] 0 0 := Stand.of_body Bd
  have e0 : s₁.heap = h0 := by rw [← hh, Bd.state]; rfl
  have N0 := Fr.nil n0
  have pre0 : ∀ t, Steps p.tables e below (s₁.setTop (mkF m 0 #[.val (.ref a1), .val (.int (0 : Int32)), .val (.ref b), .val (.int (0 : Int32)), .val (.int (0 : Int32))] [])) t → Steps p.tables e below (s₁.setTop (entryFrame m #[(.ref a1), (.int (0 : Int32)), (.ref b), (.int (0 : Int32)), (.int (0 : Int32))] 5)) t := fun t k => castTop (ef36_ m a1 (0 : Int32) b (0 : Int32) (0 : Int32)) k
  obtain ⟨⟨G1, O2, P5⟩, ⟨G3, O4, rG3⟩, Sa, Sh, Sl⟩ := id hG
  obtain ⟨_, _, ⟨T1, L1, k1, n1⟩, -, X1, ⟨Lc1, hQ1, l1, y1, z1⟩, st1⟩ := Jvm.LawKit.callS X0 hx (y := m36_) hown (mvT hZ (wt hw 260 rfl)) (mvT hZ (wt hw 261 rfl)) (mvT hZ (wt hw 46 rfl)) (mvT hZ (wt hw 262 rfl)) (by decide) (backOf (W := 0) (rmU0 l Z a0 hw [] a1 b kb vs h0 n0 (Nat.le_trans Z0 (Keep.refl h0 []).1) hG O0 V_b) hZ (wt hw 262 rfl) (wt hw 46 rfl) (by decide) (by decide)) (g := (mkF m 6 #[.val (.ref a1), .val (.int (0 : Int32)), .val (.ref b), .val (.int (0 : Int32)), .val (.int (0 : Int32))] [(.int (0 : Int32)), (.int (0 : Int32)), (.ref b), (.int (0 : Int32)), (.ref a1)])) rfl (by rw [hml]; rfl) (argsL := [(.ref a1), (.int (0 : Int32)), (.ref b), (.int (0 : Int32)), (.int (0 : Int32))]) (rest := []) (lenOf pd23_ rfl) rfl (by show 2 * 0 + _ ≤ _; exact Nat.le_of_eq rfl) (hb hby k36_6) (fun _ _ => ⟨rfl, e0, (by decide : 0 + 0 ≤ _), (by decide : 0 + 0 ≤ _)⟩)
  dsimp only [Pt.U, Pt.locs, Pt.cells, Pt.slots] at X1 l1 y1 z1 st1 hQ1
  rw [l1] at X1
  clear l1; subst y1 z1
  obtain ⟨rfl, N1q, e1q⟩ := hQ1
  have N1a := Fr.app N0 N1q
  obtain ⟨fs, hr, hrun, hended, hW, hsame⟩ := X1.leave (v := none) (fun _ => rfl)
  refine ⟨_, _, pre0 _ ?_, hrun, hended, _, _, rfl, ?_, ⟨_, rfl⟩, hW, hsame.mono (by decide) (by decide)⟩
  · show Steps p.tables e below (s₁.setTop (mkF m 0 #[.val (.ref a1), .val (.int (0 : Int32)), .val (.ref b), .val (.int (0 : Int32)), .val (.int (0 : Int32))] [])) _
    refine XS.aloadN X0.here hx rfl (hb hby k36_0) rfl rfl ?_
    refine XS.iloadN X0.here hx rfl (hb hby k36_1) rfl ?_
    refine XS.aloadN X0.here hx rfl (hb hby k36_2) rfl rfl ?_
    refine XS.iloadN X0.here hx rfl (hb hby k36_3) rfl ?_
    refine XS.iload X0.here hx rfl (hb hby k36_4) rfl ?_
    show Steps p.tables e below (s₁.setTop (mkF m 6 #[.val (.ref a1), .val (.int (0 : Int32)), .val (.ref b), .val (.int (0 : Int32)), .val (.int (0 : Int32))] [(.int (0 : Int32)), (.int (0 : Int32)), (.ref b), (.int (0 : Int32)), (.ref a1)])) _
    refine st1 _ ?_
    show Steps p.tables e below (T1.setTop (mkF m 9 #[.val (.ref a1), .val (.int (0 : Int32)), .val (.ref b), .val (.int (0 : Int32)), .val (.int (0 : Int32))] [])) _
    exact X1.returnOut hx Bd.returns (hb hby k36_9) hr
  · show QR h0 n0 _ T1.heap _
    rw [e1q]
    exact ⟨rfl, N1a, rfl⟩
theorem k35_17 : decode c35_ 17 = .ok (.aload_n 2, 1) := by decide +kernel
theorem k35_18 : decode c35_ 18 = .ok (.iload_n 3, 1) := by decide +kernel
theorem k35_19 : decode c35_ 19 = .ok (.iinc 3 1, 3) := by decide +kernel
theorem k35_22 : decode c35_ 22 = .ok (.aload_n 0, 1) := by decide +kernel
theorem k35_23 : decode c35_ 23 = .ok (.iload_n 1, 1) := by decide +kernel
theorem k35_24 : decode c35_ 24 = .ok (.iinc 1 1, 3) := by decide +kernel
theorem k35_27 : decode c35_ 27 = .ok (.baload, 1) := by decide +kernel
theorem k35_28 : decode c35_ 28 = .ok (.sipush 255, 3) := by decide +kernel
theorem k35_31 : decode c35_ 31 = .ok (.iand, 1) := by decide +kernel
theorem k35_32 : decode c35_ 32 = .ok (.invokestatic 111, 3) := by decide +kernel
theorem k35_35 : decode c35_ 35 = .ok (.iinc 5 1, 3) := by decide +kernel
theorem k35_38 : decode c35_ 38 = .ok (.goto (-28), 3) := by decide +kernel
theorem rmU3 (l : Launch) (Z : State) (a0 : Array Value) (hw : HW a0 Z) (ws : List Jvm.Cond) (a1 b : Addr) (kc kb : ClassId) (es : List Int32) (h0 : Heap) (n0 : Nat) (Z0 : n0 ≤ h0.size) (hG : GST Z) (O0 : Old Z n0 h0) (V_a1 : Arv Z h0 a1 kc .byte (3 : Int32) (own_dots.map own_lo) (.int (0 : Int32))) (V_b : Arv Z h0 b kb .byte (Int32.ofNat (2 * 130)) (wideBytes es) (.int (0 : Int32))) (hes : es.length = 64) (g_b : n0 ≤ b) (n_ab : a1 ≠ b) :
    Met l Z ws m36_ jdk_52_method_86_code 6 none ({ frames := 3, cells := 0, slots := 0, locals := 43 } : Room) h0 #[(.ref a1), (.int (Int32.ofNat 0)), (.ref b), (.int (Int32.ofNat 64)), (.int (Int32.ofNat 3))] (QW Z b kb (Int32.ofNat (2 * 130)) (wideBytes (es ++ own_dots)) h0 n0) := by
  refine MetFree.of_bodySF (plainFor_of_name pn1_) hisR ?_
  intro p e s m args below meth c s₁ Bd hml0 hP hK
  obtain ⟨rfl, hZ, hh⟩ := hP
  have hx := Bd.exec
  have hby := Bd.bytes
  have hml : c.maxLocals = 6 := hml0
  have hown : s.vm.findClass "java/lang/StringUTF16" = some m.cls := findClass_of_methodNamed Bd.named
  have X0 : Stand p l e ({ frames := 3, cells := 0, slots := 0, locals := 43 } : Room) s m #[(.ref a1), (.int (Int32.ofNat 0)), (.ref b), (.int (Int32.ofNat 64)), (.int (Int32.ofNat 3))] below meth c s₁ [] 0 0 := Stand.of_body Bd
  have e0 : s₁.heap = h0 := by rw [← hh, Bd.state]; rfl
  have N0 := Fr.nil n0
  have pre0 : ∀ t, Steps p.tables e below (s₁.setTop (mkF m 0 #[.val (.ref a1), .val (.int (Int32.ofNat 0)), .val (.ref b), .val (.int (Int32.ofNat 64)), .val (.int (Int32.ofNat 3)), .unset] [])) t → Steps p.tables e below (s₁.setTop (entryFrame m #[(.ref a1), (.int (Int32.ofNat 0)), (.ref b), (.int (Int32.ofNat 64)), (.int (Int32.ofNat 3))] 6)) t := fun t k => castTop (ef35_ m a1 (Int32.ofNat 0) b (Int32.ofNat 64) (Int32.ofNat 3)) k
  obtain ⟨⟨G1, O2, P5⟩, ⟨G3, O4, rG3⟩, Sa, Sh, Sl⟩ := id hG
  obtain ⟨_, _, ⟨T1, L1, k1, n1⟩, -, X1, ⟨Lc1, hQ1, l1, y1, z1⟩, st1⟩ := Jvm.LawKit.callS X0 hx (y := m13_) hown (mvT hZ (wt hw 234 rfl)) (mvT hZ (wt hw 235 rfl)) (mvT hZ (wt hw 46 rfl)) (mvT hZ (wt hw 236 rfl)) (by decide) (backOf (W := 0) (rmUx l Z a0 hw [] 64 3 130 b kb (wideBytes es) h0 n0 (Nat.le_trans Z0 (Keep.refl h0 [b]).1) hG O0 (by decide) (by decide) V_b) hZ (wt hw 236 rfl) (wt hw 46 rfl) (by decide) (by decide)) (g := (mkF m 4 #[.val (.ref a1), .val (.int (Int32.ofNat 0)), .val (.ref b), .val (.int (Int32.ofNat 64)), .val (.int (Int32.ofNat 3)), .unset] [(.ref b), (.int (Int32.ofNat 3)), (.int (Int32.ofNat 64))])) rfl (by rw [hml]; rfl) (argsL := [(.int (Int32.ofNat 64)), (.int (Int32.ofNat 3)), (.ref b)]) (rest := []) (lenOf pd11_ rfl) rfl (by show 2 * 0 + _ ≤ _; exact Nat.le_of_eq rfl) (hb hby k35_4) (fun _ _ => ⟨rfl, e0, (by decide : 0 + 0 ≤ _), (by decide : 0 + 0 ≤ _)⟩)
  dsimp only [Pt.U, Pt.locs, Pt.cells, Pt.slots] at X1 l1 y1 z1 st1 hQ1
  rw [l1] at X1
  clear l1; subst y1 z1
  obtain ⟨rfl, N1q, e1q⟩ := hQ1
  have N1a := Fr.app N0 N1q
  obtain ⟨cl2, Ar2, q2, S2, N_2, H_2, G2⟩ := id V_a1
  have hin2 : ¬ ((Int32.ofNat 0) < 0 ∨ cl2.slots.size ≤ ((Int32.ofNat 0)).toNatClampNeg) := by rw [S2]; decide
  have hat2 : cl2.slots[((Int32.ofNat 0)).toNatClampNeg]? = some (.int (46 : Int32)) := H_2.at hin2 (by decide)
  obtain ⟨_, _, ⟨T3, L3, k3, n3⟩, -, X3, ⟨Lc3, hQ3, l3, y3, z3⟩, st3⟩ := Jvm.LawKit.callS X1 hx (y := m3_) hown (mvT hZ (wt hw 64 rfl)) (mvT hZ (wt hw 65 rfl)) (mvT hZ (wt hw 46 rfl)) (mvT hZ (wt hw 66 rfl)) (by decide) (backOf (W := 0) (rmPc l Z a0 hw [] b kb 64 (2 * 130) es (46 : Int32) h0 n0 (Nat.le_trans Z0 (Keep.refl h0 [b]).1) hG O0 V_b (by simp [hes]) (by simp [hes]) (by decide) g_b) hZ (wt hw 66 rfl) (wt hw 46 rfl) (by decide) (by decide)) (g := (mkF m 32 #[.val (.ref a1), .val (.int (Int32.ofNat (0 + 1))), .val (.ref b), .val (.int (Int32.ofNat (64 + 1))), .val (.int (Int32.ofNat 3)), .val (.int (Int32.ofNat 0))] [(.int (46 : Int32)), (.int (Int32.ofNat 64)), (.ref b)])) rfl (by rw [hml]; rfl) (argsL := [(.ref b), (.int (Int32.ofNat 64)), (.int (46 : Int32))]) (rest := []) (lenOf pd3_ rfl) rfl (by show 2 * 0 + _ ≤ _; exact Nat.le_of_eq rfl) (hb hby k35_32) (fun _ _ => ⟨rfl, e1q, (by decide : 0 + 0 ≤ _), (by decide : 0 + 0 ≤ _)⟩)
  dsimp only [Pt.U, Pt.locs, Pt.cells, Pt.slots] at X3 l3 y3 z3 st3 hQ3
  rw [l3] at X3
  clear l3; subst y3 z3
  obtain ⟨rfl, N3q, K3q, Pa3⟩ := hQ3
  have N3a := Fr.app N1a N3q
  have K1 : Keep h0 T3.heap [b] := (Keep.refl h0 [b]).trans K3q (allS (Or.inl (List.mem_of_getElem? (i := 0) rfl)) all0)
  have f4 : Arv Z T3.heap a1 kc .byte (3 : Int32) (own_dots.map own_lo) (.int (0 : Int32)) := (V_a1.keep K3q (ninS n_ab nin0))
  obtain ⟨cl5, Ar5, q5, S5, N_5, H_5, G5⟩ := id f4
  have hin5 : ¬ ((Int32.ofNat (0 + 1)) < 0 ∨ cl5.slots.size ≤ ((Int32.ofNat (0 + 1))).toNatClampNeg) := by rw [S5]; decide
  have hat5 : cl5.slots[((Int32.ofNat (0 + 1))).toNatClampNeg]? = some (.int (46 : Int32)) := H_5.at hin5 (by decide)
  have f7 : Old Z n0 T3.heap := (O0.keep K3q (allS g_b all0))
  obtain ⟨_, _, ⟨T6, L6, k6, n6⟩, -, X6, ⟨Lc6, hQ6, l6, y6, z6⟩, st6⟩ := Jvm.LawKit.callS X3 hx (y := m3_) hown (mvT hZ (wt hw 64 rfl)) (mvT hZ (wt hw 65 rfl)) (mvT hZ (wt hw 46 rfl)) (mvT hZ (wt hw 66 rfl)) (by decide) (backOf (W := 0) (rmPc l Z a0 hw [] b kb (64 + 1) (2 * 130) (es ++ [(46 : Int32)]) (46 : Int32) T3.heap n0 (Nat.le_trans Z0 K1.1) hG f7 Pa3 (by simp [hes]) (by simp [hes]) (by decide) g_b) hZ (wt hw 66 rfl) (wt hw 46 rfl) (by decide) (by decide)) (g := (mkF m 32 #[.val (.ref a1), .val (.int (Int32.ofNat ((0 + 1) + 1))), .val (.ref b), .val (.int (Int32.ofNat ((64 + 1) + 1))), .val (.int (Int32.ofNat 3)), .val (.int (Int32.ofNat (0 + 1)))] [(.int (46 : Int32)), (.int (Int32.ofNat (64 + 1))), (.ref b)])) rfl (by rw [hml]; rfl) (argsL := [(.ref b), (.int (Int32.ofNat (64 + 1))), (.int (46 : Int32))]) (rest := []) (lenOf pd3_ rfl) rfl (by show 2 * 0 + _ ≤ _; exact Nat.le_of_eq rfl) (hb hby k35_32) (fun _ _ => ⟨rfl, rfl, (by decide : 0 + 0 ≤ _), (by decide : 0 + 0 ≤ _)⟩)
  dsimp only [Pt.U, Pt.locs, Pt.cells, Pt.slots] at X6 l6 y6 z6 st6 hQ6
  rw [l6] at X6
  clear l6; subst y6 z6
  obtain ⟨rfl, N6q, K6q, Pa6⟩ := hQ6
  have N6a := Fr.app N3a N6q
  have K2 : Keep h0 T6.heap [b] := K1.trans K6q (allS (Or.inl (List.mem_of_getElem? (i := 0) rfl)) all0)
  have f8 : Arv Z T6.heap a1 kc .byte (3 : Int32) (own_dots.map own_lo) (.int (0 : Int32)) := (f4.keep K6q (ninS n_ab nin0))
  obtain ⟨cl9, Ar9, q9, S9, N_9, H_9, G9⟩ := id f8
  have hin9 : ¬ ((Int32.ofNat ((0 + 1) + 1)) < 0 ∨ cl9.slots.size ≤ ((Int32.ofNat ((0 + 1) + 1))).toNatClampNeg) := by rw [S9]; decide
  have hat9 : cl9.slots[((Int32.ofNat ((0 + 1) + 1))).toNatClampNeg]? = some (.int (46 : Int32)) := H_9.at hin9 (by decide)
  have f11 : Old Z n0 T6.heap := (f7.keep K6q (allS g_b all0))
  obtain ⟨_, _, ⟨T10, L10, k10, n10⟩, -, X10, ⟨Lc10, hQ10, l10, y10, z10⟩, st10⟩ := Jvm.LawKit.callS X6 hx (y := m3_) hown (mvT hZ (wt hw 64 rfl)) (mvT hZ (wt hw 65 rfl)) (mvT hZ (wt hw 46 rfl)) (mvT hZ (wt hw 66 rfl)) (by decide) (backOf (W := 0) (rmPc l Z a0 hw [] b kb ((64 + 1) + 1) (2 * 130) ((es ++ [(46 : Int32)]) ++ [(46 : Int32)]) (46 : Int32) T6.heap n0 (Nat.le_trans Z0 K2.1) hG f11 Pa6 (by simp [hes]) (by simp [hes]) (by decide) g_b) hZ (wt hw 66 rfl) (wt hw 46 rfl) (by decide) (by decide)) (g := (mkF m 32 #[.val (.ref a1), .val (.int (Int32.ofNat (((0 + 1) + 1) + 1))), .val (.ref b), .val (.int (Int32.ofNat (((64 + 1) + 1) + 1))), .val (.int (Int32.ofNat 3)), .val (.int (Int32.ofNat ((0 + 1) + 1)))] [(.int (46 : Int32)), (.int (Int32.ofNat ((64 + 1) + 1))), (.ref b)])) rfl (by rw [hml]; rfl) (argsL := [(.ref b), (.int (Int32.ofNat ((64 + 1) + 1))), (.int (46 : Int32))]) (rest := []) (lenOf pd3_ rfl) rfl (by show 2 * 0 + _ ≤ _; exact Nat.le_of_eq rfl) (hb hby k35_32) (fun _ _ => ⟨rfl, rfl, (by decide : 0 + 0 ≤ _), (by decide : 0 + 0 ≤ _)⟩)
  dsimp only [Pt.U, Pt.locs, Pt.cells, Pt.slots] at X10 l10 y10 z10 st10 hQ10
  rw [l10] at X10
  clear l10; subst y10 z10
  obtain ⟨rfl, N10q, K10q, Pa10⟩ := hQ10
  have N10a := Fr.app N6a N10q
  have K3 : Keep h0 T10.heap [b] := K2.trans K10q (allS (Or.inl (List.mem_of_getElem? (i := 0) rfl)) all0)
  obtain ⟨fs, hr, hrun, hended, hW, hsame⟩ := X10.leave (v := none) (fun _ => rfl)
  refine ⟨_, _, pre0 _ ?_, hrun, hended, _, _, rfl, ?_, ⟨_, rfl⟩, hW, hsame.mono (by decide) (by decide)⟩
  · show Steps p.tables e below (s₁.setTop (mkF m 0 #[.val (.ref a1), .val (.int (Int32.ofNat 0)), .val (.ref b), .val (.int (Int32.ofNat 64)), .val (.int (Int32.ofNat 3)), .unset] [])) _
    refine XS.iloadN X0.here hx rfl (hb hby k35_0) rfl ?_
    refine XS.iload X0.here hx rfl (hb hby k35_1) rfl ?_
    refine XS.aloadN X0.here hx rfl (hb hby k35_3) rfl rfl ?_
    show Steps p.tables e below (s₁.setTop (mkF m 4 #[.val (.ref a1), .val (.int (Int32.ofNat 0)), .val (.ref b), .val (.int (Int32.ofNat 64)), .val (.int (Int32.ofNat 3)), .unset] [(.ref b), (.int (Int32.ofNat 3)), (.int (Int32.ofNat 64))])) _
    refine st1 _ ?_
    refine XS.iconst X1.here hx rfl (hb hby k35_7) ?_
    show Steps p.tables e below (T1.setTop (mkF m 8 #[.val (.ref a1), .val (.int (Int32.ofNat 0)), .val (.ref b), .val (.int (Int32.ofNat 64)), .val (.int (Int32.ofNat 3)), .unset] [(.int (Int32.ofNat 0))])) _
    refine XS.istore X1.here hx rfl (hb hby k35_8) rfl (l' := #[.val (.ref a1), .val (.int (Int32.ofNat 0)), .val (.ref b), .val (.int (Int32.ofNat 64)), .val (.int (Int32.ofNat 3)), .val (.int (Int32.ofNat 0))]) rfl ?_
    refine XS.iload X1.here hx rfl (hb hby k35_10) rfl ?_
    refine XS.iload X1.here hx rfl (hb hby k35_12) rfl ?_
    show Steps p.tables e below (T1.setTop (mkF m 14 #[.val (.ref a1), .val (.int (Int32.ofNat 0)), .val (.ref b), .val (.int (Int32.ofNat 64)), .val (.int (Int32.ofNat 3)), .val (.int (Int32.ofNat 0))] [(.int (Int32.ofNat 3)), (.int (Int32.ofNat 0))])) _
    refine XS.icmpNo X1.here hx rfl (hb hby k35_14) rfl (tlt (by decide : (Int32.ofNat 0) < (Int32.ofNat 3))).2.1 ?_
    refine XS.aloadN X1.here hx rfl (hb hby k35_17) rfl rfl ?_
    refine XS.iloadN X1.here hx rfl (hb hby k35_18) rfl ?_
    show Steps p.tables e below (T1.setTop (mkF m 19 #[.val (.ref a1), .val (.int (Int32.ofNat 0)), .val (.ref b), .val (.int (Int32.ofNat 64)), .val (.int (Int32.ofNat 3)), .val (.int (Int32.ofNat 0))] [(.int (Int32.ofNat 64)), (.ref b)])) _
    refine XS.iinc X1.here hx rfl (hb hby k35_19) rfl (l' := #[.val (.ref a1), .val (.int (Int32.ofNat 0)), .val (.ref b), .val (.int ((Int32.ofNat 64) + (1 : Int32))), .val (.int (Int32.ofNat 3)), .val (.int (Int32.ofNat 0))]) rfl ?_
    show Steps p.tables e below (T1.setTop (mkF m 22 #[.val (.ref a1), .val (.int (Int32.ofNat 0)), .val (.ref b), .val (.int ((Int32.ofNat 64) + (1 : Int32))), .val (.int (Int32.ofNat 3)), .val (.int (Int32.ofNat 0))] [(.int (Int32.ofNat 64)), (.ref b)])) _
    rw [own_add1]
    refine XS.aloadN X1.here hx rfl (hb hby k35_22) rfl rfl ?_
    refine XS.iloadN X1.here hx rfl (hb hby k35_23) rfl ?_
    show Steps p.tables e below (T1.setTop (mkF m 24 #[.val (.ref a1), .val (.int (Int32.ofNat 0)), .val (.ref b), .val (.int (Int32.ofNat (64 + 1))), .val (.int (Int32.ofNat 3)), .val (.int (Int32.ofNat 0))] [(.int (Int32.ofNat 0)), (.ref a1), (.int (Int32.ofNat 64)), (.ref b)])) _
    refine XS.iinc X1.here hx rfl (hb hby k35_24) rfl (l' := #[.val (.ref a1), .val (.int ((Int32.ofNat 0) + (1 : Int32))), .val (.ref b), .val (.int (Int32.ofNat (64 + 1))), .val (.int (Int32.ofNat 3)), .val (.int (Int32.ofNat 0))]) rfl ?_
    show Steps p.tables e below (T1.setTop (mkF m 27 #[.val (.ref a1), .val (.int ((Int32.ofNat 0) + (1 : Int32))), .val (.ref b), .val (.int (Int32.ofNat (64 + 1))), .val (.int (Int32.ofNat 3)), .val (.int (Int32.ofNat 0))] [(.int (Int32.ofNat 0)), (.ref a1), (.int (Int32.ofNat 64)), (.ref b)])) _
    rw [own_add1]
    show Steps p.tables e below (T1.setTop (mkF m 27 #[.val (.ref a1), .val (.int (Int32.ofNat (0 + 1))), .val (.ref b), .val (.int (Int32.ofNat (64 + 1))), .val (.int (Int32.ofNat 3)), .val (.int (Int32.ofNat 0))] [(.int (Int32.ofNat 0)), (.ref a1), (.int (Int32.ofNat 64)), (.ref b)])) _
    refine X1.baloadBytes hx (j := (Int32.ofNat 0)) (v := (.int (46 : Int32))) (by rw [e1q]; exact Ar2.1) (State.isArrayOf_alike hZ.alike Ar2.2.1) Ar2.2.2 hin2 hat2 (g := (mkF m 27 #[.val (.ref a1), .val (.int (Int32.ofNat (0 + 1))), .val (.ref b), .val (.int (Int32.ofNat (64 + 1))), .val (.int (Int32.ofNat 3)), .val (.int (Int32.ofNat 0))] [(.int (Int32.ofNat 0)), (.ref a1), (.int (Int32.ofNat 64)), (.ref b)])) rfl rfl (hb hby k35_27) _ ?_
    refine XS.sipush X1.here hx rfl (hb hby k35_28) ?_
    refine XS.iand X1.here hx rfl (hb hby k35_31) rfl ?_
    show Steps p.tables e below (T1.setTop (mkF m 32 #[.val (.ref a1), .val (.int (Int32.ofNat (0 + 1))), .val (.ref b), .val (.int (Int32.ofNat (64 + 1))), .val (.int (Int32.ofNat 3)), .val (.int (Int32.ofNat 0))] [(.int ((46 : Int32) &&& (255 : Int32))), (.int (Int32.ofNat 64)), (.ref b)])) _
    rw [(by decide : ((46 : Int32) &&& (255 : Int32)) = (46 : Int32))]
    show Steps p.tables e below (T1.setTop (mkF m 32 #[.val (.ref a1), .val (.int (Int32.ofNat (0 + 1))), .val (.ref b), .val (.int (Int32.ofNat (64 + 1))), .val (.int (Int32.ofNat 3)), .val (.int (Int32.ofNat 0))] [(.int (46 : Int32)), (.int (Int32.ofNat 64)), (.ref b)])) _
    refine st3 _ ?_
    show Steps p.tables e below (T3.setTop (mkF m 35 #[.val (.ref a1), .val (.int (Int32.ofNat (0 + 1))), .val (.ref b), .val (.int (Int32.ofNat (64 + 1))), .val (.int (Int32.ofNat 3)), .val (.int (Int32.ofNat 0))] [])) _
    refine XS.iinc X3.here hx rfl (hb hby k35_35) rfl (l' := #[.val (.ref a1), .val (.int (Int32.ofNat (0 + 1))), .val (.ref b), .val (.int (Int32.ofNat (64 + 1))), .val (.int (Int32.ofNat 3)), .val (.int ((Int32.ofNat 0) + (1 : Int32)))]) rfl ?_
    show Steps p.tables e below (T3.setTop (mkF m 38 #[.val (.ref a1), .val (.int (Int32.ofNat (0 + 1))), .val (.ref b), .val (.int (Int32.ofNat (64 + 1))), .val (.int (Int32.ofNat 3)), .val (.int ((Int32.ofNat 0) + (1 : Int32)))] [])) _
    rw [own_add1]
    refine XS.goto X3.here hx rfl (pc0 := 38) (pc' := 10) rfl (hb hby k35_38) (by decide) (by decide) ?_
    refine XS.iload X3.here hx rfl (hb hby k35_10) rfl ?_
    refine XS.iload X3.here hx rfl (hb hby k35_12) rfl ?_
    show Steps p.tables e below (T3.setTop (mkF m 14 #[.val (.ref a1), .val (.int (Int32.ofNat (0 + 1))), .val (.ref b), .val (.int (Int32.ofNat (64 + 1))), .val (.int (Int32.ofNat 3)), .val (.int (Int32.ofNat (0 + 1)))] [(.int (Int32.ofNat 3)), (.int (Int32.ofNat (0 + 1)))])) _
    refine XS.icmpNo X3.here hx rfl (hb hby k35_14) rfl (tlt (by decide : (Int32.ofNat (0 + 1)) < (Int32.ofNat 3))).2.1 ?_
    refine XS.aloadN X3.here hx rfl (hb hby k35_17) rfl rfl ?_
    refine XS.iloadN X3.here hx rfl (hb hby k35_18) rfl ?_
    show Steps p.tables e below (T3.setTop (mkF m 19 #[.val (.ref a1), .val (.int (Int32.ofNat (0 + 1))), .val (.ref b), .val (.int (Int32.ofNat (64 + 1))), .val (.int (Int32.ofNat 3)), .val (.int (Int32.ofNat (0 + 1)))] [(.int (Int32.ofNat (64 + 1))), (.ref b)])) _
    refine XS.iinc X3.here hx rfl (hb hby k35_19) rfl (l' := #[.val (.ref a1), .val (.int (Int32.ofNat (0 + 1))), .val (.ref b), .val (.int ((Int32.ofNat (64 + 1)) + (1 : Int32))), .val (.int (Int32.ofNat 3)), .val (.int (Int32.ofNat (0 + 1)))]) rfl ?_
    show Steps p.tables e below (T3.setTop (mkF m 22 #[.val (.ref a1), .val (.int (Int32.ofNat (0 + 1))), .val (.ref b), .val (.int ((Int32.ofNat (64 + 1)) + (1 : Int32))), .val (.int (Int32.ofNat 3)), .val (.int (Int32.ofNat (0 + 1)))] [(.int (Int32.ofNat (64 + 1))), (.ref b)])) _
    rw [own_add1]
    refine XS.aloadN X3.here hx rfl (hb hby k35_22) rfl rfl ?_
    refine XS.iloadN X3.here hx rfl (hb hby k35_23) rfl ?_
    show Steps p.tables e below (T3.setTop (mkF m 24 #[.val (.ref a1), .val (.int (Int32.ofNat (0 + 1))), .val (.ref b), .val (.int (Int32.ofNat ((64 + 1) + 1))), .val (.int (Int32.ofNat 3)), .val (.int (Int32.ofNat (0 + 1)))] [(.int (Int32.ofNat (0 + 1))), (.ref a1), (.int (Int32.ofNat (64 + 1))), (.ref b)])) _
    refine XS.iinc X3.here hx rfl (hb hby k35_24) rfl (l' := #[.val (.ref a1), .val (.int ((Int32.ofNat (0 + 1)) + (1 : Int32))), .val (.ref b), .val (.int (Int32.ofNat ((64 + 1) + 1))), .val (.int (Int32.ofNat 3)), .val (.int (Int32.ofNat (0 + 1)))]) rfl ?_
    show Steps p.tables e below (T3.setTop (mkF m 27 #[.val (.ref a1), .val (.int ((Int32.ofNat (0 + 1)) + (1 : Int32))), .val (.ref b), .val (.int (Int32.ofNat ((64 + 1) + 1))), .val (.int (Int32.ofNat 3)), .val (.int (Int32.ofNat (0 + 1)))] [(.int (Int32.ofNat (0 + 1))), (.ref a1), (.int (Int32.ofNat (64 + 1))), (.ref b)])) _
    rw [own_add1]
    show Steps p.tables e below (T3.setTop (mkF m 27 #[.val (.ref a1), .val (.int (Int32.ofNat ((0 + 1) + 1))), .val (.ref b), .val (.int (Int32.ofNat ((64 + 1) + 1))), .val (.int (Int32.ofNat 3)), .val (.int (Int32.ofNat (0 + 1)))] [(.int (Int32.ofNat (0 + 1))), (.ref a1), (.int (Int32.ofNat (64 + 1))), (.ref b)])) _
    refine X3.baloadBytes hx (j := (Int32.ofNat (0 + 1))) (v := (.int (46 : Int32))) Ar5.1 (State.isArrayOf_alike hZ.alike Ar5.2.1) Ar5.2.2 hin5 hat5 (g := (mkF m 27 #[.val (.ref a1), .val (.int (Int32.ofNat ((0 + 1) + 1))), .val (.ref b), .val (.int (Int32.ofNat ((64 + 1) + 1))), .val (.int (Int32.ofNat 3)), .val (.int (Int32.ofNat (0 + 1)))] [(.int (Int32.ofNat (0 + 1))), (.ref a1), (.int (Int32.ofNat (64 + 1))), (.ref b)])) rfl rfl (hb hby k35_27) _ ?_
    refine XS.sipush X3.here hx rfl (hb hby k35_28) ?_
    refine XS.iand X3.here hx rfl (hb hby k35_31) rfl ?_
    show Steps p.tables e below (T3.setTop (mkF m 32 #[.val (.ref a1), .val (.int (Int32.ofNat ((0 + 1) + 1))), .val (.ref b), .val (.int (Int32.ofNat ((64 + 1) + 1))), .val (.int (Int32.ofNat 3)), .val (.int (Int32.ofNat (0 + 1)))] [(.int ((46 : Int32) &&& (255 : Int32))), (.int (Int32.ofNat (64 + 1))), (.ref b)])) _
    rw [(by decide : ((46 : Int32) &&& (255 : Int32)) = (46 : Int32))]
    show Steps p.tables e below (T3.setTop (mkF m 32 #[.val (.ref a1), .val (.int (Int32.ofNat ((0 + 1) + 1))), .val (.ref b), .val (.int (Int32.ofNat ((64 + 1) + 1))), .val (.int (Int32.ofNat 3)), .val (.int (Int32.ofNat (0 + 1)))] [(.int (46 : Int32)), (.int (Int32.ofNat (64 + 1))), (.ref b)])) _
    refine st6 _ ?_
    show Steps p.tables e below (T6.setTop (mkF m 35 #[.val (.ref a1), .val (.int (Int32.ofNat ((0 + 1) + 1))), .val (.ref b), .val (.int (Int32.ofNat ((64 + 1) + 1))), .val (.int (Int32.ofNat 3)), .val (.int (Int32.ofNat (0 + 1)))] [])) _
    refine XS.iinc X6.here hx rfl (hb hby k35_35) rfl (l' := #[.val (.ref a1), .val (.int (Int32.ofNat ((0 + 1) + 1))), .val (.ref b), .val (.int (Int32.ofNat ((64 + 1) + 1))), .val (.int (Int32.ofNat 3)), .val (.int ((Int32.ofNat (0 + 1)) + (1 : Int32)))]) rfl ?_
    show Steps p.tables e below (T6.setTop (mkF m 38 #[.val (.ref a1), .val (.int (Int32.ofNat ((0 + 1) + 1))), .val (.ref b), .val (.int (Int32.ofNat ((64 + 1) + 1))), .val (.int (Int32.ofNat 3)), .val (.int ((Int32.ofNat (0 + 1)) + (1 : Int32)))] [])) _
    rw [own_add1]
    refine XS.goto X6.here hx rfl (pc0 := 38) (pc' := 10) rfl (hb hby k35_38) (by decide) (by decide) ?_
    refine XS.iload X6.here hx rfl (hb hby k35_10) rfl ?_
    refine XS.iload X6.here hx rfl (hb hby k35_12) rfl ?_
    show Steps p.tables e below (T6.setTop (mkF m 14 #[.val (.ref a1), .val (.int (Int32.ofNat ((0 + 1) + 1))), .val (.ref b), .val (.int (Int32.ofNat ((64 + 1) + 1))), .val (.int (Int32.ofNat 3)), .val (.int (Int32.ofNat ((0 + 1) + 1)))] [(.int (Int32.ofNat 3)), (.int (Int32.ofNat ((0 + 1) + 1)))])) _
    refine XS.icmpNo X6.here hx rfl (hb hby k35_14) rfl (tlt (by decide : (Int32.ofNat ((0 + 1) + 1)) < (Int32.ofNat 3))).2.1 ?_
    refine XS.aloadN X6.here hx rfl (hb hby k35_17) rfl rfl ?_
    refine XS.iloadN X6.here hx rfl (hb hby k35_18) rfl ?_
    show Steps p.tables e below (T6.setTop (mkF m 19 #[.val (.ref a1), .val (.int (Int32.ofNat ((0 + 1) + 1))), .val (.ref b), .val (.int (Int32.ofNat ((64 + 1) + 1))), .val (.int (Int32.ofNat 3)), .val (.int (Int32.ofNat ((0 + 1) + 1)))] [(.int (Int32.ofNat ((64 + 1) + 1))), (.ref b)])) _
    refine XS.iinc X6.here hx rfl (hb hby k35_19) rfl (l' := #[.val (.ref a1), .val (.int (Int32.ofNat ((0 + 1) + 1))), .val (.ref b), .val (.int ((Int32.ofNat ((64 + 1) + 1)) + (1 : Int32))), .val (.int (Int32.ofNat 3)), .val (.int (Int32.ofNat ((0 + 1) + 1)))]) rfl ?_
    show Steps p.tables e below (T6.setTop (mkF m 22 #[.val (.ref a1), .val (.int (Int32.ofNat ((0 + 1) + 1))), .val (.ref b), .val (.int ((Int32.ofNat ((64 + 1) + 1)) + (1 : Int32))), .val (.int (Int32.ofNat 3)), .val (.int (Int32.ofNat ((0 + 1) + 1)))] [(.int (Int32.ofNat ((64 + 1) + 1))), (.ref b)])) _
    rw [own_add1]
    refine XS.aloadN X6.here hx rfl (hb hby k35_22) rfl rfl ?_
    refine XS.iloadN X6.here hx rfl (hb hby k35_23) rfl ?_
    show Steps p.tables e below (T6.setTop (mkF m 24 #[.val (.ref a1), .val (.int (Int32.ofNat ((0 + 1) + 1))), .val (.ref b), .val (.int (Int32.ofNat (((64 + 1) + 1) + 1))), .val (.int (Int32.ofNat 3)), .val (.int (Int32.ofNat ((0 + 1) + 1)))] [(.int (Int32.ofNat ((0 + 1) + 1))), (.ref a1), (.int (Int32.ofNat ((64 + 1) + 1))), (.ref b)])) _
    refine XS.iinc X6.here hx rfl (hb hby k35_24) rfl (l' := #[.val (.ref a1), .val (.int ((Int32.ofNat ((0 + 1) + 1)) + (1 : Int32))), .val (.ref b), .val (.int (Int32.ofNat (((64 + 1) + 1) + 1))), .val (.int (Int32.ofNat 3)), .val (.int (Int32.ofNat ((0 + 1) + 1)))]) rfl ?_
    show Steps p.tables e below (T6.setTop (mkF m 27 #[.val (.ref a1), .val (.int ((Int32.ofNat ((0 + 1) + 1)) + (1 : Int32))), .val (.ref b), .val (.int (Int32.ofNat (((64 + 1) + 1) + 1))), .val (.int (Int32.ofNat 3)), .val (.int (Int32.ofNat ((0 + 1) + 1)))] [(.int (Int32.ofNat ((0 + 1) + 1))), (.ref a1), (.int (Int32.ofNat ((64 + 1) + 1))), (.ref b)])) _
    rw [own_add1]
    show Steps p.tables e below (T6.setTop (mkF m 27 #[.val (.ref a1), .val (.int (Int32.ofNat (((0 + 1) + 1) + 1))), .val (.ref b), .val (.int (Int32.ofNat (((64 + 1) + 1) + 1))), .val (.int (Int32.ofNat 3)), .val (.int (Int32.ofNat ((0 + 1) + 1)))] [(.int (Int32.ofNat ((0 + 1) + 1))), (.ref a1), (.int (Int32.ofNat ((64 + 1) + 1))), (.ref b)])) _
    refine X6.baloadBytes hx (j := (Int32.ofNat ((0 + 1) + 1))) (v := (.int (46 : Int32))) Ar9.1 (State.isArrayOf_alike hZ.alike Ar9.2.1) Ar9.2.2 hin9 hat9 (g := (mkF m 27 #[.val (.ref a1), .val (.int (Int32.ofNat (((0 + 1) + 1) + 1))), .val (.ref b), .val (.int (Int32.ofNat (((64 + 1) + 1) + 1))), .val (.int (Int32.ofNat 3)), .val (.int (Int32.ofNat ((0 + 1) + 1)))] [(.int (Int32.ofNat ((0 + 1) + 1))), (.ref a1), (.int (Int32.ofNat ((64 + 1) + 1))), (.ref b)])) rfl rfl (hb hby k35_27) _ ?_
    refine XS.sipush X6.here hx rfl (hb hby k35_28) ?_
    refine XS.iand X6.here hx rfl (hb hby k35_31) rfl ?_
    show Steps p.tables e below (T6.setTop (mkF m 32 #[.val (.ref a1), .val (.int (Int32.ofNat (((0 + 1) + 1) + 1))), .val (.ref b), .val (.int (Int32.ofNat (((64 + 1) + 1) + 1))), .val (.int (Int32.ofNat 3)), .val (.int (Int32.ofNat ((0 + 1) + 1)))] [(.int ((46 : Int32) &&& (255 : Int32))), (.int (Int32.ofNat ((64 + 1) + 1))), (.ref b)])) _
    rw [(by decide : ((46 : Int32) &&& (255 : Int32)) = (46 : Int32))]
    show Steps p.tables e below (T6.setTop (mkF m 32 #[.val (.ref a1), .val (.int (Int32.ofNat (((0 + 1) + 1) + 1))), .val (.ref b), .val (.int (Int32.ofNat (((64 + 1) + 1) + 1))), .val (.int (Int32.ofNat 3)), .val (.int (Int32.ofNat ((0 + 1) + 1)))] [(.int (46 : Int32)), (.int (Int32.ofNat ((64 + 1) + 1))), (.ref b)])) _
    refine st10 _ ?_
    show Steps p.tables e below (T10.setTop (mkF m 35 #[.val (.ref a1), .val (.int (Int32.ofNat (((0 + 1) + 1) + 1))), .val (.ref b), .val (.int (Int32.ofNat (((64 + 1) + 1) + 1))), .val (.int (Int32.ofNat 3)), .val (.int (Int32.ofNat ((0 + 1) + 1)))] [])) _
    refine XS.iinc X10.here hx rfl (hb hby k35_35) rfl (l' := #[.val (.ref a1), .val (.int (Int32.ofNat (((0 + 1) + 1) + 1))), .val (.ref b), .val (.int (Int32.ofNat (((64 + 1) + 1) + 1))), .val (.int (Int32.ofNat 3)), .val (.int ((Int32.ofNat ((0 + 1) + 1)) + (1 : Int32)))]) rfl ?_
    show Steps p.tables e below (T10.setTop (mkF m 38 #[.val (.ref a1), .val (.int (Int32.ofNat (((0 + 1) + 1) + 1))), .val (.ref b), .val (.int (Int32.ofNat (((64 + 1) + 1) + 1))), .val (.int (Int32.ofNat 3)), .val (.int ((Int32.ofNat ((0 + 1) + 1)) + (1 : Int32)))] [])) _
    rw [own_add1]
    refine XS.goto X10.here hx rfl (pc0 := 38) (pc' := 10) rfl (hb hby k35_38) (by decide) (by decide) ?_
    refine XS.iload X10.here hx rfl (hb hby k35_10) rfl ?_
    refine XS.iload X10.here hx rfl (hb hby k35_12) rfl ?_
    show Steps p.tables e below (T10.setTop (mkF m 14 #[.val (.ref a1), .val (.int (Int32.ofNat (((0 + 1) + 1) + 1))), .val (.ref b), .val (.int (Int32.ofNat (((64 + 1) + 1) + 1))), .val (.int (Int32.ofNat 3)), .val (.int (Int32.ofNat (((0 + 1) + 1) + 1)))] [(.int (Int32.ofNat 3)), (.int (Int32.ofNat (((0 + 1) + 1) + 1)))])) _
    refine XS.icmpYes X10.here hx rfl (pc0 := 14) (pc' := 41) rfl (hb hby k35_14) rfl (flt (by decide : ¬ ((Int32.ofNat (((0 + 1) + 1) + 1)) < (Int32.ofNat 3)))).2.1 (by decide) (by decide) ?_
    show Steps p.tables e below (T10.setTop (mkF m 41 #[.val (.ref a1), .val (.int (Int32.ofNat (((0 + 1) + 1) + 1))), .val (.ref b), .val (.int (Int32.ofNat (((64 + 1) + 1) + 1))), .val (.int (Int32.ofNat 3)), .val (.int (Int32.ofNat (((0 + 1) + 1) + 1)))] [])) _
    exact X10.returnOut hx Bd.returns (hb hby k35_41) hr
  · show QW Z b kb (Int32.ofNat (2 * 130)) (wideBytes (es ++ own_dots)) h0 n0 _ T10.heap _
    exact ⟨rfl, N10a, K3, (by have q := Pa10; simpa [own_dots] using q)⟩
theorem rmL3 (l : Launch) (Z : State) (a0 : Array Value) (hw : HW a0 Z) (ws : List Jvm.Cond) (a1 b : Addr) (kc kb : ClassId) (es : List Int32) (h0 : Heap) (n0 : Nat) (Z0 : n0 ≤ h0.size) (hG : GST Z) (O0 : Old Z n0 h0) (V_a1 : Arv Z h0 a1 kc .byte (3 : Int32) (own_dots.map own_lo) (.int (0 : Int32))) (V_b : Arv Z h0 b kb .byte (Int32.ofNat (2 * 130)) (wideBytes es) (.int (0 : Int32))) (hes : es.length = 64) (g_b : n0 ≤ b) (n_ab : a1 ≠ b) :
    Met l Z ws m37_ jdk_43_method_50_code 5 none ({ frames := 4, cells := 0, slots := 0, locals := 60 } : Room) h0 #[(.ref a1), (.int (Int32.ofNat 0)), (.ref b), (.int (Int32.ofNat 64)), (.int (Int32.ofNat 3))] (QW Z b kb (Int32.ofNat (2 * 130)) (wideBytes (es ++ own_dots)) h0 n0) := by
  refine MetFree.of_bodySF (plainFor_of_name pn4_) hisR ?_
  intro p e s m args below meth c s₁ Bd hml0 hP hK
  obtain ⟨rfl, hZ, hh⟩ := hP
  have hx := Bd.exec
  have hby := Bd.bytes
  have hml : c.maxLocals = 5 := hml0
  have hown : s.vm.findClass "java/lang/StringLatin1" = some m.cls := findClass_of_methodNamed Bd.named
  have X0 : Stand p l e ({ frames := 4, cells := 0, slots := 0, locals := 60 } : Room) s m #[(.ref a1), (.int (Int32.ofNat 0)), (.ref b), (.int (Int32.ofNat 64)), (.int (Int32.ofNat 3))] below meth c s₁ [] 0 0 := Stand.of_body Bd
  have e0 : s₁.heap = h0 := by rw [← hh, Bd.state]; rfl
  have N0 := Fr.nil n0
  have pre0 : ∀ t, Steps p.tables e below (s₁.setTop (mkF m 0 #[.val (.ref a1), .val (.int (Int32.ofNat 0)), .val (.ref b), .val (.int (Int32.ofNat 64)), .val (.int (Int32.ofNat 3))] [])) t → Steps p.tables e below (s₁.setTop (entryFrame m #[(.ref a1), (.int (Int32.ofNat 0)), (.ref b), (.int (Int32.ofNat 64)), (.int (Int32.ofNat 3))] 5)) t := fun t k => castTop (ef36_ m a1 (Int32.ofNat 0) b (Int32.ofNat 64) (Int32.ofNat 3)) k
  obtain ⟨⟨G1, O2, P5⟩, ⟨G3, O4, rG3⟩, Sa, Sh, Sl⟩ := id hG
  obtain ⟨_, _, ⟨T1, L1, k1, n1⟩, -, X1, ⟨Lc1, hQ1, l1, y1, z1⟩, st1⟩ := Jvm.LawKit.callS X0 hx (y := m36_) hown (mvT hZ (wt hw 260 rfl)) (mvT hZ (wt hw 261 rfl)) (mvT hZ (wt hw 46 rfl)) (mvT hZ (wt hw 262 rfl)) (by decide) (backOf (W := 0) (rmU3 l Z a0 hw [] a1 b kc kb es h0 n0 (Nat.le_trans Z0 (Keep.refl h0 [b]).1) hG O0 V_a1 V_b hes g_b n_ab) hZ (wt hw 262 rfl) (wt hw 46 rfl) (by decide) (by decide)) (g := (mkF m 6 #[.val (.ref a1), .val (.int (Int32.ofNat 0)), .val (.ref b), .val (.int (Int32.ofNat 64)), .val (.int (Int32.ofNat 3))] [(.int (Int32.ofNat 3)), (.int (Int32.ofNat 64)), (.ref b), (.int (Int32.ofNat 0)), (.ref a1)])) rfl (by rw [hml]; rfl) (argsL := [(.ref a1), (.int (Int32.ofNat 0)), (.ref b), (.int (Int32.ofNat 64)), (.int (Int32.ofNat 3))]) (rest := []) (lenOf pd23_ rfl) rfl (by show 2 * 0 + _ ≤ _; exact Nat.le_of_eq rfl) (hb hby k36_6) (fun _ _ => ⟨rfl, e0, (by decide : 0 + 0 ≤ _), (by decide : 0 + 0 ≤ _)⟩)
  dsimp only [Pt.U, Pt.locs, Pt.cells, Pt.slots] at X1 l1 y1 z1 st1 hQ1
  rw [l1] at X1
  clear l1; subst y1 z1
  obtain ⟨rfl, N1q, K1q, Pa1⟩ := hQ1
  have N1a := Fr.app N0 N1q
  have K1 : Keep h0 T1.heap [b] := (Keep.refl h0 [b]).trans K1q (allS (Or.inl (List.mem_of_getElem? (i := 0) rfl)) all0)
  obtain ⟨fs, hr, hrun, hended, hW, hsame⟩ := X1.leave (v := none) (fun _ => rfl)
  refine ⟨_, _, pre0 _ ?_, hrun, hended, _, _, rfl, ?_, ⟨_, rfl⟩, hW, hsame.mono (by decide) (by decide)⟩
  · show Steps p.tables e below (s₁.setTop (mkF m 0 #[.val (.ref a1), .val (.int (Int32.ofNat 0)), .val (.ref b), .val (.int (Int32.ofNat 64)), .val (.int (Int32.ofNat 3))] [])) _
    refine XS.aloadN X0.here hx rfl (hb hby k36_0) rfl rfl ?_
    refine XS.iloadN X0.here hx rfl (hb hby k36_1) rfl ?_
    refine XS.aloadN X0.here hx rfl (hb hby k36_2) rfl rfl ?_
    refine XS.iloadN X0.here hx rfl (hb hby k36_3) rfl ?_
    refine XS.iload X0.here hx rfl (hb hby k36_4) rfl ?_
    show Steps p.tables e below (s₁.setTop (mkF m 6 #[.val (.ref a1), .val (.int (Int32.ofNat 0)), .val (.ref b), .val (.int (Int32.ofNat 64)), .val (.int (Int32.ofNat 3))] [(.int (Int32.ofNat 3)), (.int (Int32.ofNat 64)), (.ref b), (.int (Int32.ofNat 0)), (.ref a1)])) _
    refine st1 _ ?_
    show Steps p.tables e below (T1.setTop (mkF m 9 #[.val (.ref a1), .val (.int (Int32.ofNat 0)), .val (.ref b), .val (.int (Int32.ofNat 64)), .val (.int (Int32.ofNat 3))] [])) _
    exact X1.returnOut hx Bd.returns (hb hby k36_9) hr
  · show QW Z b kb (Int32.ofNat (2 * 130)) (wideBytes (es ++ own_dots)) h0 n0 _ T1.heap _
    exact ⟨rfl, N1a, K1, Pa1⟩
theorem k37_0 : decode c37_ 0 = .ok (.getstatic 18, 3) := by decide +kernel
theorem k37_3 : decode c37_ 3 = .ok (.ifCond .eq 14, 3) := by decide +kernel
theorem k37_6 : decode c37_ 6 = .ok (.aload_n 0, 1) := by decide +kernel
theorem k37_7 : decode c37_ 7 = .ok (.getfield 22, 3) := by decide +kernel
theorem k37_10 : decode c37_ 10 = .ok (.ifCond .ne 7, 3) := by decide +kernel
theorem k37_13 : decode c37_ 13 = .ok (.iconst 1, 1) := by decide +kernel
theorem k37_14 : decode c37_ 14 = .ok (.goto 4, 3) := by decide +kernel
theorem k37_18 : decode c37_ 18 = .ok (.ireturn, 1) := by decide +kernel
theorem ef37_ (m : MethodId) (x0 : Addr) : entryFrame m #[(.ref x0)] 1 = mkF m 0 #[.val (.ref x0)] [] := by first | (simp [entryFrame, mkF, argsToLocals, Value.category]; done) | rfl
theorem rmIl0 (l : Launch) (Z : State) (a0 : Array Value) (hw : HW a0 Z) (ws : List Jvm.Cond) (a1 : Addr) (h0 : Heap) (n0 : Nat) (Z0 : n0 ≤ h0.size) (hG : GST Z) (O0 : Old Z n0 h0) (F_coder_a1 : Fld Z h0 a1 "java/lang/AbstractStringBuilder" "coder" "B" (.int (0 : Int32))) :
    Met l Z ws m38_ jdk_68_method_68_code 1 (some .boolean) ({ frames := 0, cells := 0, slots := 0, locals := 0 } : Room) h0 #[(.ref a1)] (QB 1 h0 n0) := by
  refine MetFree.of_bodySF (plainFor_of_name pn5_) hisR ?_
  intro p e s m args below meth c s₁ Bd hml0 hP hK
  obtain ⟨rfl, hZ, hh⟩ := hP
  have hx := Bd.exec
  have hby := Bd.bytes
  have hown : s.vm.findClass "java/lang/AbstractStringBuilder" = some m.cls := findClass_of_methodNamed Bd.named
  have X0 : Stand p l e ({ frames := 0, cells := 0, slots := 0, locals := 0 } : Room) s m #[(.ref a1)] below meth c s₁ [] 0 0 := Stand.of_body Bd
  have e0 : s₁.heap = h0 := by rw [← hh, Bd.state]; rfl
  have N0 := Fr.nil n0
  have pre0 : ∀ t, Steps p.tables e below (s₁.setTop (mkF m 0 #[.val (.ref a1)] [])) t → Steps p.tables e below (s₁.setTop (entryFrame m #[(.ref a1)] 1)) t := fun t k => castTop (ef37_ m a1) k
  obtain ⟨⟨G1, O2, P5⟩, ⟨G3, O4, rG3⟩, Sa, Sh, Sl⟩ := id hG
  obtain ⟨T1, X1, e1, st1⟩ := getS2 X0 hx hZ hown (host := "") (Or.inl (wt hw 86 rfl)) Via.refl e0 (O2.ext O0.2) (g := (mkF m 0 #[.val (.ref a1)] [])) rfl (hb hby k37_0)
  obtain ⟨T2, X2, e2, st2⟩ := getF X1 hx hZ hown (host := "") (Or.inl (wt hw 89 rfl)) Via.refl e1 F_coder_a1 (g := (mkF m 7 #[.val (.ref a1)] [(.ref a1)])) rfl rfl (hb hby k37_7)
  obtain ⟨fs, hr, hrun, hended, hW, hsame⟩ := X2.leave (v := some (.int (1 : Int32))) (fun h => by rw [Bd.returns] at h; cases h)
  refine ⟨_, _, pre0 _ ?_, hrun, hended, _, _, rfl, ?_, ⟨_, rfl⟩, hW, hsame.mono (by decide) (by decide)⟩
  · show Steps p.tables e below (s₁.setTop (mkF m 0 #[.val (.ref a1)] [])) _
    refine st1 _ ?_
    show Steps p.tables e below (T1.setTop (mkF m 3 #[.val (.ref a1)] [(.int G1)])) _
    refine XS.ifNo X1.here hx rfl (hb hby k37_3) rfl ((if0 _ _).trans (feq (P5 : ¬ (G1 = (0 : Int32)))).1) ?_
    refine XS.aloadN X1.here hx rfl (hb hby k37_6) rfl rfl ?_
    show Steps p.tables e below (T1.setTop (mkF m 7 #[.val (.ref a1)] [(.ref a1)])) _
    refine st2 _ ?_
    show Steps p.tables e below (T2.setTop (mkF m 10 #[.val (.ref a1)] [(.int (0 : Int32))])) _
    refine XS.ifNo X2.here hx rfl (hb hby k37_10) rfl ((if0 _ _).trans (teq (by decide : (0 : Int32) = (0 : Int32))).2) ?_
    refine XS.iconst X2.here hx rfl (hb hby k37_13) ?_
    refine XS.goto X2.here hx rfl (pc0 := 14) (pc' := 18) rfl (hb hby k37_14) (by decide) (by decide) ?_
    show Steps p.tables e below (T2.setTop (mkF m 18 #[.val (.ref a1)] [(.int (1 : Int32))])) _
    exact retN X2 hx (t := .boolean) Bd.returns (by simp) (hb hby k37_18) hr
  · show QB 1 h0 n0 _ T2.heap _
    rw [e2]
    exact ⟨rfl, N0, rfl⟩
theorem k37_17 : decode c37_ 17 = .ok (.iconst 0, 1) := by decide +kernel
theorem rmIl1 (l : Launch) (Z : State) (a0 : Array Value) (hw : HW a0 Z) (ws : List Jvm.Cond) (a1 : Addr) (h0 : Heap) (n0 : Nat) (Z0 : n0 ≤ h0.size) (hG : GST Z) (O0 : Old Z n0 h0) (F_coder_a1 : Fld Z h0 a1 "java/lang/AbstractStringBuilder" "coder" "B" (.int (1 : Int32))) :
    Met l Z ws m38_ jdk_68_method_68_code 1 (some .boolean) ({ frames := 0, cells := 0, slots := 0, locals := 0 } : Room) h0 #[(.ref a1)] (QB 0 h0 n0) := by
  refine MetFree.of_bodySF (plainFor_of_name pn5_) hisR ?_
  intro p e s m args below meth c s₁ Bd hml0 hP hK
  obtain ⟨rfl, hZ, hh⟩ := hP
  have hx := Bd.exec
  have hby := Bd.bytes
  have hown : s.vm.findClass "java/lang/AbstractStringBuilder" = some m.cls := findClass_of_methodNamed Bd.named
  have X0 : Stand p l e ({ frames := 0, cells := 0, slots := 0, locals := 0 } : Room) s m #[(.ref a1)] below meth c s₁ [] 0 0 := Stand.of_body Bd
  have e0 : s₁.heap = h0 := by rw [← hh, Bd.state]; rfl
  have N0 := Fr.nil n0
  have pre0 : ∀ t, Steps p.tables e below (s₁.setTop (mkF m 0 #[.val (.ref a1)] [])) t → Steps p.tables e below (s₁.setTop (entryFrame m #[(.ref a1)] 1)) t := fun t k => castTop (ef37_ m a1) k
  obtain ⟨⟨G1, O2, P5⟩, ⟨G3, O4, rG3⟩, Sa, Sh, Sl⟩ := id hG
  obtain ⟨T1, X1, e1, st1⟩ := getS2 X0 hx hZ hown (host := "") (Or.inl (wt hw 86 rfl)) Via.refl e0 (O2.ext O0.2) (g := (mkF m 0 #[.val (.ref a1)] [])) rfl (hb hby k37_0)
  obtain ⟨T2, X2, e2, st2⟩ := getF X1 hx hZ hown (host := "") (Or.inl (wt hw 89 rfl)) Via.refl e1 F_coder_a1 (g := (mkF m 7 #[.val (.ref a1)] [(.ref a1)])) rfl rfl (hb hby k37_7)
  obtain ⟨fs, hr, hrun, hended, hW, hsame⟩ := X2.leave (v := some (.int (0 : Int32))) (fun h => by rw [Bd.returns] at h; cases h)
  refine ⟨_, _, pre0 _ ?_, hrun, hended, _, _, rfl, ?_, ⟨_, rfl⟩, hW, hsame.mono (by decide) (by decide)⟩
  · show Steps p.tables e below (s₁.setTop (mkF m 0 #[.val (.ref a1)] [])) _
    refine st1 _ ?_
    show Steps p.tables e below (T1.setTop (mkF m 3 #[.val (.ref a1)] [(.int G1)])) _
    refine XS.ifNo X1.here hx rfl (hb hby k37_3) rfl ((if0 _ _).trans (feq (P5 : ¬ (G1 = (0 : Int32)))).1) ?_
    refine XS.aloadN X1.here hx rfl (hb hby k37_6) rfl rfl ?_
    show Steps p.tables e below (T1.setTop (mkF m 7 #[.val (.ref a1)] [(.ref a1)])) _
    refine st2 _ ?_
    show Steps p.tables e below (T2.setTop (mkF m 10 #[.val (.ref a1)] [(.int (1 : Int32))])) _
    refine XS.ifYes X2.here hx rfl (pc0 := 10) (pc' := 17) rfl (hb hby k37_10) rfl ((if0 _ _).trans (feq (by decide : ¬ ((1 : Int32) = (0 : Int32)))).2) (by decide) (by decide) ?_
    refine XS.iconst X2.here hx rfl (hb hby k37_17) ?_
    show Steps p.tables e below (T2.setTop (mkF m 18 #[.val (.ref a1)] [(.int (0 : Int32))])) _
    exact retN X2 hx (t := .boolean) Bd.returns (by simp) (hb hby k37_18) hr
  · show QB 0 h0 n0 _ T2.heap _
    rw [e2]
    exact ⟨rfl, N0, rfl⟩
theorem k38_0 : decode c38_ 0 = .ok (.aload_n 0, 1) := by decide +kernel
theorem k38_1 : decode c38_ 1 = .ok (.invokevirtual 83, 3) := by decide +kernel
theorem k38_4 : decode c38_ 4 = .ok (.ifCond .ne 4, 3) := by decide +kernel
theorem k38_8 : decode c38_ 8 = .ok (.aload_n 0, 1) := by decide +kernel
theorem k38_9 : decode c38_ 9 = .ok (.getfield 15, 3) := by decide +kernel
theorem k38_12 : decode c38_ 12 = .ok (.arraylength, 1) := by decide +kernel
theorem k38_13 : decode c38_ 13 = .ok (.invokestatic 26, 3) := by decide +kernel
theorem k38_16 : decode c38_ 16 = .ok (.astore_n 1, 1) := by decide +kernel
theorem k38_17 : decode c38_ 17 = .ok (.aload_n 0, 1) := by decide +kernel
theorem k38_18 : decode c38_ 18 = .ok (.getfield 15, 3) := by decide +kernel
theorem k38_21 : decode c38_ 21 = .ok (.iconst 0, 1) := by decide +kernel
theorem k38_22 : decode c38_ 22 = .ok (.aload_n 1, 1) := by decide +kernel
theorem k38_23 : decode c38_ 23 = .ok (.iconst 0, 1) := by decide +kernel
theorem k38_24 : decode c38_ 24 = .ok (.aload_n 0, 1) := by decide +kernel
theorem k38_25 : decode c38_ 25 = .ok (.getfield 79, 3) := by decide +kernel
theorem k38_28 : decode c38_ 28 = .ok (.invokestatic 125, 3) := by decide +kernel
theorem k38_31 : decode c38_ 31 = .ok (.aload_n 0, 1) := by decide +kernel
theorem k38_32 : decode c38_ 32 = .ok (.aload_n 1, 1) := by decide +kernel
theorem k38_33 : decode c38_ 33 = .ok (.putfield 15, 3) := by decide +kernel
theorem k38_36 : decode c38_ 36 = .ok (.aload_n 0, 1) := by decide +kernel
theorem k38_37 : decode c38_ 37 = .ok (.iconst 1, 1) := by decide +kernel
theorem k38_38 : decode c38_ 38 = .ok (.putfield 22, 3) := by decide +kernel
theorem k38_41 : decode c38_ 41 = .ok (.return_, 1) := by decide +kernel
theorem ef38_ (m : MethodId) (x0 : Addr) : entryFrame m #[(.ref x0)] 2 = mkF m 0 #[.val (.ref x0), .unset] [] := by first | (simp [entryFrame, mkF, argsToLocals, Value.category]; done) | rfl
theorem rmIf0 (l : Launch) (Z : State) (a0 : Array Value) (hw : HW a0 Z) (ws : List Jvm.Cond) (a1 b : Addr) (kb : ClassId) (h0 : Heap) (n0 : Nat) (Z0 : n0 ≤ h0.size) (hG : GST Z) (O0 : Old Z n0 h0) (B_a1 : SBF Z h0 a1 (0 : Int32) (0 : Int32) (64 : Int32) [] b kb) (g_a1 : n0 ≤ a1) :
    Met l Z ws m39_ jdk_68_method_11_code 2 none ({ frames := 5, cells := 1, slots := 260, locals := 76 } : Room) h0 #[(.ref a1)] (QSB Z none a1 1 0 (Int32.ofNat (2 * 64)) [] h0 n0) := by
  refine MetFree.of_bodySF (plainFor_of_name pn5_) hisR ?_
  intro p e s m args below meth c s₁ Bd hml0 hP hK
  obtain ⟨rfl, hZ, hh⟩ := hP
  have hx := Bd.exec
  have hby := Bd.bytes
  have hml : c.maxLocals = 2 := hml0
  have hown : s.vm.findClass "java/lang/AbstractStringBuilder" = some m.cls := findClass_of_methodNamed Bd.named
  have X0 : Stand p l e ({ frames := 5, cells := 1, slots := 260, locals := 76 } : Room) s m #[(.ref a1)] below meth c s₁ [] 0 0 := Stand.of_body Bd
  have e0 : s₁.heap = h0 := by rw [← hh, Bd.state]; rfl
  have N0 := Fr.nil n0
  have pre0 : ∀ t, Steps p.tables e below (s₁.setTop (mkF m 0 #[.val (.ref a1), .unset] [])) t → Steps p.tables e below (s₁.setTop (entryFrame m #[(.ref a1)] 2)) t := fun t k => castTop (ef38_ m a1) k
  obtain ⟨⟨G1, O2, P5⟩, ⟨G3, O4, rG3⟩, Sa, Sh, Sl⟩ := id hG
  obtain ⟨bE1, bV1, bC1, bN1, bM1, bA1⟩ := id B_a1
  obtain ⟨cq2, kq2, q2a, q2b, q2c⟩ := isOf hZ e0 bE1
  obtain ⟨_, _, ⟨T2, L2, k2, n2⟩, -, X2, ⟨Lc2, hQ2, l2, y2, z2⟩, st2⟩ := X0.virtualBack hx (y := m38_) (z := m38_) hown (mvT hZ (wt hw 255 rfl)) (mvT hZ (wt hw 215 rfl)) (notFace_of_selects (args := #[]) (mvT hZ (wt hw 217 rfl))) (mvT hZ (wt hw 217 rfl)) (mvT hZ (wt hw 216 rfl)) (by decide) (backOf (W := 0) (rmIl0 l Z a0 hw [] a1 h0 n0 (Nat.le_trans Z0 (Keep.refl h0 [a1]).1) hG O0 bC1) hZ (wt hw 218 rfl) (wt hw 83 rfl) (by decide) (by decide)) q2a q2c (g := (mkF m 1 #[.val (.ref a1), .unset] [(.ref a1)])) rfl (by rw [hml]; rfl) (Steps.refl _) (argsL := []) (rest := []) (lenOf pd19_ rfl) rfl (by show 2 * 0 + _ ≤ _; exact Nat.le_of_eq rfl) (hb hby k38_1) (fun _ _ => ⟨rfl, e0, (by decide : 0 + 0 ≤ _), (by decide : 0 + 0 ≤ _)⟩)
  dsimp only [Pt.U, Pt.locs, Pt.cells, Pt.slots] at X2 l2 y2 z2 st2 hQ2
  rw [l2] at X2
  clear l2; subst y2 z2
  obtain ⟨rfl, N2q, e2q⟩ := hQ2
  have N2a := Fr.app N0 N2q
  obtain ⟨T3, X3, e3, st3⟩ := getF X2 hx hZ hown (host := "") (Or.inl (wt hw 87 rfl)) Via.refl e2q bV1 (g := (mkF m 9 #[.val (.ref a1), .unset] [(.ref a1)])) rfl rfl (hb hby k38_9)
  obtain ⟨cl4, Ar4, q4, S4, N_4, H_4, G4⟩ := id bA1
  obtain ⟨_, _, ⟨T5, L5, k5, n5⟩, -, X5, ⟨Lc5, hQ5, l5, y5, z5⟩, st5⟩ := Jvm.LawKit.callS X3 hx (y := m5_) hown (mvT hZ (wt hw 256 rfl)) (mvT hZ (wt hw 58 rfl)) (mvT hZ (wt hw 46 rfl)) (mvT hZ (wt hw 59 rfl)) (by decide) (backOf (W := 0) (rmNf l Z a0 hw [] 64 h0 n0 (Nat.le_trans Z0 (Keep.refl h0 [a1]).1) (by decide)) hZ (wt hw 59 rfl) (wt hw 46 rfl) (by decide) (by decide)) (g := (mkF m 13 #[.val (.ref a1), .unset] [(.int (64 : Int32))])) rfl (by rw [hml]; rfl) (argsL := [(.int (64 : Int32))]) (rest := []) (lenOf pd2_ rfl) rfl (by show 2 * 0 + _ ≤ _; exact Nat.le_of_eq rfl) (hb hby k38_13) (fun _ _ => ⟨rfl, e3, (by decide : 0 + 1 ≤ _), (by decide : 0 + 260 ≤ _)⟩)
  dsimp only [Pt.U, Pt.locs, Pt.cells, Pt.slots] at X5 l5 y5 z5 st5 hQ5
  rw [l5] at X5
  clear l5; subst y5 z5
  obtain ⟨t5, tk5, rfl, N5q, K5q, ts5, Ta5⟩ := hQ5
  have N5a := Fr.app N2a N5q
  have K1 : Keep h0 T5.heap [a1] := (Keep.refl h0 [a1]).trans K5q all0
  have sz_t5 : h0.size ≤ t5 := Nat.le_trans (Keep.refl h0 [a1]).1 ts5
  have f6 : Fld Z T5.heap a1 "java/lang/AbstractStringBuilder" "value" "[B" (.ref b) := (bV1.keep K5q nin0)
  obtain ⟨T7, X7, e7, st7⟩ := getF X5 hx hZ hown (host := "") (Or.inl (wt hw 87 rfl)) Via.refl rfl f6 (g := (mkF m 18 #[.val (.ref a1), .val (.ref t5)] [(.ref a1)])) rfl rfl (hb hby k38_18)
  have f8 : Fld Z T5.heap a1 "java/lang/AbstractStringBuilder" "count" "I" (.int (0 : Int32)) := (bN1.keep K5q nin0)
  obtain ⟨T9, X9, e9, st9⟩ := getF X7 hx hZ hown (host := "") (Or.inl (wt hw 147 rfl)) Via.refl e7 f8 (g := (mkF m 25 #[.val (.ref a1), .val (.ref t5)] [(.ref a1), (.int (0 : Int32)), (.ref t5), (.int (0 : Int32)), (.ref b)])) rfl rfl (hb hby k38_25)
  have f11 : Old Z n0 T5.heap := (O0.keep K5q all0)
  obtain ⟨_, _, ⟨T10, L10, k10, n10⟩, -, X10, ⟨Lc10, hQ10, l10, y10, z10⟩, st10⟩ := Jvm.LawKit.callS X9 hx (y := m37_) hown (mvT hZ (wt hw 257 rfl)) (mvT hZ (wt hw 258 rfl)) (mvT hZ (wt hw 112 rfl)) (mvT hZ (wt hw 259 rfl)) (by decide) (backOf (W := 0) (rmL0 l Z a0 hw [] b t5 tk5 [] T5.heap n0 (Nat.le_trans Z0 K1.1) hG f11 Ta5) hZ (wt hw 259 rfl) (wt hw 112 rfl) (by decide) (by decide)) (g := (mkF m 28 #[.val (.ref a1), .val (.ref t5)] [(.int (0 : Int32)), (.int (0 : Int32)), (.ref t5), (.int (0 : Int32)), (.ref b)])) rfl (by rw [hml]; rfl) (argsL := [(.ref b), (.int (0 : Int32)), (.ref t5), (.int (0 : Int32)), (.int (0 : Int32))]) (rest := []) (lenOf pd23_ rfl) rfl (by show 2 * 0 + _ ≤ _; exact Nat.le_of_eq rfl) (hb hby k38_28) (fun _ _ => ⟨rfl, e9, (by decide : 1 + 0 ≤ _), (by decide : 260 + 0 ≤ _)⟩)
  dsimp only [Pt.U, Pt.locs, Pt.cells, Pt.slots] at X10 l10 y10 z10 st10 hQ10
  rw [l10] at X10
  clear l10; subst y10 z10
  obtain ⟨rfl, N10q, e10q⟩ := hQ10
  have N10a := Fr.app N5a N10q
  have f12 : Exa Z T5.heap a1 "java/lang/StringBuilder" := (bE1.keep K5q)
  obtain ⟨T13, h13, X13, e13, W13, st13⟩ := putF X10 hx hZ hown (host := "") (Or.inl (wt hw 87 rfl)) Via.refl e10q f6 f12 (Or.inl (wt hw 88 rfl)) (wt hw 74 rfl) (ty := (.array .byte)) (by decide) rfl rfl (g := (mkF m 33 #[.val (.ref a1), .val (.ref t5)] [(.ref t5), (.ref a1)])) rfl rfl (hb hby k38_33)
  have Fw13 := f6.same W13
  have Nf13 := Fr.snoc X13 N10a g_a1
  have K2 : Keep h0 h13 [a1] := K1.wr W13 (Or.inl (List.mem_of_getElem? (i := 0) rfl))
  have f14 : Fld Z h13 a1 "java/lang/AbstractStringBuilder" "coder" "B" (.int (0 : Int32)) := ((bC1.keep K5q nin0).other W13 (Or.inr (slot_ne (Or.inl (wt hw 90 rfl)) (Or.inl (wt hw 88 rfl)) (by decide) (t := .byte) (t' := (.array .byte)) (by decide) (by decide))))
  have f15 : Exa Z h13 a1 "java/lang/StringBuilder" := (f12.wr W13)
  obtain ⟨T16, h16, X16, e16, W16, st16⟩ := putFN X13 hx hZ hown (wt hw 89 rfl) Via.refl e13 f14 f15 (Or.inl (wt hw 90 rfl)) (wt hw 74 rfl) (ty := .byte) (v' := (.int (1 : Int32))) (by decide) rfl rfl (g := (mkF m 38 #[.val (.ref a1), .val (.ref t5)] [(.int (1 : Int32)), (.ref a1)])) rfl rfl (hb hby k38_38)
  have Fw16 := f14.same W16
  have Nf16 := Fr.snoc X16 Nf13 g_a1
  have K3 : Keep h0 h16 [a1] := K2.wr W16 (Or.inl (List.mem_of_getElem? (i := 0) rfl))
  have f17 : Exa Z h16 a1 "java/lang/StringBuilder" := (f15.wr W16)
  have f18 : Fld Z h16 a1 "java/lang/AbstractStringBuilder" "value" "[B" (.ref t5) := (Fw13.other W16 (Or.inr (slot_ne (Or.inl (wt hw 88 rfl)) (Or.inl (wt hw 90 rfl)) (by decide) (t := (.array .byte)) (t' := .byte) (by decide) (by decide))))
  have f19 : Fld Z h16 a1 "java/lang/AbstractStringBuilder" "count" "I" (.int (0 : Int32)) := ((f8.other W13 (Or.inr (slot_ne (Or.inl (wt hw 148 rfl)) (Or.inl (wt hw 88 rfl)) (by decide) (t := .int) (t' := (.array .byte)) (by decide) (by decide)))).other W16 (Or.inr (slot_ne (Or.inl (wt hw 148 rfl)) (Or.inl (wt hw 90 rfl)) (by decide) (t := .int) (t' := .byte) (by decide) (by decide))))
  have f20 : Fld Z h16 a1 "java/lang/AbstractStringBuilder" "maybeLatin1" "Z" (.int (0 : Int32)) := (((bM1.keep K5q nin0).other W13 (Or.inr (slot_ne (Or.inl (wt hw 265 rfl)) (Or.inl (wt hw 88 rfl)) (by decide) (t := .boolean) (t' := (.array .byte)) (by decide) (by decide)))).other W16 (Or.inr (slot_ne (Or.inl (wt hw 265 rfl)) (Or.inl (wt hw 90 rfl)) (by decide) (t := .boolean) (t' := .byte) (by decide) (by decide))))
  have f21 : Arv Z h16 t5 tk5 .byte (Int32.ofNat (2 * 64)) [] (.int (0 : Int32)) := ((Ta5.other W13 (Ne.symm (Nat.ne_of_lt (Nat.lt_of_lt_of_le bE1.lt ts5)))).other W16 (Ne.symm (Nat.ne_of_lt (Nat.lt_of_lt_of_le bE1.lt ts5))))
  obtain ⟨fs, hr, hrun, hended, hW, hsame⟩ := X16.leave (v := none) (fun _ => rfl)
  refine ⟨_, _, pre0 _ ?_, hrun, hended, _, _, rfl, ?_, ⟨_, rfl⟩, hW, hsame.mono (by decide) (by decide)⟩
  · show Steps p.tables e below (s₁.setTop (mkF m 0 #[.val (.ref a1), .unset] [])) _
    refine XS.aloadN X0.here hx rfl (hb hby k38_0) rfl rfl ?_
    show Steps p.tables e below (s₁.setTop (mkF m 1 #[.val (.ref a1), .unset] [(.ref a1)])) _
    refine st2.trans ?_
    show Steps p.tables e below (T2.setTop (mkF m 4 #[.val (.ref a1), .unset] [(.int (1 : Int32))])) _
    refine XS.ifYes X2.here hx rfl (pc0 := 4) (pc' := 8) rfl (hb hby k38_4) rfl ((if0 _ _).trans (feq (by decide : ¬ ((1 : Int32) = (0 : Int32)))).2) (by decide) (by decide) ?_
    refine XS.aloadN X2.here hx rfl (hb hby k38_8) rfl rfl ?_
    show Steps p.tables e below (T2.setTop (mkF m 9 #[.val (.ref a1), .unset] [(.ref a1)])) _
    refine st3 _ ?_
    show Steps p.tables e below (T3.setTop (mkF m 12 #[.val (.ref a1), .unset] [(.ref b)])) _
    refine X3.arraylength hx (by rw [e3]; exact Ar4.1) (State.isArrayOf_alike hZ.alike Ar4.2.1) (g := (mkF m 12 #[.val (.ref a1), .unset] [(.ref b)])) rfl rfl (hb hby k38_12) _ ?_
    rw [len_of S4 N_4]
    show Steps p.tables e below (T3.setTop (mkF m 13 #[.val (.ref a1), .unset] [(.int (64 : Int32))])) _
    refine st5 _ ?_
    refine XS.astoreN X5.here hx rfl (hb hby k38_16) rfl rfl (l' := #[.val (.ref a1), .val (.ref t5)]) rfl ?_
    refine XS.aloadN X5.here hx rfl (hb hby k38_17) rfl rfl ?_
    show Steps p.tables e below (T5.setTop (mkF m 18 #[.val (.ref a1), .val (.ref t5)] [(.ref a1)])) _
    refine st7 _ ?_
    refine XS.iconst X7.here hx rfl (hb hby k38_21) ?_
    refine XS.aloadN X7.here hx rfl (hb hby k38_22) rfl rfl ?_
    refine XS.iconst X7.here hx rfl (hb hby k38_23) ?_
    refine XS.aloadN X7.here hx rfl (hb hby k38_24) rfl rfl ?_
    show Steps p.tables e below (T7.setTop (mkF m 25 #[.val (.ref a1), .val (.ref t5)] [(.ref a1), (.int (0 : Int32)), (.ref t5), (.int (0 : Int32)), (.ref b)])) _
    refine st9 _ ?_
    show Steps p.tables e below (T9.setTop (mkF m 28 #[.val (.ref a1), .val (.ref t5)] [(.int (0 : Int32)), (.int (0 : Int32)), (.ref t5), (.int (0 : Int32)), (.ref b)])) _
    refine st10 _ ?_
    refine XS.aloadN X10.here hx rfl (hb hby k38_31) rfl rfl ?_
    refine XS.aloadN X10.here hx rfl (hb hby k38_32) rfl rfl ?_
    show Steps p.tables e below (T10.setTop (mkF m 33 #[.val (.ref a1), .val (.ref t5)] [(.ref t5), (.ref a1)])) _
    refine st13 _ ?_
    refine XS.aloadN X13.here hx rfl (hb hby k38_36) rfl rfl ?_
    refine XS.iconst X13.here hx rfl (hb hby k38_37) ?_
    show Steps p.tables e below (T13.setTop (mkF m 38 #[.val (.ref a1), .val (.ref t5)] [(.int (1 : Int32)), (.ref a1)])) _
    refine st16 _ ?_
    show Steps p.tables e below (T16.setTop (mkF m 41 #[.val (.ref a1), .val (.ref t5)] [])) _
    exact X16.returnOut hx Bd.returns (hb hby k38_41) hr
  · show QSB Z none a1 1 0 (Int32.ofNat (2 * 64)) [] h0 n0 _ T16.heap _
    rw [e16]
    exact ⟨t5, tk5, rfl, Nf16, K3, sz_t5, ⟨f17, f18, Fw16, f19, f20, f21⟩⟩
theorem k38_7 : decode c38_ 7 = .ok (.return_, 1) := by decide +kernel
theorem rmIf1 (l : Launch) (Z : State) (a0 : Array Value) (hw : HW a0 Z) (ws : List Jvm.Cond) (a1 : Addr) (h0 : Heap) (n0 : Nat) (Z0 : n0 ≤ h0.size) (hG : GST Z) (O0 : Old Z n0 h0) (E_a1 : Exa Z h0 a1 "java/lang/StringBuilder") (F_coder_a1 : Fld Z h0 a1 "java/lang/AbstractStringBuilder" "coder" "B" (.int (1 : Int32))) :
    Met l Z ws m39_ jdk_68_method_11_code 2 none ({ frames := 5, cells := 0, slots := 0, locals := 76 } : Room) h0 #[(.ref a1)] (QR h0 n0) := by
  refine MetFree.of_bodySF (plainFor_of_name pn5_) hisR ?_
  intro p e s m args below meth c s₁ Bd hml0 hP hK
  obtain ⟨rfl, hZ, hh⟩ := hP
  have hx := Bd.exec
  have hby := Bd.bytes
  have hml : c.maxLocals = 2 := hml0
  have hown : s.vm.findClass "java/lang/AbstractStringBuilder" = some m.cls := findClass_of_methodNamed Bd.named
  have X0 : Stand p l e ({ frames := 5, cells := 0, slots := 0, locals := 76 } : Room) s m #[(.ref a1)] below meth c s₁ [] 0 0 := Stand.of_body Bd
  have e0 : s₁.heap = h0 := by rw [← hh, Bd.state]; rfl
  have N0 := Fr.nil n0
  have pre0 : ∀ t, Steps p.tables e below (s₁.setTop (mkF m 0 #[.val (.ref a1), .unset] [])) t → Steps p.tables e below (s₁.setTop (entryFrame m #[(.ref a1)] 2)) t := fun t k => castTop (ef38_ m a1) k
  obtain ⟨⟨G1, O2, P5⟩, ⟨G3, O4, rG3⟩, Sa, Sh, Sl⟩ := id hG
  obtain ⟨cq1, kq1, q1a, q1b, q1c⟩ := isOf hZ e0 E_a1
  obtain ⟨_, _, ⟨T1, L1, k1, n1⟩, -, X1, ⟨Lc1, hQ1, l1, y1, z1⟩, st1⟩ := X0.virtualBack hx (y := m38_) (z := m38_) hown (mvT hZ (wt hw 255 rfl)) (mvT hZ (wt hw 215 rfl)) (notFace_of_selects (args := #[]) (mvT hZ (wt hw 217 rfl))) (mvT hZ (wt hw 217 rfl)) (mvT hZ (wt hw 216 rfl)) (by decide) (backOf (W := 0) (rmIl1 l Z a0 hw [] a1 h0 n0 (Nat.le_trans Z0 (Keep.refl h0 []).1) hG O0 F_coder_a1) hZ (wt hw 218 rfl) (wt hw 83 rfl) (by decide) (by decide)) q1a q1c (g := (mkF m 1 #[.val (.ref a1), .unset] [(.ref a1)])) rfl (by rw [hml]; rfl) (Steps.refl _) (argsL := []) (rest := []) (lenOf pd19_ rfl) rfl (by show 2 * 0 + _ ≤ _; exact Nat.le_of_eq rfl) (hb hby k38_1) (fun _ _ => ⟨rfl, e0, (by decide : 0 + 0 ≤ _), (by decide : 0 + 0 ≤ _)⟩)
  dsimp only [Pt.U, Pt.locs, Pt.cells, Pt.slots] at X1 l1 y1 z1 st1 hQ1
  rw [l1] at X1
  clear l1; subst y1 z1
  obtain ⟨rfl, N1q, e1q⟩ := hQ1
  have N1a := Fr.app N0 N1q
  obtain ⟨fs, hr, hrun, hended, hW, hsame⟩ := X1.leave (v := none) (fun _ => rfl)
  refine ⟨_, _, pre0 _ ?_, hrun, hended, _, _, rfl, ?_, ⟨_, rfl⟩, hW, hsame.mono (by decide) (by decide)⟩
  · show Steps p.tables e below (s₁.setTop (mkF m 0 #[.val (.ref a1), .unset] [])) _
    refine XS.aloadN X0.here hx rfl (hb hby k38_0) rfl rfl ?_
    show Steps p.tables e below (s₁.setTop (mkF m 1 #[.val (.ref a1), .unset] [(.ref a1)])) _
    refine st1.trans ?_
    show Steps p.tables e below (T1.setTop (mkF m 4 #[.val (.ref a1), .unset] [(.int (0 : Int32))])) _
    refine XS.ifNo X1.here hx rfl (hb hby k38_4) rfl ((if0 _ _).trans (teq (rfl : (0 : Int32) = (0 : Int32))).2) ?_
    show Steps p.tables e below (T1.setTop (mkF m 7 #[.val (.ref a1), .unset] [])) _
    exact X1.returnOut hx Bd.returns (hb hby k38_7) hr
  · show QR h0 n0 _ T1.heap _
    rw [e1q]
    exact ⟨rfl, N1a, rfl⟩
theorem k39_0 : decode c39_ 0 = .ok (.getstatic 18, 3) := by decide +kernel
theorem k39_3 : decode c39_ 3 = .ok (.ifCond .eq 18, 3) := by decide +kernel
theorem k39_6 : decode c39_ 6 = .ok (.aload_n 0, 1) := by decide +kernel
theorem k39_7 : decode c39_ 7 = .ok (.getfield 22, 3) := by decide +kernel
theorem k39_10 : decode c39_ 10 = .ok (.aload_n 1, 1) := by decide +kernel
theorem k39_11 : decode c39_ 11 = .ok (.invokevirtual 40, 3) := by decide +kernel
theorem k39_14 : decode c39_ 14 = .ok (.if_icmp .eq 7, 3) := by decide +kernel
theorem k39_21 : decode c39_ 21 = .ok (.return_, 1) := by decide +kernel
theorem pd24_ : parseMethodDescriptor "()B" = some ⟨[], some .byte⟩ := by decide +kernel
theorem ef39_ (m : MethodId) (x0 : Addr) (x1 : Addr) : entryFrame m #[(.ref x0), (.ref x1)] 2 = mkF m 0 #[.val (.ref x0), .val (.ref x1)] [] := by first | (simp [entryFrame, mkF, argsToLocals, Value.category]; done) | rfl
theorem rmIn00 (l : Launch) (Z : State) (a0 : Array Value) (hw : HW a0 Z) (ws : List Jvm.Cond) (a1 a2 : Addr) (h0 : Heap) (n0 : Nat) (Z0 : n0 ≤ h0.size) (hG : GST Z) (O0 : Old Z n0 h0) (F_coder_a1 : Fld Z h0 a1 "java/lang/AbstractStringBuilder" "coder" "B" (.int (0 : Int32))) (E_a2 : Exa Z h0 a2 "java/lang/String") (F_coder_a2 : Fld Z h0 a2 "java/lang/String" "coder" "B" (.int (0 : Int32))) :
    Met l Z ws m40_ jdk_68_method_71_code 2 none ({ frames := 6, cells := 0, slots := 0, locals := 89 } : Room) h0 #[(.ref a1), (.ref a2)] (QR h0 n0) := by
  refine MetFree.of_bodySF (plainFor_of_name pn5_) hisR ?_
  intro p e s m args below meth c s₁ Bd hml0 hP hK
  obtain ⟨rfl, hZ, hh⟩ := hP
  have hx := Bd.exec
  have hby := Bd.bytes
  have hml : c.maxLocals = 2 := hml0
  have hown : s.vm.findClass "java/lang/AbstractStringBuilder" = some m.cls := findClass_of_methodNamed Bd.named
  have X0 : Stand p l e ({ frames := 6, cells := 0, slots := 0, locals := 89 } : Room) s m #[(.ref a1), (.ref a2)] below meth c s₁ [] 0 0 := Stand.of_body Bd
  have e0 : s₁.heap = h0 := by rw [← hh, Bd.state]; rfl
  have N0 := Fr.nil n0
  have pre0 : ∀ t, Steps p.tables e below (s₁.setTop (mkF m 0 #[.val (.ref a1), .val (.ref a2)] [])) t → Steps p.tables e below (s₁.setTop (entryFrame m #[(.ref a1), (.ref a2)] 2)) t := fun t k => castTop (ef39_ m a1 a2) k
  obtain ⟨⟨G1, O2, P5⟩, ⟨G3, O4, rG3⟩, Sa, Sh, Sl⟩ := id hG
  obtain ⟨T1, X1, e1, st1⟩ := getS2 X0 hx hZ hown (host := "") (Or.inl (wt hw 86 rfl)) Via.refl e0 (O2.ext O0.2) (g := (mkF m 0 #[.val (.ref a1), .val (.ref a2)] [])) rfl (hb hby k39_0)
  obtain ⟨T2, X2, e2, st2⟩ := getF X1 hx hZ hown (host := "") (Or.inl (wt hw 89 rfl)) Via.refl e1 F_coder_a1 (g := (mkF m 7 #[.val (.ref a1), .val (.ref a2)] [(.ref a1)])) rfl rfl (hb hby k39_7)
  obtain ⟨cq3, kq3, q3a, q3b, q3c⟩ := isOf hZ e2 E_a2
  obtain ⟨_, _, ⟨T3, L3, k3, n3⟩, -, X3, ⟨Lc3, hQ3, l3, y3, z3⟩, st3⟩ := X2.virtualBack hx (y := m35_) (z := m35_) hown (mvT hZ (wt hw 181 rfl)) (mvT hZ (wt hw 33 rfl)) (notFace_of_selects (args := #[]) (mvT hZ (wt hw 35 rfl))) (mvT hZ (wt hw 35 rfl)) (mvT hZ (wt hw 34 rfl)) (by decide) (backOf (W := 1) (rmCd0 l Z a0 hw [] a2 h0 n0 (Nat.le_trans Z0 (Keep.refl h0 []).1) hG O0 F_coder_a2) hZ (wt hw 36 rfl) (wt hw 4 rfl) (by decide) (by decide)) q3a q3c (g := (mkF m 11 #[.val (.ref a1), .val (.ref a2)] [(.ref a2), (.int (0 : Int32))])) rfl (by rw [hml]; rfl) (Steps.refl _) (argsL := []) (rest := [(.int (0 : Int32))]) (lenOf pd24_ rfl) rfl (by show 2 * 0 + _ ≤ _; exact Nat.le_of_eq rfl) (hb hby k39_11) (fun _ _ => ⟨rfl, e2, (by decide : 0 + 0 ≤ _), (by decide : 0 + 0 ≤ _)⟩)
  dsimp only [Pt.U, Pt.locs, Pt.cells, Pt.slots] at X3 l3 y3 z3 st3 hQ3
  rw [l3] at X3
  clear l3; subst y3 z3
  obtain ⟨rfl, N3q, e3q⟩ := hQ3
  have N3a := Fr.app N0 N3q
  obtain ⟨fs, hr, hrun, hended, hW, hsame⟩ := X3.leave (v := none) (fun _ => rfl)
  refine ⟨_, _, pre0 _ ?_, hrun, hended, _, _, rfl, ?_, ⟨_, rfl⟩, hW, hsame.mono (by decide) (by decide)⟩
  · show Steps p.tables e below (s₁.setTop (mkF m 0 #[.val (.ref a1), .val (.ref a2)] [])) _
    refine st1 _ ?_
    show Steps p.tables e below (T1.setTop (mkF m 3 #[.val (.ref a1), .val (.ref a2)] [(.int G1)])) _
    refine XS.ifNo X1.here hx rfl (hb hby k39_3) rfl ((if0 _ _).trans (feq (P5 : ¬ (G1 = (0 : Int32)))).1) ?_
    refine XS.aloadN X1.here hx rfl (hb hby k39_6) rfl rfl ?_
    show Steps p.tables e below (T1.setTop (mkF m 7 #[.val (.ref a1), .val (.ref a2)] [(.ref a1)])) _
    refine st2 _ ?_
    refine XS.aloadN X2.here hx rfl (hb hby k39_10) rfl rfl ?_
    show Steps p.tables e below (T2.setTop (mkF m 11 #[.val (.ref a1), .val (.ref a2)] [(.ref a2), (.int (0 : Int32))])) _
    refine st3.trans ?_
    show Steps p.tables e below (T3.setTop (mkF m 14 #[.val (.ref a1), .val (.ref a2)] [(.int (0 : Int32)), (.int (0 : Int32))])) _
    refine XS.icmpYes X3.here hx rfl (pc0 := 14) (pc' := 21) rfl (hb hby k39_14) rfl (teq (rfl : (0 : Int32) = (0 : Int32))).1 (by decide) (by decide) ?_
    show Steps p.tables e below (T3.setTop (mkF m 21 #[.val (.ref a1), .val (.ref a2)] [])) _
    exact X3.returnOut hx Bd.returns (hb hby k39_21) hr
  · show QR h0 n0 _ T3.heap _
    rw [e3q]
    exact ⟨rfl, N3a, rfl⟩
theorem k39_17 : decode c39_ 17 = .ok (.aload_n 0, 1) := by decide +kernel
theorem k39_18 : decode c39_ 18 = .ok (.invokevirtual 195, 3) := by decide +kernel
theorem pd25_ : parseMethodDescriptor "()V" = some ⟨[], none⟩ := by decide +kernel
theorem rmIn10 (l : Launch) (Z : State) (a0 : Array Value) (hw : HW a0 Z) (ws : List Jvm.Cond) (a1 a2 : Addr) (h0 : Heap) (n0 : Nat) (Z0 : n0 ≤ h0.size) (hG : GST Z) (O0 : Old Z n0 h0) (E_a1 : Exa Z h0 a1 "java/lang/StringBuilder") (F_coder_a1 : Fld Z h0 a1 "java/lang/AbstractStringBuilder" "coder" "B" (.int (1 : Int32))) (E_a2 : Exa Z h0 a2 "java/lang/String") (F_coder_a2 : Fld Z h0 a2 "java/lang/String" "coder" "B" (.int (0 : Int32))) :
    Met l Z ws m40_ jdk_68_method_71_code 2 none ({ frames := 6, cells := 0, slots := 0, locals := 89 } : Room) h0 #[(.ref a1), (.ref a2)] (QR h0 n0) := by
  refine MetFree.of_bodySF (plainFor_of_name pn5_) hisR ?_
  intro p e s m args below meth c s₁ Bd hml0 hP hK
  obtain ⟨rfl, hZ, hh⟩ := hP
  have hx := Bd.exec
  have hby := Bd.bytes
  have hml : c.maxLocals = 2 := hml0
  have hown : s.vm.findClass "java/lang/AbstractStringBuilder" = some m.cls := findClass_of_methodNamed Bd.named
  have X0 : Stand p l e ({ frames := 6, cells := 0, slots := 0, locals := 89 } : Room) s m #[(.ref a1), (.ref a2)] below meth c s₁ [] 0 0 := Stand.of_body Bd
  have e0 : s₁.heap = h0 := by rw [← hh, Bd.state]; rfl
  have N0 := Fr.nil n0
  have pre0 : ∀ t, Steps p.tables e below (s₁.setTop (mkF m 0 #[.val (.ref a1), .val (.ref a2)] [])) t → Steps p.tables e below (s₁.setTop (entryFrame m #[(.ref a1), (.ref a2)] 2)) t := fun t k => castTop (ef39_ m a1 a2) k
  obtain ⟨⟨G1, O2, P5⟩, ⟨G3, O4, rG3⟩, Sa, Sh, Sl⟩ := id hG
  obtain ⟨T1, X1, e1, st1⟩ := getS2 X0 hx hZ hown (host := "") (Or.inl (wt hw 86 rfl)) Via.refl e0 (O2.ext O0.2) (g := (mkF m 0 #[.val (.ref a1), .val (.ref a2)] [])) rfl (hb hby k39_0)
  obtain ⟨T2, X2, e2, st2⟩ := getF X1 hx hZ hown (host := "") (Or.inl (wt hw 89 rfl)) Via.refl e1 F_coder_a1 (g := (mkF m 7 #[.val (.ref a1), .val (.ref a2)] [(.ref a1)])) rfl rfl (hb hby k39_7)
  obtain ⟨cq3, kq3, q3a, q3b, q3c⟩ := isOf hZ e2 E_a2
  obtain ⟨_, _, ⟨T3, L3, k3, n3⟩, -, X3, ⟨Lc3, hQ3, l3, y3, z3⟩, st3⟩ := X2.virtualBack hx (y := m35_) (z := m35_) hown (mvT hZ (wt hw 181 rfl)) (mvT hZ (wt hw 33 rfl)) (notFace_of_selects (args := #[]) (mvT hZ (wt hw 35 rfl))) (mvT hZ (wt hw 35 rfl)) (mvT hZ (wt hw 34 rfl)) (by decide) (backOf (W := 1) (rmCd0 l Z a0 hw [] a2 h0 n0 (Nat.le_trans Z0 (Keep.refl h0 []).1) hG O0 F_coder_a2) hZ (wt hw 36 rfl) (wt hw 4 rfl) (by decide) (by decide)) q3a q3c (g := (mkF m 11 #[.val (.ref a1), .val (.ref a2)] [(.ref a2), (.int (1 : Int32))])) rfl (by rw [hml]; rfl) (Steps.refl _) (argsL := []) (rest := [(.int (1 : Int32))]) (lenOf pd24_ rfl) rfl (by show 2 * 0 + _ ≤ _; exact Nat.le_of_eq rfl) (hb hby k39_11) (fun _ _ => ⟨rfl, e2, (by decide : 0 + 0 ≤ _), (by decide : 0 + 0 ≤ _)⟩)
  dsimp only [Pt.U, Pt.locs, Pt.cells, Pt.slots] at X3 l3 y3 z3 st3 hQ3
  rw [l3] at X3
  clear l3; subst y3 z3
  obtain ⟨rfl, N3q, e3q⟩ := hQ3
  have N3a := Fr.app N0 N3q
  obtain ⟨cq4, q4, q4'⟩ := E_a1.cell
  obtain ⟨_, _, ⟨T4, L4, k4, n4⟩, -, X4, ⟨Lc4, hQ4, l4, y4, z4⟩, st4⟩ := X3.privateBack hx (y := m39_) hown (mvT hZ (wt hw 250 rfl)) (mvT hZ (wt hw 251 rfl)) (own_selSelf (mvT hZ (wt hw 251 rfl)) (Cond.privateMethod_at (mvP hZ (wt hw 252 rfl) (args := #[]))) (notFace_of_selects (args := #[]) (mvT hZ (wt hw 253 rfl))) (by decide)) (Cond.privateMethod_at (mvP hZ (wt hw 252 rfl) (args := #[]))) (mvT hZ (wt hw 254 rfl)) (by decide) (backOf (W := 0) (rmIf1 l Z a0 hw [] a1 h0 n0 (Nat.le_trans Z0 (Keep.refl h0 []).1) hG O0 E_a1 F_coder_a1) hZ (wt hw 254 rfl) (wt hw 83 rfl) (by decide) (by decide)) (g := (mkF m 18 #[.val (.ref a1), .val (.ref a2)] [(.ref a1)])) rfl (by rw [hml]; rfl) (Steps.refl _) (a := a1) (by rw [e3q]; exact q4) q4' (argsL := []) (rest := []) (lenOf pd25_ rfl) rfl (by show 2 * 0 + _ ≤ _; exact Nat.le_of_eq rfl) (hb hby k39_18) (fun _ _ => ⟨rfl, e3q, (by decide : 0 + 0 ≤ _), (by decide : 0 + 0 ≤ _)⟩)
  dsimp only [Pt.U, Pt.locs, Pt.cells, Pt.slots] at X4 l4 y4 z4 st4 hQ4
  rw [l4] at X4
  clear l4; subst y4 z4
  obtain ⟨rfl, N4q, e4q⟩ := hQ4
  have N4a := Fr.app N3a N4q
  obtain ⟨fs, hr, hrun, hended, hW, hsame⟩ := X4.leave (v := none) (fun _ => rfl)
  refine ⟨_, _, pre0 _ ?_, hrun, hended, _, _, rfl, ?_, ⟨_, rfl⟩, hW, hsame.mono (by decide) (by decide)⟩
  · show Steps p.tables e below (s₁.setTop (mkF m 0 #[.val (.ref a1), .val (.ref a2)] [])) _
    refine st1 _ ?_
    show Steps p.tables e below (T1.setTop (mkF m 3 #[.val (.ref a1), .val (.ref a2)] [(.int G1)])) _
    refine XS.ifNo X1.here hx rfl (hb hby k39_3) rfl ((if0 _ _).trans (feq (P5 : ¬ (G1 = (0 : Int32)))).1) ?_
    refine XS.aloadN X1.here hx rfl (hb hby k39_6) rfl rfl ?_
    show Steps p.tables e below (T1.setTop (mkF m 7 #[.val (.ref a1), .val (.ref a2)] [(.ref a1)])) _
    refine st2 _ ?_
    refine XS.aloadN X2.here hx rfl (hb hby k39_10) rfl rfl ?_
    show Steps p.tables e below (T2.setTop (mkF m 11 #[.val (.ref a1), .val (.ref a2)] [(.ref a2), (.int (1 : Int32))])) _
    refine st3.trans ?_
    show Steps p.tables e below (T3.setTop (mkF m 14 #[.val (.ref a1), .val (.ref a2)] [(.int (0 : Int32)), (.int (1 : Int32))])) _
    refine XS.icmpNo X3.here hx rfl (hb hby k39_14) rfl (feq (by decide : ¬ ((1 : Int32) = (0 : Int32)))).1 ?_
    refine XS.aloadN X3.here hx rfl (hb hby k39_17) rfl rfl ?_
    show Steps p.tables e below (T3.setTop (mkF m 18 #[.val (.ref a1), .val (.ref a2)] [(.ref a1)])) _
    refine st4.trans ?_
    show Steps p.tables e below (T4.setTop (mkF m 21 #[.val (.ref a1), .val (.ref a2)] [])) _
    exact X4.returnOut hx Bd.returns (hb hby k39_21) hr
  · show QR h0 n0 _ T4.heap _
    rw [e4q]
    exact ⟨rfl, N4a, rfl⟩
theorem rmIn01 (l : Launch) (Z : State) (a0 : Array Value) (hw : HW a0 Z) (ws : List Jvm.Cond) (a1 a2 b : Addr) (kb : ClassId) (h0 : Heap) (n0 : Nat) (Z0 : n0 ≤ h0.size) (hG : GST Z) (O0 : Old Z n0 h0) (B_a1 : SBF Z h0 a1 (0 : Int32) (0 : Int32) (64 : Int32) [] b kb) (g_a1 : n0 ≤ a1) (E_a2 : Exa Z h0 a2 "java/lang/String") (F_coder_a2 : Fld Z h0 a2 "java/lang/String" "coder" "B" (.int (1 : Int32))) :
    Met l Z ws m40_ jdk_68_method_71_code 2 none ({ frames := 6, cells := 1, slots := 260, locals := 89 } : Room) h0 #[(.ref a1), (.ref a2)] (QSB Z none a1 1 0 (Int32.ofNat (2 * 64)) [] h0 n0) := by
  refine MetFree.of_bodySF (plainFor_of_name pn5_) hisR ?_
  intro p e s m args below meth c s₁ Bd hml0 hP hK
  obtain ⟨rfl, hZ, hh⟩ := hP
  have hx := Bd.exec
  have hby := Bd.bytes
  have hml : c.maxLocals = 2 := hml0
  have hown : s.vm.findClass "java/lang/AbstractStringBuilder" = some m.cls := findClass_of_methodNamed Bd.named
  have X0 : Stand p l e ({ frames := 6, cells := 1, slots := 260, locals := 89 } : Room) s m #[(.ref a1), (.ref a2)] below meth c s₁ [] 0 0 := Stand.of_body Bd
  have e0 : s₁.heap = h0 := by rw [← hh, Bd.state]; rfl
  have N0 := Fr.nil n0
  have pre0 : ∀ t, Steps p.tables e below (s₁.setTop (mkF m 0 #[.val (.ref a1), .val (.ref a2)] [])) t → Steps p.tables e below (s₁.setTop (entryFrame m #[(.ref a1), (.ref a2)] 2)) t := fun t k => castTop (ef39_ m a1 a2) k
  obtain ⟨⟨G1, O2, P5⟩, ⟨G3, O4, rG3⟩, Sa, Sh, Sl⟩ := id hG
  obtain ⟨bE1, bV1, bC1, bN1, bM1, bA1⟩ := id B_a1
  obtain ⟨T2, X2, e2, st2⟩ := getS2 X0 hx hZ hown (host := "") (Or.inl (wt hw 86 rfl)) Via.refl e0 (O2.ext O0.2) (g := (mkF m 0 #[.val (.ref a1), .val (.ref a2)] [])) rfl (hb hby k39_0)
  obtain ⟨T3, X3, e3, st3⟩ := getF X2 hx hZ hown (host := "") (Or.inl (wt hw 89 rfl)) Via.refl e2 bC1 (g := (mkF m 7 #[.val (.ref a1), .val (.ref a2)] [(.ref a1)])) rfl rfl (hb hby k39_7)
  obtain ⟨cq4, kq4, q4a, q4b, q4c⟩ := isOf hZ e3 E_a2
  obtain ⟨_, _, ⟨T4, L4, k4, n4⟩, -, X4, ⟨Lc4, hQ4, l4, y4, z4⟩, st4⟩ := X3.virtualBack hx (y := m35_) (z := m35_) hown (mvT hZ (wt hw 181 rfl)) (mvT hZ (wt hw 33 rfl)) (notFace_of_selects (args := #[]) (mvT hZ (wt hw 35 rfl))) (mvT hZ (wt hw 35 rfl)) (mvT hZ (wt hw 34 rfl)) (by decide) (backOf (W := 1) (rmCd1 l Z a0 hw [] a2 h0 n0 (Nat.le_trans Z0 (Keep.refl h0 [a1]).1) hG O0 F_coder_a2) hZ (wt hw 36 rfl) (wt hw 4 rfl) (by decide) (by decide)) q4a q4c (g := (mkF m 11 #[.val (.ref a1), .val (.ref a2)] [(.ref a2), (.int (0 : Int32))])) rfl (by rw [hml]; rfl) (Steps.refl _) (argsL := []) (rest := [(.int (0 : Int32))]) (lenOf pd24_ rfl) rfl (by show 2 * 0 + _ ≤ _; exact Nat.le_of_eq rfl) (hb hby k39_11) (fun _ _ => ⟨rfl, e3, (by decide : 0 + 0 ≤ _), (by decide : 0 + 0 ≤ _)⟩)
  dsimp only [Pt.U, Pt.locs, Pt.cells, Pt.slots] at X4 l4 y4 z4 st4 hQ4
  rw [l4] at X4
  clear l4; subst y4 z4
  obtain ⟨rfl, N4q, e4q⟩ := hQ4
  have N4a := Fr.app N0 N4q
  obtain ⟨cq5, q5, q5'⟩ := bE1.cell
  obtain ⟨_, _, ⟨T5, L5, k5, n5⟩, -, X5, ⟨Lc5, hQ5, l5, y5, z5⟩, st5⟩ := X4.privateBack hx (y := m39_) hown (mvT hZ (wt hw 250 rfl)) (mvT hZ (wt hw 251 rfl)) (own_selSelf (mvT hZ (wt hw 251 rfl)) (Cond.privateMethod_at (mvP hZ (wt hw 252 rfl) (args := #[]))) (notFace_of_selects (args := #[]) (mvT hZ (wt hw 253 rfl))) (by decide)) (Cond.privateMethod_at (mvP hZ (wt hw 252 rfl) (args := #[]))) (mvT hZ (wt hw 254 rfl)) (by decide) (backOf (W := 0) (rmIf0 l Z a0 hw [] a1 b kb h0 n0 (Nat.le_trans Z0 (Keep.refl h0 [a1]).1) hG O0 ⟨bE1, bV1, bC1, bN1, bM1, bA1⟩ g_a1) hZ (wt hw 254 rfl) (wt hw 83 rfl) (by decide) (by decide)) (g := (mkF m 18 #[.val (.ref a1), .val (.ref a2)] [(.ref a1)])) rfl (by rw [hml]; rfl) (Steps.refl _) (a := a1) (by rw [e4q]; exact q5) q5' (argsL := []) (rest := []) (lenOf pd25_ rfl) rfl (by show 2 * 0 + _ ≤ _; exact Nat.le_of_eq rfl) (hb hby k39_18) (fun _ _ => ⟨rfl, e4q, (by decide : 0 + 1 ≤ _), (by decide : 0 + 260 ≤ _)⟩)
  dsimp only [Pt.U, Pt.locs, Pt.cells, Pt.slots] at X5 l5 y5 z5 st5 hQ5
  rw [l5] at X5
  clear l5; subst y5 z5
  obtain ⟨t5, tk5, rfl, N5q, K5q, ts5, Sb5⟩ := hQ5
  have N5a := Fr.app N4a N5q
  have K1 : Keep h0 T5.heap [a1] := (Keep.refl h0 [a1]).trans K5q (allS (Or.inl (List.mem_of_getElem? (i := 0) rfl)) all0)
  have sz_t5 : h0.size ≤ t5 := Nat.le_trans (Keep.refl h0 [a1]).1 ts5
  obtain ⟨bE6, bV6, bC6, bN6, bM6, bA6⟩ := id Sb5
  obtain ⟨fs, hr, hrun, hended, hW, hsame⟩ := X5.leave (v := none) (fun _ => rfl)
  refine ⟨_, _, pre0 _ ?_, hrun, hended, _, _, rfl, ?_, ⟨_, rfl⟩, hW, hsame.mono (by decide) (by decide)⟩
  · show Steps p.tables e below (s₁.setTop (mkF m 0 #[.val (.ref a1), .val (.ref a2)] [])) _
    refine st2 _ ?_
    show Steps p.tables e below (T2.setTop (mkF m 3 #[.val (.ref a1), .val (.ref a2)] [(.int G1)])) _
    refine XS.ifNo X2.here hx rfl (hb hby k39_3) rfl ((if0 _ _).trans (feq (P5 : ¬ (G1 = (0 : Int32)))).1) ?_
    refine XS.aloadN X2.here hx rfl (hb hby k39_6) rfl rfl ?_
    show Steps p.tables e below (T2.setTop (mkF m 7 #[.val (.ref a1), .val (.ref a2)] [(.ref a1)])) _
    refine st3 _ ?_
    refine XS.aloadN X3.here hx rfl (hb hby k39_10) rfl rfl ?_
    show Steps p.tables e below (T3.setTop (mkF m 11 #[.val (.ref a1), .val (.ref a2)] [(.ref a2), (.int (0 : Int32))])) _
    refine st4.trans ?_
    show Steps p.tables e below (T4.setTop (mkF m 14 #[.val (.ref a1), .val (.ref a2)] [(.int (1 : Int32)), (.int (0 : Int32))])) _
    refine XS.icmpNo X4.here hx rfl (hb hby k39_14) rfl (feq (by decide : ¬ ((0 : Int32) = (1 : Int32)))).1 ?_
    refine XS.aloadN X4.here hx rfl (hb hby k39_17) rfl rfl ?_
    show Steps p.tables e below (T4.setTop (mkF m 18 #[.val (.ref a1), .val (.ref a2)] [(.ref a1)])) _
    refine st5.trans ?_
    show Steps p.tables e below (T5.setTop (mkF m 21 #[.val (.ref a1), .val (.ref a2)] [])) _
    exact X5.returnOut hx Bd.returns (hb hby k39_21) hr
  · show QSB Z none a1 1 0 (Int32.ofNat (2 * 64)) [] h0 n0 _ T5.heap _
    exact ⟨t5, tk5, rfl, N5a, K1, sz_t5, ⟨bE6, bV6, bC6, bN6, bM6, bA6⟩⟩
theorem k40_0 : decode c40_ 0 = .ok (.aload_n 0, 1) := by decide +kernel
theorem k40_1 : decode c40_ 1 = .ok (.invokevirtual 335, 3) := by decide +kernel
theorem k40_4 : decode c40_ 4 = .ok (.iload_n 3, 1) := by decide +kernel
theorem k40_5 : decode c40_ 5 = .ok (.if_icmp .ne 23, 3) := by decide +kernel
theorem k40_8 : decode c40_ 8 = .ok (.aload_n 0, 1) := by decide +kernel
theorem k40_9 : decode c40_ 9 = .ok (.getfield 9, 3) := by decide +kernel
theorem k40_12 : decode c40_ 12 = .ok (.iconst 0, 1) := by decide +kernel
theorem k40_13 : decode c40_ 13 = .ok (.aload_n 1, 1) := by decide +kernel
theorem k40_14 : decode c40_ 14 = .ok (.iload_n 2, 1) := by decide +kernel
theorem k40_15 : decode c40_ 15 = .ok (.iload_n 3, 1) := by decide +kernel
theorem k40_16 : decode c40_ 16 = .ok (.ishl, 1) := by decide +kernel
theorem k40_17 : decode c40_ 17 = .ok (.aload_n 0, 1) := by decide +kernel
theorem k40_18 : decode c40_ 18 = .ok (.getfield 9, 3) := by decide +kernel
theorem k40_21 : decode c40_ 21 = .ok (.arraylength, 1) := by decide +kernel
theorem k40_22 : decode c40_ 22 = .ok (.invokestatic 212, 3) := by decide +kernel
theorem k40_25 : decode c40_ 25 = .ok (.goto 18, 3) := by decide +kernel
theorem k40_43 : decode c40_ 43 = .ok (.return_, 1) := by decide +kernel
theorem ef40_ (m : MethodId) (x0 : Addr) (x1 : Addr) (x2 : Int32) (x3 : Int32) : entryFrame m #[(.ref x0), (.ref x1), (.int x2), (.int x3)] 4 = mkF m 0 #[.val (.ref x0), .val (.ref x1), .val (.int x2), .val (.int x3)] [] := by first | (simp [entryFrame, mkF, argsToLocals, Value.category]; done) | rfl
theorem rmGb0 (l : Launch) (Z : State) (a0 : Array Value) (hw : HW a0 Z) (ws : List Jvm.Cond) (a1 b : Addr) (kb : ClassId) (of zz : Nat) (vd : List Value) (ds : List Int32) (h0 : Heap) (n0 : Nat) (Z0 : n0 ≤ h0.size) (hG : GST Z) (O0 : Old Z n0 h0) (S_a1 : StrU Z h0 a1 ds) (hlw : ∀ c ∈ ds, ¬ (255 : Int32) < c) (V_b : Arv Z h0 b kb .byte (Int32.ofNat zz) vd (.int (0 : Int32))) (hvd : vd.length = of) (hfit : of + ds.length ≤ zz) (hzz : zz ≤ 4000) (g_b : n0 ≤ b) :
    Met l Z ws m41_ jdk_42_method_147_code 4 none ({ frames := 5, cells := 0, slots := 0, locals := 76 } : Room) h0 #[(.ref a1), (.ref b), (.int (Int32.ofNat of)), (.int (0 : Int32))] (QW Z b kb (Int32.ofNat zz) (vd ++ (ds.map own_lo)) h0 n0) := by
  refine MetFree.of_bodySF (plainFor_of_name pn0_) hisR ?_
  intro p e s m args below meth c s₁ Bd hml0 hP hK
  obtain ⟨rfl, hZ, hh⟩ := hP
  have hx := Bd.exec
  have hby := Bd.bytes
  have hml : c.maxLocals = 4 := hml0
  have hown : s.vm.findClass "java/lang/String" = some m.cls := findClass_of_methodNamed Bd.named
  have X0 : Stand p l e ({ frames := 5, cells := 0, slots := 0, locals := 76 } : Room) s m #[(.ref a1), (.ref b), (.int (Int32.ofNat of)), (.int (0 : Int32))] below meth c s₁ [] 0 0 := Stand.of_body Bd
  have e0 : s₁.heap = h0 := by rw [← hh, Bd.state]; rfl
  have N0 := Fr.nil n0
  have pre0 : ∀ t, Steps p.tables e below (s₁.setTop (mkF m 0 #[.val (.ref a1), .val (.ref b), .val (.int (Int32.ofNat of)), .val (.int (0 : Int32))] [])) t → Steps p.tables e below (s₁.setTop (entryFrame m #[(.ref a1), (.ref b), (.int (Int32.ofNat of)), (.int (0 : Int32))] 4)) t := fun t k => castTop (ef40_ m a1 b (Int32.ofNat of) (0 : Int32)) k
  obtain ⟨⟨G1, O2, P5⟩, ⟨G3, O4, rG3⟩, Sa, Sh, Sl⟩ := id hG
  obtain ⟨sb1, sk1, sE1, sV1, sC1, sA1⟩ := StrU.formL (z := (Int32.ofNat ds.length)) S_a1 hlw rfl
  obtain ⟨cq2, kq2, q2a, q2b, q2c⟩ := isOf hZ e0 S_a1.exa
  obtain ⟨_, _, ⟨T2, L2, k2, n2⟩, -, X2, ⟨Lc2, hQ2, l2, y2, z2⟩, st2⟩ := X0.virtualBack hx (y := m35_) (z := m35_) hown (mvT hZ (wt hw 32 rfl)) (mvT hZ (wt hw 33 rfl)) (notFace_of_selects (args := #[]) (mvT hZ (wt hw 35 rfl))) (mvT hZ (wt hw 35 rfl)) (mvT hZ (wt hw 34 rfl)) (by decide) (backOf (W := 0) (rmCd0 l Z a0 hw [] a1 h0 n0 (Nat.le_trans Z0 (Keep.refl h0 [b]).1) hG O0 sC1) hZ (wt hw 36 rfl) (wt hw 4 rfl) (by decide) (by decide)) q2a q2c (g := (mkF m 1 #[.val (.ref a1), .val (.ref b), .val (.int (Int32.ofNat of)), .val (.int (0 : Int32))] [(.ref a1)])) rfl (by rw [hml]; rfl) (Steps.refl _) (argsL := []) (rest := []) (lenOf pd24_ rfl) rfl (by show 2 * 0 + _ ≤ _; exact Nat.le_of_eq rfl) (hb hby k40_1) (fun _ _ => ⟨rfl, e0, (by decide : 0 + 0 ≤ _), (by decide : 0 + 0 ≤ _)⟩)
  dsimp only [Pt.U, Pt.locs, Pt.cells, Pt.slots] at X2 l2 y2 z2 st2 hQ2
  rw [l2] at X2
  clear l2; subst y2 z2
  obtain ⟨rfl, N2q, e2q⟩ := hQ2
  have N2a := Fr.app N0 N2q
  obtain ⟨T3, X3, e3, st3⟩ := getF X2 hx hZ hown (host := "") (Or.inl (wt hw 21 rfl)) Via.refl e2q sV1 (g := (mkF m 9 #[.val (.ref a1), .val (.ref b), .val (.int (Int32.ofNat of)), .val (.int (0 : Int32))] [(.ref a1)])) rfl rfl (hb hby k40_9)
  obtain ⟨T4, X4, e4, st4⟩ := getF X3 hx hZ hown (host := "") (Or.inl (wt hw 21 rfl)) Via.refl e3 sV1 (g := (mkF m 18 #[.val (.ref a1), .val (.ref b), .val (.int (Int32.ofNat of)), .val (.int (0 : Int32))] [(.ref a1), (.int (Int32.ofNat of)), (.ref b), (.int (0 : Int32)), (.ref sb1)])) rfl rfl (hb hby k40_18)
  obtain ⟨cl5, Ar5, q5, S5, N_5, H_5, G5⟩ := id sA1
  have Vp6 : Arv Z h0 b kb .byte (Int32.ofNat zz) (vd ++ List.replicate (zz - of) (Value.int (0 : Int32))) (.int (0 : Int32)) := V_b.pad (pad_rep vd (.int (0 : Int32)) (zz - of))
  obtain ⟨T7, h7, Lq7, X7, e7, N7a, Kq7, Aq7, st7⟩ := cpA X4 hx hZ hown (wt hw 187 rfl) (wt hw 132 rfl) (wt hw 130 rfl) (wt hw 131 rfl) e4 sA1 Vp6 (Or.inl ⟨rfl, rfl⟩) (by decide) (own_nonneg (by omega)) (own_nonneg (by omega)) (own_h4 _) (own_h5 hfit hzz) (us := (ds.map own_lo)) (own_all (by simp) (by omega)) (by rw [own_clamp (by omega), own_clamp (by omega)]; simp; omega) N2a g_b (g := (mkF m 22 #[.val (.ref a1), .val (.ref b), .val (.int (Int32.ofNat of)), .val (.int (0 : Int32))] [(.int (Int32.ofNat ds.length)), (.int (Int32.ofNat of)), (.ref b), (.int (0 : Int32)), (.ref sb1)])) rfl (by rw [hml]; rfl) rfl (hb hby k40_22) (by decide) (W := 0) (by show 2 * 0 + _ ≤ _; exact Nat.le_of_eq rfl) (by decide)
  have Aw7 : Arv Z h7 b kb .byte (Int32.ofNat zz) (vd ++ (ds.map own_lo)) (.int (0 : Int32)) := by
    have q := Aq7
    rw [own_splice hvd (by simp) (by omega)] at q
    exact q.pad fun i => (pad_rep _ _ _ i).symm
  have K1 : Keep h0 h7 [b] := (Keep.refl h0 [b]).trans Kq7 (allS (Or.inl (List.mem_of_getElem? (i := 0) rfl)) all0)
  obtain ⟨fs, hr, hrun, hended, hW, hsame⟩ := X7.leave (v := none) (fun _ => rfl)
  refine ⟨_, _, pre0 _ ?_, hrun, hended, _, _, rfl, ?_, ⟨_, rfl⟩, hW, hsame.mono (by decide) (by decide)⟩
  · show Steps p.tables e below (s₁.setTop (mkF m 0 #[.val (.ref a1), .val (.ref b), .val (.int (Int32.ofNat of)), .val (.int (0 : Int32))] [])) _
    refine XS.aloadN X0.here hx rfl (hb hby k40_0) rfl rfl ?_
    show Steps p.tables e below (s₁.setTop (mkF m 1 #[.val (.ref a1), .val (.ref b), .val (.int (Int32.ofNat of)), .val (.int (0 : Int32))] [(.ref a1)])) _
    refine st2.trans ?_
    refine XS.iloadN X2.here hx rfl (hb hby k40_4) rfl ?_
    show Steps p.tables e below (T2.setTop (mkF m 5 #[.val (.ref a1), .val (.ref b), .val (.int (Int32.ofNat of)), .val (.int (0 : Int32))] [(.int (0 : Int32)), (.int (0 : Int32))])) _
    refine XS.icmpNo X2.here hx rfl (hb hby k40_5) rfl (teq (rfl : (0 : Int32) = (0 : Int32))).2 ?_
    refine XS.aloadN X2.here hx rfl (hb hby k40_8) rfl rfl ?_
    show Steps p.tables e below (T2.setTop (mkF m 9 #[.val (.ref a1), .val (.ref b), .val (.int (Int32.ofNat of)), .val (.int (0 : Int32))] [(.ref a1)])) _
    refine st3 _ ?_
    refine XS.iconst X3.here hx rfl (hb hby k40_12) ?_
    refine XS.aloadN X3.here hx rfl (hb hby k40_13) rfl rfl ?_
    refine XS.iloadN X3.here hx rfl (hb hby k40_14) rfl ?_
    refine XS.iloadN X3.here hx rfl (hb hby k40_15) rfl ?_
    show Steps p.tables e below (T3.setTop (mkF m 16 #[.val (.ref a1), .val (.ref b), .val (.int (Int32.ofNat of)), .val (.int (0 : Int32))] [(.int (0 : Int32)), (.int (Int32.ofNat of)), (.ref b), (.int (0 : Int32)), (.ref sb1)])) _
    refine XS.ishl X3.here hx rfl (hb hby k40_16) rfl ?_
    show Steps p.tables e below (T3.setTop (mkF m 17 #[.val (.ref a1), .val (.ref b), .val (.int (Int32.ofNat of)), .val (.int (0 : Int32))] [(.int ((Int32.ofNat of) <<< ((0 : Int32) &&& 31))), (.ref b), (.int (0 : Int32)), (.ref sb1)])) _
    rw [own_shl0]
    refine XS.aloadN X3.here hx rfl (hb hby k40_17) rfl rfl ?_
    show Steps p.tables e below (T3.setTop (mkF m 18 #[.val (.ref a1), .val (.ref b), .val (.int (Int32.ofNat of)), .val (.int (0 : Int32))] [(.ref a1), (.int (Int32.ofNat of)), (.ref b), (.int (0 : Int32)), (.ref sb1)])) _
    refine st4 _ ?_
    show Steps p.tables e below (T4.setTop (mkF m 21 #[.val (.ref a1), .val (.ref b), .val (.int (Int32.ofNat of)), .val (.int (0 : Int32))] [(.ref sb1), (.int (Int32.ofNat of)), (.ref b), (.int (0 : Int32)), (.ref sb1)])) _
    refine X4.arraylength hx (by rw [e4]; exact Ar5.1) (State.isArrayOf_alike hZ.alike Ar5.2.1) (g := (mkF m 21 #[.val (.ref a1), .val (.ref b), .val (.int (Int32.ofNat of)), .val (.int (0 : Int32))] [(.ref sb1), (.int (Int32.ofNat of)), (.ref b), (.int (0 : Int32)), (.ref sb1)])) rfl rfl (hb hby k40_21) _ ?_
    rw [len_of S5 N_5]
    show Steps p.tables e below (T4.setTop (mkF m 22 #[.val (.ref a1), .val (.ref b), .val (.int (Int32.ofNat of)), .val (.int (0 : Int32))] [(.int (Int32.ofNat ds.length)), (.int (Int32.ofNat of)), (.ref b), (.int (0 : Int32)), (.ref sb1)])) _
    refine st7 _ ?_
    refine XS.goto X7.here hx rfl (pc0 := 25) (pc' := 43) rfl (hb hby k40_25) (by decide) (by decide) ?_
    show Steps p.tables e below (T7.setTop (mkF m 43 #[.val (.ref a1), .val (.ref b), .val (.int (Int32.ofNat of)), .val (.int (0 : Int32))] [])) _
    exact X7.returnOut hx Bd.returns (hb hby k40_43) hr
  · show QW Z b kb (Int32.ofNat zz) (vd ++ (ds.map own_lo)) h0 n0 _ T7.heap _
    rw [e7]
    exact ⟨rfl, N7a, K1, Aw7⟩
theorem rmGb1 (l : Launch) (Z : State) (a0 : Array Value) (hw : HW a0 Z) (ws : List Jvm.Cond) (a1 b : Addr) (kb : ClassId) (of zz : Nat) (vd : List Value) (ds : List Int32) (h0 : Heap) (n0 : Nat) (Z0 : n0 ≤ h0.size) (hG : GST Z) (O0 : Old Z n0 h0) (S_a1 : StrU Z h0 a1 ds) (hlw : ∃ c ∈ ds, (255 : Int32) < c) (V_b : Arv Z h0 b kb .byte (Int32.ofNat zz) vd (.int (0 : Int32))) (hvd : vd.length = (2 * of)) (hfit : (2 * of) + (2 * ds.length) ≤ zz) (hzz : zz ≤ 4000) (g_b : n0 ≤ b) :
    Met l Z ws m41_ jdk_42_method_147_code 4 none ({ frames := 5, cells := 0, slots := 0, locals := 76 } : Room) h0 #[(.ref a1), (.ref b), (.int (Int32.ofNat of)), (.int (1 : Int32))] (QW Z b kb (Int32.ofNat zz) (vd ++ (wideBytes ds)) h0 n0) := by
  refine MetFree.of_bodySF (plainFor_of_name pn0_) hisR ?_
  intro p e s m args below meth c s₁ Bd hml0 hP hK
  obtain ⟨rfl, hZ, hh⟩ := hP
  have hx := Bd.exec
  have hby := Bd.bytes
  have hml : c.maxLocals = 4 := hml0
  have hown : s.vm.findClass "java/lang/String" = some m.cls := findClass_of_methodNamed Bd.named
  have X0 : Stand p l e ({ frames := 5, cells := 0, slots := 0, locals := 76 } : Room) s m #[(.ref a1), (.ref b), (.int (Int32.ofNat of)), (.int (1 : Int32))] below meth c s₁ [] 0 0 := Stand.of_body Bd
  have e0 : s₁.heap = h0 := by rw [← hh, Bd.state]; rfl
  have N0 := Fr.nil n0
  have pre0 : ∀ t, Steps p.tables e below (s₁.setTop (mkF m 0 #[.val (.ref a1), .val (.ref b), .val (.int (Int32.ofNat of)), .val (.int (1 : Int32))] [])) t → Steps p.tables e below (s₁.setTop (entryFrame m #[(.ref a1), (.ref b), (.int (Int32.ofNat of)), (.int (1 : Int32))] 4)) t := fun t k => castTop (ef40_ m a1 b (Int32.ofNat of) (1 : Int32)) k
  obtain ⟨⟨G1, O2, P5⟩, ⟨G3, O4, rG3⟩, Sa, Sh, Sl⟩ := id hG
  obtain ⟨sb1, sk1, sE1, sV1, sC1, sA1⟩ := StrU.formW (z := (Int32.ofNat (2 * ds.length))) S_a1 hlw rfl
  obtain ⟨cq2, kq2, q2a, q2b, q2c⟩ := isOf hZ e0 S_a1.exa
  obtain ⟨_, _, ⟨T2, L2, k2, n2⟩, -, X2, ⟨Lc2, hQ2, l2, y2, z2⟩, st2⟩ := X0.virtualBack hx (y := m35_) (z := m35_) hown (mvT hZ (wt hw 32 rfl)) (mvT hZ (wt hw 33 rfl)) (notFace_of_selects (args := #[]) (mvT hZ (wt hw 35 rfl))) (mvT hZ (wt hw 35 rfl)) (mvT hZ (wt hw 34 rfl)) (by decide) (backOf (W := 0) (rmCd1 l Z a0 hw [] a1 h0 n0 (Nat.le_trans Z0 (Keep.refl h0 [b]).1) hG O0 sC1) hZ (wt hw 36 rfl) (wt hw 4 rfl) (by decide) (by decide)) q2a q2c (g := (mkF m 1 #[.val (.ref a1), .val (.ref b), .val (.int (Int32.ofNat of)), .val (.int (1 : Int32))] [(.ref a1)])) rfl (by rw [hml]; rfl) (Steps.refl _) (argsL := []) (rest := []) (lenOf pd24_ rfl) rfl (by show 2 * 0 + _ ≤ _; exact Nat.le_of_eq rfl) (hb hby k40_1) (fun _ _ => ⟨rfl, e0, (by decide : 0 + 0 ≤ _), (by decide : 0 + 0 ≤ _)⟩)
  dsimp only [Pt.U, Pt.locs, Pt.cells, Pt.slots] at X2 l2 y2 z2 st2 hQ2
  rw [l2] at X2
  clear l2; subst y2 z2
  obtain ⟨rfl, N2q, e2q⟩ := hQ2
  have N2a := Fr.app N0 N2q
  obtain ⟨T3, X3, e3, st3⟩ := getF X2 hx hZ hown (host := "") (Or.inl (wt hw 21 rfl)) Via.refl e2q sV1 (g := (mkF m 9 #[.val (.ref a1), .val (.ref b), .val (.int (Int32.ofNat of)), .val (.int (1 : Int32))] [(.ref a1)])) rfl rfl (hb hby k40_9)
  obtain ⟨T4, X4, e4, st4⟩ := getF X3 hx hZ hown (host := "") (Or.inl (wt hw 21 rfl)) Via.refl e3 sV1 (g := (mkF m 18 #[.val (.ref a1), .val (.ref b), .val (.int (Int32.ofNat of)), .val (.int (1 : Int32))] [(.ref a1), (.int (Int32.ofNat (2 * of))), (.ref b), (.int (0 : Int32)), (.ref sb1)])) rfl rfl (hb hby k40_18)
  obtain ⟨cl5, Ar5, q5, S5, N_5, H_5, G5⟩ := id sA1
  have Vp6 : Arv Z h0 b kb .byte (Int32.ofNat zz) (vd ++ List.replicate (zz - (2 * of)) (Value.int (0 : Int32))) (.int (0 : Int32)) := V_b.pad (pad_rep vd (.int (0 : Int32)) (zz - (2 * of)))
  obtain ⟨T7, h7, Lq7, X7, e7, N7a, Kq7, Aq7, st7⟩ := cpA X4 hx hZ hown (wt hw 187 rfl) (wt hw 132 rfl) (wt hw 130 rfl) (wt hw 131 rfl) e4 sA1 Vp6 (Or.inl ⟨rfl, rfl⟩) (by decide) (own_nonneg (by omega)) (own_nonneg (by omega)) (own_h4 _) (own_h5 hfit hzz) (us := (wideBytes ds)) (own_all (own_wlen ds) (by omega)) (by rw [own_clamp (by omega), own_clamp (by omega)]; simp; omega) N2a g_b (g := (mkF m 22 #[.val (.ref a1), .val (.ref b), .val (.int (Int32.ofNat of)), .val (.int (1 : Int32))] [(.int (Int32.ofNat (2 * ds.length))), (.int (Int32.ofNat (2 * of))), (.ref b), (.int (0 : Int32)), (.ref sb1)])) rfl (by rw [hml]; rfl) rfl (hb hby k40_22) (by decide) (W := 0) (by show 2 * 0 + _ ≤ _; exact Nat.le_of_eq rfl) (by decide)
  have Aw7 : Arv Z h7 b kb .byte (Int32.ofNat zz) (vd ++ (wideBytes ds)) (.int (0 : Int32)) := by
    have q := Aq7
    rw [own_splice hvd (own_wlen ds) (by omega)] at q
    exact q.pad fun i => (pad_rep _ _ _ i).symm
  have K1 : Keep h0 h7 [b] := (Keep.refl h0 [b]).trans Kq7 (allS (Or.inl (List.mem_of_getElem? (i := 0) rfl)) all0)
  obtain ⟨fs, hr, hrun, hended, hW, hsame⟩ := X7.leave (v := none) (fun _ => rfl)
  refine ⟨_, _, pre0 _ ?_, hrun, hended, _, _, rfl, ?_, ⟨_, rfl⟩, hW, hsame.mono (by decide) (by decide)⟩
  · show Steps p.tables e below (s₁.setTop (mkF m 0 #[.val (.ref a1), .val (.ref b), .val (.int (Int32.ofNat of)), .val (.int (1 : Int32))] [])) _
    refine XS.aloadN X0.here hx rfl (hb hby k40_0) rfl rfl ?_
    show Steps p.tables e below (s₁.setTop (mkF m 1 #[.val (.ref a1), .val (.ref b), .val (.int (Int32.ofNat of)), .val (.int (1 : Int32))] [(.ref a1)])) _
    refine st2.trans ?_
    refine XS.iloadN X2.here hx rfl (hb hby k40_4) rfl ?_
    show Steps p.tables e below (T2.setTop (mkF m 5 #[.val (.ref a1), .val (.ref b), .val (.int (Int32.ofNat of)), .val (.int (1 : Int32))] [(.int (1 : Int32)), (.int (1 : Int32))])) _
    refine XS.icmpNo X2.here hx rfl (hb hby k40_5) rfl (teq (rfl : (1 : Int32) = (1 : Int32))).2 ?_
    refine XS.aloadN X2.here hx rfl (hb hby k40_8) rfl rfl ?_
    show Steps p.tables e below (T2.setTop (mkF m 9 #[.val (.ref a1), .val (.ref b), .val (.int (Int32.ofNat of)), .val (.int (1 : Int32))] [(.ref a1)])) _
    refine st3 _ ?_
    refine XS.iconst X3.here hx rfl (hb hby k40_12) ?_
    refine XS.aloadN X3.here hx rfl (hb hby k40_13) rfl rfl ?_
    refine XS.iloadN X3.here hx rfl (hb hby k40_14) rfl ?_
    refine XS.iloadN X3.here hx rfl (hb hby k40_15) rfl ?_
    show Steps p.tables e below (T3.setTop (mkF m 16 #[.val (.ref a1), .val (.ref b), .val (.int (Int32.ofNat of)), .val (.int (1 : Int32))] [(.int (1 : Int32)), (.int (Int32.ofNat of)), (.ref b), (.int (0 : Int32)), (.ref sb1)])) _
    refine XS.ishl X3.here hx rfl (hb hby k40_16) rfl ?_
    show Steps p.tables e below (T3.setTop (mkF m 17 #[.val (.ref a1), .val (.ref b), .val (.int (Int32.ofNat of)), .val (.int (1 : Int32))] [(.int ((Int32.ofNat of) <<< ((1 : Int32) &&& 31))), (.ref b), (.int (0 : Int32)), (.ref sb1)])) _
    rw [own_shl1 (by omega)]
    refine XS.aloadN X3.here hx rfl (hb hby k40_17) rfl rfl ?_
    show Steps p.tables e below (T3.setTop (mkF m 18 #[.val (.ref a1), .val (.ref b), .val (.int (Int32.ofNat of)), .val (.int (1 : Int32))] [(.ref a1), (.int (Int32.ofNat (2 * of))), (.ref b), (.int (0 : Int32)), (.ref sb1)])) _
    refine st4 _ ?_
    show Steps p.tables e below (T4.setTop (mkF m 21 #[.val (.ref a1), .val (.ref b), .val (.int (Int32.ofNat of)), .val (.int (1 : Int32))] [(.ref sb1), (.int (Int32.ofNat (2 * of))), (.ref b), (.int (0 : Int32)), (.ref sb1)])) _
    refine X4.arraylength hx (by rw [e4]; exact Ar5.1) (State.isArrayOf_alike hZ.alike Ar5.2.1) (g := (mkF m 21 #[.val (.ref a1), .val (.ref b), .val (.int (Int32.ofNat of)), .val (.int (1 : Int32))] [(.ref sb1), (.int (Int32.ofNat (2 * of))), (.ref b), (.int (0 : Int32)), (.ref sb1)])) rfl rfl (hb hby k40_21) _ ?_
    rw [len_of S5 N_5]
    show Steps p.tables e below (T4.setTop (mkF m 22 #[.val (.ref a1), .val (.ref b), .val (.int (Int32.ofNat of)), .val (.int (1 : Int32))] [(.int (Int32.ofNat (2 * ds.length))), (.int (Int32.ofNat (2 * of))), (.ref b), (.int (0 : Int32)), (.ref sb1)])) _
    refine st7 _ ?_
    refine XS.goto X7.here hx rfl (pc0 := 25) (pc' := 43) rfl (hb hby k40_25) (by decide) (by decide) ?_
    show Steps p.tables e below (T7.setTop (mkF m 43 #[.val (.ref a1), .val (.ref b), .val (.int (Int32.ofNat of)), .val (.int (1 : Int32))] [])) _
    exact X7.returnOut hx Bd.returns (hb hby k40_43) hr
  · show QW Z b kb (Int32.ofNat zz) (vd ++ (wideBytes ds)) h0 n0 _ T7.heap _
    rw [e7]
    exact ⟨rfl, N7a, K1, Aw7⟩
theorem k40_28 : decode c40_ 28 = .ok (.aload_n 0, 1) := by decide +kernel
theorem k40_29 : decode c40_ 29 = .ok (.getfield 9, 3) := by decide +kernel
theorem k40_32 : decode c40_ 32 = .ok (.iconst 0, 1) := by decide +kernel
theorem k40_33 : decode c40_ 33 = .ok (.aload_n 1, 1) := by decide +kernel
theorem k40_34 : decode c40_ 34 = .ok (.iload_n 2, 1) := by decide +kernel
theorem k40_35 : decode c40_ 35 = .ok (.aload_n 0, 1) := by decide +kernel
theorem k40_36 : decode c40_ 36 = .ok (.getfield 9, 3) := by decide +kernel
theorem k40_39 : decode c40_ 39 = .ok (.arraylength, 1) := by decide +kernel
theorem k40_40 : decode c40_ 40 = .ok (.invokestatic 106, 3) := by decide +kernel
theorem rmGb3 (l : Launch) (Z : State) (a0 : Array Value) (hw : HW a0 Z) (ws : List Jvm.Cond) (a1 b : Addr) (kb : ClassId) (es : List Int32) (h0 : Heap) (n0 : Nat) (Z0 : n0 ≤ h0.size) (hG : GST Z) (O0 : Old Z n0 h0) (S_a1 : StrU Z h0 a1 own_dots) (V_b : Arv Z h0 b kb .byte (Int32.ofNat (2 * 130)) (wideBytes es) (.int (0 : Int32))) (hes : es.length = 64) (g_b : n0 ≤ b) (hlt : h0.size ≤ b ∨ True) (n_x : ∀ x kx vx zx, Arv Z h0 x kx .byte zx vx (.int (0 : Int32)) → zx = (3 : Int32) → x ≠ b) :
    Met l Z ws m41_ jdk_42_method_147_code 4 none ({ frames := 5, cells := 0, slots := 0, locals := 76 } : Room) h0 #[(.ref a1), (.ref b), (.int (Int32.ofNat 64)), (.int (1 : Int32))] (QW Z b kb (Int32.ofNat (2 * 130)) (wideBytes (es ++ own_dots)) h0 n0) := by
  refine MetFree.of_bodySF (plainFor_of_name pn0_) hisR ?_
  intro p e s m args below meth c s₁ Bd hml0 hP hK
  obtain ⟨rfl, hZ, hh⟩ := hP
  have hx := Bd.exec
  have hby := Bd.bytes
  have hml : c.maxLocals = 4 := hml0
  have hown : s.vm.findClass "java/lang/String" = some m.cls := findClass_of_methodNamed Bd.named
  have X0 : Stand p l e ({ frames := 5, cells := 0, slots := 0, locals := 76 } : Room) s m #[(.ref a1), (.ref b), (.int (Int32.ofNat 64)), (.int (1 : Int32))] below meth c s₁ [] 0 0 := Stand.of_body Bd
  have e0 : s₁.heap = h0 := by rw [← hh, Bd.state]; rfl
  have N0 := Fr.nil n0
  have pre0 : ∀ t, Steps p.tables e below (s₁.setTop (mkF m 0 #[.val (.ref a1), .val (.ref b), .val (.int (Int32.ofNat 64)), .val (.int (1 : Int32))] [])) t → Steps p.tables e below (s₁.setTop (entryFrame m #[(.ref a1), (.ref b), (.int (Int32.ofNat 64)), (.int (1 : Int32))] 4)) t := fun t k => castTop (ef40_ m a1 b (Int32.ofNat 64) (1 : Int32)) k
  obtain ⟨⟨G1, O2, P5⟩, ⟨G3, O4, rG3⟩, Sa, Sh, Sl⟩ := id hG
  obtain ⟨sb1, sk1, sE1, sV1, sC1, sA1⟩ := StrU.formL (z := (3 : Int32)) S_a1 own_dots_lat rfl
  obtain ⟨cq2, kq2, q2a, q2b, q2c⟩ := isOf hZ e0 S_a1.exa
  obtain ⟨_, _, ⟨T2, L2, k2, n2⟩, -, X2, ⟨Lc2, hQ2, l2, y2, z2⟩, st2⟩ := X0.virtualBack hx (y := m35_) (z := m35_) hown (mvT hZ (wt hw 32 rfl)) (mvT hZ (wt hw 33 rfl)) (notFace_of_selects (args := #[]) (mvT hZ (wt hw 35 rfl))) (mvT hZ (wt hw 35 rfl)) (mvT hZ (wt hw 34 rfl)) (by decide) (backOf (W := 0) (rmCd0 l Z a0 hw [] a1 h0 n0 (Nat.le_trans Z0 (Keep.refl h0 [b]).1) hG O0 sC1) hZ (wt hw 36 rfl) (wt hw 4 rfl) (by decide) (by decide)) q2a q2c (g := (mkF m 1 #[.val (.ref a1), .val (.ref b), .val (.int (Int32.ofNat 64)), .val (.int (1 : Int32))] [(.ref a1)])) rfl (by rw [hml]; rfl) (Steps.refl _) (argsL := []) (rest := []) (lenOf pd24_ rfl) rfl (by show 2 * 0 + _ ≤ _; exact Nat.le_of_eq rfl) (hb hby k40_1) (fun _ _ => ⟨rfl, e0, (by decide : 0 + 0 ≤ _), (by decide : 0 + 0 ≤ _)⟩)
  dsimp only [Pt.U, Pt.locs, Pt.cells, Pt.slots] at X2 l2 y2 z2 st2 hQ2
  rw [l2] at X2
  clear l2; subst y2 z2
  obtain ⟨rfl, N2q, e2q⟩ := hQ2
  have N2a := Fr.app N0 N2q
  obtain ⟨T3, X3, e3, st3⟩ := getF X2 hx hZ hown (host := "") (Or.inl (wt hw 21 rfl)) Via.refl e2q sV1 (g := (mkF m 29 #[.val (.ref a1), .val (.ref b), .val (.int (Int32.ofNat 64)), .val (.int (1 : Int32))] [(.ref a1)])) rfl rfl (hb hby k40_29)
  obtain ⟨T4, X4, e4, st4⟩ := getF X3 hx hZ hown (host := "") (Or.inl (wt hw 21 rfl)) Via.refl e3 sV1 (g := (mkF m 36 #[.val (.ref a1), .val (.ref b), .val (.int (Int32.ofNat 64)), .val (.int (1 : Int32))] [(.ref a1), (.int (Int32.ofNat 64)), (.ref b), (.int (0 : Int32)), (.ref sb1)])) rfl rfl (hb hby k40_36)
  obtain ⟨cl5, Ar5, q5, S5, N_5, H_5, G5⟩ := id sA1
  obtain ⟨_, _, ⟨T6, L6, k6, n6⟩, -, X6, ⟨Lc6, hQ6, l6, y6, z6⟩, st6⟩ := Jvm.LawKit.callS X4 hx (y := m37_) hown (mvT hZ (wt hw 263 rfl)) (mvT hZ (wt hw 258 rfl)) (mvT hZ (wt hw 112 rfl)) (mvT hZ (wt hw 259 rfl)) (by decide) (backOf (W := 0) (rmL3 l Z a0 hw [] sb1 b sk1 kb es h0 n0 (Nat.le_trans Z0 (Keep.refl h0 [b]).1) hG O0 sA1 V_b hes g_b (n_x _ _ _ _ sA1 rfl)) hZ (wt hw 259 rfl) (wt hw 112 rfl) (by decide) (by decide)) (g := (mkF m 40 #[.val (.ref a1), .val (.ref b), .val (.int (Int32.ofNat 64)), .val (.int (1 : Int32))] [(.int (3 : Int32)), (.int (Int32.ofNat 64)), (.ref b), (.int (0 : Int32)), (.ref sb1)])) rfl (by rw [hml]; rfl) (argsL := [(.ref sb1), (.int (0 : Int32)), (.ref b), (.int (Int32.ofNat 64)), (.int (3 : Int32))]) (rest := []) (lenOf pd23_ rfl) rfl (by show 2 * 0 + _ ≤ _; exact Nat.le_of_eq rfl) (hb hby k40_40) (fun _ _ => ⟨rfl, e4, (by decide : 0 + 0 ≤ _), (by decide : 0 + 0 ≤ _)⟩)
  dsimp only [Pt.U, Pt.locs, Pt.cells, Pt.slots] at X6 l6 y6 z6 st6 hQ6
  rw [l6] at X6
  clear l6; subst y6 z6
  obtain ⟨rfl, N6q, K6q, Pa6⟩ := hQ6
  have N6a := Fr.app N2a N6q
  have K1 : Keep h0 T6.heap [b] := (Keep.refl h0 [b]).trans K6q (allS (Or.inl (List.mem_of_getElem? (i := 0) rfl)) all0)
  obtain ⟨fs, hr, hrun, hended, hW, hsame⟩ := X6.leave (v := none) (fun _ => rfl)
  refine ⟨_, _, pre0 _ ?_, hrun, hended, _, _, rfl, ?_, ⟨_, rfl⟩, hW, hsame.mono (by decide) (by decide)⟩
  · show Steps p.tables e below (s₁.setTop (mkF m 0 #[.val (.ref a1), .val (.ref b), .val (.int (Int32.ofNat 64)), .val (.int (1 : Int32))] [])) _
    refine XS.aloadN X0.here hx rfl (hb hby k40_0) rfl rfl ?_
    show Steps p.tables e below (s₁.setTop (mkF m 1 #[.val (.ref a1), .val (.ref b), .val (.int (Int32.ofNat 64)), .val (.int (1 : Int32))] [(.ref a1)])) _
    refine st2.trans ?_
    refine XS.iloadN X2.here hx rfl (hb hby k40_4) rfl ?_
    show Steps p.tables e below (T2.setTop (mkF m 5 #[.val (.ref a1), .val (.ref b), .val (.int (Int32.ofNat 64)), .val (.int (1 : Int32))] [(.int (1 : Int32)), (.int (0 : Int32))])) _
    refine XS.icmpYes X2.here hx rfl (pc0 := 5) (pc' := 28) rfl (hb hby k40_5) rfl (feq (by decide : ¬ ((0 : Int32) = (1 : Int32)))).2 (by decide) (by decide) ?_
    refine XS.aloadN X2.here hx rfl (hb hby k40_28) rfl rfl ?_
    show Steps p.tables e below (T2.setTop (mkF m 29 #[.val (.ref a1), .val (.ref b), .val (.int (Int32.ofNat 64)), .val (.int (1 : Int32))] [(.ref a1)])) _
    refine st3 _ ?_
    refine XS.iconst X3.here hx rfl (hb hby k40_32) ?_
    refine XS.aloadN X3.here hx rfl (hb hby k40_33) rfl rfl ?_
    refine XS.iloadN X3.here hx rfl (hb hby k40_34) rfl ?_
    refine XS.aloadN X3.here hx rfl (hb hby k40_35) rfl rfl ?_
    show Steps p.tables e below (T3.setTop (mkF m 36 #[.val (.ref a1), .val (.ref b), .val (.int (Int32.ofNat 64)), .val (.int (1 : Int32))] [(.ref a1), (.int (Int32.ofNat 64)), (.ref b), (.int (0 : Int32)), (.ref sb1)])) _
    refine st4 _ ?_
    show Steps p.tables e below (T4.setTop (mkF m 39 #[.val (.ref a1), .val (.ref b), .val (.int (Int32.ofNat 64)), .val (.int (1 : Int32))] [(.ref sb1), (.int (Int32.ofNat 64)), (.ref b), (.int (0 : Int32)), (.ref sb1)])) _
    refine X4.arraylength hx (by rw [e4]; exact Ar5.1) (State.isArrayOf_alike hZ.alike Ar5.2.1) (g := (mkF m 39 #[.val (.ref a1), .val (.ref b), .val (.int (Int32.ofNat 64)), .val (.int (1 : Int32))] [(.ref sb1), (.int (Int32.ofNat 64)), (.ref b), (.int (0 : Int32)), (.ref sb1)])) rfl rfl (hb hby k40_39) _ ?_
    rw [len_of S5 N_5]
    show Steps p.tables e below (T4.setTop (mkF m 40 #[.val (.ref a1), .val (.ref b), .val (.int (Int32.ofNat 64)), .val (.int (1 : Int32))] [(.int (3 : Int32)), (.int (Int32.ofNat 64)), (.ref b), (.int (0 : Int32)), (.ref sb1)])) _
    refine st6 _ ?_
    show Steps p.tables e below (T6.setTop (mkF m 43 #[.val (.ref a1), .val (.ref b), .val (.int (Int32.ofNat 64)), .val (.int (1 : Int32))] [])) _
    exact X6.returnOut hx Bd.returns (hb hby k40_43) hr
  · show QW Z b kb (Int32.ofNat (2 * 130)) (wideBytes (es ++ own_dots)) h0 n0 _ T6.heap _
    exact ⟨rfl, N6a, K1, Pa6⟩
theorem k41_0 : decode c41_ 0 = .ok (.aload_n 0, 1) := by decide +kernel
theorem k41_1 : decode c41_ 1 = .ok (.aload_n 2, 1) := by decide +kernel
theorem k41_2 : decode c41_ 2 = .ok (.invokevirtual 397, 3) := by decide +kernel
theorem k41_5 : decode c41_ 5 = .ok (.aload_n 2, 1) := by decide +kernel
theorem k41_6 : decode c41_ 6 = .ok (.aload_n 0, 1) := by decide +kernel
theorem k41_7 : decode c41_ 7 = .ok (.getfield 15, 3) := by decide +kernel
theorem k41_10 : decode c41_ 10 = .ok (.iload_n 1, 1) := by decide +kernel
theorem k41_11 : decode c41_ 11 = .ok (.aload_n 0, 1) := by decide +kernel
theorem k41_12 : decode c41_ 12 = .ok (.getfield 22, 3) := by decide +kernel
theorem k41_15 : decode c41_ 15 = .ok (.invokevirtual 399, 3) := by decide +kernel
theorem k41_18 : decode c41_ 18 = .ok (.return_, 1) := by decide +kernel
theorem pd26_ : parseMethodDescriptor "(Ljava/lang/String;)V" = some ⟨[(.object "java/lang/String")], none⟩ := by decide +kernel
theorem pd27_ : parseMethodDescriptor "([BIB)V" = some ⟨[(.array .byte), .int, .byte], none⟩ := by decide +kernel
theorem ef41_ (m : MethodId) (x0 : Addr) (x1 : Int32) (x2 : Addr) : entryFrame m #[(.ref x0), (.int x1), (.ref x2)] 3 = mkF m 0 #[.val (.ref x0), .val (.int x1), .val (.ref x2)] [] := by first | (simp [entryFrame, mkF, argsToLocals, Value.category]; done) | rfl
theorem rmPu0 (l : Launch) (Z : State) (a0 : Array Value) (hw : HW a0 Z) (ws : List Jvm.Cond) (a1 a3 b : Addr) (kb : ClassId) (cnt : Int32) (of zz : Nat) (vd : List Value) (ds : List Int32) (h0 : Heap) (n0 : Nat) (Z0 : n0 ≤ h0.size) (hG : GST Z) (O0 : Old Z n0 h0) (B_a1 : SBF Z h0 a1 (0 : Int32) cnt (Int32.ofNat zz) vd b kb) (g_a1 : n0 ≤ a1) (S_a3 : StrU Z h0 a3 ds) (hlw : ∀ c ∈ ds, ¬ (255 : Int32) < c) (hvd : vd.length = of) (hfit : of + ds.length ≤ zz) (hzz : zz ≤ 4000) (g_b : n0 ≤ b) :
    Met l Z ws m42_ jdk_68_method_73_code 3 none ({ frames := 7, cells := 0, slots := 0, locals := 102 } : Room) h0 #[(.ref a1), (.int (Int32.ofNat of)), (.ref a3)] (QW Z b kb (Int32.ofNat zz) (vd ++ (ds.map own_lo)) h0 n0) := by
  refine MetFree.of_bodySF (plainFor_of_name pn5_) hisR ?_
  intro p e s m args below meth c s₁ Bd hml0 hP hK
  obtain ⟨rfl, hZ, hh⟩ := hP
  have hx := Bd.exec
  have hby := Bd.bytes
  have hml : c.maxLocals = 3 := hml0
  have hown : s.vm.findClass "java/lang/AbstractStringBuilder" = some m.cls := findClass_of_methodNamed Bd.named
  have X0 : Stand p l e ({ frames := 7, cells := 0, slots := 0, locals := 102 } : Room) s m #[(.ref a1), (.int (Int32.ofNat of)), (.ref a3)] below meth c s₁ [] 0 0 := Stand.of_body Bd
  have e0 : s₁.heap = h0 := by rw [← hh, Bd.state]; rfl
  have N0 := Fr.nil n0
  have pre0 : ∀ t, Steps p.tables e below (s₁.setTop (mkF m 0 #[.val (.ref a1), .val (.int (Int32.ofNat of)), .val (.ref a3)] [])) t → Steps p.tables e below (s₁.setTop (entryFrame m #[(.ref a1), (.int (Int32.ofNat of)), (.ref a3)] 3)) t := fun t k => castTop (ef41_ m a1 (Int32.ofNat of) a3) k
  obtain ⟨⟨G1, O2, P5⟩, ⟨G3, O4, rG3⟩, Sa, Sh, Sl⟩ := id hG
  obtain ⟨bE1, bV1, bC1, bN1, bM1, bA1⟩ := id B_a1
  obtain ⟨sb2, sk2, sE2, sV2, sC2, sA2⟩ := StrU.formL (z := (Int32.ofNat ds.length)) S_a3 hlw rfl
  obtain ⟨cq3, q3, q3'⟩ := bE1.cell
  obtain ⟨_, _, ⟨T3, L3, k3, n3⟩, -, X3, ⟨Lc3, hQ3, l3, y3, z3⟩, st3⟩ := X0.privateBack hx (y := m40_) hown (mvT hZ (wt hw 176 rfl)) (mvT hZ (wt hw 177 rfl)) (own_selSelf (mvT hZ (wt hw 177 rfl)) (Cond.privateMethod_at (mvP hZ (wt hw 178 rfl) (args := #[]))) (notFace_of_selects (args := #[]) (mvT hZ (wt hw 179 rfl))) (by decide)) (Cond.privateMethod_at (mvP hZ (wt hw 178 rfl) (args := #[]))) (mvT hZ (wt hw 180 rfl)) (by decide) (backOf (W := 0) (rmIn00 l Z a0 hw [] a1 a3 h0 n0 (Nat.le_trans Z0 (Keep.refl h0 [b]).1) hG O0 bC1 sE2 sC2) hZ (wt hw 180 rfl) (wt hw 83 rfl) (by decide) (by decide)) (g := (mkF m 2 #[.val (.ref a1), .val (.int (Int32.ofNat of)), .val (.ref a3)] [(.ref a3), (.ref a1)])) rfl (by rw [hml]; rfl) (Steps.refl _) (a := a1) (by rw [e0]; exact q3) q3' (argsL := [(.ref a3)]) (rest := []) (lenOf pd26_ rfl) rfl (by show 2 * 0 + _ ≤ _; exact Nat.le_of_eq rfl) (hb hby k41_2) (fun _ _ => ⟨rfl, e0, (by decide : 0 + 0 ≤ _), (by decide : 0 + 0 ≤ _)⟩)
  dsimp only [Pt.U, Pt.locs, Pt.cells, Pt.slots] at X3 l3 y3 z3 st3 hQ3
  rw [l3] at X3
  clear l3; subst y3 z3
  obtain ⟨rfl, N3q, e3q⟩ := hQ3
  have N3a := Fr.app N0 N3q
  obtain ⟨T4, X4, e4, st4⟩ := getF X3 hx hZ hown (host := "") (Or.inl (wt hw 87 rfl)) Via.refl e3q bV1 (g := (mkF m 7 #[.val (.ref a1), .val (.int (Int32.ofNat of)), .val (.ref a3)] [(.ref a1), (.ref a3)])) rfl rfl (hb hby k41_7)
  obtain ⟨T5, X5, e5, st5⟩ := getF X4 hx hZ hown (host := "") (Or.inl (wt hw 89 rfl)) Via.refl e4 bC1 (g := (mkF m 12 #[.val (.ref a1), .val (.int (Int32.ofNat of)), .val (.ref a3)] [(.ref a1), (.int (Int32.ofNat of)), (.ref b), (.ref a3)])) rfl rfl (hb hby k41_12)
  obtain ⟨cq6, kq6, q6a, q6b, q6c⟩ := isOf hZ e5 S_a3.exa
  obtain ⟨_, _, ⟨T6, L6, k6, n6⟩, -, X6, ⟨Lc6, hQ6, l6, y6, z6⟩, st6⟩ := X5.virtualBack hx (y := m41_) (z := m41_) hown (mvT hZ (wt hw 182 rfl)) (mvT hZ (wt hw 183 rfl)) (notFace_of_selects (args := #[]) (mvT hZ (wt hw 185 rfl))) (mvT hZ (wt hw 185 rfl)) (mvT hZ (wt hw 184 rfl)) (by decide) (backOf (W := 0) (rmGb0 l Z a0 hw [] a3 b kb of zz vd ds h0 n0 (Nat.le_trans Z0 (Keep.refl h0 [b]).1) hG O0 S_a3 hlw bA1 hvd hfit hzz g_b) hZ (wt hw 186 rfl) (wt hw 4 rfl) (by decide) (by decide)) q6a q6c (g := (mkF m 15 #[.val (.ref a1), .val (.int (Int32.ofNat of)), .val (.ref a3)] [(.int (0 : Int32)), (.int (Int32.ofNat of)), (.ref b), (.ref a3)])) rfl (by rw [hml]; rfl) (Steps.refl _) (argsL := [(.ref b), (.int (Int32.ofNat of)), (.int (0 : Int32))]) (rest := []) (lenOf pd27_ rfl) rfl (by show 2 * 0 + _ ≤ _; exact Nat.le_of_eq rfl) (hb hby k41_15) (fun _ _ => ⟨rfl, e5, (by decide : 0 + 0 ≤ _), (by decide : 0 + 0 ≤ _)⟩)
  dsimp only [Pt.U, Pt.locs, Pt.cells, Pt.slots] at X6 l6 y6 z6 st6 hQ6
  rw [l6] at X6
  clear l6; subst y6 z6
  obtain ⟨rfl, N6q, K6q, Pb6⟩ := hQ6
  have N6a := Fr.app N3a N6q
  have K1 : Keep h0 T6.heap [b] := (Keep.refl h0 [b]).trans K6q (allS (Or.inl (List.mem_of_getElem? (i := 0) rfl)) all0)
  obtain ⟨fs, hr, hrun, hended, hW, hsame⟩ := X6.leave (v := none) (fun _ => rfl)
  refine ⟨_, _, pre0 _ ?_, hrun, hended, _, _, rfl, ?_, ⟨_, rfl⟩, hW, hsame.mono (by decide) (by decide)⟩
  · show Steps p.tables e below (s₁.setTop (mkF m 0 #[.val (.ref a1), .val (.int (Int32.ofNat of)), .val (.ref a3)] [])) _
    refine XS.aloadN X0.here hx rfl (hb hby k41_0) rfl rfl ?_
    refine XS.aloadN X0.here hx rfl (hb hby k41_1) rfl rfl ?_
    show Steps p.tables e below (s₁.setTop (mkF m 2 #[.val (.ref a1), .val (.int (Int32.ofNat of)), .val (.ref a3)] [(.ref a3), (.ref a1)])) _
    refine st3.trans ?_
    refine XS.aloadN X3.here hx rfl (hb hby k41_5) rfl rfl ?_
    refine XS.aloadN X3.here hx rfl (hb hby k41_6) rfl rfl ?_
    show Steps p.tables e below (T3.setTop (mkF m 7 #[.val (.ref a1), .val (.int (Int32.ofNat of)), .val (.ref a3)] [(.ref a1), (.ref a3)])) _
    refine st4 _ ?_
    refine XS.iloadN X4.here hx rfl (hb hby k41_10) rfl ?_
    refine XS.aloadN X4.here hx rfl (hb hby k41_11) rfl rfl ?_
    show Steps p.tables e below (T4.setTop (mkF m 12 #[.val (.ref a1), .val (.int (Int32.ofNat of)), .val (.ref a3)] [(.ref a1), (.int (Int32.ofNat of)), (.ref b), (.ref a3)])) _
    refine st5 _ ?_
    show Steps p.tables e below (T5.setTop (mkF m 15 #[.val (.ref a1), .val (.int (Int32.ofNat of)), .val (.ref a3)] [(.int (0 : Int32)), (.int (Int32.ofNat of)), (.ref b), (.ref a3)])) _
    refine st6.trans ?_
    show Steps p.tables e below (T6.setTop (mkF m 18 #[.val (.ref a1), .val (.int (Int32.ofNat of)), .val (.ref a3)] [])) _
    exact X6.returnOut hx Bd.returns (hb hby k41_18) hr
  · show QW Z b kb (Int32.ofNat zz) (vd ++ (ds.map own_lo)) h0 n0 _ T6.heap _
    exact ⟨rfl, N6a, K1, Pb6⟩
theorem rmPu1 (l : Launch) (Z : State) (a0 : Array Value) (hw : HW a0 Z) (ws : List Jvm.Cond) (a1 a3 b : Addr) (kb : ClassId) (ds : List Int32) (h0 : Heap) (n0 : Nat) (Z0 : n0 ≤ h0.size) (hG : GST Z) (O0 : Old Z n0 h0) (B_a1 : SBF Z h0 a1 (0 : Int32) (0 : Int32) (64 : Int32) [] b kb) (g_a1 : n0 ≤ a1) (S_a3 : StrU Z h0 a3 ds) (hlw : ∃ c ∈ ds, (255 : Int32) < c) (hds : ds.length = 64) :
    Met l Z ws m42_ jdk_68_method_73_code 3 none ({ frames := 7, cells := 1, slots := 260, locals := 102 } : Room) h0 #[(.ref a1), (.int (0 : Int32)), (.ref a3)] (QSB Z none a1 1 0 (Int32.ofNat (2 * 64)) (wideBytes ds) h0 n0) := by
  refine MetFree.of_bodySF (plainFor_of_name pn5_) hisR ?_
  intro p e s m args below meth c s₁ Bd hml0 hP hK
  obtain ⟨rfl, hZ, hh⟩ := hP
  have hx := Bd.exec
  have hby := Bd.bytes
  have hml : c.maxLocals = 3 := hml0
  have hown : s.vm.findClass "java/lang/AbstractStringBuilder" = some m.cls := findClass_of_methodNamed Bd.named
  have X0 : Stand p l e ({ frames := 7, cells := 1, slots := 260, locals := 102 } : Room) s m #[(.ref a1), (.int (0 : Int32)), (.ref a3)] below meth c s₁ [] 0 0 := Stand.of_body Bd
  have e0 : s₁.heap = h0 := by rw [← hh, Bd.state]; rfl
  have N0 := Fr.nil n0
  have pre0 : ∀ t, Steps p.tables e below (s₁.setTop (mkF m 0 #[.val (.ref a1), .val (.int (0 : Int32)), .val (.ref a3)] [])) t → Steps p.tables e below (s₁.setTop (entryFrame m #[(.ref a1), (.int (0 : Int32)), (.ref a3)] 3)) t := fun t k => castTop (ef41_ m a1 (0 : Int32) a3) k
  obtain ⟨⟨G1, O2, P5⟩, ⟨G3, O4, rG3⟩, Sa, Sh, Sl⟩ := id hG
  obtain ⟨bE1, bV1, bC1, bN1, bM1, bA1⟩ := id B_a1
  obtain ⟨sb2, sk2, sE2, sV2, sC2, sA2⟩ := StrU.formW (z := (Int32.ofNat (2 * ds.length))) S_a3 hlw rfl
  obtain ⟨cq3, q3, q3'⟩ := bE1.cell
  obtain ⟨_, _, ⟨T3, L3, k3, n3⟩, -, X3, ⟨Lc3, hQ3, l3, y3, z3⟩, st3⟩ := X0.privateBack hx (y := m40_) hown (mvT hZ (wt hw 176 rfl)) (mvT hZ (wt hw 177 rfl)) (own_selSelf (mvT hZ (wt hw 177 rfl)) (Cond.privateMethod_at (mvP hZ (wt hw 178 rfl) (args := #[]))) (notFace_of_selects (args := #[]) (mvT hZ (wt hw 179 rfl))) (by decide)) (Cond.privateMethod_at (mvP hZ (wt hw 178 rfl) (args := #[]))) (mvT hZ (wt hw 180 rfl)) (by decide) (backOf (W := 0) (rmIn01 l Z a0 hw [] a1 a3 b kb h0 n0 (Nat.le_trans Z0 (Keep.refl h0 [a1]).1) hG O0 ⟨bE1, bV1, bC1, bN1, bM1, bA1⟩ g_a1 sE2 sC2) hZ (wt hw 180 rfl) (wt hw 83 rfl) (by decide) (by decide)) (g := (mkF m 2 #[.val (.ref a1), .val (.int (0 : Int32)), .val (.ref a3)] [(.ref a3), (.ref a1)])) rfl (by rw [hml]; rfl) (Steps.refl _) (a := a1) (by rw [e0]; exact q3) q3' (argsL := [(.ref a3)]) (rest := []) (lenOf pd26_ rfl) rfl (by show 2 * 0 + _ ≤ _; exact Nat.le_of_eq rfl) (hb hby k41_2) (fun _ _ => ⟨rfl, e0, (by decide : 0 + 1 ≤ _), (by decide : 0 + 260 ≤ _)⟩)
  dsimp only [Pt.U, Pt.locs, Pt.cells, Pt.slots] at X3 l3 y3 z3 st3 hQ3
  rw [l3] at X3
  clear l3; subst y3 z3
  obtain ⟨t3, tk3, rfl, N3q, K3q, ts3, Sb3⟩ := hQ3
  have N3a := Fr.app N0 N3q
  have K1 : Keep h0 T3.heap [a1] := (Keep.refl h0 [a1]).trans K3q (allS (Or.inl (List.mem_of_getElem? (i := 0) rfl)) all0)
  have sz_t3 : h0.size ≤ t3 := Nat.le_trans (Keep.refl h0 [a1]).1 ts3
  have g_t3 : n0 ≤ t3 := Nat.le_trans Z0 sz_t3
  obtain ⟨bE4, bV4, bC4, bN4, bM4, bA4⟩ := id Sb3
  obtain ⟨T5, X5, e5, st5⟩ := getF X3 hx hZ hown (host := "") (Or.inl (wt hw 87 rfl)) Via.refl rfl bV4 (g := (mkF m 7 #[.val (.ref a1), .val (.int (0 : Int32)), .val (.ref a3)] [(.ref a1), (.ref a3)])) rfl rfl (hb hby k41_7)
  obtain ⟨T6, X6, e6, st6⟩ := getF X5 hx hZ hown (host := "") (Or.inl (wt hw 89 rfl)) Via.refl e5 bC4 (g := (mkF m 12 #[.val (.ref a1), .val (.int (0 : Int32)), .val (.ref a3)] [(.ref a1), (.int (0 : Int32)), (.ref t3), (.ref a3)])) rfl rfl (hb hby k41_12)
  have f8 : Old Z n0 T3.heap := (O0.keep K3q (allS g_a1 all0))
  have f9 : StrU Z T3.heap a3 ds := (S_a3.keep ((Keep.refl h0 [a1]).trans K3q (allS (Or.inl (List.mem_of_getElem? (i := 0) rfl)) all0)) (allS (Or.inr ⟨_, _, _, bE1, (by decide), (wt hw 74 rfl)⟩) all0))
  obtain ⟨cq7, kq7, q7a, q7b, q7c⟩ := isOf hZ e6 f9.exa
  obtain ⟨_, _, ⟨T7, L7, k7, n7⟩, -, X7, ⟨Lc7, hQ7, l7, y7, z7⟩, st7⟩ := X6.virtualBack hx (y := m41_) (z := m41_) hown (mvT hZ (wt hw 182 rfl)) (mvT hZ (wt hw 183 rfl)) (notFace_of_selects (args := #[]) (mvT hZ (wt hw 185 rfl))) (mvT hZ (wt hw 185 rfl)) (mvT hZ (wt hw 184 rfl)) (by decide) (backOf (W := 0) (rmGb1 l Z a0 hw [] a3 t3 tk3 0 (2 * 64) [] ds T3.heap n0 (Nat.le_trans Z0 K1.1) hG f8 f9 hlw bA4 rfl (by omega) (by decide) g_t3) hZ (wt hw 186 rfl) (wt hw 4 rfl) (by decide) (by decide)) q7a q7c (g := (mkF m 15 #[.val (.ref a1), .val (.int (0 : Int32)), .val (.ref a3)] [(.int (1 : Int32)), (.int (0 : Int32)), (.ref t3), (.ref a3)])) rfl (by rw [hml]; rfl) (Steps.refl _) (argsL := [(.ref t3), (.int (0 : Int32)), (.int (1 : Int32))]) (rest := []) (lenOf pd27_ rfl) rfl (by show 2 * 0 + _ ≤ _; exact Nat.le_of_eq rfl) (hb hby k41_15) (fun _ _ => ⟨rfl, e6, (by decide : 1 + 0 ≤ _), (by decide : 260 + 0 ≤ _)⟩)
  dsimp only [Pt.U, Pt.locs, Pt.cells, Pt.slots] at X7 l7 y7 z7 st7 hQ7
  rw [l7] at X7
  clear l7; subst y7 z7
  obtain ⟨rfl, N7q, K7q, Pb7⟩ := hQ7
  have N7a := Fr.app N3a N7q
  have K2 : Keep h0 T7.heap [a1] := K1.trans K7q (allS (Or.inr sz_t3) all0)
  have f10 : Exa Z T7.heap a1 "java/lang/StringBuilder" := (bE4.keep K7q)
  have f11 : Fld Z T7.heap a1 "java/lang/AbstractStringBuilder" "value" "[B" (.ref t3) := (bV4.keep K7q (ninS (Nat.ne_of_lt (Nat.lt_of_lt_of_le bE1.lt ts3)) nin0))
  have f12 : Fld Z T7.heap a1 "java/lang/AbstractStringBuilder" "coder" "B" (.int (1 : Int32)) := (bC4.keep K7q (ninS (Nat.ne_of_lt (Nat.lt_of_lt_of_le bE1.lt ts3)) nin0))
  have f13 : Fld Z T7.heap a1 "java/lang/AbstractStringBuilder" "count" "I" (.int (0 : Int32)) := (bN4.keep K7q (ninS (Nat.ne_of_lt (Nat.lt_of_lt_of_le bE1.lt ts3)) nin0))
  have f14 : Fld Z T7.heap a1 "java/lang/AbstractStringBuilder" "maybeLatin1" "Z" (.int (0 : Int32)) := (bM4.keep K7q (ninS (Nat.ne_of_lt (Nat.lt_of_lt_of_le bE1.lt ts3)) nin0))
  obtain ⟨fs, hr, hrun, hended, hW, hsame⟩ := X7.leave (v := none) (fun _ => rfl)
  refine ⟨_, _, pre0 _ ?_, hrun, hended, _, _, rfl, ?_, ⟨_, rfl⟩, hW, hsame.mono (by decide) (by decide)⟩
  · show Steps p.tables e below (s₁.setTop (mkF m 0 #[.val (.ref a1), .val (.int (0 : Int32)), .val (.ref a3)] [])) _
    refine XS.aloadN X0.here hx rfl (hb hby k41_0) rfl rfl ?_
    refine XS.aloadN X0.here hx rfl (hb hby k41_1) rfl rfl ?_
    show Steps p.tables e below (s₁.setTop (mkF m 2 #[.val (.ref a1), .val (.int (0 : Int32)), .val (.ref a3)] [(.ref a3), (.ref a1)])) _
    refine st3.trans ?_
    refine XS.aloadN X3.here hx rfl (hb hby k41_5) rfl rfl ?_
    refine XS.aloadN X3.here hx rfl (hb hby k41_6) rfl rfl ?_
    show Steps p.tables e below (T3.setTop (mkF m 7 #[.val (.ref a1), .val (.int (0 : Int32)), .val (.ref a3)] [(.ref a1), (.ref a3)])) _
    refine st5 _ ?_
    refine XS.iloadN X5.here hx rfl (hb hby k41_10) rfl ?_
    refine XS.aloadN X5.here hx rfl (hb hby k41_11) rfl rfl ?_
    show Steps p.tables e below (T5.setTop (mkF m 12 #[.val (.ref a1), .val (.int (0 : Int32)), .val (.ref a3)] [(.ref a1), (.int (0 : Int32)), (.ref t3), (.ref a3)])) _
    refine st6 _ ?_
    show Steps p.tables e below (T6.setTop (mkF m 15 #[.val (.ref a1), .val (.int (0 : Int32)), .val (.ref a3)] [(.int (1 : Int32)), (.int (0 : Int32)), (.ref t3), (.ref a3)])) _
    refine st7.trans ?_
    show Steps p.tables e below (T7.setTop (mkF m 18 #[.val (.ref a1), .val (.int (0 : Int32)), .val (.ref a3)] [])) _
    exact X7.returnOut hx Bd.returns (hb hby k41_18) hr
  · show QSB Z none a1 1 0 (Int32.ofNat (2 * 64)) (wideBytes ds) h0 n0 _ T7.heap _
    exact ⟨t3, tk3, rfl, N7a, K2, sz_t3, ⟨f10, f11, f12, f13, f14, Pb7⟩⟩
theorem rmPu3 (l : Launch) (Z : State) (a0 : Array Value) (hw : HW a0 Z) (ws : List Jvm.Cond) (a1 a3 b : Addr) (kb : ClassId) (cnt : Int32) (es : List Int32) (h0 : Heap) (n0 : Nat) (Z0 : n0 ≤ h0.size) (hG : GST Z) (O0 : Old Z n0 h0) (B_a1 : SBF Z h0 a1 (1 : Int32) cnt (Int32.ofNat (2 * 130)) (wideBytes es) b kb) (g_a1 : n0 ≤ a1) (S_a3 : StrU Z h0 a3 own_dots) (hes : es.length = 64) (g_b : n0 ≤ b) :
    Met l Z ws m42_ jdk_68_method_73_code 3 none ({ frames := 7, cells := 0, slots := 0, locals := 102 } : Room) h0 #[(.ref a1), (.int (Int32.ofNat 64)), (.ref a3)] (QW Z b kb (Int32.ofNat (2 * 130)) (wideBytes (es ++ own_dots)) h0 n0) := by
  refine MetFree.of_bodySF (plainFor_of_name pn5_) hisR ?_
  intro p e s m args below meth c s₁ Bd hml0 hP hK
  obtain ⟨rfl, hZ, hh⟩ := hP
  have hx := Bd.exec
  have hby := Bd.bytes
  have hml : c.maxLocals = 3 := hml0
  have hown : s.vm.findClass "java/lang/AbstractStringBuilder" = some m.cls := findClass_of_methodNamed Bd.named
  have X0 : Stand p l e ({ frames := 7, cells := 0, slots := 0, locals := 102 } : Room) s m #[(.ref a1), (.int (Int32.ofNat 64)), (.ref a3)] below meth c s₁ [] 0 0 := Stand.of_body Bd
  have e0 : s₁.heap = h0 := by rw [← hh, Bd.state]; rfl
  have N0 := Fr.nil n0
  have pre0 : ∀ t, Steps p.tables e below (s₁.setTop (mkF m 0 #[.val (.ref a1), .val (.int (Int32.ofNat 64)), .val (.ref a3)] [])) t → Steps p.tables e below (s₁.setTop (entryFrame m #[(.ref a1), (.int (Int32.ofNat 64)), (.ref a3)] 3)) t := fun t k => castTop (ef41_ m a1 (Int32.ofNat 64) a3) k
  obtain ⟨⟨G1, O2, P5⟩, ⟨G3, O4, rG3⟩, Sa, Sh, Sl⟩ := id hG
  obtain ⟨bE1, bV1, bC1, bN1, bM1, bA1⟩ := id B_a1
  obtain ⟨sb2, sk2, sE2, sV2, sC2, sA2⟩ := StrU.formL (z := (3 : Int32)) S_a3 own_dots_lat rfl
  obtain ⟨cq3, q3, q3'⟩ := bE1.cell
  obtain ⟨_, _, ⟨T3, L3, k3, n3⟩, -, X3, ⟨Lc3, hQ3, l3, y3, z3⟩, st3⟩ := X0.privateBack hx (y := m40_) hown (mvT hZ (wt hw 176 rfl)) (mvT hZ (wt hw 177 rfl)) (own_selSelf (mvT hZ (wt hw 177 rfl)) (Cond.privateMethod_at (mvP hZ (wt hw 178 rfl) (args := #[]))) (notFace_of_selects (args := #[]) (mvT hZ (wt hw 179 rfl))) (by decide)) (Cond.privateMethod_at (mvP hZ (wt hw 178 rfl) (args := #[]))) (mvT hZ (wt hw 180 rfl)) (by decide) (backOf (W := 0) (rmIn10 l Z a0 hw [] a1 a3 h0 n0 (Nat.le_trans Z0 (Keep.refl h0 [b]).1) hG O0 bE1 bC1 sE2 sC2) hZ (wt hw 180 rfl) (wt hw 83 rfl) (by decide) (by decide)) (g := (mkF m 2 #[.val (.ref a1), .val (.int (Int32.ofNat 64)), .val (.ref a3)] [(.ref a3), (.ref a1)])) rfl (by rw [hml]; rfl) (Steps.refl _) (a := a1) (by rw [e0]; exact q3) q3' (argsL := [(.ref a3)]) (rest := []) (lenOf pd26_ rfl) rfl (by show 2 * 0 + _ ≤ _; exact Nat.le_of_eq rfl) (hb hby k41_2) (fun _ _ => ⟨rfl, e0, (by decide : 0 + 0 ≤ _), (by decide : 0 + 0 ≤ _)⟩)
  dsimp only [Pt.U, Pt.locs, Pt.cells, Pt.slots] at X3 l3 y3 z3 st3 hQ3
  rw [l3] at X3
  clear l3; subst y3 z3
  obtain ⟨rfl, N3q, e3q⟩ := hQ3
  have N3a := Fr.app N0 N3q
  obtain ⟨T4, X4, e4, st4⟩ := getF X3 hx hZ hown (host := "") (Or.inl (wt hw 87 rfl)) Via.refl e3q bV1 (g := (mkF m 7 #[.val (.ref a1), .val (.int (Int32.ofNat 64)), .val (.ref a3)] [(.ref a1), (.ref a3)])) rfl rfl (hb hby k41_7)
  obtain ⟨T5, X5, e5, st5⟩ := getF X4 hx hZ hown (host := "") (Or.inl (wt hw 89 rfl)) Via.refl e4 bC1 (g := (mkF m 12 #[.val (.ref a1), .val (.int (Int32.ofNat 64)), .val (.ref a3)] [(.ref a1), (.int (Int32.ofNat 64)), (.ref b), (.ref a3)])) rfl rfl (hb hby k41_12)
  obtain ⟨cq6, kq6, q6a, q6b, q6c⟩ := isOf hZ e5 S_a3.exa
  obtain ⟨_, _, ⟨T6, L6, k6, n6⟩, -, X6, ⟨Lc6, hQ6, l6, y6, z6⟩, st6⟩ := X5.virtualBack hx (y := m41_) (z := m41_) hown (mvT hZ (wt hw 182 rfl)) (mvT hZ (wt hw 183 rfl)) (notFace_of_selects (args := #[]) (mvT hZ (wt hw 185 rfl))) (mvT hZ (wt hw 185 rfl)) (mvT hZ (wt hw 184 rfl)) (by decide) (backOf (W := 0) (rmGb3 l Z a0 hw [] a3 b kb es h0 n0 (Nat.le_trans Z0 (Keep.refl h0 [b]).1) hG O0 S_a3 bA1 hes g_b (Or.inr trivial) (fun x kx vx zx A_ e_ => arv_ne A_ bA1 (Or.inl (by rw [e_]; decide)))) hZ (wt hw 186 rfl) (wt hw 4 rfl) (by decide) (by decide)) q6a q6c (g := (mkF m 15 #[.val (.ref a1), .val (.int (Int32.ofNat 64)), .val (.ref a3)] [(.int (1 : Int32)), (.int (Int32.ofNat 64)), (.ref b), (.ref a3)])) rfl (by rw [hml]; rfl) (Steps.refl _) (argsL := [(.ref b), (.int (Int32.ofNat 64)), (.int (1 : Int32))]) (rest := []) (lenOf pd27_ rfl) rfl (by show 2 * 0 + _ ≤ _; exact Nat.le_of_eq rfl) (hb hby k41_15) (fun _ _ => ⟨rfl, e5, (by decide : 0 + 0 ≤ _), (by decide : 0 + 0 ≤ _)⟩)
  dsimp only [Pt.U, Pt.locs, Pt.cells, Pt.slots] at X6 l6 y6 z6 st6 hQ6
  rw [l6] at X6
  clear l6; subst y6 z6
  obtain ⟨rfl, N6q, K6q, Pb6⟩ := hQ6
  have N6a := Fr.app N3a N6q
  have K1 : Keep h0 T6.heap [b] := (Keep.refl h0 [b]).trans K6q (allS (Or.inl (List.mem_of_getElem? (i := 0) rfl)) all0)
  obtain ⟨fs, hr, hrun, hended, hW, hsame⟩ := X6.leave (v := none) (fun _ => rfl)
  refine ⟨_, _, pre0 _ ?_, hrun, hended, _, _, rfl, ?_, ⟨_, rfl⟩, hW, hsame.mono (by decide) (by decide)⟩
  · show Steps p.tables e below (s₁.setTop (mkF m 0 #[.val (.ref a1), .val (.int (Int32.ofNat 64)), .val (.ref a3)] [])) _
    refine XS.aloadN X0.here hx rfl (hb hby k41_0) rfl rfl ?_
    refine XS.aloadN X0.here hx rfl (hb hby k41_1) rfl rfl ?_
    show Steps p.tables e below (s₁.setTop (mkF m 2 #[.val (.ref a1), .val (.int (Int32.ofNat 64)), .val (.ref a3)] [(.ref a3), (.ref a1)])) _
    refine st3.trans ?_
    refine XS.aloadN X3.here hx rfl (hb hby k41_5) rfl rfl ?_
    refine XS.aloadN X3.here hx rfl (hb hby k41_6) rfl rfl ?_
    show Steps p.tables e below (T3.setTop (mkF m 7 #[.val (.ref a1), .val (.int (Int32.ofNat 64)), .val (.ref a3)] [(.ref a1), (.ref a3)])) _
    refine st4 _ ?_
    refine XS.iloadN X4.here hx rfl (hb hby k41_10) rfl ?_
    refine XS.aloadN X4.here hx rfl (hb hby k41_11) rfl rfl ?_
    show Steps p.tables e below (T4.setTop (mkF m 12 #[.val (.ref a1), .val (.int (Int32.ofNat 64)), .val (.ref a3)] [(.ref a1), (.int (Int32.ofNat 64)), (.ref b), (.ref a3)])) _
    refine st5 _ ?_
    show Steps p.tables e below (T5.setTop (mkF m 15 #[.val (.ref a1), .val (.int (Int32.ofNat 64)), .val (.ref a3)] [(.int (1 : Int32)), (.int (Int32.ofNat 64)), (.ref b), (.ref a3)])) _
    refine st6.trans ?_
    show Steps p.tables e below (T6.setTop (mkF m 18 #[.val (.ref a1), .val (.int (Int32.ofNat 64)), .val (.ref a3)] [])) _
    exact X6.returnOut hx Bd.returns (hb hby k41_18) hr
  · show QW Z b kb (Int32.ofNat (2 * 130)) (wideBytes (es ++ own_dots)) h0 n0 _ T6.heap _
    exact ⟨rfl, N6a, K1, Pb6⟩
theorem k42_0 : decode c42_ 0 = .ok (.aload_n 1, 1) := by decide +kernel
theorem k42_1 : decode c42_ 1 = .ok (.ifnonnull 8, 3) := by decide +kernel
theorem k42_9 : decode c42_ 9 = .ok (.aload_n 1, 1) := by decide +kernel
theorem k42_10 : decode c42_ 10 = .ok (.invokevirtual 32, 3) := by decide +kernel
theorem k42_13 : decode c42_ 13 = .ok (.istore_n 2, 1) := by decide +kernel
theorem k42_14 : decode c42_ 14 = .ok (.aload_n 0, 1) := by decide +kernel
theorem k42_15 : decode c42_ 15 = .ok (.aload_n 0, 1) := by decide +kernel
theorem k42_16 : decode c42_ 16 = .ok (.getfield 79, 3) := by decide +kernel
theorem k42_19 : decode c42_ 19 = .ok (.iload_n 2, 1) := by decide +kernel
theorem k42_20 : decode c42_ 20 = .ok (.iadd, 1) := by decide +kernel
theorem k42_21 : decode c42_ 21 = .ok (.invokevirtual 100, 3) := by decide +kernel
theorem k42_24 : decode c42_ 24 = .ok (.aload_n 0, 1) := by decide +kernel
theorem k42_25 : decode c42_ 25 = .ok (.aload_n 0, 1) := by decide +kernel
theorem k42_26 : decode c42_ 26 = .ok (.getfield 79, 3) := by decide +kernel
theorem k42_29 : decode c42_ 29 = .ok (.aload_n 1, 1) := by decide +kernel
theorem k42_30 : decode c42_ 30 = .ok (.invokevirtual 208, 3) := by decide +kernel
theorem k42_33 : decode c42_ 33 = .ok (.aload_n 0, 1) := by decide +kernel
theorem k42_34 : decode c42_ 34 = .ok (.dup, 1) := by decide +kernel
theorem k42_35 : decode c42_ 35 = .ok (.getfield 79, 3) := by decide +kernel
theorem k42_38 : decode c42_ 38 = .ok (.iload_n 2, 1) := by decide +kernel
theorem k42_39 : decode c42_ 39 = .ok (.iadd, 1) := by decide +kernel
theorem k42_40 : decode c42_ 40 = .ok (.putfield 79, 3) := by decide +kernel
theorem k42_43 : decode c42_ 43 = .ok (.aload_n 0, 1) := by decide +kernel
theorem k42_44 : decode c42_ 44 = .ok (.areturn, 1) := by decide +kernel
theorem pd28_ : parseMethodDescriptor "(ILjava/lang/String;)V" = some ⟨[.int, (.object "java/lang/String")], none⟩ := by decide +kernel
theorem ef42_ (m : MethodId) (x0 : Addr) (x1 : Addr) : entryFrame m #[(.ref x0), (.ref x1)] 3 = mkF m 0 #[.val (.ref x0), .val (.ref x1), .unset] [] := by first | (simp [entryFrame, mkF, argsToLocals, Value.category]; done) | rfl
theorem rmAa1 (l : Launch) (Z : State) (a0 : Array Value) (hw : HW a0 Z) (ws : List Jvm.Cond) (a1 a2 b : Addr) (kb : ClassId) (ds : List Int32) (h0 : Heap) (n0 : Nat) (Z0 : n0 ≤ h0.size) (hG : GST Z) (O0 : Old Z n0 h0) (B_a1 : SBF Z h0 a1 (0 : Int32) (0 : Int32) (16 : Int32) [] b kb) (g_a1 : n0 ≤ a1) (S_a2 : StrU Z h0 a2 ds) (hlw : ∀ c ∈ ds, ¬ (255 : Int32) < c) (hds : ds.length = 64) :
    Met l Z ws m43_ jdk_68_method_22_code 3 (some (.object "java/lang/AbstractStringBuilder")) ({ frames := 8, cells := 2, slots := 520, locals := 116 } : Room) h0 #[(.ref a1), (.ref a2)] (QSB Z (some (.ref a1)) a1 (0 : Int32) (64 : Int32) (64 : Int32) (ds.map own_lo) h0 n0) := by
  refine MetFree.of_bodySF (plainFor_of_name pn5_) hisR ?_
  intro p e s m args below meth c s₁ Bd hml0 hP hK
  obtain ⟨rfl, hZ, hh⟩ := hP
  have hx := Bd.exec
  have hby := Bd.bytes
  have hml : c.maxLocals = 3 := hml0
  have hown : s.vm.findClass "java/lang/AbstractStringBuilder" = some m.cls := findClass_of_methodNamed Bd.named
  have X0 : Stand p l e ({ frames := 8, cells := 2, slots := 520, locals := 116 } : Room) s m #[(.ref a1), (.ref a2)] below meth c s₁ [] 0 0 := Stand.of_body Bd
  have e0 : s₁.heap = h0 := by rw [← hh, Bd.state]; rfl
  have N0 := Fr.nil n0
  have pre0 : ∀ t, Steps p.tables e below (s₁.setTop (mkF m 0 #[.val (.ref a1), .val (.ref a2), .unset] [])) t → Steps p.tables e below (s₁.setTop (entryFrame m #[(.ref a1), (.ref a2)] 3)) t := fun t k => castTop (ef42_ m a1 a2) k
  obtain ⟨⟨G1, O2, P5⟩, ⟨G3, O4, rG3⟩, Sa, Sh, Sl⟩ := id hG
  obtain ⟨bE1, bV1, bC1, bN1, bM1, bA1⟩ := id B_a1
  obtain ⟨sb3, sk3, sd3, sN3, sv3, sE3, sV3, sC3, sA3, sc3, su3⟩ := id S_a2
  obtain ⟨cq2, kq2, q2a, q2b, q2c⟩ := isOf hZ e0 S_a2.exa
  obtain ⟨_, _, ⟨T2, L2, k2, n2⟩, -, X2, ⟨Lc2, hQ2, l2, y2, z2⟩, st2⟩ := X0.virtualBack hx (y := m28_) (z := m28_) hown (mvT hZ (wt hw 146 rfl)) (mvT hZ (wt hw 28 rfl)) (notFace_of_selects (args := #[]) (mvT hZ (wt hw 30 rfl))) (mvT hZ (wt hw 30 rfl)) (mvT hZ (wt hw 29 rfl)) (by decide) (StrChars.Road.lenW (W := 0) hZ (own_hlen hw) (kI := 4) (wt hw 3 rfl) sE3 sV3 sC3 sA3 sc3 su3 (O2.ext O0.2) P5 (by omega) (by decide) (by decide)) q2a q2c (g := (mkF m 10 #[.val (.ref a1), .val (.ref a2), .unset] [(.ref a2)])) rfl (by rw [hml]; rfl) (Steps.refl _) (argsL := []) (rest := []) (lenOf pd17_ rfl) rfl (by show 2 * 0 + _ ≤ _; exact Nat.le_of_eq rfl) (hb hby k42_10) (fun _ _ => ⟨rfl, e0, (by decide : 0 + 0 ≤ _), (by decide : 0 + 0 ≤ _)⟩)
  dsimp only [Pt.U, Pt.locs, Pt.cells, Pt.slots] at X2 l2 y2 z2 st2 hQ2
  rw [l2] at X2
  clear l2; subst y2 z2
  obtain ⟨rfl, rfl, e2q⟩ := hQ2
  have N2a := Fr.app N0 (Fr.nil n0)
  obtain ⟨T4, X4, e4, st4⟩ := getF X2 hx hZ hown (host := "") (Or.inl (wt hw 147 rfl)) Via.refl e2q bN1 (g := (mkF m 16 #[.val (.ref a1), .val (.ref a2), .val (.int (Int32.ofNat 64))] [(.ref a1), (.ref a1)])) rfl rfl (hb hby k42_16)
  obtain ⟨cq5, q5, q5'⟩ := bE1.cell
  obtain ⟨_, _, ⟨T5, L5, k5, n5⟩, -, X5, ⟨Lc5, hQ5, l5, y5, z5⟩, st5⟩ := X4.privateBack hx (y := m34_) hown (mvT hZ (wt hw 149 rfl)) (mvT hZ (wt hw 150 rfl)) (own_selSelf (mvT hZ (wt hw 150 rfl)) (Cond.privateMethod_at (mvP hZ (wt hw 151 rfl) (args := #[]))) (notFace_of_selects (args := #[]) (mvT hZ (wt hw 152 rfl))) (by decide)) (Cond.privateMethod_at (mvP hZ (wt hw 151 rfl) (args := #[]))) (mvT hZ (wt hw 153 rfl)) (by decide) (backOf (W := 0) (rmEn l Z a0 hw [] a1 b kb (0 : Int32) (0 : Int32) (16 : Int32) (64 : Int32) (64 : Int32) (48 : Int32) (2 : Int32) (18 : Int32) (48 : Int32) (64 : Int32) (64 : Int32) [] 16 64 (16 : Int32) (48 : Int32) h0 n0 (Nat.le_trans Z0 (Keep.refl h0 [a1]).1) ⟨bE1, bV1, bC1, bN1, bM1, bA1⟩ g_a1 (by decide) (by decide) (by decide) (by decide) (by decide) (by decide) (by decide) (by decide) (by decide) (by decide) (by simp) rfl rfl (by decide) (by decide) (by decide) (by decide) (by decide) (by decide)) hZ (wt hw 153 rfl) (wt hw 83 rfl) (by decide) (by decide)) (g := (mkF m 21 #[.val (.ref a1), .val (.ref a2), .val (.int (Int32.ofNat 64))] [(.int (64 : Int32)), (.ref a1)])) rfl (by rw [hml]; rfl) (Steps.refl _) (a := a1) (by rw [e4]; exact q5) q5' (argsL := [(.int (64 : Int32))]) (rest := []) (lenOf pd21_ rfl) rfl (by show 2 * 0 + _ ≤ _; exact Nat.le_of_eq rfl) (hb hby k42_21) (fun _ _ => ⟨rfl, e4, (by decide : 0 + 1 ≤ _), (by decide : 0 + 260 ≤ _)⟩)
  dsimp only [Pt.U, Pt.locs, Pt.cells, Pt.slots] at X5 l5 y5 z5 st5 hQ5
  rw [l5] at X5
  clear l5; subst y5 z5
  obtain ⟨t5, tk5, rfl, N5q, K5q, ts5, Sb5⟩ := hQ5
  have N5a := Fr.app N2a N5q
  have K1 : Keep h0 T5.heap [a1] := (Keep.refl h0 [a1]).trans K5q (allS (Or.inl (List.mem_of_getElem? (i := 0) rfl)) all0)
  have sz_t5 : h0.size ≤ t5 := Nat.le_trans (Keep.refl h0 [a1]).1 ts5
  have g_t5 : n0 ≤ t5 := Nat.le_trans Z0 sz_t5
  obtain ⟨bE6, bV6, bC6, bN6, bM6, bA6⟩ := id Sb5
  obtain ⟨T7, X7, e7, st7⟩ := getF X5 hx hZ hown (host := "") (Or.inl (wt hw 147 rfl)) Via.refl rfl bN6 (g := (mkF m 26 #[.val (.ref a1), .val (.ref a2), .val (.int (Int32.ofNat 64))] [(.ref a1), (.ref a1)])) rfl rfl (hb hby k42_26)
  have f9 : Old Z n0 T5.heap := (O0.keep K5q (allS g_a1 all0))
  have f10 : StrU Z T5.heap a2 ds := (S_a2.keep ((Keep.refl h0 [a1]).trans K5q (allS (Or.inl (List.mem_of_getElem? (i := 0) rfl)) all0)) (allS (Or.inr ⟨_, _, _, bE1, (by decide), (wt hw 74 rfl)⟩) all0))
  obtain ⟨cq8, q8, q8'⟩ := bE6.cell
  obtain ⟨_, _, ⟨T8, L8, k8, n8⟩, -, X8, ⟨Lc8, hQ8, l8, y8, z8⟩, st8⟩ := X7.privateBack hx (y := m42_) hown (mvT hZ (wt hw 171 rfl)) (mvT hZ (wt hw 172 rfl)) (own_selSelf (mvT hZ (wt hw 172 rfl)) (Cond.privateMethod_at (mvP hZ (wt hw 173 rfl) (args := #[]))) (notFace_of_selects (args := #[]) (mvT hZ (wt hw 174 rfl))) (by decide)) (Cond.privateMethod_at (mvP hZ (wt hw 173 rfl) (args := #[]))) (mvT hZ (wt hw 175 rfl)) (by decide) (backOf (W := 0) (rmPu0 l Z a0 hw [] a1 a2 t5 tk5 (0 : Int32) 0 64 [] ds T5.heap n0 (Nat.le_trans Z0 K1.1) hG f9 ⟨bE6, bV6, bC6, bN6, bM6, bA6⟩ g_a1 f10 hlw rfl (by omega) (by decide) g_t5) hZ (wt hw 175 rfl) (wt hw 83 rfl) (by decide) (by decide)) (g := (mkF m 30 #[.val (.ref a1), .val (.ref a2), .val (.int (Int32.ofNat 64))] [(.ref a2), (.int (0 : Int32)), (.ref a1)])) rfl (by rw [hml]; rfl) (Steps.refl _) (a := a1) (by rw [e7]; exact q8) q8' (argsL := [(.int (0 : Int32)), (.ref a2)]) (rest := []) (lenOf pd28_ rfl) rfl (by show 2 * 0 + _ ≤ _; exact Nat.le_of_eq rfl) (hb hby k42_30) (fun _ _ => ⟨rfl, e7, (by decide : 1 + 0 ≤ _), (by decide : 260 + 0 ≤ _)⟩)
  dsimp only [Pt.U, Pt.locs, Pt.cells, Pt.slots] at X8 l8 y8 z8 st8 hQ8
  rw [l8] at X8
  clear l8; subst y8 z8
  obtain ⟨rfl, N8q, K8q, Pw8⟩ := hQ8
  have N8a := Fr.app N5a N8q
  have K2 : Keep h0 T8.heap [a1] := K1.trans K8q (allS (Or.inr sz_t5) all0)
  have f11 : Fld Z T8.heap a1 "java/lang/AbstractStringBuilder" "count" "I" (.int (0 : Int32)) := (bN6.keep K8q (ninS (Nat.ne_of_lt (Nat.lt_of_lt_of_le bE1.lt ts5)) nin0))
  obtain ⟨T12, X12, e12, st12⟩ := getF X8 hx hZ hown (host := "") (Or.inl (wt hw 147 rfl)) Via.refl rfl f11 (g := (mkF m 35 #[.val (.ref a1), .val (.ref a2), .val (.int (Int32.ofNat 64))] [(.ref a1), (.ref a1)])) rfl rfl (hb hby k42_35)
  have f13 : Exa Z T8.heap a1 "java/lang/StringBuilder" := (bE6.keep K8q)
  obtain ⟨T14, h14, X14, e14, W14, st14⟩ := putF X12 hx hZ hown (host := "") (Or.inl (wt hw 147 rfl)) Via.refl e12 f11 f13 (Or.inl (wt hw 148 rfl)) (wt hw 74 rfl) (ty := .int) (by decide) rfl rfl (g := (mkF m 40 #[.val (.ref a1), .val (.ref a2), .val (.int (Int32.ofNat 64))] [(.int (64 : Int32)), (.ref a1)])) rfl rfl (hb hby k42_40)
  have Fw14 := f11.same W14
  have Nf14 := Fr.snoc X14 N8a g_a1
  have K3 : Keep h0 h14 [a1] := K2.wr W14 (Or.inl (List.mem_of_getElem? (i := 0) rfl))
  have f15 : Exa Z h14 a1 "java/lang/StringBuilder" := (f13.wr W14)
  have f16 : Fld Z h14 a1 "java/lang/AbstractStringBuilder" "value" "[B" (.ref t5) := ((bV6.keep K8q (ninS (Nat.ne_of_lt (Nat.lt_of_lt_of_le bE1.lt ts5)) nin0)).other W14 (Or.inr (slot_ne (Or.inl (wt hw 88 rfl)) (Or.inl (wt hw 148 rfl)) (by decide) (t := (.array .byte)) (t' := .int) (by decide) (by decide))))
  have f17 : Fld Z h14 a1 "java/lang/AbstractStringBuilder" "coder" "B" (.int (0 : Int32)) := ((bC6.keep K8q (ninS (Nat.ne_of_lt (Nat.lt_of_lt_of_le bE1.lt ts5)) nin0)).other W14 (Or.inr (slot_ne (Or.inl (wt hw 90 rfl)) (Or.inl (wt hw 148 rfl)) (by decide) (t := .byte) (t' := .int) (by decide) (by decide))))
  have f18 : Fld Z h14 a1 "java/lang/AbstractStringBuilder" "maybeLatin1" "Z" (.int (0 : Int32)) := ((bM6.keep K8q (ninS (Nat.ne_of_lt (Nat.lt_of_lt_of_le bE1.lt ts5)) nin0)).other W14 (Or.inr (slot_ne (Or.inl (wt hw 265 rfl)) (Or.inl (wt hw 148 rfl)) (by decide) (t := .boolean) (t' := .int) (by decide) (by decide))))
  have f19 : Arv Z h14 t5 tk5 .byte (64 : Int32) (ds.map own_lo) (.int (0 : Int32)) := (Pw8.other W14 (Ne.symm (Nat.ne_of_lt (Nat.lt_of_lt_of_le bE1.lt ts5))))
  obtain ⟨fs, hr, hrun, hended, hW, hsame⟩ := X14.leave (v := some (.ref a1)) (fun h => by rw [Bd.returns] at h; cases h)
  refine ⟨_, _, pre0 _ ?_, hrun, hended, _, _, rfl, ?_, ⟨_, rfl⟩, hW, hsame.mono (by decide) (by decide)⟩
  · show Steps p.tables e below (s₁.setTop (mkF m 0 #[.val (.ref a1), .val (.ref a2), .unset] [])) _
    refine XS.aloadN X0.here hx rfl (hb hby k42_0) rfl rfl ?_
    show Steps p.tables e below (s₁.setTop (mkF m 1 #[.val (.ref a1), .val (.ref a2), .unset] [(.ref a2)])) _
    refine XS.ifnonnullYes X0.here hx rfl (pc0 := 1) (pc' := 9) rfl (hb hby k42_1) rfl (by decide) (by decide) ?_
    refine XS.aloadN X0.here hx rfl (hb hby k42_9) rfl rfl ?_
    show Steps p.tables e below (s₁.setTop (mkF m 10 #[.val (.ref a1), .val (.ref a2), .unset] [(.ref a2)])) _
    refine st2.trans ?_
    show Steps p.tables e below (T2.setTop (mkF m 13 #[.val (.ref a1), .val (.ref a2), .unset] [(.int (Int32.ofNat ds.length))])) _
    rw [hds]
    refine XS.istoreN X2.here hx rfl (hb hby k42_13) rfl (l' := #[.val (.ref a1), .val (.ref a2), .val (.int (Int32.ofNat 64))]) rfl ?_
    refine XS.aloadN X2.here hx rfl (hb hby k42_14) rfl rfl ?_
    refine XS.aloadN X2.here hx rfl (hb hby k42_15) rfl rfl ?_
    show Steps p.tables e below (T2.setTop (mkF m 16 #[.val (.ref a1), .val (.ref a2), .val (.int (Int32.ofNat 64))] [(.ref a1), (.ref a1)])) _
    refine st4 _ ?_
    refine XS.iloadN X4.here hx rfl (hb hby k42_19) rfl ?_
    refine XS.iadd X4.here hx rfl (hb hby k42_20) rfl ?_
    show Steps p.tables e below (T4.setTop (mkF m 21 #[.val (.ref a1), .val (.ref a2), .val (.int (Int32.ofNat 64))] [(.int ((0 : Int32) + (Int32.ofNat 64))), (.ref a1)])) _
    rw [(by decide : ((0 : Int32) + (Int32.ofNat 64)) = (64 : Int32))]
    show Steps p.tables e below (T4.setTop (mkF m 21 #[.val (.ref a1), .val (.ref a2), .val (.int (Int32.ofNat 64))] [(.int (64 : Int32)), (.ref a1)])) _
    refine st5.trans ?_
    refine XS.aloadN X5.here hx rfl (hb hby k42_24) rfl rfl ?_
    refine XS.aloadN X5.here hx rfl (hb hby k42_25) rfl rfl ?_
    show Steps p.tables e below (T5.setTop (mkF m 26 #[.val (.ref a1), .val (.ref a2), .val (.int (Int32.ofNat 64))] [(.ref a1), (.ref a1)])) _
    refine st7 _ ?_
    refine XS.aloadN X7.here hx rfl (hb hby k42_29) rfl rfl ?_
    show Steps p.tables e below (T7.setTop (mkF m 30 #[.val (.ref a1), .val (.ref a2), .val (.int (Int32.ofNat 64))] [(.ref a2), (.int (0 : Int32)), (.ref a1)])) _
    refine st8.trans ?_
    refine XS.aloadN X8.here hx rfl (hb hby k42_33) rfl rfl ?_
    refine XS.dup X8.here hx rfl (hb hby k42_34) rfl rfl ?_
    show Steps p.tables e below (T8.setTop (mkF m 35 #[.val (.ref a1), .val (.ref a2), .val (.int (Int32.ofNat 64))] [(.ref a1), (.ref a1)])) _
    refine st12 _ ?_
    refine XS.iloadN X12.here hx rfl (hb hby k42_38) rfl ?_
    refine XS.iadd X12.here hx rfl (hb hby k42_39) rfl ?_
    show Steps p.tables e below (T12.setTop (mkF m 40 #[.val (.ref a1), .val (.ref a2), .val (.int (Int32.ofNat 64))] [(.int ((0 : Int32) + (Int32.ofNat 64))), (.ref a1)])) _
    rw [(by decide : ((0 : Int32) + (Int32.ofNat 64)) = (64 : Int32))]
    show Steps p.tables e below (T12.setTop (mkF m 40 #[.val (.ref a1), .val (.ref a2), .val (.int (Int32.ofNat 64))] [(.int (64 : Int32)), (.ref a1)])) _
    refine st14 _ ?_
    refine XS.aloadN X14.here hx rfl (hb hby k42_43) rfl rfl ?_
    show Steps p.tables e below (T14.setTop (mkF m 44 #[.val (.ref a1), .val (.ref a2), .val (.int (Int32.ofNat 64))] [(.ref a1)])) _
    jvm_step X14.here [X14.here.top, hx, (hb hby k42_44), X14.method', Bd.returns, Value.isRef, FieldType.isReference]
    first | (intro acts; rw [hr _ acts rfl rfl rfl]) | rw [hr _ _ rfl rfl rfl]
    exact Steps.refl _
  · show QSB Z (some (.ref a1)) a1 (0 : Int32) (64 : Int32) (64 : Int32) (ds.map own_lo) h0 n0 _ T14.heap _
    rw [e14]
    exact ⟨t5, tk5, rfl, Nf14, K3, sz_t5, ⟨f15, f16, f17, Fw14, f18, f19⟩⟩
theorem k43_0 : decode c43_ 0 = .ok (.aload_n 0, 1) := by decide +kernel
theorem k43_1 : decode c43_ 1 = .ok (.aload_n 1, 1) := by decide +kernel
theorem k43_2 : decode c43_ 2 = .ok (.invokespecial 29, 3) := by decide +kernel
theorem k43_5 : decode c43_ 5 = .ok (.pop, 1) := by decide +kernel
theorem k43_6 : decode c43_ 6 = .ok (.aload_n 0, 1) := by decide +kernel
theorem k43_7 : decode c43_ 7 = .ok (.areturn, 1) := by decide +kernel
theorem pd29_ : parseMethodDescriptor "(Ljava/lang/String;)Ljava/lang/AbstractStringBuilder;" = some ⟨[(.object "java/lang/String")], some (.object "java/lang/AbstractStringBuilder")⟩ := by decide +kernel
theorem ef43_ (m : MethodId) (x0 : Addr) (x1 : Addr) : entryFrame m #[(.ref x0), (.ref x1)] 2 = mkF m 0 #[.val (.ref x0), .val (.ref x1)] [] := by first | (simp [entryFrame, mkF, argsToLocals, Value.category]; done) | rfl
theorem rmSa1 (l : Launch) (Z : State) (a0 : Array Value) (hw : HW a0 Z) (ws : List Jvm.Cond) (a1 a2 b : Addr) (kb : ClassId) (ds : List Int32) (h0 : Heap) (n0 : Nat) (Z0 : n0 ≤ h0.size) (hG : GST Z) (O0 : Old Z n0 h0) (B_a1 : SBF Z h0 a1 (0 : Int32) (0 : Int32) (16 : Int32) [] b kb) (g_a1 : n0 ≤ a1) (S_a2 : StrU Z h0 a2 ds) (hlw : ∀ c ∈ ds, ¬ (255 : Int32) < c) (hds : ds.length = 64) :
    Met l Z ws m44_ jdk_67_method_7_code 2 (some (.object "java/lang/StringBuilder")) ({ frames := 9, cells := 2, slots := 520, locals := 130 } : Room) h0 #[(.ref a1), (.ref a2)] (QSB Z (some (.ref a1)) a1 (0 : Int32) (64 : Int32) (64 : Int32) (ds.map own_lo) h0 n0) := by
  refine MetFree.of_bodySF (plainFor_of_name pn6_) hisR ?_
  intro p e s m args below meth c s₁ Bd hml0 hP hK
  obtain ⟨rfl, hZ, hh⟩ := hP
  have hx := Bd.exec
  have hby := Bd.bytes
  have hml : c.maxLocals = 2 := hml0
  have hown : s.vm.findClass "java/lang/StringBuilder" = some m.cls := findClass_of_methodNamed Bd.named
  have X0 : Stand p l e ({ frames := 9, cells := 2, slots := 520, locals := 130 } : Room) s m #[(.ref a1), (.ref a2)] below meth c s₁ [] 0 0 := Stand.of_body Bd
  have e0 : s₁.heap = h0 := by rw [← hh, Bd.state]; rfl
  have N0 := Fr.nil n0
  have pre0 : ∀ t, Steps p.tables e below (s₁.setTop (mkF m 0 #[.val (.ref a1), .val (.ref a2)] [])) t → Steps p.tables e below (s₁.setTop (entryFrame m #[(.ref a1), (.ref a2)] 2)) t := fun t k => castTop (ef43_ m a1 a2) k
  obtain ⟨⟨G1, O2, P5⟩, ⟨G3, O4, rG3⟩, Sa, Sh, Sl⟩ := id hG
  obtain ⟨bE1, bV1, bC1, bN1, bM1, bA1⟩ := id B_a1
  obtain ⟨_, _, ⟨T2, L2, k2, n2⟩, -, X2, ⟨Lc2, hQ2, l2, y2, z2⟩, st2⟩ := superBack X0 hx hZ (y := m43_) hown (wt hw 141 rfl) (own_same (y2 := m43_) (wt hw 144 rfl) (own_nf (notFace_of_selects (args := a0) (wt hw 204 rfl)) (own_named (wt hw 202 rfl)) rfl) (by decide)) (wt hw 142 rfl) (wt hw 143 rfl) (by decide) (backOf (W := 0) (rmAa1 l Z a0 hw [] a1 a2 b kb ds h0 n0 (Nat.le_trans Z0 (Keep.refl h0 [a1]).1) hG O0 ⟨bE1, bV1, bC1, bN1, bM1, bA1⟩ g_a1 S_a2 hlw hds) hZ (wt hw 145 rfl) (wt hw 83 rfl) (by decide) (by decide)) e0 (Ins.self bE1) (g := (mkF m 2 #[.val (.ref a1), .val (.ref a2)] [(.ref a2), (.ref a1)])) rfl (by rw [hml]; rfl) (wt hw 145 rfl) (argsL := [(.ref a2)]) (rest := []) (lenOf pd29_ rfl) rfl (by show 2 * 0 + _ ≤ _; exact Nat.le_of_eq rfl) (hb hby k43_2) (fun _ _ => ⟨rfl, e0, (by decide : 0 + 2 ≤ _), (by decide : 0 + 520 ≤ _)⟩)
  dsimp only [Pt.U, Pt.locs, Pt.cells, Pt.slots] at X2 l2 y2 z2 st2 hQ2
  rw [l2] at X2
  clear l2; subst y2 z2
  obtain ⟨t2, tk2, rfl, N2q, K2q, ts2, Sb2⟩ := hQ2
  have N2a := Fr.app N0 N2q
  have K1 : Keep h0 T2.heap [a1] := (Keep.refl h0 [a1]).trans K2q (allS (Or.inl (List.mem_of_getElem? (i := 0) rfl)) all0)
  have sz_t2 : h0.size ≤ t2 := Nat.le_trans (Keep.refl h0 [a1]).1 ts2
  obtain ⟨bE3, bV3, bC3, bN3, bM3, bA3⟩ := id Sb2
  obtain ⟨fs, hr, hrun, hended, hW, hsame⟩ := X2.leave (v := some (.ref a1)) (fun h => by rw [Bd.returns] at h; cases h)
  refine ⟨_, _, pre0 _ ?_, hrun, hended, _, _, rfl, ?_, ⟨_, rfl⟩, hW, hsame.mono (by decide) (by decide)⟩
  · show Steps p.tables e below (s₁.setTop (mkF m 0 #[.val (.ref a1), .val (.ref a2)] [])) _
    refine XS.aloadN X0.here hx rfl (hb hby k43_0) rfl rfl ?_
    refine XS.aloadN X0.here hx rfl (hb hby k43_1) rfl rfl ?_
    show Steps p.tables e below (s₁.setTop (mkF m 2 #[.val (.ref a1), .val (.ref a2)] [(.ref a2), (.ref a1)])) _
    refine st2.trans ?_
    refine XS.pop X2.here hx rfl (hb hby k43_5) rfl rfl ?_
    refine XS.aloadN X2.here hx rfl (hb hby k43_6) rfl rfl ?_
    show Steps p.tables e below (T2.setTop (mkF m 7 #[.val (.ref a1), .val (.ref a2)] [(.ref a1)])) _
    jvm_step X2.here [X2.here.top, hx, (hb hby k43_7), X2.method', Bd.returns, Value.isRef, FieldType.isReference]
    first | (intro acts; rw [hr _ acts rfl rfl rfl]) | rw [hr _ _ rfl rfl rfl]
    exact Steps.refl _
  · show QSB Z (some (.ref a1)) a1 (0 : Int32) (64 : Int32) (64 : Int32) (ds.map own_lo) h0 n0 _ T2.heap _
    exact ⟨t2, tk2, rfl, N2a, K1, sz_t2, ⟨bE3, bV3, bC3, bN3, bM3, bA3⟩⟩
theorem rmAa3 (l : Launch) (Z : State) (a0 : Array Value) (hw : HW a0 Z) (ws : List Jvm.Cond) (a1 a2 b : Addr) (kb : ClassId) (ds : List Int32) (h0 : Heap) (n0 : Nat) (Z0 : n0 ≤ h0.size) (hG : GST Z) (O0 : Old Z n0 h0) (B_a1 : SBF Z h0 a1 (0 : Int32) (0 : Int32) (16 : Int32) [] b kb) (g_a1 : n0 ≤ a1) (S_a2 : StrU Z h0 a2 ds) (hlw : ∃ c ∈ ds, (255 : Int32) < c) (hds : ds.length = 64) :
    Met l Z ws m43_ jdk_68_method_22_code 3 (some (.object "java/lang/AbstractStringBuilder")) ({ frames := 8, cells := 2, slots := 520, locals := 116 } : Room) h0 #[(.ref a1), (.ref a2)] (QSB Z (some (.ref a1)) a1 (1 : Int32) (64 : Int32) (Int32.ofNat (2 * 64)) (wideBytes ds) h0 n0) := by
  refine MetFree.of_bodySF (plainFor_of_name pn5_) hisR ?_
  intro p e s m args below meth c s₁ Bd hml0 hP hK
  obtain ⟨rfl, hZ, hh⟩ := hP
  have hx := Bd.exec
  have hby := Bd.bytes
  have hml : c.maxLocals = 3 := hml0
  have hown : s.vm.findClass "java/lang/AbstractStringBuilder" = some m.cls := findClass_of_methodNamed Bd.named
  have X0 : Stand p l e ({ frames := 8, cells := 2, slots := 520, locals := 116 } : Room) s m #[(.ref a1), (.ref a2)] below meth c s₁ [] 0 0 := Stand.of_body Bd
  have e0 : s₁.heap = h0 := by rw [← hh, Bd.state]; rfl
  have N0 := Fr.nil n0
  have pre0 : ∀ t, Steps p.tables e below (s₁.setTop (mkF m 0 #[.val (.ref a1), .val (.ref a2), .unset] [])) t → Steps p.tables e below (s₁.setTop (entryFrame m #[(.ref a1), (.ref a2)] 3)) t := fun t k => castTop (ef42_ m a1 a2) k
  obtain ⟨⟨G1, O2, P5⟩, ⟨G3, O4, rG3⟩, Sa, Sh, Sl⟩ := id hG
  obtain ⟨bE1, bV1, bC1, bN1, bM1, bA1⟩ := id B_a1
  obtain ⟨sb3, sk3, sd3, sN3, sv3, sE3, sV3, sC3, sA3, sc3, su3⟩ := id S_a2
  obtain ⟨cq2, kq2, q2a, q2b, q2c⟩ := isOf hZ e0 S_a2.exa
  obtain ⟨_, _, ⟨T2, L2, k2, n2⟩, -, X2, ⟨Lc2, hQ2, l2, y2, z2⟩, st2⟩ := X0.virtualBack hx (y := m28_) (z := m28_) hown (mvT hZ (wt hw 146 rfl)) (mvT hZ (wt hw 28 rfl)) (notFace_of_selects (args := #[]) (mvT hZ (wt hw 30 rfl))) (mvT hZ (wt hw 30 rfl)) (mvT hZ (wt hw 29 rfl)) (by decide) (StrChars.Road.lenW (W := 0) hZ (own_hlen hw) (kI := 4) (wt hw 3 rfl) sE3 sV3 sC3 sA3 sc3 su3 (O2.ext O0.2) P5 (by omega) (by decide) (by decide)) q2a q2c (g := (mkF m 10 #[.val (.ref a1), .val (.ref a2), .unset] [(.ref a2)])) rfl (by rw [hml]; rfl) (Steps.refl _) (argsL := []) (rest := []) (lenOf pd17_ rfl) rfl (by show 2 * 0 + _ ≤ _; exact Nat.le_of_eq rfl) (hb hby k42_10) (fun _ _ => ⟨rfl, e0, (by decide : 0 + 0 ≤ _), (by decide : 0 + 0 ≤ _)⟩)
  dsimp only [Pt.U, Pt.locs, Pt.cells, Pt.slots] at X2 l2 y2 z2 st2 hQ2
  rw [l2] at X2
  clear l2; subst y2 z2
  obtain ⟨rfl, rfl, e2q⟩ := hQ2
  have N2a := Fr.app N0 (Fr.nil n0)
  obtain ⟨T4, X4, e4, st4⟩ := getF X2 hx hZ hown (host := "") (Or.inl (wt hw 147 rfl)) Via.refl e2q bN1 (g := (mkF m 16 #[.val (.ref a1), .val (.ref a2), .val (.int (Int32.ofNat 64))] [(.ref a1), (.ref a1)])) rfl rfl (hb hby k42_16)
  obtain ⟨cq5, q5, q5'⟩ := bE1.cell
  obtain ⟨_, _, ⟨T5, L5, k5, n5⟩, -, X5, ⟨Lc5, hQ5, l5, y5, z5⟩, st5⟩ := X4.privateBack hx (y := m34_) hown (mvT hZ (wt hw 149 rfl)) (mvT hZ (wt hw 150 rfl)) (own_selSelf (mvT hZ (wt hw 150 rfl)) (Cond.privateMethod_at (mvP hZ (wt hw 151 rfl) (args := #[]))) (notFace_of_selects (args := #[]) (mvT hZ (wt hw 152 rfl))) (by decide)) (Cond.privateMethod_at (mvP hZ (wt hw 151 rfl) (args := #[]))) (mvT hZ (wt hw 153 rfl)) (by decide) (backOf (W := 0) (rmEn l Z a0 hw [] a1 b kb (0 : Int32) (0 : Int32) (16 : Int32) (64 : Int32) (64 : Int32) (48 : Int32) (2 : Int32) (18 : Int32) (48 : Int32) (64 : Int32) (64 : Int32) [] 16 64 (16 : Int32) (48 : Int32) h0 n0 (Nat.le_trans Z0 (Keep.refl h0 [a1]).1) ⟨bE1, bV1, bC1, bN1, bM1, bA1⟩ g_a1 (by decide) (by decide) (by decide) (by decide) (by decide) (by decide) (by decide) (by decide) (by decide) (by decide) (by simp) rfl rfl (by decide) (by decide) (by decide) (by decide) (by decide) (by decide)) hZ (wt hw 153 rfl) (wt hw 83 rfl) (by decide) (by decide)) (g := (mkF m 21 #[.val (.ref a1), .val (.ref a2), .val (.int (Int32.ofNat 64))] [(.int (64 : Int32)), (.ref a1)])) rfl (by rw [hml]; rfl) (Steps.refl _) (a := a1) (by rw [e4]; exact q5) q5' (argsL := [(.int (64 : Int32))]) (rest := []) (lenOf pd21_ rfl) rfl (by show 2 * 0 + _ ≤ _; exact Nat.le_of_eq rfl) (hb hby k42_21) (fun _ _ => ⟨rfl, e4, (by decide : 0 + 1 ≤ _), (by decide : 0 + 260 ≤ _)⟩)
  dsimp only [Pt.U, Pt.locs, Pt.cells, Pt.slots] at X5 l5 y5 z5 st5 hQ5
  rw [l5] at X5
  clear l5; subst y5 z5
  obtain ⟨t5, tk5, rfl, N5q, K5q, ts5, Sb5⟩ := hQ5
  have N5a := Fr.app N2a N5q
  have K1 : Keep h0 T5.heap [a1] := (Keep.refl h0 [a1]).trans K5q (allS (Or.inl (List.mem_of_getElem? (i := 0) rfl)) all0)
  obtain ⟨bE6, bV6, bC6, bN6, bM6, bA6⟩ := id Sb5
  obtain ⟨T7, X7, e7, st7⟩ := getF X5 hx hZ hown (host := "") (Or.inl (wt hw 147 rfl)) Via.refl rfl bN6 (g := (mkF m 26 #[.val (.ref a1), .val (.ref a2), .val (.int (Int32.ofNat 64))] [(.ref a1), (.ref a1)])) rfl rfl (hb hby k42_26)
  have f9 : Old Z n0 T5.heap := (O0.keep K5q (allS g_a1 all0))
  have f10 : StrU Z T5.heap a2 ds := (S_a2.keep ((Keep.refl h0 [a1]).trans K5q (allS (Or.inl (List.mem_of_getElem? (i := 0) rfl)) all0)) (allS (Or.inr ⟨_, _, _, bE1, (by decide), (wt hw 74 rfl)⟩) all0))
  obtain ⟨cq8, q8, q8'⟩ := bE6.cell
  obtain ⟨_, _, ⟨T8, L8, k8, n8⟩, -, X8, ⟨Lc8, hQ8, l8, y8, z8⟩, st8⟩ := X7.privateBack hx (y := m42_) hown (mvT hZ (wt hw 171 rfl)) (mvT hZ (wt hw 172 rfl)) (own_selSelf (mvT hZ (wt hw 172 rfl)) (Cond.privateMethod_at (mvP hZ (wt hw 173 rfl) (args := #[]))) (notFace_of_selects (args := #[]) (mvT hZ (wt hw 174 rfl))) (by decide)) (Cond.privateMethod_at (mvP hZ (wt hw 173 rfl) (args := #[]))) (mvT hZ (wt hw 175 rfl)) (by decide) (backOf (W := 0) (rmPu1 l Z a0 hw [] a1 a2 t5 tk5 ds T5.heap n0 (Nat.le_trans Z0 K1.1) hG f9 ⟨bE6, bV6, bC6, bN6, bM6, bA6⟩ g_a1 f10 hlw hds) hZ (wt hw 175 rfl) (wt hw 83 rfl) (by decide) (by decide)) (g := (mkF m 30 #[.val (.ref a1), .val (.ref a2), .val (.int (Int32.ofNat 64))] [(.ref a2), (.int (0 : Int32)), (.ref a1)])) rfl (by rw [hml]; rfl) (Steps.refl _) (a := a1) (by rw [e7]; exact q8) q8' (argsL := [(.int (0 : Int32)), (.ref a2)]) (rest := []) (lenOf pd28_ rfl) rfl (by show 2 * 0 + _ ≤ _; exact Nat.le_of_eq rfl) (hb hby k42_30) (fun _ _ => ⟨rfl, e7, (by decide : 1 + 1 ≤ _), (by decide : 260 + 260 ≤ _)⟩)
  dsimp only [Pt.U, Pt.locs, Pt.cells, Pt.slots] at X8 l8 y8 z8 st8 hQ8
  rw [l8] at X8
  clear l8; subst y8 z8
  obtain ⟨t8, tk8, rfl, N8q, K8q, ts8, Sb8⟩ := hQ8
  have N8a := Fr.app N5a N8q
  have K2 : Keep h0 T8.heap [a1] := K1.trans K8q (allS (Or.inl (List.mem_of_getElem? (i := 0) rfl)) all0)
  have sz_t8 : h0.size ≤ t8 := Nat.le_trans K1.1 ts8
  obtain ⟨bE11, bV11, bC11, bN11, bM11, bA11⟩ := id Sb8
  obtain ⟨T12, X12, e12, st12⟩ := getF X8 hx hZ hown (host := "") (Or.inl (wt hw 147 rfl)) Via.refl rfl bN11 (g := (mkF m 35 #[.val (.ref a1), .val (.ref a2), .val (.int (Int32.ofNat 64))] [(.ref a1), (.ref a1)])) rfl rfl (hb hby k42_35)
  obtain ⟨T13, h13, X13, e13, W13, st13⟩ := putF X12 hx hZ hown (host := "") (Or.inl (wt hw 147 rfl)) Via.refl e12 bN11 bE11 (Or.inl (wt hw 148 rfl)) (wt hw 74 rfl) (ty := .int) (by decide) rfl rfl (g := (mkF m 40 #[.val (.ref a1), .val (.ref a2), .val (.int (Int32.ofNat 64))] [(.int (64 : Int32)), (.ref a1)])) rfl rfl (hb hby k42_40)
  have Fw13 := bN11.same W13
  have Nf13 := Fr.snoc X13 N8a g_a1
  have K3 : Keep h0 h13 [a1] := K2.wr W13 (Or.inl (List.mem_of_getElem? (i := 0) rfl))
  have f14 : Exa Z h13 a1 "java/lang/StringBuilder" := (bE11.wr W13)
  have f15 : Fld Z h13 a1 "java/lang/AbstractStringBuilder" "value" "[B" (.ref t8) := (bV11.other W13 (Or.inr (slot_ne (Or.inl (wt hw 88 rfl)) (Or.inl (wt hw 148 rfl)) (by decide) (t := (.array .byte)) (t' := .int) (by decide) (by decide))))
  have f16 : Fld Z h13 a1 "java/lang/AbstractStringBuilder" "coder" "B" (.int (1 : Int32)) := (bC11.other W13 (Or.inr (slot_ne (Or.inl (wt hw 90 rfl)) (Or.inl (wt hw 148 rfl)) (by decide) (t := .byte) (t' := .int) (by decide) (by decide))))
  have f17 : Fld Z h13 a1 "java/lang/AbstractStringBuilder" "maybeLatin1" "Z" (.int (0 : Int32)) := (bM11.other W13 (Or.inr (slot_ne (Or.inl (wt hw 265 rfl)) (Or.inl (wt hw 148 rfl)) (by decide) (t := .boolean) (t' := .int) (by decide) (by decide))))
  have f18 : Arv Z h13 t8 tk8 .byte (Int32.ofNat (2 * 64)) (wideBytes ds) (.int (0 : Int32)) := (bA11.other W13 (Ne.symm (Nat.ne_of_lt (Nat.lt_of_lt_of_le bE6.lt ts8))))
  obtain ⟨fs, hr, hrun, hended, hW, hsame⟩ := X13.leave (v := some (.ref a1)) (fun h => by rw [Bd.returns] at h; cases h)
  refine ⟨_, _, pre0 _ ?_, hrun, hended, _, _, rfl, ?_, ⟨_, rfl⟩, hW, hsame.mono (by decide) (by decide)⟩
  · show Steps p.tables e below (s₁.setTop (mkF m 0 #[.val (.ref a1), .val (.ref a2), .unset] [])) _
    refine XS.aloadN X0.here hx rfl (hb hby k42_0) rfl rfl ?_
    show Steps p.tables e below (s₁.setTop (mkF m 1 #[.val (.ref a1), .val (.ref a2), .unset] [(.ref a2)])) _
    refine XS.ifnonnullYes X0.here hx rfl (pc0 := 1) (pc' := 9) rfl (hb hby k42_1) rfl (by decide) (by decide) ?_
    refine XS.aloadN X0.here hx rfl (hb hby k42_9) rfl rfl ?_
    show Steps p.tables e below (s₁.setTop (mkF m 10 #[.val (.ref a1), .val (.ref a2), .unset] [(.ref a2)])) _
    refine st2.trans ?_
    show Steps p.tables e below (T2.setTop (mkF m 13 #[.val (.ref a1), .val (.ref a2), .unset] [(.int (Int32.ofNat ds.length))])) _
    rw [hds]
    refine XS.istoreN X2.here hx rfl (hb hby k42_13) rfl (l' := #[.val (.ref a1), .val (.ref a2), .val (.int (Int32.ofNat 64))]) rfl ?_
    refine XS.aloadN X2.here hx rfl (hb hby k42_14) rfl rfl ?_
    refine XS.aloadN X2.here hx rfl (hb hby k42_15) rfl rfl ?_
    show Steps p.tables e below (T2.setTop (mkF m 16 #[.val (.ref a1), .val (.ref a2), .val (.int (Int32.ofNat 64))] [(.ref a1), (.ref a1)])) _
    refine st4 _ ?_
    refine XS.iloadN X4.here hx rfl (hb hby k42_19) rfl ?_
    refine XS.iadd X4.here hx rfl (hb hby k42_20) rfl ?_
    show Steps p.tables e below (T4.setTop (mkF m 21 #[.val (.ref a1), .val (.ref a2), .val (.int (Int32.ofNat 64))] [(.int ((0 : Int32) + (Int32.ofNat 64))), (.ref a1)])) _
    rw [(by decide : ((0 : Int32) + (Int32.ofNat 64)) = (64 : Int32))]
    show Steps p.tables e below (T4.setTop (mkF m 21 #[.val (.ref a1), .val (.ref a2), .val (.int (Int32.ofNat 64))] [(.int (64 : Int32)), (.ref a1)])) _
    refine st5.trans ?_
    refine XS.aloadN X5.here hx rfl (hb hby k42_24) rfl rfl ?_
    refine XS.aloadN X5.here hx rfl (hb hby k42_25) rfl rfl ?_
    show Steps p.tables e below (T5.setTop (mkF m 26 #[.val (.ref a1), .val (.ref a2), .val (.int (Int32.ofNat 64))] [(.ref a1), (.ref a1)])) _
    refine st7 _ ?_
    refine XS.aloadN X7.here hx rfl (hb hby k42_29) rfl rfl ?_
    show Steps p.tables e below (T7.setTop (mkF m 30 #[.val (.ref a1), .val (.ref a2), .val (.int (Int32.ofNat 64))] [(.ref a2), (.int (0 : Int32)), (.ref a1)])) _
    refine st8.trans ?_
    refine XS.aloadN X8.here hx rfl (hb hby k42_33) rfl rfl ?_
    refine XS.dup X8.here hx rfl (hb hby k42_34) rfl rfl ?_
    show Steps p.tables e below (T8.setTop (mkF m 35 #[.val (.ref a1), .val (.ref a2), .val (.int (Int32.ofNat 64))] [(.ref a1), (.ref a1)])) _
    refine st12 _ ?_
    refine XS.iloadN X12.here hx rfl (hb hby k42_38) rfl ?_
    refine XS.iadd X12.here hx rfl (hb hby k42_39) rfl ?_
    show Steps p.tables e below (T12.setTop (mkF m 40 #[.val (.ref a1), .val (.ref a2), .val (.int (Int32.ofNat 64))] [(.int ((0 : Int32) + (Int32.ofNat 64))), (.ref a1)])) _
    rw [(by decide : ((0 : Int32) + (Int32.ofNat 64)) = (64 : Int32))]
    show Steps p.tables e below (T12.setTop (mkF m 40 #[.val (.ref a1), .val (.ref a2), .val (.int (Int32.ofNat 64))] [(.int (64 : Int32)), (.ref a1)])) _
    refine st13 _ ?_
    refine XS.aloadN X13.here hx rfl (hb hby k42_43) rfl rfl ?_
    show Steps p.tables e below (T13.setTop (mkF m 44 #[.val (.ref a1), .val (.ref a2), .val (.int (Int32.ofNat 64))] [(.ref a1)])) _
    jvm_step X13.here [X13.here.top, hx, (hb hby k42_44), X13.method', Bd.returns, Value.isRef, FieldType.isReference]
    first | (intro acts; rw [hr _ acts rfl rfl rfl]) | rw [hr _ _ rfl rfl rfl]
    exact Steps.refl _
  · show QSB Z (some (.ref a1)) a1 (1 : Int32) (64 : Int32) (Int32.ofNat (2 * 64)) (wideBytes ds) h0 n0 _ T13.heap _
    rw [e13]
    exact ⟨t8, tk8, rfl, Nf13, K3, sz_t8, ⟨f14, f15, f16, Fw13, f17, f18⟩⟩
theorem rmSa3 (l : Launch) (Z : State) (a0 : Array Value) (hw : HW a0 Z) (ws : List Jvm.Cond) (a1 a2 b : Addr) (kb : ClassId) (ds : List Int32) (h0 : Heap) (n0 : Nat) (Z0 : n0 ≤ h0.size) (hG : GST Z) (O0 : Old Z n0 h0) (B_a1 : SBF Z h0 a1 (0 : Int32) (0 : Int32) (16 : Int32) [] b kb) (g_a1 : n0 ≤ a1) (S_a2 : StrU Z h0 a2 ds) (hlw : ∃ c ∈ ds, (255 : Int32) < c) (hds : ds.length = 64) :
    Met l Z ws m44_ jdk_67_method_7_code 2 (some (.object "java/lang/StringBuilder")) ({ frames := 9, cells := 2, slots := 520, locals := 130 } : Room) h0 #[(.ref a1), (.ref a2)] (QSB Z (some (.ref a1)) a1 (1 : Int32) (64 : Int32) (Int32.ofNat (2 * 64)) (wideBytes ds) h0 n0) := by
  refine MetFree.of_bodySF (plainFor_of_name pn6_) hisR ?_
  intro p e s m args below meth c s₁ Bd hml0 hP hK
  obtain ⟨rfl, hZ, hh⟩ := hP
  have hx := Bd.exec
  have hby := Bd.bytes
  have hml : c.maxLocals = 2 := hml0
  have hown : s.vm.findClass "java/lang/StringBuilder" = some m.cls := findClass_of_methodNamed Bd.named
  have X0 : Stand p l e ({ frames := 9, cells := 2, slots := 520, locals := 130 } : Room) s m #[(.ref a1), (.ref a2)] below meth c s₁ [] 0 0 := Stand.of_body Bd
  have e0 : s₁.heap = h0 := by rw [← hh, Bd.state]; rfl
  have N0 := Fr.nil n0
  have pre0 : ∀ t, Steps p.tables e below (s₁.setTop (mkF m 0 #[.val (.ref a1), .val (.ref a2)] [])) t → Steps p.tables e below (s₁.setTop (entryFrame m #[(.ref a1), (.ref a2)] 2)) t := fun t k => castTop (ef43_ m a1 a2) k
  obtain ⟨⟨G1, O2, P5⟩, ⟨G3, O4, rG3⟩, Sa, Sh, Sl⟩ := id hG
  obtain ⟨bE1, bV1, bC1, bN1, bM1, bA1⟩ := id B_a1
  obtain ⟨_, _, ⟨T2, L2, k2, n2⟩, -, X2, ⟨Lc2, hQ2, l2, y2, z2⟩, st2⟩ := superBack X0 hx hZ (y := m43_) hown (wt hw 141 rfl) (own_same (y2 := m43_) (wt hw 144 rfl) (own_nf (notFace_of_selects (args := a0) (wt hw 204 rfl)) (own_named (wt hw 202 rfl)) rfl) (by decide)) (wt hw 142 rfl) (wt hw 143 rfl) (by decide) (backOf (W := 0) (rmAa3 l Z a0 hw [] a1 a2 b kb ds h0 n0 (Nat.le_trans Z0 (Keep.refl h0 [a1]).1) hG O0 ⟨bE1, bV1, bC1, bN1, bM1, bA1⟩ g_a1 S_a2 hlw hds) hZ (wt hw 145 rfl) (wt hw 83 rfl) (by decide) (by decide)) e0 (Ins.self bE1) (g := (mkF m 2 #[.val (.ref a1), .val (.ref a2)] [(.ref a2), (.ref a1)])) rfl (by rw [hml]; rfl) (wt hw 145 rfl) (argsL := [(.ref a2)]) (rest := []) (lenOf pd29_ rfl) rfl (by show 2 * 0 + _ ≤ _; exact Nat.le_of_eq rfl) (hb hby k43_2) (fun _ _ => ⟨rfl, e0, (by decide : 0 + 2 ≤ _), (by decide : 0 + 520 ≤ _)⟩)
  dsimp only [Pt.U, Pt.locs, Pt.cells, Pt.slots] at X2 l2 y2 z2 st2 hQ2
  rw [l2] at X2
  clear l2; subst y2 z2
  obtain ⟨t2, tk2, rfl, N2q, K2q, ts2, Sb2⟩ := hQ2
  have N2a := Fr.app N0 N2q
  have K1 : Keep h0 T2.heap [a1] := (Keep.refl h0 [a1]).trans K2q (allS (Or.inl (List.mem_of_getElem? (i := 0) rfl)) all0)
  have sz_t2 : h0.size ≤ t2 := Nat.le_trans (Keep.refl h0 [a1]).1 ts2
  obtain ⟨bE3, bV3, bC3, bN3, bM3, bA3⟩ := id Sb2
  obtain ⟨fs, hr, hrun, hended, hW, hsame⟩ := X2.leave (v := some (.ref a1)) (fun h => by rw [Bd.returns] at h; cases h)
  refine ⟨_, _, pre0 _ ?_, hrun, hended, _, _, rfl, ?_, ⟨_, rfl⟩, hW, hsame.mono (by decide) (by decide)⟩
  · show Steps p.tables e below (s₁.setTop (mkF m 0 #[.val (.ref a1), .val (.ref a2)] [])) _
    refine XS.aloadN X0.here hx rfl (hb hby k43_0) rfl rfl ?_
    refine XS.aloadN X0.here hx rfl (hb hby k43_1) rfl rfl ?_
    show Steps p.tables e below (s₁.setTop (mkF m 2 #[.val (.ref a1), .val (.ref a2)] [(.ref a2), (.ref a1)])) _
    refine st2.trans ?_
    refine XS.pop X2.here hx rfl (hb hby k43_5) rfl rfl ?_
    refine XS.aloadN X2.here hx rfl (hb hby k43_6) rfl rfl ?_
    show Steps p.tables e below (T2.setTop (mkF m 7 #[.val (.ref a1), .val (.ref a2)] [(.ref a1)])) _
    jvm_step X2.here [X2.here.top, hx, (hb hby k43_7), X2.method', Bd.returns, Value.isRef, FieldType.isReference]
    first | (intro acts; rw [hr _ acts rfl rfl rfl]) | rw [hr _ _ rfl rfl rfl]
    exact Steps.refl _
  · show QSB Z (some (.ref a1)) a1 (1 : Int32) (64 : Int32) (Int32.ofNat (2 * 64)) (wideBytes ds) h0 n0 _ T2.heap _
    exact ⟨t2, tk2, rfl, N2a, K1, sz_t2, ⟨bE3, bV3, bC3, bN3, bM3, bA3⟩⟩
theorem rmAa2 (l : Launch) (Z : State) (a0 : Array Value) (hw : HW a0 Z) (ws : List Jvm.Cond) (a1 a2 b : Addr) (kb : ClassId) (es : List Int32) (h0 : Heap) (n0 : Nat) (Z0 : n0 ≤ h0.size) (hG : GST Z) (O0 : Old Z n0 h0) (B_a1 : SBF Z h0 a1 (0 : Int32) (64 : Int32) (64 : Int32) (es.map own_lo) b kb) (g_a1 : n0 ≤ a1) (S_a2 : StrU Z h0 a2 own_dots) (hes : es.length = 64) :
    Met l Z ws m43_ jdk_68_method_22_code 3 (some (.object "java/lang/AbstractStringBuilder")) ({ frames := 8, cells := 2, slots := 520, locals := 116 } : Room) h0 #[(.ref a1), (.ref a2)] (QSB Z (some (.ref a1)) a1 (0 : Int32) (67 : Int32) (130 : Int32) ((es.map own_lo) ++ (own_dots.map own_lo)) h0 n0) := by
  refine MetFree.of_bodySF (plainFor_of_name pn5_) hisR ?_
  intro p e s m args below meth c s₁ Bd hml0 hP hK
  obtain ⟨rfl, hZ, hh⟩ := hP
  have hx := Bd.exec
  have hby := Bd.bytes
  have hml : c.maxLocals = 3 := hml0
  have hown : s.vm.findClass "java/lang/AbstractStringBuilder" = some m.cls := findClass_of_methodNamed Bd.named
  have X0 : Stand p l e ({ frames := 8, cells := 2, slots := 520, locals := 116 } : Room) s m #[(.ref a1), (.ref a2)] below meth c s₁ [] 0 0 := Stand.of_body Bd
  have e0 : s₁.heap = h0 := by rw [← hh, Bd.state]; rfl
  have N0 := Fr.nil n0
  have pre0 : ∀ t, Steps p.tables e below (s₁.setTop (mkF m 0 #[.val (.ref a1), .val (.ref a2), .unset] [])) t → Steps p.tables e below (s₁.setTop (entryFrame m #[(.ref a1), (.ref a2)] 3)) t := fun t k => castTop (ef42_ m a1 a2) k
  obtain ⟨⟨G1, O2, P5⟩, ⟨G3, O4, rG3⟩, Sa, Sh, Sl⟩ := id hG
  obtain ⟨bE1, bV1, bC1, bN1, bM1, bA1⟩ := id B_a1
  obtain ⟨sb3, sk3, sd3, sN3, sv3, sE3, sV3, sC3, sA3, sc3, su3⟩ := id S_a2
  obtain ⟨cq2, kq2, q2a, q2b, q2c⟩ := isOf hZ e0 S_a2.exa
  obtain ⟨_, _, ⟨T2, L2, k2, n2⟩, -, X2, ⟨Lc2, hQ2, l2, y2, z2⟩, st2⟩ := X0.virtualBack hx (y := m28_) (z := m28_) hown (mvT hZ (wt hw 146 rfl)) (mvT hZ (wt hw 28 rfl)) (notFace_of_selects (args := #[]) (mvT hZ (wt hw 30 rfl))) (mvT hZ (wt hw 30 rfl)) (mvT hZ (wt hw 29 rfl)) (by decide) (StrChars.Road.lenW (W := 0) hZ (own_hlen hw) (kI := 4) (wt hw 3 rfl) sE3 sV3 sC3 sA3 sc3 su3 (O2.ext O0.2) P5 (by decide) (by decide) (by decide)) q2a q2c (g := (mkF m 10 #[.val (.ref a1), .val (.ref a2), .unset] [(.ref a2)])) rfl (by rw [hml]; rfl) (Steps.refl _) (argsL := []) (rest := []) (lenOf pd17_ rfl) rfl (by show 2 * 0 + _ ≤ _; exact Nat.le_of_eq rfl) (hb hby k42_10) (fun _ _ => ⟨rfl, e0, (by decide : 0 + 0 ≤ _), (by decide : 0 + 0 ≤ _)⟩)
  dsimp only [Pt.U, Pt.locs, Pt.cells, Pt.slots] at X2 l2 y2 z2 st2 hQ2
  rw [l2] at X2
  clear l2; subst y2 z2
  obtain ⟨rfl, rfl, e2q⟩ := hQ2
  have N2a := Fr.app N0 (Fr.nil n0)
  obtain ⟨T4, X4, e4, st4⟩ := getF X2 hx hZ hown (host := "") (Or.inl (wt hw 147 rfl)) Via.refl e2q bN1 (g := (mkF m 16 #[.val (.ref a1), .val (.ref a2), .val (.int (Int32.ofNat 3))] [(.ref a1), (.ref a1)])) rfl rfl (hb hby k42_16)
  obtain ⟨cq5, q5, q5'⟩ := bE1.cell
  obtain ⟨_, _, ⟨T5, L5, k5, n5⟩, -, X5, ⟨Lc5, hQ5, l5, y5, z5⟩, st5⟩ := X4.privateBack hx (y := m34_) hown (mvT hZ (wt hw 149 rfl)) (mvT hZ (wt hw 150 rfl)) (own_selSelf (mvT hZ (wt hw 150 rfl)) (Cond.privateMethod_at (mvP hZ (wt hw 151 rfl) (args := #[]))) (notFace_of_selects (args := #[]) (mvT hZ (wt hw 152 rfl))) (by decide)) (Cond.privateMethod_at (mvP hZ (wt hw 151 rfl) (args := #[]))) (mvT hZ (wt hw 153 rfl)) (by decide) (backOf (W := 0) (rmEn l Z a0 hw [] a1 b kb (64 : Int32) (0 : Int32) (64 : Int32) (67 : Int32) (67 : Int32) (3 : Int32) (2 : Int32) (66 : Int32) (66 : Int32) (130 : Int32) (130 : Int32) (es.map own_lo) 64 130 (64 : Int32) (3 : Int32) h0 n0 (Nat.le_trans Z0 (Keep.refl h0 [a1]).1) ⟨bE1, bV1, bC1, bN1, bM1, bA1⟩ g_a1 (by decide) (by decide) (by decide) (by decide) (by decide) (by decide) (by decide) (by decide) (by decide) (by decide) (by simp [hes]) rfl rfl (by decide) (by decide) (by decide) (by decide) (by decide) (by decide)) hZ (wt hw 153 rfl) (wt hw 83 rfl) (by decide) (by decide)) (g := (mkF m 21 #[.val (.ref a1), .val (.ref a2), .val (.int (Int32.ofNat 3))] [(.int (67 : Int32)), (.ref a1)])) rfl (by rw [hml]; rfl) (Steps.refl _) (a := a1) (by rw [e4]; exact q5) q5' (argsL := [(.int (67 : Int32))]) (rest := []) (lenOf pd21_ rfl) rfl (by show 2 * 0 + _ ≤ _; exact Nat.le_of_eq rfl) (hb hby k42_21) (fun _ _ => ⟨rfl, e4, (by decide : 0 + 1 ≤ _), (by decide : 0 + 260 ≤ _)⟩)
  dsimp only [Pt.U, Pt.locs, Pt.cells, Pt.slots] at X5 l5 y5 z5 st5 hQ5
  rw [l5] at X5
  clear l5; subst y5 z5
  obtain ⟨t5, tk5, rfl, N5q, K5q, ts5, Sb5⟩ := hQ5
  have N5a := Fr.app N2a N5q
  have K1 : Keep h0 T5.heap [a1] := (Keep.refl h0 [a1]).trans K5q (allS (Or.inl (List.mem_of_getElem? (i := 0) rfl)) all0)
  have sz_t5 : h0.size ≤ t5 := Nat.le_trans (Keep.refl h0 [a1]).1 ts5
  have g_t5 : n0 ≤ t5 := Nat.le_trans Z0 sz_t5
  obtain ⟨bE6, bV6, bC6, bN6, bM6, bA6⟩ := id Sb5
  obtain ⟨T7, X7, e7, st7⟩ := getF X5 hx hZ hown (host := "") (Or.inl (wt hw 147 rfl)) Via.refl rfl bN6 (g := (mkF m 26 #[.val (.ref a1), .val (.ref a2), .val (.int (Int32.ofNat 3))] [(.ref a1), (.ref a1)])) rfl rfl (hb hby k42_26)
  have f9 : Old Z n0 T5.heap := (O0.keep K5q (allS g_a1 all0))
  have f10 : StrU Z T5.heap a2 own_dots := (S_a2.keep ((Keep.refl h0 [a1]).trans K5q (allS (Or.inl (List.mem_of_getElem? (i := 0) rfl)) all0)) (allS (Or.inr ⟨_, _, _, bE1, (by decide), (wt hw 74 rfl)⟩) all0))
  obtain ⟨cq8, q8, q8'⟩ := bE6.cell
  obtain ⟨_, _, ⟨T8, L8, k8, n8⟩, -, X8, ⟨Lc8, hQ8, l8, y8, z8⟩, st8⟩ := X7.privateBack hx (y := m42_) hown (mvT hZ (wt hw 171 rfl)) (mvT hZ (wt hw 172 rfl)) (own_selSelf (mvT hZ (wt hw 172 rfl)) (Cond.privateMethod_at (mvP hZ (wt hw 173 rfl) (args := #[]))) (notFace_of_selects (args := #[]) (mvT hZ (wt hw 174 rfl))) (by decide)) (Cond.privateMethod_at (mvP hZ (wt hw 173 rfl) (args := #[]))) (mvT hZ (wt hw 175 rfl)) (by decide) (backOf (W := 0) (rmPu0 l Z a0 hw [] a1 a2 t5 tk5 (64 : Int32) 64 130 (es.map own_lo) own_dots T5.heap n0 (Nat.le_trans Z0 K1.1) hG f9 ⟨bE6, bV6, bC6, bN6, bM6, bA6⟩ g_a1 f10 own_dots_lat (by simp [hes]) (by decide) (by decide) g_t5) hZ (wt hw 175 rfl) (wt hw 83 rfl) (by decide) (by decide)) (g := (mkF m 30 #[.val (.ref a1), .val (.ref a2), .val (.int (Int32.ofNat 3))] [(.ref a2), (.int (64 : Int32)), (.ref a1)])) rfl (by rw [hml]; rfl) (Steps.refl _) (a := a1) (by rw [e7]; exact q8) q8' (argsL := [(.int (64 : Int32)), (.ref a2)]) (rest := []) (lenOf pd28_ rfl) rfl (by show 2 * 0 + _ ≤ _; exact Nat.le_of_eq rfl) (hb hby k42_30) (fun _ _ => ⟨rfl, e7, (by decide : 1 + 0 ≤ _), (by decide : 260 + 0 ≤ _)⟩)
  dsimp only [Pt.U, Pt.locs, Pt.cells, Pt.slots] at X8 l8 y8 z8 st8 hQ8
  rw [l8] at X8
  clear l8; subst y8 z8
  obtain ⟨rfl, N8q, K8q, Pw8⟩ := hQ8
  have N8a := Fr.app N5a N8q
  have K2 : Keep h0 T8.heap [a1] := K1.trans K8q (allS (Or.inr sz_t5) all0)
  have f11 : Fld Z T8.heap a1 "java/lang/AbstractStringBuilder" "count" "I" (.int (64 : Int32)) := (bN6.keep K8q (ninS (Nat.ne_of_lt (Nat.lt_of_lt_of_le bE1.lt ts5)) nin0))
  obtain ⟨T12, X12, e12, st12⟩ := getF X8 hx hZ hown (host := "") (Or.inl (wt hw 147 rfl)) Via.refl rfl f11 (g := (mkF m 35 #[.val (.ref a1), .val (.ref a2), .val (.int (Int32.ofNat 3))] [(.ref a1), (.ref a1)])) rfl rfl (hb hby k42_35)
  have f13 : Exa Z T8.heap a1 "java/lang/StringBuilder" := (bE6.keep K8q)
  obtain ⟨T14, h14, X14, e14, W14, st14⟩ := putF X12 hx hZ hown (host := "") (Or.inl (wt hw 147 rfl)) Via.refl e12 f11 f13 (Or.inl (wt hw 148 rfl)) (wt hw 74 rfl) (ty := .int) (by decide) rfl rfl (g := (mkF m 40 #[.val (.ref a1), .val (.ref a2), .val (.int (Int32.ofNat 3))] [(.int (67 : Int32)), (.ref a1)])) rfl rfl (hb hby k42_40)
  have Fw14 := f11.same W14
  have Nf14 := Fr.snoc X14 N8a g_a1
  have K3 : Keep h0 h14 [a1] := K2.wr W14 (Or.inl (List.mem_of_getElem? (i := 0) rfl))
  have f15 : Exa Z h14 a1 "java/lang/StringBuilder" := (f13.wr W14)
  have f16 : Fld Z h14 a1 "java/lang/AbstractStringBuilder" "value" "[B" (.ref t5) := ((bV6.keep K8q (ninS (Nat.ne_of_lt (Nat.lt_of_lt_of_le bE1.lt ts5)) nin0)).other W14 (Or.inr (slot_ne (Or.inl (wt hw 88 rfl)) (Or.inl (wt hw 148 rfl)) (by decide) (t := (.array .byte)) (t' := .int) (by decide) (by decide))))
  have f17 : Fld Z h14 a1 "java/lang/AbstractStringBuilder" "coder" "B" (.int (0 : Int32)) := ((bC6.keep K8q (ninS (Nat.ne_of_lt (Nat.lt_of_lt_of_le bE1.lt ts5)) nin0)).other W14 (Or.inr (slot_ne (Or.inl (wt hw 90 rfl)) (Or.inl (wt hw 148 rfl)) (by decide) (t := .byte) (t' := .int) (by decide) (by decide))))
  have f18 : Fld Z h14 a1 "java/lang/AbstractStringBuilder" "maybeLatin1" "Z" (.int (0 : Int32)) := ((bM6.keep K8q (ninS (Nat.ne_of_lt (Nat.lt_of_lt_of_le bE1.lt ts5)) nin0)).other W14 (Or.inr (slot_ne (Or.inl (wt hw 265 rfl)) (Or.inl (wt hw 148 rfl)) (by decide) (t := .boolean) (t' := .int) (by decide) (by decide))))
  have f19 : Arv Z h14 t5 tk5 .byte (130 : Int32) ((es.map own_lo) ++ (own_dots.map own_lo)) (.int (0 : Int32)) := (Pw8.other W14 (Ne.symm (Nat.ne_of_lt (Nat.lt_of_lt_of_le bE1.lt ts5))))
  obtain ⟨fs, hr, hrun, hended, hW, hsame⟩ := X14.leave (v := some (.ref a1)) (fun h => by rw [Bd.returns] at h; cases h)
  refine ⟨_, _, pre0 _ ?_, hrun, hended, _, _, rfl, ?_, ⟨_, rfl⟩, hW, hsame.mono (by decide) (by decide)⟩
  · show Steps p.tables e below (s₁.setTop (mkF m 0 #[.val (.ref a1), .val (.ref a2), .unset] [])) _
    refine XS.aloadN X0.here hx rfl (hb hby k42_0) rfl rfl ?_
    show Steps p.tables e below (s₁.setTop (mkF m 1 #[.val (.ref a1), .val (.ref a2), .unset] [(.ref a2)])) _
    refine XS.ifnonnullYes X0.here hx rfl (pc0 := 1) (pc' := 9) rfl (hb hby k42_1) rfl (by decide) (by decide) ?_
    refine XS.aloadN X0.here hx rfl (hb hby k42_9) rfl rfl ?_
    show Steps p.tables e below (s₁.setTop (mkF m 10 #[.val (.ref a1), .val (.ref a2), .unset] [(.ref a2)])) _
    refine st2.trans ?_
    show Steps p.tables e below (T2.setTop (mkF m 13 #[.val (.ref a1), .val (.ref a2), .unset] [(.int (Int32.ofNat own_dots.length))])) _
    rw [(show own_dots.length = 3 from rfl)]
    refine XS.istoreN X2.here hx rfl (hb hby k42_13) rfl (l' := #[.val (.ref a1), .val (.ref a2), .val (.int (Int32.ofNat 3))]) rfl ?_
    refine XS.aloadN X2.here hx rfl (hb hby k42_14) rfl rfl ?_
    refine XS.aloadN X2.here hx rfl (hb hby k42_15) rfl rfl ?_
    show Steps p.tables e below (T2.setTop (mkF m 16 #[.val (.ref a1), .val (.ref a2), .val (.int (Int32.ofNat 3))] [(.ref a1), (.ref a1)])) _
    refine st4 _ ?_
    refine XS.iloadN X4.here hx rfl (hb hby k42_19) rfl ?_
    refine XS.iadd X4.here hx rfl (hb hby k42_20) rfl ?_
    show Steps p.tables e below (T4.setTop (mkF m 21 #[.val (.ref a1), .val (.ref a2), .val (.int (Int32.ofNat 3))] [(.int ((64 : Int32) + (Int32.ofNat 3))), (.ref a1)])) _
    rw [(by decide : ((64 : Int32) + (Int32.ofNat 3)) = (67 : Int32))]
    show Steps p.tables e below (T4.setTop (mkF m 21 #[.val (.ref a1), .val (.ref a2), .val (.int (Int32.ofNat 3))] [(.int (67 : Int32)), (.ref a1)])) _
    refine st5.trans ?_
    refine XS.aloadN X5.here hx rfl (hb hby k42_24) rfl rfl ?_
    refine XS.aloadN X5.here hx rfl (hb hby k42_25) rfl rfl ?_
    show Steps p.tables e below (T5.setTop (mkF m 26 #[.val (.ref a1), .val (.ref a2), .val (.int (Int32.ofNat 3))] [(.ref a1), (.ref a1)])) _
    refine st7 _ ?_
    refine XS.aloadN X7.here hx rfl (hb hby k42_29) rfl rfl ?_
    show Steps p.tables e below (T7.setTop (mkF m 30 #[.val (.ref a1), .val (.ref a2), .val (.int (Int32.ofNat 3))] [(.ref a2), (.int (64 : Int32)), (.ref a1)])) _
    refine st8.trans ?_
    refine XS.aloadN X8.here hx rfl (hb hby k42_33) rfl rfl ?_
    refine XS.dup X8.here hx rfl (hb hby k42_34) rfl rfl ?_
    show Steps p.tables e below (T8.setTop (mkF m 35 #[.val (.ref a1), .val (.ref a2), .val (.int (Int32.ofNat 3))] [(.ref a1), (.ref a1)])) _
    refine st12 _ ?_
    refine XS.iloadN X12.here hx rfl (hb hby k42_38) rfl ?_
    refine XS.iadd X12.here hx rfl (hb hby k42_39) rfl ?_
    show Steps p.tables e below (T12.setTop (mkF m 40 #[.val (.ref a1), .val (.ref a2), .val (.int (Int32.ofNat 3))] [(.int ((64 : Int32) + (Int32.ofNat 3))), (.ref a1)])) _
    rw [(by decide : ((64 : Int32) + (Int32.ofNat 3)) = (67 : Int32))]
    show Steps p.tables e below (T12.setTop (mkF m 40 #[.val (.ref a1), .val (.ref a2), .val (.int (Int32.ofNat 3))] [(.int (67 : Int32)), (.ref a1)])) _
    refine st14 _ ?_
    refine XS.aloadN X14.here hx rfl (hb hby k42_43) rfl rfl ?_
    show Steps p.tables e below (T14.setTop (mkF m 44 #[.val (.ref a1), .val (.ref a2), .val (.int (Int32.ofNat 3))] [(.ref a1)])) _
    jvm_step X14.here [X14.here.top, hx, (hb hby k42_44), X14.method', Bd.returns, Value.isRef, FieldType.isReference]
    first | (intro acts; rw [hr _ acts rfl rfl rfl]) | rw [hr _ _ rfl rfl rfl]
    exact Steps.refl _
  · show QSB Z (some (.ref a1)) a1 (0 : Int32) (67 : Int32) (130 : Int32) ((es.map own_lo) ++ (own_dots.map own_lo)) h0 n0 _ T14.heap _
    rw [e14]
    exact ⟨t5, tk5, rfl, Nf14, K3, sz_t5, ⟨f15, f16, f17, Fw14, f18, f19⟩⟩
theorem rmSa2 (l : Launch) (Z : State) (a0 : Array Value) (hw : HW a0 Z) (ws : List Jvm.Cond) (a1 a2 b : Addr) (kb : ClassId) (es : List Int32) (h0 : Heap) (n0 : Nat) (Z0 : n0 ≤ h0.size) (hG : GST Z) (O0 : Old Z n0 h0) (B_a1 : SBF Z h0 a1 (0 : Int32) (64 : Int32) (64 : Int32) (es.map own_lo) b kb) (g_a1 : n0 ≤ a1) (S_a2 : StrU Z h0 a2 own_dots) (hes : es.length = 64) :
    Met l Z ws m44_ jdk_67_method_7_code 2 (some (.object "java/lang/StringBuilder")) ({ frames := 9, cells := 2, slots := 520, locals := 130 } : Room) h0 #[(.ref a1), (.ref a2)] (QSB Z (some (.ref a1)) a1 (0 : Int32) (67 : Int32) (130 : Int32) ((es.map own_lo) ++ (own_dots.map own_lo)) h0 n0) := by
  refine MetFree.of_bodySF (plainFor_of_name pn6_) hisR ?_
  intro p e s m args below meth c s₁ Bd hml0 hP hK
  obtain ⟨rfl, hZ, hh⟩ := hP
  have hx := Bd.exec
  have hby := Bd.bytes
  have hml : c.maxLocals = 2 := hml0
  have hown : s.vm.findClass "java/lang/StringBuilder" = some m.cls := findClass_of_methodNamed Bd.named
  have X0 : Stand p l e ({ frames := 9, cells := 2, slots := 520, locals := 130 } : Room) s m #[(.ref a1), (.ref a2)] below meth c s₁ [] 0 0 := Stand.of_body Bd
  have e0 : s₁.heap = h0 := by rw [← hh, Bd.state]; rfl
  have N0 := Fr.nil n0
  have pre0 : ∀ t, Steps p.tables e below (s₁.setTop (mkF m 0 #[.val (.ref a1), .val (.ref a2)] [])) t → Steps p.tables e below (s₁.setTop (entryFrame m #[(.ref a1), (.ref a2)] 2)) t := fun t k => castTop (ef43_ m a1 a2) k
  obtain ⟨⟨G1, O2, P5⟩, ⟨G3, O4, rG3⟩, Sa, Sh, Sl⟩ := id hG
  obtain ⟨bE1, bV1, bC1, bN1, bM1, bA1⟩ := id B_a1
  obtain ⟨_, _, ⟨T2, L2, k2, n2⟩, -, X2, ⟨Lc2, hQ2, l2, y2, z2⟩, st2⟩ := superBack X0 hx hZ (y := m43_) hown (wt hw 141 rfl) (own_same (y2 := m43_) (wt hw 144 rfl) (own_nf (notFace_of_selects (args := a0) (wt hw 204 rfl)) (own_named (wt hw 202 rfl)) rfl) (by decide)) (wt hw 142 rfl) (wt hw 143 rfl) (by decide) (backOf (W := 0) (rmAa2 l Z a0 hw [] a1 a2 b kb es h0 n0 (Nat.le_trans Z0 (Keep.refl h0 [a1]).1) hG O0 ⟨bE1, bV1, bC1, bN1, bM1, bA1⟩ g_a1 S_a2 hes) hZ (wt hw 145 rfl) (wt hw 83 rfl) (by decide) (by decide)) e0 (Ins.self bE1) (g := (mkF m 2 #[.val (.ref a1), .val (.ref a2)] [(.ref a2), (.ref a1)])) rfl (by rw [hml]; rfl) (wt hw 145 rfl) (argsL := [(.ref a2)]) (rest := []) (lenOf pd29_ rfl) rfl (by show 2 * 0 + _ ≤ _; exact Nat.le_of_eq rfl) (hb hby k43_2) (fun _ _ => ⟨rfl, e0, (by decide : 0 + 2 ≤ _), (by decide : 0 + 520 ≤ _)⟩)
  dsimp only [Pt.U, Pt.locs, Pt.cells, Pt.slots] at X2 l2 y2 z2 st2 hQ2
  rw [l2] at X2
  clear l2; subst y2 z2
  obtain ⟨t2, tk2, rfl, N2q, K2q, ts2, Sb2⟩ := hQ2
  have N2a := Fr.app N0 N2q
  have K1 : Keep h0 T2.heap [a1] := (Keep.refl h0 [a1]).trans K2q (allS (Or.inl (List.mem_of_getElem? (i := 0) rfl)) all0)
  have sz_t2 : h0.size ≤ t2 := Nat.le_trans (Keep.refl h0 [a1]).1 ts2
  obtain ⟨bE3, bV3, bC3, bN3, bM3, bA3⟩ := id Sb2
  obtain ⟨fs, hr, hrun, hended, hW, hsame⟩ := X2.leave (v := some (.ref a1)) (fun h => by rw [Bd.returns] at h; cases h)
  refine ⟨_, _, pre0 _ ?_, hrun, hended, _, _, rfl, ?_, ⟨_, rfl⟩, hW, hsame.mono (by decide) (by decide)⟩
  · show Steps p.tables e below (s₁.setTop (mkF m 0 #[.val (.ref a1), .val (.ref a2)] [])) _
    refine XS.aloadN X0.here hx rfl (hb hby k43_0) rfl rfl ?_
    refine XS.aloadN X0.here hx rfl (hb hby k43_1) rfl rfl ?_
    show Steps p.tables e below (s₁.setTop (mkF m 2 #[.val (.ref a1), .val (.ref a2)] [(.ref a2), (.ref a1)])) _
    refine st2.trans ?_
    refine XS.pop X2.here hx rfl (hb hby k43_5) rfl rfl ?_
    refine XS.aloadN X2.here hx rfl (hb hby k43_6) rfl rfl ?_
    show Steps p.tables e below (T2.setTop (mkF m 7 #[.val (.ref a1), .val (.ref a2)] [(.ref a1)])) _
    jvm_step X2.here [X2.here.top, hx, (hb hby k43_7), X2.method', Bd.returns, Value.isRef, FieldType.isReference]
    first | (intro acts; rw [hr _ acts rfl rfl rfl]) | rw [hr _ _ rfl rfl rfl]
    exact Steps.refl _
  · show QSB Z (some (.ref a1)) a1 (0 : Int32) (67 : Int32) (130 : Int32) ((es.map own_lo) ++ (own_dots.map own_lo)) h0 n0 _ T2.heap _
    exact ⟨t2, tk2, rfl, N2a, K1, sz_t2, ⟨bE3, bV3, bC3, bN3, bM3, bA3⟩⟩
theorem rmAa4 (l : Launch) (Z : State) (a0 : Array Value) (hw : HW a0 Z) (ws : List Jvm.Cond) (a1 a2 b : Addr) (kb : ClassId) (es : List Int32) (h0 : Heap) (n0 : Nat) (Z0 : n0 ≤ h0.size) (hG : GST Z) (O0 : Old Z n0 h0) (B_a1 : SBF Z h0 a1 (1 : Int32) (64 : Int32) (Int32.ofNat (2 * 64)) (wideBytes es) b kb) (g_a1 : n0 ≤ a1) (S_a2 : StrU Z h0 a2 own_dots) (hes : es.length = 64) :
    Met l Z ws m43_ jdk_68_method_22_code 3 (some (.object "java/lang/AbstractStringBuilder")) ({ frames := 8, cells := 2, slots := 520, locals := 116 } : Room) h0 #[(.ref a1), (.ref a2)] (QSB Z (some (.ref a1)) a1 (1 : Int32) (67 : Int32) (260 : Int32) (wideBytes (es ++ own_dots)) h0 n0) := by
  refine MetFree.of_bodySF (plainFor_of_name pn5_) hisR ?_
  intro p e s m args below meth c s₁ Bd hml0 hP hK
  obtain ⟨rfl, hZ, hh⟩ := hP
  have hx := Bd.exec
  have hby := Bd.bytes
  have hml : c.maxLocals = 3 := hml0
  have hown : s.vm.findClass "java/lang/AbstractStringBuilder" = some m.cls := findClass_of_methodNamed Bd.named
  have X0 : Stand p l e ({ frames := 8, cells := 2, slots := 520, locals := 116 } : Room) s m #[(.ref a1), (.ref a2)] below meth c s₁ [] 0 0 := Stand.of_body Bd
  have e0 : s₁.heap = h0 := by rw [← hh, Bd.state]; rfl
  have N0 := Fr.nil n0
  have pre0 : ∀ t, Steps p.tables e below (s₁.setTop (mkF m 0 #[.val (.ref a1), .val (.ref a2), .unset] [])) t → Steps p.tables e below (s₁.setTop (entryFrame m #[(.ref a1), (.ref a2)] 3)) t := fun t k => castTop (ef42_ m a1 a2) k
  obtain ⟨⟨G1, O2, P5⟩, ⟨G3, O4, rG3⟩, Sa, Sh, Sl⟩ := id hG
  obtain ⟨bE1, bV1, bC1, bN1, bM1, bA1⟩ := id B_a1
  obtain ⟨sb3, sk3, sd3, sN3, sv3, sE3, sV3, sC3, sA3, sc3, su3⟩ := id S_a2
  obtain ⟨cq2, kq2, q2a, q2b, q2c⟩ := isOf hZ e0 S_a2.exa
  obtain ⟨_, _, ⟨T2, L2, k2, n2⟩, -, X2, ⟨Lc2, hQ2, l2, y2, z2⟩, st2⟩ := X0.virtualBack hx (y := m28_) (z := m28_) hown (mvT hZ (wt hw 146 rfl)) (mvT hZ (wt hw 28 rfl)) (notFace_of_selects (args := #[]) (mvT hZ (wt hw 30 rfl))) (mvT hZ (wt hw 30 rfl)) (mvT hZ (wt hw 29 rfl)) (by decide) (StrChars.Road.lenW (W := 0) hZ (own_hlen hw) (kI := 4) (wt hw 3 rfl) sE3 sV3 sC3 sA3 sc3 su3 (O2.ext O0.2) P5 (by decide) (by decide) (by decide)) q2a q2c (g := (mkF m 10 #[.val (.ref a1), .val (.ref a2), .unset] [(.ref a2)])) rfl (by rw [hml]; rfl) (Steps.refl _) (argsL := []) (rest := []) (lenOf pd17_ rfl) rfl (by show 2 * 0 + _ ≤ _; exact Nat.le_of_eq rfl) (hb hby k42_10) (fun _ _ => ⟨rfl, e0, (by decide : 0 + 0 ≤ _), (by decide : 0 + 0 ≤ _)⟩)
  dsimp only [Pt.U, Pt.locs, Pt.cells, Pt.slots] at X2 l2 y2 z2 st2 hQ2
  rw [l2] at X2
  clear l2; subst y2 z2
  obtain ⟨rfl, rfl, e2q⟩ := hQ2
  have N2a := Fr.app N0 (Fr.nil n0)
  obtain ⟨T4, X4, e4, st4⟩ := getF X2 hx hZ hown (host := "") (Or.inl (wt hw 147 rfl)) Via.refl e2q bN1 (g := (mkF m 16 #[.val (.ref a1), .val (.ref a2), .val (.int (Int32.ofNat 3))] [(.ref a1), (.ref a1)])) rfl rfl (hb hby k42_16)
  obtain ⟨cq5, q5, q5'⟩ := bE1.cell
  obtain ⟨_, _, ⟨T5, L5, k5, n5⟩, -, X5, ⟨Lc5, hQ5, l5, y5, z5⟩, st5⟩ := X4.privateBack hx (y := m34_) hown (mvT hZ (wt hw 149 rfl)) (mvT hZ (wt hw 150 rfl)) (own_selSelf (mvT hZ (wt hw 150 rfl)) (Cond.privateMethod_at (mvP hZ (wt hw 151 rfl) (args := #[]))) (notFace_of_selects (args := #[]) (mvT hZ (wt hw 152 rfl))) (by decide)) (Cond.privateMethod_at (mvP hZ (wt hw 151 rfl) (args := #[]))) (mvT hZ (wt hw 153 rfl)) (by decide) (backOf (W := 0) (rmEn l Z a0 hw [] a1 b kb (64 : Int32) (1 : Int32) (128 : Int32) (67 : Int32) (134 : Int32) (6 : Int32) (4 : Int32) (132 : Int32) (132 : Int32) (260 : Int32) (130 : Int32) (wideBytes es) 128 260 (64 : Int32) (3 : Int32) h0 n0 (Nat.le_trans Z0 (Keep.refl h0 [a1]).1) ⟨bE1, bV1, bC1, bN1, bM1, bA1⟩ g_a1 (by decide) (by decide) (by decide) (by decide) (by decide) (by decide) (by decide) (by decide) (by decide) (by decide) (by rw [own_wlen]; omega) rfl rfl (by decide) (by decide) (by decide) (by decide) (by decide) (by decide)) hZ (wt hw 153 rfl) (wt hw 83 rfl) (by decide) (by decide)) (g := (mkF m 21 #[.val (.ref a1), .val (.ref a2), .val (.int (Int32.ofNat 3))] [(.int (67 : Int32)), (.ref a1)])) rfl (by rw [hml]; rfl) (Steps.refl _) (a := a1) (by rw [e4]; exact q5) q5' (argsL := [(.int (67 : Int32))]) (rest := []) (lenOf pd21_ rfl) rfl (by show 2 * 0 + _ ≤ _; exact Nat.le_of_eq rfl) (hb hby k42_21) (fun _ _ => ⟨rfl, e4, (by decide : 0 + 1 ≤ _), (by decide : 0 + 260 ≤ _)⟩)
  dsimp only [Pt.U, Pt.locs, Pt.cells, Pt.slots] at X5 l5 y5 z5 st5 hQ5
  rw [l5] at X5
  clear l5; subst y5 z5
  obtain ⟨t5, tk5, rfl, N5q, K5q, ts5, Sb5⟩ := hQ5
  have N5a := Fr.app N2a N5q
  have K1 : Keep h0 T5.heap [a1] := (Keep.refl h0 [a1]).trans K5q (allS (Or.inl (List.mem_of_getElem? (i := 0) rfl)) all0)
  have sz_t5 : h0.size ≤ t5 := Nat.le_trans (Keep.refl h0 [a1]).1 ts5
  have g_t5 : n0 ≤ t5 := Nat.le_trans Z0 sz_t5
  obtain ⟨bE6, bV6, bC6, bN6, bM6, bA6⟩ := id Sb5
  obtain ⟨T7, X7, e7, st7⟩ := getF X5 hx hZ hown (host := "") (Or.inl (wt hw 147 rfl)) Via.refl rfl bN6 (g := (mkF m 26 #[.val (.ref a1), .val (.ref a2), .val (.int (Int32.ofNat 3))] [(.ref a1), (.ref a1)])) rfl rfl (hb hby k42_26)
  have f9 : Old Z n0 T5.heap := (O0.keep K5q (allS g_a1 all0))
  have f10 : StrU Z T5.heap a2 own_dots := (S_a2.keep ((Keep.refl h0 [a1]).trans K5q (allS (Or.inl (List.mem_of_getElem? (i := 0) rfl)) all0)) (allS (Or.inr ⟨_, _, _, bE1, (by decide), (wt hw 74 rfl)⟩) all0))
  obtain ⟨cq8, q8, q8'⟩ := bE6.cell
  obtain ⟨_, _, ⟨T8, L8, k8, n8⟩, -, X8, ⟨Lc8, hQ8, l8, y8, z8⟩, st8⟩ := X7.privateBack hx (y := m42_) hown (mvT hZ (wt hw 171 rfl)) (mvT hZ (wt hw 172 rfl)) (own_selSelf (mvT hZ (wt hw 172 rfl)) (Cond.privateMethod_at (mvP hZ (wt hw 173 rfl) (args := #[]))) (notFace_of_selects (args := #[]) (mvT hZ (wt hw 174 rfl))) (by decide)) (Cond.privateMethod_at (mvP hZ (wt hw 173 rfl) (args := #[]))) (mvT hZ (wt hw 175 rfl)) (by decide) (backOf (W := 0) (rmPu3 l Z a0 hw [] a1 a2 t5 tk5 (64 : Int32) es T5.heap n0 (Nat.le_trans Z0 K1.1) hG f9 ⟨bE6, bV6, bC6, bN6, bM6, bA6⟩ g_a1 f10 hes g_t5) hZ (wt hw 175 rfl) (wt hw 83 rfl) (by decide) (by decide)) (g := (mkF m 30 #[.val (.ref a1), .val (.ref a2), .val (.int (Int32.ofNat 3))] [(.ref a2), (.int (64 : Int32)), (.ref a1)])) rfl (by rw [hml]; rfl) (Steps.refl _) (a := a1) (by rw [e7]; exact q8) q8' (argsL := [(.int (64 : Int32)), (.ref a2)]) (rest := []) (lenOf pd28_ rfl) rfl (by show 2 * 0 + _ ≤ _; exact Nat.le_of_eq rfl) (hb hby k42_30) (fun _ _ => ⟨rfl, e7, (by decide : 1 + 0 ≤ _), (by decide : 260 + 0 ≤ _)⟩)
  dsimp only [Pt.U, Pt.locs, Pt.cells, Pt.slots] at X8 l8 y8 z8 st8 hQ8
  rw [l8] at X8
  clear l8; subst y8 z8
  obtain ⟨rfl, N8q, K8q, Pw8⟩ := hQ8
  have N8a := Fr.app N5a N8q
  have K2 : Keep h0 T8.heap [a1] := K1.trans K8q (allS (Or.inr sz_t5) all0)
  have f11 : Fld Z T8.heap a1 "java/lang/AbstractStringBuilder" "count" "I" (.int (64 : Int32)) := (bN6.keep K8q (ninS (Nat.ne_of_lt (Nat.lt_of_lt_of_le bE1.lt ts5)) nin0))
  obtain ⟨T12, X12, e12, st12⟩ := getF X8 hx hZ hown (host := "") (Or.inl (wt hw 147 rfl)) Via.refl rfl f11 (g := (mkF m 35 #[.val (.ref a1), .val (.ref a2), .val (.int (Int32.ofNat 3))] [(.ref a1), (.ref a1)])) rfl rfl (hb hby k42_35)
  have f13 : Exa Z T8.heap a1 "java/lang/StringBuilder" := (bE6.keep K8q)
  obtain ⟨T14, h14, X14, e14, W14, st14⟩ := putF X12 hx hZ hown (host := "") (Or.inl (wt hw 147 rfl)) Via.refl e12 f11 f13 (Or.inl (wt hw 148 rfl)) (wt hw 74 rfl) (ty := .int) (by decide) rfl rfl (g := (mkF m 40 #[.val (.ref a1), .val (.ref a2), .val (.int (Int32.ofNat 3))] [(.int (67 : Int32)), (.ref a1)])) rfl rfl (hb hby k42_40)
  have Fw14 := f11.same W14
  have Nf14 := Fr.snoc X14 N8a g_a1
  have K3 : Keep h0 h14 [a1] := K2.wr W14 (Or.inl (List.mem_of_getElem? (i := 0) rfl))
  have f15 : Exa Z h14 a1 "java/lang/StringBuilder" := (f13.wr W14)
  have f16 : Fld Z h14 a1 "java/lang/AbstractStringBuilder" "value" "[B" (.ref t5) := ((bV6.keep K8q (ninS (Nat.ne_of_lt (Nat.lt_of_lt_of_le bE1.lt ts5)) nin0)).other W14 (Or.inr (slot_ne (Or.inl (wt hw 88 rfl)) (Or.inl (wt hw 148 rfl)) (by decide) (t := (.array .byte)) (t' := .int) (by decide) (by decide))))
  have f17 : Fld Z h14 a1 "java/lang/AbstractStringBuilder" "coder" "B" (.int (1 : Int32)) := ((bC6.keep K8q (ninS (Nat.ne_of_lt (Nat.lt_of_lt_of_le bE1.lt ts5)) nin0)).other W14 (Or.inr (slot_ne (Or.inl (wt hw 90 rfl)) (Or.inl (wt hw 148 rfl)) (by decide) (t := .byte) (t' := .int) (by decide) (by decide))))
  have f18 : Fld Z h14 a1 "java/lang/AbstractStringBuilder" "maybeLatin1" "Z" (.int (0 : Int32)) := ((bM6.keep K8q (ninS (Nat.ne_of_lt (Nat.lt_of_lt_of_le bE1.lt ts5)) nin0)).other W14 (Or.inr (slot_ne (Or.inl (wt hw 265 rfl)) (Or.inl (wt hw 148 rfl)) (by decide) (t := .boolean) (t' := .int) (by decide) (by decide))))
  have f19 : Arv Z h14 t5 tk5 .byte (260 : Int32) (wideBytes (es ++ own_dots)) (.int (0 : Int32)) := (Pw8.other W14 (Ne.symm (Nat.ne_of_lt (Nat.lt_of_lt_of_le bE1.lt ts5))))
  obtain ⟨fs, hr, hrun, hended, hW, hsame⟩ := X14.leave (v := some (.ref a1)) (fun h => by rw [Bd.returns] at h; cases h)
  refine ⟨_, _, pre0 _ ?_, hrun, hended, _, _, rfl, ?_, ⟨_, rfl⟩, hW, hsame.mono (by decide) (by decide)⟩
  · show Steps p.tables e below (s₁.setTop (mkF m 0 #[.val (.ref a1), .val (.ref a2), .unset] [])) _
    refine XS.aloadN X0.here hx rfl (hb hby k42_0) rfl rfl ?_
    show Steps p.tables e below (s₁.setTop (mkF m 1 #[.val (.ref a1), .val (.ref a2), .unset] [(.ref a2)])) _
    refine XS.ifnonnullYes X0.here hx rfl (pc0 := 1) (pc' := 9) rfl (hb hby k42_1) rfl (by decide) (by decide) ?_
    refine XS.aloadN X0.here hx rfl (hb hby k42_9) rfl rfl ?_
    show Steps p.tables e below (s₁.setTop (mkF m 10 #[.val (.ref a1), .val (.ref a2), .unset] [(.ref a2)])) _
    refine st2.trans ?_
    show Steps p.tables e below (T2.setTop (mkF m 13 #[.val (.ref a1), .val (.ref a2), .unset] [(.int (Int32.ofNat own_dots.length))])) _
    rw [(show own_dots.length = 3 from rfl)]
    refine XS.istoreN X2.here hx rfl (hb hby k42_13) rfl (l' := #[.val (.ref a1), .val (.ref a2), .val (.int (Int32.ofNat 3))]) rfl ?_
    refine XS.aloadN X2.here hx rfl (hb hby k42_14) rfl rfl ?_
    refine XS.aloadN X2.here hx rfl (hb hby k42_15) rfl rfl ?_
    show Steps p.tables e below (T2.setTop (mkF m 16 #[.val (.ref a1), .val (.ref a2), .val (.int (Int32.ofNat 3))] [(.ref a1), (.ref a1)])) _
    refine st4 _ ?_
    refine XS.iloadN X4.here hx rfl (hb hby k42_19) rfl ?_
    refine XS.iadd X4.here hx rfl (hb hby k42_20) rfl ?_
    show Steps p.tables e below (T4.setTop (mkF m 21 #[.val (.ref a1), .val (.ref a2), .val (.int (Int32.ofNat 3))] [(.int ((64 : Int32) + (Int32.ofNat 3))), (.ref a1)])) _
    rw [(by decide : ((64 : Int32) + (Int32.ofNat 3)) = (67 : Int32))]
    show Steps p.tables e below (T4.setTop (mkF m 21 #[.val (.ref a1), .val (.ref a2), .val (.int (Int32.ofNat 3))] [(.int (67 : Int32)), (.ref a1)])) _
    refine st5.trans ?_
    refine XS.aloadN X5.here hx rfl (hb hby k42_24) rfl rfl ?_
    refine XS.aloadN X5.here hx rfl (hb hby k42_25) rfl rfl ?_
    show Steps p.tables e below (T5.setTop (mkF m 26 #[.val (.ref a1), .val (.ref a2), .val (.int (Int32.ofNat 3))] [(.ref a1), (.ref a1)])) _
    refine st7 _ ?_
    refine XS.aloadN X7.here hx rfl (hb hby k42_29) rfl rfl ?_
    show Steps p.tables e below (T7.setTop (mkF m 30 #[.val (.ref a1), .val (.ref a2), .val (.int (Int32.ofNat 3))] [(.ref a2), (.int (64 : Int32)), (.ref a1)])) _
    refine st8.trans ?_
    refine XS.aloadN X8.here hx rfl (hb hby k42_33) rfl rfl ?_
    refine XS.dup X8.here hx rfl (hb hby k42_34) rfl rfl ?_
    show Steps p.tables e below (T8.setTop (mkF m 35 #[.val (.ref a1), .val (.ref a2), .val (.int (Int32.ofNat 3))] [(.ref a1), (.ref a1)])) _
    refine st12 _ ?_
    refine XS.iloadN X12.here hx rfl (hb hby k42_38) rfl ?_
    refine XS.iadd X12.here hx rfl (hb hby k42_39) rfl ?_
    show Steps p.tables e below (T12.setTop (mkF m 40 #[.val (.ref a1), .val (.ref a2), .val (.int (Int32.ofNat 3))] [(.int ((64 : Int32) + (Int32.ofNat 3))), (.ref a1)])) _
    rw [(by decide : ((64 : Int32) + (Int32.ofNat 3)) = (67 : Int32))]
    show Steps p.tables e below (T12.setTop (mkF m 40 #[.val (.ref a1), .val (.ref a2), .val (.int (Int32.ofNat 3))] [(.int (67 : Int32)), (.ref a1)])) _
    refine st14 _ ?_
    refine XS.aloadN X14.here hx rfl (hb hby k42_43) rfl rfl ?_
    show Steps p.tables e below (T14.setTop (mkF m 44 #[.val (.ref a1), .val (.ref a2), .val (.int (Int32.ofNat 3))] [(.ref a1)])) _
    jvm_step X14.here [X14.here.top, hx, (hb hby k42_44), X14.method', Bd.returns, Value.isRef, FieldType.isReference]
    first | (intro acts; rw [hr _ acts rfl rfl rfl]) | rw [hr _ _ rfl rfl rfl]
    exact Steps.refl _
  · show QSB Z (some (.ref a1)) a1 (1 : Int32) (67 : Int32) (260 : Int32) (wideBytes (es ++ own_dots)) h0 n0 _ T14.heap _
    rw [e14]
    exact ⟨t5, tk5, rfl, Nf14, K3, sz_t5, ⟨f15, f16, f17, Fw14, f18, f19⟩⟩
theorem rmSa4 (l : Launch) (Z : State) (a0 : Array Value) (hw : HW a0 Z) (ws : List Jvm.Cond) (a1 a2 b : Addr) (kb : ClassId) (es : List Int32) (h0 : Heap) (n0 : Nat) (Z0 : n0 ≤ h0.size) (hG : GST Z) (O0 : Old Z n0 h0) (B_a1 : SBF Z h0 a1 (1 : Int32) (64 : Int32) (Int32.ofNat (2 * 64)) (wideBytes es) b kb) (g_a1 : n0 ≤ a1) (S_a2 : StrU Z h0 a2 own_dots) (hes : es.length = 64) :
    Met l Z ws m44_ jdk_67_method_7_code 2 (some (.object "java/lang/StringBuilder")) ({ frames := 9, cells := 2, slots := 520, locals := 130 } : Room) h0 #[(.ref a1), (.ref a2)] (QSB Z (some (.ref a1)) a1 (1 : Int32) (67 : Int32) (260 : Int32) (wideBytes (es ++ own_dots)) h0 n0) := by
  refine MetFree.of_bodySF (plainFor_of_name pn6_) hisR ?_
  intro p e s m args below meth c s₁ Bd hml0 hP hK
  obtain ⟨rfl, hZ, hh⟩ := hP
  have hx := Bd.exec
  have hby := Bd.bytes
  have hml : c.maxLocals = 2 := hml0
  have hown : s.vm.findClass "java/lang/StringBuilder" = some m.cls := findClass_of_methodNamed Bd.named
  have X0 : Stand p l e ({ frames := 9, cells := 2, slots := 520, locals := 130 } : Room) s m #[(.ref a1), (.ref a2)] below meth c s₁ [] 0 0 := Stand.of_body Bd
  have e0 : s₁.heap = h0 := by rw [← hh, Bd.state]; rfl
  have N0 := Fr.nil n0
  have pre0 : ∀ t, Steps p.tables e below (s₁.setTop (mkF m 0 #[.val (.ref a1), .val (.ref a2)] [])) t → Steps p.tables e below (s₁.setTop (entryFrame m #[(.ref a1), (.ref a2)] 2)) t := fun t k => castTop (ef43_ m a1 a2) k
  obtain ⟨⟨G1, O2, P5⟩, ⟨G3, O4, rG3⟩, Sa, Sh, Sl⟩ := id hG
  obtain ⟨bE1, bV1, bC1, bN1, bM1, bA1⟩ := id B_a1
  obtain ⟨_, _, ⟨T2, L2, k2, n2⟩, -, X2, ⟨Lc2, hQ2, l2, y2, z2⟩, st2⟩ := superBack X0 hx hZ (y := m43_) hown (wt hw 141 rfl) (own_same (y2 := m43_) (wt hw 144 rfl) (own_nf (notFace_of_selects (args := a0) (wt hw 204 rfl)) (own_named (wt hw 202 rfl)) rfl) (by decide)) (wt hw 142 rfl) (wt hw 143 rfl) (by decide) (backOf (W := 0) (rmAa4 l Z a0 hw [] a1 a2 b kb es h0 n0 (Nat.le_trans Z0 (Keep.refl h0 [a1]).1) hG O0 ⟨bE1, bV1, bC1, bN1, bM1, bA1⟩ g_a1 S_a2 hes) hZ (wt hw 145 rfl) (wt hw 83 rfl) (by decide) (by decide)) e0 (Ins.self bE1) (g := (mkF m 2 #[.val (.ref a1), .val (.ref a2)] [(.ref a2), (.ref a1)])) rfl (by rw [hml]; rfl) (wt hw 145 rfl) (argsL := [(.ref a2)]) (rest := []) (lenOf pd29_ rfl) rfl (by show 2 * 0 + _ ≤ _; exact Nat.le_of_eq rfl) (hb hby k43_2) (fun _ _ => ⟨rfl, e0, (by decide : 0 + 2 ≤ _), (by decide : 0 + 520 ≤ _)⟩)
  dsimp only [Pt.U, Pt.locs, Pt.cells, Pt.slots] at X2 l2 y2 z2 st2 hQ2
  rw [l2] at X2
  clear l2; subst y2 z2
  obtain ⟨t2, tk2, rfl, N2q, K2q, ts2, Sb2⟩ := hQ2
  have N2a := Fr.app N0 N2q
  have K1 : Keep h0 T2.heap [a1] := (Keep.refl h0 [a1]).trans K2q (allS (Or.inl (List.mem_of_getElem? (i := 0) rfl)) all0)
  have sz_t2 : h0.size ≤ t2 := Nat.le_trans (Keep.refl h0 [a1]).1 ts2
  obtain ⟨bE3, bV3, bC3, bN3, bM3, bA3⟩ := id Sb2
  obtain ⟨fs, hr, hrun, hended, hW, hsame⟩ := X2.leave (v := some (.ref a1)) (fun h => by rw [Bd.returns] at h; cases h)
  refine ⟨_, _, pre0 _ ?_, hrun, hended, _, _, rfl, ?_, ⟨_, rfl⟩, hW, hsame.mono (by decide) (by decide)⟩
  · show Steps p.tables e below (s₁.setTop (mkF m 0 #[.val (.ref a1), .val (.ref a2)] [])) _
    refine XS.aloadN X0.here hx rfl (hb hby k43_0) rfl rfl ?_
    refine XS.aloadN X0.here hx rfl (hb hby k43_1) rfl rfl ?_
    show Steps p.tables e below (s₁.setTop (mkF m 2 #[.val (.ref a1), .val (.ref a2)] [(.ref a2), (.ref a1)])) _
    refine st2.trans ?_
    refine XS.pop X2.here hx rfl (hb hby k43_5) rfl rfl ?_
    refine XS.aloadN X2.here hx rfl (hb hby k43_6) rfl rfl ?_
    show Steps p.tables e below (T2.setTop (mkF m 7 #[.val (.ref a1), .val (.ref a2)] [(.ref a1)])) _
    jvm_step X2.here [X2.here.top, hx, (hb hby k43_7), X2.method', Bd.returns, Value.isRef, FieldType.isReference]
    first | (intro acts; rw [hr _ acts rfl rfl rfl]) | rw [hr _ _ rfl rfl rfl]
    exact Steps.refl _
  · show QSB Z (some (.ref a1)) a1 (1 : Int32) (67 : Int32) (260 : Int32) (wideBytes (es ++ own_dots)) h0 n0 _ T2.heap _
    exact ⟨t2, tk2, rfl, N2a, K1, sz_t2, ⟨bE3, bV3, bC3, bN3, bM3, bA3⟩⟩
theorem k44_0 : decode c44_ 0 = .ok (.aload_n 0, 1) := by decide +kernel
theorem k44_1 : decode c44_ 1 = .ok (.getfield 15, 3) := by decide +kernel
theorem k44_4 : decode c44_ 4 = .ok (.areturn, 1) := by decide +kernel
theorem ef44_ (m : MethodId) (x0 : Addr) : entryFrame m #[(.ref x0)] 1 = mkF m 0 #[.val (.ref x0)] [] := by first | (simp [entryFrame, mkF, argsToLocals, Value.category]; done) | rfl
theorem rmGv (l : Launch) (Z : State) (a0 : Array Value) (hw : HW a0 Z) (ws : List Jvm.Cond) (a1 b : Addr) (h0 : Heap) (n0 : Nat) (Z0 : n0 ≤ h0.size) (F_value_a1 : Fld Z h0 a1 "java/lang/AbstractStringBuilder" "value" "[B" (.ref b)) :
    Met l Z ws m45_ jdk_68_method_64_code 1 (some (.array .byte)) ({ frames := 0, cells := 0, slots := 0, locals := 0 } : Room) h0 #[(.ref a1)] (QN b h0 n0) := by
  refine MetFree.of_bodySF (plainFor_of_name pn5_) hisR ?_
  intro p e s m args below meth c s₁ Bd hml0 hP hK
  obtain ⟨rfl, hZ, hh⟩ := hP
  have hx := Bd.exec
  have hby := Bd.bytes
  have hown : s.vm.findClass "java/lang/AbstractStringBuilder" = some m.cls := findClass_of_methodNamed Bd.named
  have X0 : Stand p l e ({ frames := 0, cells := 0, slots := 0, locals := 0 } : Room) s m #[(.ref a1)] below meth c s₁ [] 0 0 := Stand.of_body Bd
  have e0 : s₁.heap = h0 := by rw [← hh, Bd.state]; rfl
  have N0 := Fr.nil n0
  have pre0 : ∀ t, Steps p.tables e below (s₁.setTop (mkF m 0 #[.val (.ref a1)] [])) t → Steps p.tables e below (s₁.setTop (entryFrame m #[(.ref a1)] 1)) t := fun t k => castTop (ef44_ m a1) k
  obtain ⟨T1, X1, e1, st1⟩ := getF X0 hx hZ hown (host := "") (Or.inl (wt hw 87 rfl)) Via.refl e0 F_value_a1 (g := (mkF m 1 #[.val (.ref a1)] [(.ref a1)])) rfl rfl (hb hby k44_1)
  obtain ⟨fs, hr, hrun, hended, hW, hsame⟩ := X1.leave (v := some (.ref b)) (fun h => by rw [Bd.returns] at h; cases h)
  refine ⟨_, _, pre0 _ ?_, hrun, hended, _, _, rfl, ?_, ⟨_, rfl⟩, hW, hsame.mono (by decide) (by decide)⟩
  · show Steps p.tables e below (s₁.setTop (mkF m 0 #[.val (.ref a1)] [])) _
    refine XS.aloadN X0.here hx rfl (hb hby k44_0) rfl rfl ?_
    show Steps p.tables e below (s₁.setTop (mkF m 1 #[.val (.ref a1)] [(.ref a1)])) _
    refine st1 _ ?_
    show Steps p.tables e below (T1.setTop (mkF m 4 #[.val (.ref a1)] [(.ref b)])) _
    jvm_step X1.here [X1.here.top, hx, (hb hby k44_4), X1.method', Bd.returns, Value.isRef, FieldType.isReference]
    first | (intro acts; rw [hr _ acts rfl rfl rfl]) | rw [hr _ _ rfl rfl rfl]
    exact Steps.refl _
  · show QN b h0 n0 _ T1.heap _
    rw [e1]
    exact ⟨rfl, N0, rfl⟩
theorem k45_0 : decode c45_ 0 = .ok (.aload_n 0, 1) := by decide +kernel
theorem k45_1 : decode c45_ 1 = .ok (.getfield 79, 3) := by decide +kernel
theorem k45_4 : decode c45_ 4 = .ok (.ireturn, 1) := by decide +kernel
theorem ef45_ (m : MethodId) (x0 : Addr) : entryFrame m #[(.ref x0)] 1 = mkF m 0 #[.val (.ref x0)] [] := by first | (simp [entryFrame, mkF, argsToLocals, Value.category]; done) | rfl
theorem rmAl (l : Launch) (Z : State) (a0 : Array Value) (hw : HW a0 Z) (ws : List Jvm.Cond) (a1 : Addr) (p2 : Int32) (h0 : Heap) (n0 : Nat) (Z0 : n0 ≤ h0.size) (F_count_a1 : Fld Z h0 a1 "java/lang/AbstractStringBuilder" "count" "I" (.int p2)) :
    Met l Z ws m46_ jdk_68_method_6_code 1 (some .int) ({ frames := 0, cells := 0, slots := 0, locals := 0 } : Room) h0 #[(.ref a1)] (QB p2 h0 n0) := by
  refine MetFree.of_bodySF (plainFor_of_name pn5_) hisR ?_
  intro p e s m args below meth c s₁ Bd hml0 hP hK
  obtain ⟨rfl, hZ, hh⟩ := hP
  have hx := Bd.exec
  have hby := Bd.bytes
  have hown : s.vm.findClass "java/lang/AbstractStringBuilder" = some m.cls := findClass_of_methodNamed Bd.named
  have X0 : Stand p l e ({ frames := 0, cells := 0, slots := 0, locals := 0 } : Room) s m #[(.ref a1)] below meth c s₁ [] 0 0 := Stand.of_body Bd
  have e0 : s₁.heap = h0 := by rw [← hh, Bd.state]; rfl
  have N0 := Fr.nil n0
  have pre0 : ∀ t, Steps p.tables e below (s₁.setTop (mkF m 0 #[.val (.ref a1)] [])) t → Steps p.tables e below (s₁.setTop (entryFrame m #[(.ref a1)] 1)) t := fun t k => castTop (ef45_ m a1) k
  obtain ⟨T1, X1, e1, st1⟩ := getF X0 hx hZ hown (host := "") (Or.inl (wt hw 147 rfl)) Via.refl e0 F_count_a1 (g := (mkF m 1 #[.val (.ref a1)] [(.ref a1)])) rfl rfl (hb hby k45_1)
  obtain ⟨fs, hr, hrun, hended, hW, hsame⟩ := X1.leave (v := some (.int p2)) (fun h => by rw [Bd.returns] at h; cases h)
  refine ⟨_, _, pre0 _ ?_, hrun, hended, _, _, rfl, ?_, ⟨_, rfl⟩, hW, hsame.mono (by decide) (by decide)⟩
  · show Steps p.tables e below (s₁.setTop (mkF m 0 #[.val (.ref a1)] [])) _
    refine XS.aloadN X0.here hx rfl (hb hby k45_0) rfl rfl ?_
    show Steps p.tables e below (s₁.setTop (mkF m 1 #[.val (.ref a1)] [(.ref a1)])) _
    refine st1 _ ?_
    show Steps p.tables e below (T1.setTop (mkF m 4 #[.val (.ref a1)] [(.int p2)])) _
    exact retI X1 hx Bd.returns (hb hby k45_4) hr
  · show QB p2 h0 n0 _ T1.heap _
    rw [e1]
    exact ⟨rfl, N0, rfl⟩
theorem k46_0 : decode c46_ 0 = .ok (.aload_n 0, 1) := by decide +kernel
theorem k46_1 : decode c46_ 1 = .ok (.invokespecial 343, 3) := by decide +kernel
theorem k46_4 : decode c46_ 4 = .ok (.ireturn, 1) := by decide +kernel
theorem ef46_ (m : MethodId) (x0 : Addr) : entryFrame m #[(.ref x0)] 1 = mkF m 0 #[.val (.ref x0)] [] := by first | (simp [entryFrame, mkF, argsToLocals, Value.category]; done) | rfl
theorem rmSl (l : Launch) (Z : State) (a0 : Array Value) (hw : HW a0 Z) (ws : List Jvm.Cond) (a1 : Addr) (p2 : Int32) (h0 : Heap) (n0 : Nat) (Z0 : n0 ≤ h0.size) (E_a1 : Exa Z h0 a1 "java/lang/StringBuilder") (F_count_a1 : Fld Z h0 a1 "java/lang/AbstractStringBuilder" "count" "I" (.int p2)) :
    Met l Z ws m47_ jdk_67_method_93_code 1 (some .int) ({ frames := 1, cells := 0, slots := 0, locals := 14 } : Room) h0 #[(.ref a1)] (QB p2 h0 n0) := by
  refine MetFree.of_bodySF (plainFor_of_name pn6_) hisR ?_
  intro p e s m args below meth c s₁ Bd hml0 hP hK
  obtain ⟨rfl, hZ, hh⟩ := hP
  have hx := Bd.exec
  have hby := Bd.bytes
  have hml : c.maxLocals = 1 := hml0
  have hown : s.vm.findClass "java/lang/StringBuilder" = some m.cls := findClass_of_methodNamed Bd.named
  have X0 : Stand p l e ({ frames := 1, cells := 0, slots := 0, locals := 14 } : Room) s m #[(.ref a1)] below meth c s₁ [] 0 0 := Stand.of_body Bd
  have e0 : s₁.heap = h0 := by rw [← hh, Bd.state]; rfl
  have N0 := Fr.nil n0
  have pre0 : ∀ t, Steps p.tables e below (s₁.setTop (mkF m 0 #[.val (.ref a1)] [])) t → Steps p.tables e below (s₁.setTop (entryFrame m #[(.ref a1)] 1)) t := fun t k => castTop (ef46_ m a1) k
  obtain ⟨_, _, ⟨T1, L1, k1, n1⟩, -, X1, ⟨Lc1, hQ1, l1, y1, z1⟩, st1⟩ := superBack X0 hx hZ (y := m46_) hown (wt hw 212 rfl) (own_same (y2 := m46_) (wt hw 207 rfl) (own_nf (notFace_of_selects (args := a0) (wt hw 204 rfl)) (own_named (wt hw 202 rfl)) rfl) (by decide)) (wt hw 208 rfl) (wt hw 143 rfl) (by decide) (backOf (W := 0) (rmAl l Z a0 hw [] a1 p2 h0 n0 (Nat.le_trans Z0 (Keep.refl h0 []).1) F_count_a1) hZ (wt hw 213 rfl) (wt hw 83 rfl) (by decide) (by decide)) e0 (Ins.self E_a1) (g := (mkF m 1 #[.val (.ref a1)] [(.ref a1)])) rfl (by rw [hml]; rfl) (wt hw 213 rfl) (argsL := []) (rest := []) (lenOf pd17_ rfl) rfl (by show 2 * 0 + _ ≤ _; exact Nat.le_of_eq rfl) (hb hby k46_1) (fun _ _ => ⟨rfl, e0, (by decide : 0 + 0 ≤ _), (by decide : 0 + 0 ≤ _)⟩)
  dsimp only [Pt.U, Pt.locs, Pt.cells, Pt.slots] at X1 l1 y1 z1 st1 hQ1
  rw [l1] at X1
  clear l1; subst y1 z1
  obtain ⟨rfl, N1q, e1q⟩ := hQ1
  have N1a := Fr.app N0 N1q
  obtain ⟨fs, hr, hrun, hended, hW, hsame⟩ := X1.leave (v := some (.int p2)) (fun h => by rw [Bd.returns] at h; cases h)
  refine ⟨_, _, pre0 _ ?_, hrun, hended, _, _, rfl, ?_, ⟨_, rfl⟩, hW, hsame.mono (by decide) (by decide)⟩
  · show Steps p.tables e below (s₁.setTop (mkF m 0 #[.val (.ref a1)] [])) _
    refine XS.aloadN X0.here hx rfl (hb hby k46_0) rfl rfl ?_
    show Steps p.tables e below (s₁.setTop (mkF m 1 #[.val (.ref a1)] [(.ref a1)])) _
    refine st1.trans ?_
    show Steps p.tables e below (T1.setTop (mkF m 4 #[.val (.ref a1)] [(.int p2)])) _
    exact retI X1 hx Bd.returns (hb hby k46_4) hr
  · show QB p2 h0 n0 _ T1.heap _
    rw [e1q]
    exact ⟨rfl, N1a, rfl⟩
theorem k47_0 : decode c47_ 0 = .ok (.aload_n 0, 1) := by decide +kernel
theorem k47_1 : decode c47_ 1 = .ok (.invokespecial 1, 3) := by decide +kernel
theorem k47_4 : decode c47_ 4 = .ok (.aload_n 1, 1) := by decide +kernel
theorem k47_5 : decode c47_ 5 = .ok (.invokevirtual 552, 3) := by decide +kernel
theorem k47_8 : decode c47_ 8 = .ok (.astore_n 3, 1) := by decide +kernel
theorem k47_9 : decode c47_ 9 = .ok (.aload_n 1, 1) := by decide +kernel
theorem k47_10 : decode c47_ 10 = .ok (.invokevirtual 549, 3) := by decide +kernel
theorem k47_13 : decode c47_ 13 = .ok (.istore 4, 2) := by decide +kernel
theorem k47_15 : decode c47_ 15 = .ok (.aload_n 1, 1) := by decide +kernel
theorem k47_16 : decode c47_ 16 = .ok (.invokevirtual 1047, 3) := by decide +kernel
theorem k47_19 : decode c47_ 19 = .ok (.ifCond .eq 22, 3) := by decide +kernel
theorem k47_22 : decode c47_ 22 = .ok (.aload_n 0, 1) := by decide +kernel
theorem k47_23 : decode c47_ 23 = .ok (.iconst 0, 1) := by decide +kernel
theorem k47_24 : decode c47_ 24 = .ok (.putfield 15, 3) := by decide +kernel
theorem k47_27 : decode c47_ 27 = .ok (.aload_n 0, 1) := by decide +kernel
theorem k47_28 : decode c47_ 28 = .ok (.aload_n 3, 1) := by decide +kernel
theorem k47_29 : decode c47_ 29 = .ok (.iconst 0, 1) := by decide +kernel
theorem k47_30 : decode c47_ 30 = .ok (.iload 4, 2) := by decide +kernel
theorem k47_32 : decode c47_ 32 = .ok (.invokestatic 54, 3) := by decide +kernel
theorem k47_35 : decode c47_ 35 = .ok (.putfield 9, 3) := by decide +kernel
theorem k47_38 : decode c47_ 38 = .ok (.goto 59, 3) := by decide +kernel
theorem k47_97 : decode c47_ 97 = .ok (.return_, 1) := by decide +kernel
theorem pd30_ : parseMethodDescriptor "()[B" = some ⟨[], some (.array .byte)⟩ := by decide +kernel
theorem ef47_ (m : MethodId) (x0 : Addr) (x1 : Addr) : entryFrame m #[(.ref x0), (.ref x1), .null] 5 = mkF m 0 #[.val (.ref x0), .val (.ref x1), .val .null, .unset, .unset] [] := by first | (simp [entryFrame, mkF, argsToLocals, Value.category]; done) | rfl
theorem rmIa0 (l : Launch) (Z : State) (a0 : Array Value) (hw : HW a0 Z) (ws : List Jvm.Cond) (a1 a2 b : Addr) (kb : ClassId) (es : List Int32) (uv uc : Value) (h0 : Heap) (n0 : Nat) (Z0 : n0 ≤ h0.size) (E_a1 : Exa Z h0 a1 "java/lang/String") (F_value_a1 : Fld Z h0 a1 "java/lang/String" "value" "[B" uv) (F_coder_a1 : Fld Z h0 a1 "java/lang/String" "coder" "B" uc) (g_a1 : n0 ≤ a1) (hG : GST Z) (O0 : Old Z n0 h0) (B_a2 : SBF Z h0 a2 (0 : Int32) (Int32.ofNat 67) (Int32.ofNat 130) (es.map own_lo) b kb) (hes : es.length = 67) (hlw : ∀ c ∈ es, ¬ (255 : Int32) < c) (hc : ∀ c ∈ es, ¬ c < 0 ∧ ¬ (65535 : Int32) < c) :
    Met l Z ws m48_ jdk_42_method_150_code 5 none ({ frames := 3, cells := 1, slots := 134, locals := 76 } : Room) h0 #[(.ref a1), (.ref a2), .null] (QSt Z a1 es h0 n0) := by
  refine MetFree.of_bodySF (plainFor_of_name pn0_) hisR ?_
  intro p e s m args below meth c s₁ Bd hml0 hP hK
  obtain ⟨rfl, hZ, hh⟩ := hP
  have hx := Bd.exec
  have hby := Bd.bytes
  have hml : c.maxLocals = 5 := hml0
  have hown : s.vm.findClass "java/lang/String" = some m.cls := findClass_of_methodNamed Bd.named
  have hnm := (name_of_methodNamed Bd.named Bd.method).1
  have X0 : Stand p l e ({ frames := 3, cells := 1, slots := 134, locals := 76 } : Room) s m #[(.ref a1), (.ref a2), .null] below meth c s₁ [] 0 0 := Stand.of_body Bd
  have e0 : s₁.heap = h0 := by rw [← hh, Bd.state]; rfl
  have N0 := Fr.nil n0
  have pre0 : ∀ t, Steps p.tables e below (s₁.setTop (mkF m 0 #[.val (.ref a1), .val (.ref a2), .val .null, .unset, .unset] [])) t → Steps p.tables e below (s₁.setTop (entryFrame m #[(.ref a1), (.ref a2), .null] 5)) t := fun t k => castTop (ef47_ m a1 a2) k
  obtain ⟨⟨G1, O2, P5⟩, ⟨G3, O4, rG3⟩, Sa, Sh, Sl⟩ := id hG
  obtain ⟨bE1, bV1, bC1, bN1, bM1, bA1⟩ := id B_a2
  obtain ⟨T2, X2, e2, st2⟩ := initO X0 hx hZ hown (wt hw 12 rfl) (wt hw 13 rfl) (wt hw 14 rfl) e0 (g := (mkF m 1 #[.val (.ref a1), .val (.ref a2), .val .null, .unset, .unset] [(.ref a1)])) rfl (by rw [hml]; rfl) rfl (hb hby k47_1) (by decide) (W := 0) (by show 2 * 0 + _ ≤ _; exact Nat.le_of_eq rfl) (by decide)
  obtain ⟨cq3, kq3, q3a, q3b, q3c⟩ := isOf hZ e2 bE1
  obtain ⟨_, _, ⟨T3, L3, k3, n3⟩, -, X3, ⟨Lc3, hQ3, l3, y3, z3⟩, st3⟩ := X2.virtualBack hx (y := m45_) (z := m45_) hown (mvT hZ (wt hw 201 rfl)) (mvT hZ (wt hw 202 rfl)) (notFace_of_selects (args := #[]) (mvT hZ (wt hw 204 rfl))) (mvT hZ (wt hw 204 rfl)) (mvT hZ (wt hw 203 rfl)) (by decide) (backOf (W := 0) (rmGv l Z a0 hw [] a2 b h0 n0 (Nat.le_trans Z0 (Keep.refl h0 [a1]).1) bV1) hZ (wt hw 205 rfl) (wt hw 83 rfl) (by decide) (by decide)) q3a q3c (g := (mkF m 5 #[.val (.ref a1), .val (.ref a2), .val .null, .unset, .unset] [(.ref a2)])) rfl (by rw [hml]; rfl) (Steps.refl _) (argsL := []) (rest := []) (lenOf pd30_ rfl) rfl (by show 2 * 0 + _ ≤ _; exact Nat.le_of_eq rfl) (hb hby k47_5) (fun _ _ => ⟨rfl, e2, (by decide : 0 + 0 ≤ _), (by decide : 0 + 0 ≤ _)⟩)
  dsimp only [Pt.U, Pt.locs, Pt.cells, Pt.slots] at X3 l3 y3 z3 st3 hQ3
  rw [l3] at X3
  clear l3; subst y3 z3
  obtain ⟨rfl, N3q, e3q⟩ := hQ3
  have N3a := Fr.app N0 N3q
  obtain ⟨cq4, kq4, q4a, q4b, q4c⟩ := isOf hZ e3q bE1
  obtain ⟨_, _, ⟨T4, L4, k4, n4⟩, -, X4, ⟨Lc4, hQ4, l4, y4, z4⟩, st4⟩ := X3.virtualBack hx (y := m46_) (z := m47_) hown (mvT hZ (wt hw 206 rfl)) (mvT hZ (wt hw 207 rfl)) (own_nf (notFace_of_selects (args := #[]) (mvT hZ (wt hw 204 rfl))) (own_named (args := #[]) (mvT hZ (wt hw 202 rfl))) rfl) (mvT hZ (wt hw 209 rfl)) (mvT hZ (wt hw 210 rfl)) (by decide) (backOf (W := 0) (rmSl l Z a0 hw [] a2 (Int32.ofNat 67) h0 n0 (Nat.le_trans Z0 (Keep.refl h0 [a1]).1) bE1 bN1) hZ (wt hw 211 rfl) (wt hw 75 rfl) (by decide) (by decide)) q4a q4c (g := (mkF m 10 #[.val (.ref a1), .val (.ref a2), .val .null, .val (.ref b), .unset] [(.ref a2)])) rfl (by rw [hml]; rfl) (Steps.refl _) (argsL := []) (rest := []) (lenOf pd17_ rfl) rfl (by show 2 * 0 + _ ≤ _; exact Nat.le_of_eq rfl) (hb hby k47_10) (fun _ _ => ⟨rfl, e3q, (by decide : 0 + 0 ≤ _), (by decide : 0 + 0 ≤ _)⟩)
  dsimp only [Pt.U, Pt.locs, Pt.cells, Pt.slots] at X4 l4 y4 z4 st4 hQ4
  rw [l4] at X4
  clear l4; subst y4 z4
  obtain ⟨rfl, N4q, e4q⟩ := hQ4
  have N4a := Fr.app N3a N4q
  obtain ⟨cq5, kq5, q5a, q5b, q5c⟩ := isOf hZ e4q bE1
  obtain ⟨_, _, ⟨T5, L5, k5, n5⟩, -, X5, ⟨Lc5, hQ5, l5, y5, z5⟩, st5⟩ := X4.virtualBack hx (y := m38_) (z := m38_) hown (mvT hZ (wt hw 214 rfl)) (mvT hZ (wt hw 215 rfl)) (notFace_of_selects (args := #[]) (mvT hZ (wt hw 217 rfl))) (mvT hZ (wt hw 217 rfl)) (mvT hZ (wt hw 216 rfl)) (by decide) (backOf (W := 0) (rmIl0 l Z a0 hw [] a2 h0 n0 (Nat.le_trans Z0 (Keep.refl h0 [a1]).1) hG O0 bC1) hZ (wt hw 218 rfl) (wt hw 83 rfl) (by decide) (by decide)) q5a q5c (g := (mkF m 16 #[.val (.ref a1), .val (.ref a2), .val .null, .val (.ref b), .val (.int (Int32.ofNat 67))] [(.ref a2)])) rfl (by rw [hml]; rfl) (Steps.refl _) (argsL := []) (rest := []) (lenOf pd19_ rfl) rfl (by show 2 * 0 + _ ≤ _; exact Nat.le_of_eq rfl) (hb hby k47_16) (fun _ _ => ⟨rfl, e4q, (by decide : 0 + 0 ≤ _), (by decide : 0 + 0 ≤ _)⟩)
  dsimp only [Pt.U, Pt.locs, Pt.cells, Pt.slots] at X5 l5 y5 z5 st5 hQ5
  rw [l5] at X5
  clear l5; subst y5 z5
  obtain ⟨rfl, N5q, e5q⟩ := hQ5
  have N5a := Fr.app N4a N5q
  obtain ⟨T6, h6, X6, e6, W6, st6⟩ := putFN X5 hx hZ hown (wt hw 22 rfl) Via.refl e5q F_coder_a1 E_a1 (Or.inr ⟨(wt hw 18 rfl), rfl, hnm⟩) (wt hw 3 rfl) (ty := .byte) (v' := (.int (0 : Int32))) (by decide) rfl rfl (g := (mkF m 24 #[.val (.ref a1), .val (.ref a2), .val .null, .val (.ref b), .val (.int (Int32.ofNat 67))] [(.int (0 : Int32)), (.ref a1)])) rfl rfl (hb hby k47_24)
  have Fw6 := F_coder_a1.same W6
  have Nf6 := Fr.snoc X6 N5a g_a1
  have K1 : Keep h0 h6 [a1] := (Keep.refl h0 [a1]).wr W6 (Or.inl (List.mem_of_getElem? (i := 0) rfl))
  have f8 : Arv Z h6 b kb .byte (Int32.ofNat 130) (es.map own_lo) (.int (0 : Int32)) := (bA1.other W6 (Ne.symm (Exa.neArv E_a1 bA1 (wt hw 3 rfl))))
  obtain ⟨_, _, ⟨T7, L7, k7, n7⟩, -, X7, ⟨Lc7, hQ7, l7, y7, z7⟩, st7⟩ := Jvm.LawKit.callS X6 hx (y := m19_) hown (mvT hZ (wt hw 219 rfl)) (mvT hZ (wt hw 116 rfl)) (mvT hZ (wt hw 117 rfl)) (mvT hZ (wt hw 118 rfl)) (by decide) (backOf (W := 1) (rmCr l Z a0 hw [] b kb 67 130 (es.map own_lo) h6 n0 (Nat.le_trans Z0 K1.1) f8 (by simp [hes]) (by decide) (by decide) (by decide)) hZ (wt hw 118 rfl) (wt hw 117 rfl) (by decide) (by decide)) (g := (mkF m 32 #[.val (.ref a1), .val (.ref a2), .val .null, .val (.ref b), .val (.int (Int32.ofNat 67))] [(.int (Int32.ofNat 67)), (.int (0 : Int32)), (.ref b), (.ref a1)])) rfl (by rw [hml]; rfl) (argsL := [(.ref b), (.int (0 : Int32)), (.int (Int32.ofNat 67))]) (rest := [(.ref a1)]) (lenOf pd14_ rfl) rfl (by show 2 * 0 + _ ≤ _; exact Nat.le_of_eq rfl) (hb hby k47_32) (fun _ _ => ⟨rfl, e6, (by decide : 0 + 1 ≤ _), (by decide : 0 + 134 ≤ _)⟩)
  dsimp only [Pt.U, Pt.locs, Pt.cells, Pt.slots] at X7 l7 y7 z7 st7 hQ7
  rw [l7] at X7
  clear l7; subst y7 z7
  obtain ⟨t7, tk7, rfl, N7q, K7q, ts7, Ta7⟩ := hQ7
  have N7a := Fr.app Nf6 N7q
  have K2 : Keep h0 T7.heap [a1] := K1.trans K7q all0
  have f9 : Fld Z T7.heap a1 "java/lang/String" "value" "[B" uv := ((F_value_a1.other W6 (Or.inr (slot_ne (Or.inr (wt hw 17 rfl)) (Or.inr (wt hw 18 rfl)) (by decide) (t := (.array .byte)) (t' := .byte) (by decide) (by decide)))).keep K7q nin0)
  have f10 : Exa Z T7.heap a1 "java/lang/String" := ((E_a1.wr W6).keep K7q)
  obtain ⟨T11, h11, X11, e11, W11, st11⟩ := putF X7 hx hZ hown (host := "") (Or.inl (wt hw 21 rfl)) Via.refl rfl f9 f10 (Or.inr ⟨(wt hw 17 rfl), rfl, hnm⟩) (wt hw 3 rfl) (ty := (.array .byte)) (by decide) rfl rfl (g := (mkF m 35 #[.val (.ref a1), .val (.ref a2), .val .null, .val (.ref b), .val (.int (Int32.ofNat 67))] [(.ref t7), (.ref a1)])) rfl rfl (hb hby k47_35)
  have Fw11 := f9.same W11
  have Nf11 := Fr.snoc X11 N7a g_a1
  have K3 : Keep h0 h11 [a1] := K2.wr W11 (Or.inl (List.mem_of_getElem? (i := 0) rfl))
  have f12 : Exa Z h11 a1 "java/lang/String" := (f10.wr W11)
  have f13 : Fld Z h11 a1 "java/lang/String" "coder" "B" (.int (0 : Int32)) := ((Fw6.keep K7q nin0).other W11 (Or.inr (slot_ne (Or.inr (wt hw 18 rfl)) (Or.inr (wt hw 17 rfl)) (by decide) (t := .byte) (t' := (.array .byte)) (by decide) (by decide))))
  have f14 : Exa Z h6 a1 "java/lang/String" := (E_a1.wr W6)
  have f15 : Arv Z h11 t7 tk7 .byte (Int32.ofNat 67) ((es.map own_lo).take 67) (.int (0 : Int32)) := (Ta7.other W11 (Ne.symm (Nat.ne_of_lt (Nat.lt_of_lt_of_le f14.lt ts7))))
  obtain ⟨fs, hr, hrun, hended, hW, hsame⟩ := X11.leave (v := none) (fun _ => rfl)
  refine ⟨_, _, pre0 _ ?_, hrun, hended, _, _, rfl, ?_, ⟨_, rfl⟩, hW, hsame.mono (by decide) (by decide)⟩
  · show Steps p.tables e below (s₁.setTop (mkF m 0 #[.val (.ref a1), .val (.ref a2), .val .null, .unset, .unset] [])) _
    refine XS.aloadN X0.here hx rfl (hb hby k47_0) rfl rfl ?_
    show Steps p.tables e below (s₁.setTop (mkF m 1 #[.val (.ref a1), .val (.ref a2), .val .null, .unset, .unset] [(.ref a1)])) _
    refine st2 _ ?_
    refine XS.aloadN X2.here hx rfl (hb hby k47_4) rfl rfl ?_
    show Steps p.tables e below (T2.setTop (mkF m 5 #[.val (.ref a1), .val (.ref a2), .val .null, .unset, .unset] [(.ref a2)])) _
    refine st3.trans ?_
    refine XS.astoreN X3.here hx rfl (hb hby k47_8) rfl rfl (l' := #[.val (.ref a1), .val (.ref a2), .val .null, .val (.ref b), .unset]) rfl ?_
    refine XS.aloadN X3.here hx rfl (hb hby k47_9) rfl rfl ?_
    show Steps p.tables e below (T3.setTop (mkF m 10 #[.val (.ref a1), .val (.ref a2), .val .null, .val (.ref b), .unset] [(.ref a2)])) _
    refine st4.trans ?_
    refine XS.istore X4.here hx rfl (hb hby k47_13) rfl (l' := #[.val (.ref a1), .val (.ref a2), .val .null, .val (.ref b), .val (.int (Int32.ofNat 67))]) rfl ?_
    refine XS.aloadN X4.here hx rfl (hb hby k47_15) rfl rfl ?_
    show Steps p.tables e below (T4.setTop (mkF m 16 #[.val (.ref a1), .val (.ref a2), .val .null, .val (.ref b), .val (.int (Int32.ofNat 67))] [(.ref a2)])) _
    refine st5.trans ?_
    show Steps p.tables e below (T5.setTop (mkF m 19 #[.val (.ref a1), .val (.ref a2), .val .null, .val (.ref b), .val (.int (Int32.ofNat 67))] [(.int (1 : Int32))])) _
    refine XS.ifNo X5.here hx rfl (hb hby k47_19) rfl ((if0 _ _).trans (feq (by decide : ¬ ((1 : Int32) = (0 : Int32)))).1) ?_
    refine XS.aloadN X5.here hx rfl (hb hby k47_22) rfl rfl ?_
    refine XS.iconst X5.here hx rfl (hb hby k47_23) ?_
    show Steps p.tables e below (T5.setTop (mkF m 24 #[.val (.ref a1), .val (.ref a2), .val .null, .val (.ref b), .val (.int (Int32.ofNat 67))] [(.int (0 : Int32)), (.ref a1)])) _
    refine st6 _ ?_
    refine XS.aloadN X6.here hx rfl (hb hby k47_27) rfl rfl ?_
    refine XS.aloadN X6.here hx rfl (hb hby k47_28) rfl rfl ?_
    refine XS.iconst X6.here hx rfl (hb hby k47_29) ?_
    refine XS.iload X6.here hx rfl (hb hby k47_30) rfl ?_
    show Steps p.tables e below (T6.setTop (mkF m 32 #[.val (.ref a1), .val (.ref a2), .val .null, .val (.ref b), .val (.int (Int32.ofNat 67))] [(.int (Int32.ofNat 67)), (.int (0 : Int32)), (.ref b), (.ref a1)])) _
    refine st7 _ ?_
    show Steps p.tables e below (T7.setTop (mkF m 35 #[.val (.ref a1), .val (.ref a2), .val .null, .val (.ref b), .val (.int (Int32.ofNat 67))] [(.ref t7), (.ref a1)])) _
    refine st11 _ ?_
    refine XS.goto X11.here hx rfl (pc0 := 38) (pc' := 97) rfl (hb hby k47_38) (by decide) (by decide) ?_
    show Steps p.tables e below (T11.setTop (mkF m 97 #[.val (.ref a1), .val (.ref a2), .val .null, .val (.ref b), .val (.int (Int32.ofNat 67))] [])) _
    exact X11.returnOut hx Bd.returns (hb hby k47_97) hr
  · show QSt Z a1 es h0 n0 _ T11.heap _
    rw [e11]
    exact ⟨rfl, Nf11, K3, t7, _, _, _, _, f12, Fw11, f13, f15, Or.inl ⟨rfl, by rw [hes], by rw [List.take_of_length_le (by simp [hes])]; rfl, hlw⟩, hc⟩
theorem k48_0 : decode c48_ 0 = .ok (.aload_n 0, 1) := by decide +kernel
theorem k48_1 : decode c48_ 1 = .ok (.aload_n 1, 1) := by decide +kernel
theorem k48_2 : decode c48_ 2 = .ok (.aconst_null, 1) := by decide +kernel
theorem k48_3 : decode c48_ 3 = .ok (.invokespecial 489, 3) := by decide +kernel
theorem k48_6 : decode c48_ 6 = .ok (.return_, 1) := by decide +kernel
theorem pd31_ : parseMethodDescriptor "(Ljava/lang/AbstractStringBuilder;Ljava/lang/Void;)V" = some ⟨[(.object "java/lang/AbstractStringBuilder"), (.object "java/lang/Void")], none⟩ := by decide +kernel
theorem ef48_ (m : MethodId) (x0 : Addr) (x1 : Addr) : entryFrame m #[(.ref x0), (.ref x1)] 2 = mkF m 0 #[.val (.ref x0), .val (.ref x1)] [] := by first | (simp [entryFrame, mkF, argsToLocals, Value.category]; done) | rfl
theorem rmIs0 (l : Launch) (Z : State) (a0 : Array Value) (hw : HW a0 Z) (ws : List Jvm.Cond) (a1 a2 b : Addr) (kb : ClassId) (es : List Int32) (uv uc : Value) (h0 : Heap) (n0 : Nat) (Z0 : n0 ≤ h0.size) (E_a1 : Exa Z h0 a1 "java/lang/String") (F_value_a1 : Fld Z h0 a1 "java/lang/String" "value" "[B" uv) (F_coder_a1 : Fld Z h0 a1 "java/lang/String" "coder" "B" uc) (g_a1 : n0 ≤ a1) (hG : GST Z) (O0 : Old Z n0 h0) (B_a2 : SBF Z h0 a2 (0 : Int32) (Int32.ofNat 67) (Int32.ofNat 130) (es.map own_lo) b kb) (hes : es.length = 67) (hlw : ∀ c ∈ es, ¬ (255 : Int32) < c) (hc : ∀ c ∈ es, ¬ c < 0 ∧ ¬ (65535 : Int32) < c) :
    Met l Z ws m49_ jdk_42_method_53_code 2 none ({ frames := 4, cells := 1, slots := 134, locals := 92 } : Room) h0 #[(.ref a1), (.ref a2)] (QSt Z a1 es h0 n0) := by
  refine MetFree.of_bodySF (plainFor_of_name pn0_) hisR ?_
  intro p e s m args below meth c s₁ Bd hml0 hP hK
  obtain ⟨rfl, hZ, hh⟩ := hP
  have hx := Bd.exec
  have hby := Bd.bytes
  have hml : c.maxLocals = 2 := hml0
  have hown : s.vm.findClass "java/lang/String" = some m.cls := findClass_of_methodNamed Bd.named
  have X0 : Stand p l e ({ frames := 4, cells := 1, slots := 134, locals := 92 } : Room) s m #[(.ref a1), (.ref a2)] below meth c s₁ [] 0 0 := Stand.of_body Bd
  have e0 : s₁.heap = h0 := by rw [← hh, Bd.state]; rfl
  have N0 := Fr.nil n0
  have pre0 : ∀ t, Steps p.tables e below (s₁.setTop (mkF m 0 #[.val (.ref a1), .val (.ref a2)] [])) t → Steps p.tables e below (s₁.setTop (entryFrame m #[(.ref a1), (.ref a2)] 2)) t := fun t k => castTop (ef48_ m a1 a2) k
  obtain ⟨⟨G1, O2, P5⟩, ⟨G3, O4, rG3⟩, Sa, Sh, Sl⟩ := id hG
  obtain ⟨bE1, bV1, bC1, bN1, bM1, bA1⟩ := id B_a2
  obtain ⟨_, _, ⟨T2, L2, k2, n2⟩, -, X2, ⟨Lc2, hQ2, l2, y2, z2⟩, st2⟩ := X0.specialBack hx (y := m48_) rfl hown (mvT hZ (wt hw 198 rfl)) (mvT hZ (wt hw 199 rfl)) (mvT hZ (wt hw 200 rfl)) (by decide) (backOf (W := 0) (rmIa0 l Z a0 hw [] a1 a2 b kb es uv uc h0 n0 (Nat.le_trans Z0 (Keep.refl h0 [a1]).1) E_a1 F_value_a1 F_coder_a1 g_a1 hG O0 ⟨bE1, bV1, bC1, bN1, bM1, bA1⟩ hes hlw hc) hZ (wt hw 200 rfl) (wt hw 4 rfl) (by decide) (by decide)) (g := (mkF m 3 #[.val (.ref a1), .val (.ref a2)] [.null, (.ref a2), (.ref a1)])) rfl (by rw [hml]; rfl) (Steps.refl _) (a := a1) (argsL := [(.ref a2), .null]) (rest := []) (lenOf pd31_ rfl) rfl (by show 2 * 0 + _ ≤ _; exact Nat.le_of_eq rfl) (hb hby k48_3) (fun _ _ => ⟨rfl, e0, (by decide : 0 + 1 ≤ _), (by decide : 0 + 134 ≤ _)⟩)
  dsimp only [Pt.U, Pt.locs, Pt.cells, Pt.slots] at X2 l2 y2 z2 st2 hQ2
  rw [l2] at X2
  clear l2; subst y2 z2
  obtain ⟨rfl, N2q, K2q, SV2⟩ := hQ2
  have N2a := Fr.app N0 N2q
  have K1 : Keep h0 T2.heap [a1] := (Keep.refl h0 [a1]).trans K2q (allS (Or.inl (List.mem_of_getElem? (i := 0) rfl)) all0)
  obtain ⟨fs, hr, hrun, hended, hW, hsame⟩ := X2.leave (v := none) (fun _ => rfl)
  refine ⟨_, _, pre0 _ ?_, hrun, hended, _, _, rfl, ?_, ⟨_, rfl⟩, hW, hsame.mono (by decide) (by decide)⟩
  · show Steps p.tables e below (s₁.setTop (mkF m 0 #[.val (.ref a1), .val (.ref a2)] [])) _
    refine XS.aloadN X0.here hx rfl (hb hby k48_0) rfl rfl ?_
    refine XS.aloadN X0.here hx rfl (hb hby k48_1) rfl rfl ?_
    refine XS.aconstNull X0.here hx rfl (hb hby k48_2) ?_
    show Steps p.tables e below (s₁.setTop (mkF m 3 #[.val (.ref a1), .val (.ref a2)] [.null, (.ref a2), (.ref a1)])) _
    refine st2.trans ?_
    show Steps p.tables e below (T2.setTop (mkF m 6 #[.val (.ref a1), .val (.ref a2)] [])) _
    exact X2.returnOut hx Bd.returns (hb hby k48_6) hr
  · show QSt Z a1 es h0 n0 _ T2.heap _
    exact ⟨rfl, N2a, K1, SV2⟩
theorem k49_0 : decode c49_ 0 = .ok (.new 18, 3) := by decide +kernel
theorem k49_3 : decode c49_ 3 = .ok (.dup, 1) := by decide +kernel
theorem k49_4 : decode c49_ 4 = .ok (.aload_n 0, 1) := by decide +kernel
theorem k49_5 : decode c49_ 5 = .ok (.invokespecial 137, 3) := by decide +kernel
theorem k49_8 : decode c49_ 8 = .ok (.areturn, 1) := by decide +kernel
theorem pd32_ : parseMethodDescriptor "(Ljava/lang/StringBuilder;)V" = some ⟨[(.object "java/lang/StringBuilder")], none⟩ := by decide +kernel
theorem ef49_ (m : MethodId) (x0 : Addr) : entryFrame m #[(.ref x0)] 1 = mkF m 0 #[.val (.ref x0)] [] := by first | (simp [entryFrame, mkF, argsToLocals, Value.category]; done) | rfl
theorem rmTs0 (l : Launch) (Z : State) (a0 : Array Value) (hw : HW a0 Z) (ws : List Jvm.Cond) (a2 b : Addr) (kb : ClassId) (es : List Int32) (h0 : Heap) (n0 : Nat) (Z0 : n0 ≤ h0.size) (hG : GST Z) (O0 : Old Z n0 h0) (B_a2 : SBF Z h0 a2 (0 : Int32) (Int32.ofNat 67) (Int32.ofNat 130) (es.map own_lo) b kb) (hes : es.length = 67) (hlw : ∀ c ∈ es, ¬ (255 : Int32) < c) (hc : ∀ c ∈ es, ¬ c < 0 ∧ ¬ (65535 : Int32) < c) :
    Met l Z ws m50_ jdk_67_method_42_code 1 (some (.object "java/lang/String")) ({ frames := 5, cells := 2, slots := 138, locals := 106 } : Room) h0 #[(.ref a2)] (QSr Z es h0 n0) := by
  refine MetFree.of_bodySF (plainFor_of_name pn6_) hisR ?_
  intro p e s m args below meth c s₁ Bd hml0 hP hK
  obtain ⟨rfl, hZ, hh⟩ := hP
  have hx := Bd.exec
  have hby := Bd.bytes
  have hml : c.maxLocals = 1 := hml0
  have hown : s.vm.findClass "java/lang/StringBuilder" = some m.cls := findClass_of_methodNamed Bd.named
  have X0 : Stand p l e ({ frames := 5, cells := 2, slots := 138, locals := 106 } : Room) s m #[(.ref a2)] below meth c s₁ [] 0 0 := Stand.of_body Bd
  have e0 : s₁.heap = h0 := by rw [← hh, Bd.state]; rfl
  have N0 := Fr.nil n0
  have pre0 : ∀ t, Steps p.tables e below (s₁.setTop (mkF m 0 #[.val (.ref a2)] [])) t → Steps p.tables e below (s₁.setTop (entryFrame m #[(.ref a2)] 1)) t := fun t k => castTop (ef49_ m a2) k
  obtain ⟨⟨G1, O2, P5⟩, ⟨G3, O4, rG3⟩, Sa, Sh, Sl⟩ := id hG
  obtain ⟨bE1, bV1, bC1, bN1, bM1, bA1⟩ := id B_a2
  obtain ⟨T2, h2, X2, e2, E2, A2, D2, -, st2⟩ := newO X0 hx hZ hown (wt hw 194 rfl) (wt hw 3 rfl) (wt hw 4 rfl) e0 (g := (mkF m 0 #[.val (.ref a2)] [])) rfl (hb hby k49_0) (by decide) (by decide)
  obtain ⟨b2, g2⟩ : ∃ z, z = h0.size := ⟨_, rfl⟩
  rw [← g2] at A2 D2 st2
  have sz_b2 : h0.size ≤ b2 := Nat.le_trans (Keep.refl h0 []).1 (Nat.le_of_eq g2.symm)
  have g_b2 : n0 ≤ b2 := Nat.le_trans Z0 sz_b2
  have K1 : Keep h0 h2 [] := (Keep.refl h0 []).ext E2
  have F_value_b2 : Fld Z h2 b2 "java/lang/String" "value" "[B" .null := D2 (Or.inr (wt hw 17 rfl)) (ty := (.array .byte)) (by decide)
  have F_coder_b2 : Fld Z h2 b2 "java/lang/String" "coder" "B" (.int (0 : Int32)) := D2 (Or.inr (wt hw 18 rfl)) (ty := .byte) (by decide)
  have f4 : Old Z n0 h2 := (O0.ext E2)
  have f5 : Exa Z h2 a2 "java/lang/StringBuilder" := (bE1.ext E2)
  have f6 : Fld Z h2 a2 "java/lang/AbstractStringBuilder" "value" "[B" (.ref b) := (bV1.ext E2)
  have f7 : Fld Z h2 a2 "java/lang/AbstractStringBuilder" "coder" "B" (.int (0 : Int32)) := (bC1.ext E2)
  have f8 : Fld Z h2 a2 "java/lang/AbstractStringBuilder" "count" "I" (.int (Int32.ofNat 67)) := (bN1.ext E2)
  have f9 : Fld Z h2 a2 "java/lang/AbstractStringBuilder" "maybeLatin1" "Z" (.int (0 : Int32)) := (bM1.ext E2)
  have f10 : Arv Z h2 b kb .byte (Int32.ofNat 130) (es.map own_lo) (.int (0 : Int32)) := (bA1.ext E2)
  obtain ⟨_, _, ⟨T3, L3, k3, n3⟩, -, X3, ⟨Lc3, hQ3, l3, y3, z3⟩, st3⟩ := X2.specialBack hx (y := m49_) rfl hown (mvT hZ (wt hw 195 rfl)) (mvT hZ (wt hw 196 rfl)) (mvT hZ (wt hw 197 rfl)) (by decide) (backOf (W := 1) (rmIs0 l Z a0 hw [] b2 a2 b kb es .null (.int (0 : Int32)) h2 n0 (Nat.le_trans Z0 K1.1) A2 F_value_b2 F_coder_b2 g_b2 hG f4 ⟨f5, f6, f7, f8, f9, f10⟩ hes hlw hc) hZ (wt hw 197 rfl) (wt hw 4 rfl) (by decide) (by decide)) (g := (mkF m 5 #[.val (.ref a2)] [(.ref a2), (.ref b2), (.ref b2)])) rfl (by rw [hml]; rfl) (Steps.refl _) (a := b2) (argsL := [(.ref a2)]) (rest := [(.ref b2)]) (lenOf pd32_ rfl) rfl (by show 2 * 0 + _ ≤ _; exact Nat.le_of_eq rfl) (hb hby k49_5) (fun _ _ => ⟨rfl, e2, (by decide : 1 + 1 ≤ _), (by decide : 4 + 134 ≤ _)⟩)
  dsimp only [Pt.U, Pt.locs, Pt.cells, Pt.slots] at X3 l3 y3 z3 st3 hQ3
  rw [l3] at X3
  clear l3; subst y3 z3
  obtain ⟨rfl, N3q, K3q, SV3⟩ := hQ3
  have N3a := Fr.app N0 N3q
  have K2 : Keep h0 T3.heap [] := K1.trans K3q (allS (Or.inr sz_b2) all0)
  obtain ⟨fs, hr, hrun, hended, hW, hsame⟩ := X3.leave (v := some (.ref b2)) (fun h => by rw [Bd.returns] at h; cases h)
  refine ⟨_, _, pre0 _ ?_, hrun, hended, _, _, rfl, ?_, ⟨_, rfl⟩, hW, hsame.mono (by decide) (by decide)⟩
  · show Steps p.tables e below (s₁.setTop (mkF m 0 #[.val (.ref a2)] [])) _
    refine st2 _ ?_
    refine XS.dup X2.here hx rfl (hb hby k49_3) rfl rfl ?_
    refine XS.aloadN X2.here hx rfl (hb hby k49_4) rfl rfl ?_
    show Steps p.tables e below (T2.setTop (mkF m 5 #[.val (.ref a2)] [(.ref a2), (.ref b2), (.ref b2)])) _
    refine st3.trans ?_
    show Steps p.tables e below (T3.setTop (mkF m 8 #[.val (.ref a2)] [(.ref b2)])) _
    jvm_step X3.here [X3.here.top, hx, (hb hby k49_8), X3.method', Bd.returns, Value.isRef, FieldType.isReference]
    first | (intro acts; rw [hr _ acts rfl rfl rfl]) | rw [hr _ _ rfl rfl rfl]
    exact Steps.refl _
  · show QSr Z es h0 n0 _ T3.heap _
    exact ⟨b2, rfl, N3a, K2, SV3⟩
theorem k47_41 : decode c47_ 41 = .ok (.getstatic 38, 3) := by decide +kernel
theorem k47_44 : decode c47_ 44 = .ok (.ifCond .eq 35, 3) := by decide +kernel
theorem k47_47 : decode c47_ 47 = .ok (.aload_n 1, 1) := by decide +kernel
theorem k47_48 : decode c47_ 48 = .ok (.getfield 1048, 3) := by decide +kernel
theorem k47_51 : decode c47_ 51 = .ok (.ifCond .eq 28, 3) := by decide +kernel
theorem k47_79 : decode c47_ 79 = .ok (.aload_n 0, 1) := by decide +kernel
theorem k47_80 : decode c47_ 80 = .ok (.iconst 1, 1) := by decide +kernel
theorem k47_81 : decode c47_ 81 = .ok (.putfield 15, 3) := by decide +kernel
theorem k47_84 : decode c47_ 84 = .ok (.aload_n 0, 1) := by decide +kernel
theorem k47_85 : decode c47_ 85 = .ok (.aload_n 3, 1) := by decide +kernel
theorem k47_86 : decode c47_ 86 = .ok (.iconst 0, 1) := by decide +kernel
theorem k47_87 : decode c47_ 87 = .ok (.iload 4, 2) := by decide +kernel
theorem k47_89 : decode c47_ 89 = .ok (.iconst 1, 1) := by decide +kernel
theorem k47_90 : decode c47_ 90 = .ok (.ishl, 1) := by decide +kernel
theorem k47_91 : decode c47_ 91 = .ok (.invokestatic 54, 3) := by decide +kernel
theorem k47_94 : decode c47_ 94 = .ok (.putfield 9, 3) := by decide +kernel
theorem rmIa1 (l : Launch) (Z : State) (a0 : Array Value) (hw : HW a0 Z) (ws : List Jvm.Cond) (a1 a2 b : Addr) (kb : ClassId) (es : List Int32) (uv uc : Value) (h0 : Heap) (n0 : Nat) (Z0 : n0 ≤ h0.size) (E_a1 : Exa Z h0 a1 "java/lang/String") (F_value_a1 : Fld Z h0 a1 "java/lang/String" "value" "[B" uv) (F_coder_a1 : Fld Z h0 a1 "java/lang/String" "coder" "B" uc) (g_a1 : n0 ≤ a1) (hG : GST Z) (O0 : Old Z n0 h0) (B_a2 : SBF Z h0 a2 (1 : Int32) (Int32.ofNat 67) (Int32.ofNat (2 * 130)) (wideBytes es) b kb) (hes : es.length = 67) (hlw : ∃ c ∈ es, (255 : Int32) < c) (hc : ∀ c ∈ es, ¬ c < 0 ∧ ¬ (65535 : Int32) < c) :
    Met l Z ws m48_ jdk_42_method_150_code 5 none ({ frames := 3, cells := 1, slots := 134, locals := 76 } : Room) h0 #[(.ref a1), (.ref a2), .null] (QSt Z a1 es h0 n0) := by
  refine MetFree.of_bodySF (plainFor_of_name pn0_) hisR ?_
  intro p e s m args below meth c s₁ Bd hml0 hP hK
  obtain ⟨rfl, hZ, hh⟩ := hP
  have hx := Bd.exec
  have hby := Bd.bytes
  have hml : c.maxLocals = 5 := hml0
  have hown : s.vm.findClass "java/lang/String" = some m.cls := findClass_of_methodNamed Bd.named
  have hnm := (name_of_methodNamed Bd.named Bd.method).1
  have X0 : Stand p l e ({ frames := 3, cells := 1, slots := 134, locals := 76 } : Room) s m #[(.ref a1), (.ref a2), .null] below meth c s₁ [] 0 0 := Stand.of_body Bd
  have e0 : s₁.heap = h0 := by rw [← hh, Bd.state]; rfl
  have N0 := Fr.nil n0
  have pre0 : ∀ t, Steps p.tables e below (s₁.setTop (mkF m 0 #[.val (.ref a1), .val (.ref a2), .val .null, .unset, .unset] [])) t → Steps p.tables e below (s₁.setTop (entryFrame m #[(.ref a1), (.ref a2), .null] 5)) t := fun t k => castTop (ef47_ m a1 a2) k
  obtain ⟨⟨G1, O2, P5⟩, ⟨G3, O4, rG3⟩, Sa, Sh, Sl⟩ := id hG
  obtain ⟨bE1, bV1, bC1, bN1, bM1, bA1⟩ := id B_a2
  obtain ⟨T2, X2, e2, st2⟩ := initO X0 hx hZ hown (wt hw 12 rfl) (wt hw 13 rfl) (wt hw 14 rfl) e0 (g := (mkF m 1 #[.val (.ref a1), .val (.ref a2), .val .null, .unset, .unset] [(.ref a1)])) rfl (by rw [hml]; rfl) rfl (hb hby k47_1) (by decide) (W := 0) (by show 2 * 0 + _ ≤ _; exact Nat.le_of_eq rfl) (by decide)
  obtain ⟨cq3, kq3, q3a, q3b, q3c⟩ := isOf hZ e2 bE1
  obtain ⟨_, _, ⟨T3, L3, k3, n3⟩, -, X3, ⟨Lc3, hQ3, l3, y3, z3⟩, st3⟩ := X2.virtualBack hx (y := m45_) (z := m45_) hown (mvT hZ (wt hw 201 rfl)) (mvT hZ (wt hw 202 rfl)) (notFace_of_selects (args := #[]) (mvT hZ (wt hw 204 rfl))) (mvT hZ (wt hw 204 rfl)) (mvT hZ (wt hw 203 rfl)) (by decide) (backOf (W := 0) (rmGv l Z a0 hw [] a2 b h0 n0 (Nat.le_trans Z0 (Keep.refl h0 [a1]).1) bV1) hZ (wt hw 205 rfl) (wt hw 83 rfl) (by decide) (by decide)) q3a q3c (g := (mkF m 5 #[.val (.ref a1), .val (.ref a2), .val .null, .unset, .unset] [(.ref a2)])) rfl (by rw [hml]; rfl) (Steps.refl _) (argsL := []) (rest := []) (lenOf pd30_ rfl) rfl (by show 2 * 0 + _ ≤ _; exact Nat.le_of_eq rfl) (hb hby k47_5) (fun _ _ => ⟨rfl, e2, (by decide : 0 + 0 ≤ _), (by decide : 0 + 0 ≤ _)⟩)
  dsimp only [Pt.U, Pt.locs, Pt.cells, Pt.slots] at X3 l3 y3 z3 st3 hQ3
  rw [l3] at X3
  clear l3; subst y3 z3
  obtain ⟨rfl, N3q, e3q⟩ := hQ3
  have N3a := Fr.app N0 N3q
  obtain ⟨cq4, kq4, q4a, q4b, q4c⟩ := isOf hZ e3q bE1
  obtain ⟨_, _, ⟨T4, L4, k4, n4⟩, -, X4, ⟨Lc4, hQ4, l4, y4, z4⟩, st4⟩ := X3.virtualBack hx (y := m46_) (z := m47_) hown (mvT hZ (wt hw 206 rfl)) (mvT hZ (wt hw 207 rfl)) (own_nf (notFace_of_selects (args := #[]) (mvT hZ (wt hw 204 rfl))) (own_named (args := #[]) (mvT hZ (wt hw 202 rfl))) rfl) (mvT hZ (wt hw 209 rfl)) (mvT hZ (wt hw 210 rfl)) (by decide) (backOf (W := 0) (rmSl l Z a0 hw [] a2 (Int32.ofNat 67) h0 n0 (Nat.le_trans Z0 (Keep.refl h0 [a1]).1) bE1 bN1) hZ (wt hw 211 rfl) (wt hw 75 rfl) (by decide) (by decide)) q4a q4c (g := (mkF m 10 #[.val (.ref a1), .val (.ref a2), .val .null, .val (.ref b), .unset] [(.ref a2)])) rfl (by rw [hml]; rfl) (Steps.refl _) (argsL := []) (rest := []) (lenOf pd17_ rfl) rfl (by show 2 * 0 + _ ≤ _; exact Nat.le_of_eq rfl) (hb hby k47_10) (fun _ _ => ⟨rfl, e3q, (by decide : 0 + 0 ≤ _), (by decide : 0 + 0 ≤ _)⟩)
  dsimp only [Pt.U, Pt.locs, Pt.cells, Pt.slots] at X4 l4 y4 z4 st4 hQ4
  rw [l4] at X4
  clear l4; subst y4 z4
  obtain ⟨rfl, N4q, e4q⟩ := hQ4
  have N4a := Fr.app N3a N4q
  obtain ⟨cq5, kq5, q5a, q5b, q5c⟩ := isOf hZ e4q bE1
  obtain ⟨_, _, ⟨T5, L5, k5, n5⟩, -, X5, ⟨Lc5, hQ5, l5, y5, z5⟩, st5⟩ := X4.virtualBack hx (y := m38_) (z := m38_) hown (mvT hZ (wt hw 214 rfl)) (mvT hZ (wt hw 215 rfl)) (notFace_of_selects (args := #[]) (mvT hZ (wt hw 217 rfl))) (mvT hZ (wt hw 217 rfl)) (mvT hZ (wt hw 216 rfl)) (by decide) (backOf (W := 0) (rmIl1 l Z a0 hw [] a2 h0 n0 (Nat.le_trans Z0 (Keep.refl h0 [a1]).1) hG O0 bC1) hZ (wt hw 218 rfl) (wt hw 83 rfl) (by decide) (by decide)) q5a q5c (g := (mkF m 16 #[.val (.ref a1), .val (.ref a2), .val .null, .val (.ref b), .val (.int (Int32.ofNat 67))] [(.ref a2)])) rfl (by rw [hml]; rfl) (Steps.refl _) (argsL := []) (rest := []) (lenOf pd19_ rfl) rfl (by show 2 * 0 + _ ≤ _; exact Nat.le_of_eq rfl) (hb hby k47_16) (fun _ _ => ⟨rfl, e4q, (by decide : 0 + 0 ≤ _), (by decide : 0 + 0 ≤ _)⟩)
  dsimp only [Pt.U, Pt.locs, Pt.cells, Pt.slots] at X5 l5 y5 z5 st5 hQ5
  rw [l5] at X5
  clear l5; subst y5 z5
  obtain ⟨rfl, N5q, e5q⟩ := hQ5
  have N5a := Fr.app N4a N5q
  obtain ⟨T6, X6, e6, st6⟩ := getS2 X5 hx hZ hown (host := "") (Or.inl (wt hw 37 rfl)) Via.refl e5q (O2.ext O0.2) (g := (mkF m 41 #[.val (.ref a1), .val (.ref a2), .val .null, .val (.ref b), .val (.int (Int32.ofNat 67))] [])) rfl (hb hby k47_41)
  obtain ⟨T7, X7, e7, st7⟩ := getF X6 hx hZ hown (host := "") (Or.inl (wt hw 264 rfl)) Via.refl e6 bM1 (g := (mkF m 48 #[.val (.ref a1), .val (.ref a2), .val .null, .val (.ref b), .val (.int (Int32.ofNat 67))] [(.ref a2)])) rfl rfl (hb hby k47_48)
  obtain ⟨T8, h8, X8, e8, W8, st8⟩ := putFN X7 hx hZ hown (wt hw 22 rfl) Via.refl e7 F_coder_a1 E_a1 (Or.inr ⟨(wt hw 18 rfl), rfl, hnm⟩) (wt hw 3 rfl) (ty := .byte) (v' := (.int (1 : Int32))) (by decide) rfl rfl (g := (mkF m 81 #[.val (.ref a1), .val (.ref a2), .val .null, .val (.ref b), .val (.int (Int32.ofNat 67))] [(.int (1 : Int32)), (.ref a1)])) rfl rfl (hb hby k47_81)
  have Fw8 := F_coder_a1.same W8
  have Nf8 := Fr.snoc X8 N5a g_a1
  have K1 : Keep h0 h8 [a1] := (Keep.refl h0 [a1]).wr W8 (Or.inl (List.mem_of_getElem? (i := 0) rfl))
  have f10 : Arv Z h8 b kb .byte (Int32.ofNat (2 * 130)) (wideBytes es) (.int (0 : Int32)) := (bA1.other W8 (Ne.symm (Exa.neArv E_a1 bA1 (wt hw 3 rfl))))
  obtain ⟨_, _, ⟨T9, L9, k9, n9⟩, -, X9, ⟨Lc9, hQ9, l9, y9, z9⟩, st9⟩ := Jvm.LawKit.callS X8 hx (y := m19_) hown (mvT hZ (wt hw 219 rfl)) (mvT hZ (wt hw 116 rfl)) (mvT hZ (wt hw 117 rfl)) (mvT hZ (wt hw 118 rfl)) (by decide) (backOf (W := 1) (rmCr l Z a0 hw [] b kb (2 * 67) (2 * 130) (wideBytes es) h8 n0 (Nat.le_trans Z0 K1.1) f10 (by rw [own_wlen]; omega) (by decide) (by decide) (by decide)) hZ (wt hw 118 rfl) (wt hw 117 rfl) (by decide) (by decide)) (g := (mkF m 91 #[.val (.ref a1), .val (.ref a2), .val .null, .val (.ref b), .val (.int (Int32.ofNat 67))] [(.int (Int32.ofNat (2 * 67))), (.int (0 : Int32)), (.ref b), (.ref a1)])) rfl (by rw [hml]; rfl) (argsL := [(.ref b), (.int (0 : Int32)), (.int (Int32.ofNat (2 * 67)))]) (rest := [(.ref a1)]) (lenOf pd14_ rfl) rfl (by show 2 * 0 + _ ≤ _; exact Nat.le_of_eq rfl) (hb hby k47_91) (fun _ _ => ⟨rfl, e8, (by decide : 0 + 1 ≤ _), (by decide : 0 + 134 ≤ _)⟩)
  dsimp only [Pt.U, Pt.locs, Pt.cells, Pt.slots] at X9 l9 y9 z9 st9 hQ9
  rw [l9] at X9
  clear l9; subst y9 z9
  obtain ⟨t9, tk9, rfl, N9q, K9q, ts9, Ta9⟩ := hQ9
  have N9a := Fr.app Nf8 N9q
  have K2 : Keep h0 T9.heap [a1] := K1.trans K9q all0
  have f11 : Fld Z T9.heap a1 "java/lang/String" "value" "[B" uv := ((F_value_a1.other W8 (Or.inr (slot_ne (Or.inr (wt hw 17 rfl)) (Or.inr (wt hw 18 rfl)) (by decide) (t := (.array .byte)) (t' := .byte) (by decide) (by decide)))).keep K9q nin0)
  have f12 : Exa Z T9.heap a1 "java/lang/String" := ((E_a1.wr W8).keep K9q)
  obtain ⟨T13, h13, X13, e13, W13, st13⟩ := putF X9 hx hZ hown (host := "") (Or.inl (wt hw 21 rfl)) Via.refl rfl f11 f12 (Or.inr ⟨(wt hw 17 rfl), rfl, hnm⟩) (wt hw 3 rfl) (ty := (.array .byte)) (by decide) rfl rfl (g := (mkF m 94 #[.val (.ref a1), .val (.ref a2), .val .null, .val (.ref b), .val (.int (Int32.ofNat 67))] [(.ref t9), (.ref a1)])) rfl rfl (hb hby k47_94)
  have Fw13 := f11.same W13
  have Nf13 := Fr.snoc X13 N9a g_a1
  have K3 : Keep h0 h13 [a1] := K2.wr W13 (Or.inl (List.mem_of_getElem? (i := 0) rfl))
  have f14 : Exa Z h13 a1 "java/lang/String" := (f12.wr W13)
  have f15 : Fld Z h13 a1 "java/lang/String" "coder" "B" (.int (1 : Int32)) := ((Fw8.keep K9q nin0).other W13 (Or.inr (slot_ne (Or.inr (wt hw 18 rfl)) (Or.inr (wt hw 17 rfl)) (by decide) (t := .byte) (t' := (.array .byte)) (by decide) (by decide))))
  have f16 : Exa Z h8 a1 "java/lang/String" := (E_a1.wr W8)
  have f17 : Arv Z h13 t9 tk9 .byte (Int32.ofNat (2 * 67)) ((wideBytes es).take (2 * 67)) (.int (0 : Int32)) := (Ta9.other W13 (Ne.symm (Nat.ne_of_lt (Nat.lt_of_lt_of_le f16.lt ts9))))
  obtain ⟨fs, hr, hrun, hended, hW, hsame⟩ := X13.leave (v := none) (fun _ => rfl)
  refine ⟨_, _, pre0 _ ?_, hrun, hended, _, _, rfl, ?_, ⟨_, rfl⟩, hW, hsame.mono (by decide) (by decide)⟩
  · show Steps p.tables e below (s₁.setTop (mkF m 0 #[.val (.ref a1), .val (.ref a2), .val .null, .unset, .unset] [])) _
    refine XS.aloadN X0.here hx rfl (hb hby k47_0) rfl rfl ?_
    show Steps p.tables e below (s₁.setTop (mkF m 1 #[.val (.ref a1), .val (.ref a2), .val .null, .unset, .unset] [(.ref a1)])) _
    refine st2 _ ?_
    refine XS.aloadN X2.here hx rfl (hb hby k47_4) rfl rfl ?_
    show Steps p.tables e below (T2.setTop (mkF m 5 #[.val (.ref a1), .val (.ref a2), .val .null, .unset, .unset] [(.ref a2)])) _
    refine st3.trans ?_
    refine XS.astoreN X3.here hx rfl (hb hby k47_8) rfl rfl (l' := #[.val (.ref a1), .val (.ref a2), .val .null, .val (.ref b), .unset]) rfl ?_
    refine XS.aloadN X3.here hx rfl (hb hby k47_9) rfl rfl ?_
    show Steps p.tables e below (T3.setTop (mkF m 10 #[.val (.ref a1), .val (.ref a2), .val .null, .val (.ref b), .unset] [(.ref a2)])) _
    refine st4.trans ?_
    refine XS.istore X4.here hx rfl (hb hby k47_13) rfl (l' := #[.val (.ref a1), .val (.ref a2), .val .null, .val (.ref b), .val (.int (Int32.ofNat 67))]) rfl ?_
    refine XS.aloadN X4.here hx rfl (hb hby k47_15) rfl rfl ?_
    show Steps p.tables e below (T4.setTop (mkF m 16 #[.val (.ref a1), .val (.ref a2), .val .null, .val (.ref b), .val (.int (Int32.ofNat 67))] [(.ref a2)])) _
    refine st5.trans ?_
    show Steps p.tables e below (T5.setTop (mkF m 19 #[.val (.ref a1), .val (.ref a2), .val .null, .val (.ref b), .val (.int (Int32.ofNat 67))] [(.int (0 : Int32))])) _
    refine XS.ifYes X5.here hx rfl (pc0 := 19) (pc' := 41) rfl (hb hby k47_19) rfl ((if0 _ _).trans (teq (rfl : (0 : Int32) = (0 : Int32))).1) (by decide) (by decide) ?_
    show Steps p.tables e below (T5.setTop (mkF m 41 #[.val (.ref a1), .val (.ref a2), .val .null, .val (.ref b), .val (.int (Int32.ofNat 67))] [])) _
    refine st6 _ ?_
    show Steps p.tables e below (T6.setTop (mkF m 44 #[.val (.ref a1), .val (.ref a2), .val .null, .val (.ref b), .val (.int (Int32.ofNat 67))] [(.int G1)])) _
    refine XS.ifNo X6.here hx rfl (hb hby k47_44) rfl ((if0 _ _).trans (feq (P5 : ¬ (G1 = (0 : Int32)))).1) ?_
    refine XS.aloadN X6.here hx rfl (hb hby k47_47) rfl rfl ?_
    show Steps p.tables e below (T6.setTop (mkF m 48 #[.val (.ref a1), .val (.ref a2), .val .null, .val (.ref b), .val (.int (Int32.ofNat 67))] [(.ref a2)])) _
    refine st7 _ ?_
    show Steps p.tables e below (T7.setTop (mkF m 51 #[.val (.ref a1), .val (.ref a2), .val .null, .val (.ref b), .val (.int (Int32.ofNat 67))] [(.int (0 : Int32))])) _
    refine XS.ifYes X7.here hx rfl (pc0 := 51) (pc' := 79) rfl (hb hby k47_51) rfl ((if0 _ _).trans (teq (rfl : (0 : Int32) = (0 : Int32))).1) (by decide) (by decide) ?_
    refine XS.aloadN X7.here hx rfl (hb hby k47_79) rfl rfl ?_
    refine XS.iconst X7.here hx rfl (hb hby k47_80) ?_
    show Steps p.tables e below (T7.setTop (mkF m 81 #[.val (.ref a1), .val (.ref a2), .val .null, .val (.ref b), .val (.int (Int32.ofNat 67))] [(.int (1 : Int32)), (.ref a1)])) _
    refine st8 _ ?_
    refine XS.aloadN X8.here hx rfl (hb hby k47_84) rfl rfl ?_
    refine XS.aloadN X8.here hx rfl (hb hby k47_85) rfl rfl ?_
    refine XS.iconst X8.here hx rfl (hb hby k47_86) ?_
    refine XS.iload X8.here hx rfl (hb hby k47_87) rfl ?_
    show Steps p.tables e below (T8.setTop (mkF m 89 #[.val (.ref a1), .val (.ref a2), .val .null, .val (.ref b), .val (.int (Int32.ofNat 67))] [(.int (Int32.ofNat 67)), (.int (0 : Int32)), (.ref b), (.ref a1)])) _
    refine XS.iconst X8.here hx rfl (hb hby k47_89) ?_
    refine XS.ishl X8.here hx rfl (hb hby k47_90) rfl ?_
    show Steps p.tables e below (T8.setTop (mkF m 91 #[.val (.ref a1), .val (.ref a2), .val .null, .val (.ref b), .val (.int (Int32.ofNat 67))] [(.int ((Int32.ofNat 67) <<< ((1 : Int32) &&& 31))), (.int (0 : Int32)), (.ref b), (.ref a1)])) _
    rw [own_shl1 (by decide)]
    show Steps p.tables e below (T8.setTop (mkF m 91 #[.val (.ref a1), .val (.ref a2), .val .null, .val (.ref b), .val (.int (Int32.ofNat 67))] [(.int (Int32.ofNat (2 * 67))), (.int (0 : Int32)), (.ref b), (.ref a1)])) _
    refine st9 _ ?_
    show Steps p.tables e below (T9.setTop (mkF m 94 #[.val (.ref a1), .val (.ref a2), .val .null, .val (.ref b), .val (.int (Int32.ofNat 67))] [(.ref t9), (.ref a1)])) _
    refine st13 _ ?_
    show Steps p.tables e below (T13.setTop (mkF m 97 #[.val (.ref a1), .val (.ref a2), .val .null, .val (.ref b), .val (.int (Int32.ofNat 67))] [])) _
    exact X13.returnOut hx Bd.returns (hb hby k47_97) hr
  · show QSt Z a1 es h0 n0 _ T13.heap _
    rw [e13]
    exact ⟨rfl, Nf13, K3, t9, _, _, _, _, f14, Fw13, f15, f17, Or.inr ⟨rfl, by rw [hes], by rw [List.take_of_length_le (by rw [own_wlen]; omega)], hlw⟩, hc⟩
theorem rmIs1 (l : Launch) (Z : State) (a0 : Array Value) (hw : HW a0 Z) (ws : List Jvm.Cond) (a1 a2 b : Addr) (kb : ClassId) (es : List Int32) (uv uc : Value) (h0 : Heap) (n0 : Nat) (Z0 : n0 ≤ h0.size) (E_a1 : Exa Z h0 a1 "java/lang/String") (F_value_a1 : Fld Z h0 a1 "java/lang/String" "value" "[B" uv) (F_coder_a1 : Fld Z h0 a1 "java/lang/String" "coder" "B" uc) (g_a1 : n0 ≤ a1) (hG : GST Z) (O0 : Old Z n0 h0) (B_a2 : SBF Z h0 a2 (1 : Int32) (Int32.ofNat 67) (Int32.ofNat (2 * 130)) (wideBytes es) b kb) (hes : es.length = 67) (hlw : ∃ c ∈ es, (255 : Int32) < c) (hc : ∀ c ∈ es, ¬ c < 0 ∧ ¬ (65535 : Int32) < c) :
    Met l Z ws m49_ jdk_42_method_53_code 2 none ({ frames := 4, cells := 1, slots := 134, locals := 92 } : Room) h0 #[(.ref a1), (.ref a2)] (QSt Z a1 es h0 n0) := by
  refine MetFree.of_bodySF (plainFor_of_name pn0_) hisR ?_
  intro p e s m args below meth c s₁ Bd hml0 hP hK
  obtain ⟨rfl, hZ, hh⟩ := hP
  have hx := Bd.exec
  have hby := Bd.bytes
  have hml : c.maxLocals = 2 := hml0
  have hown : s.vm.findClass "java/lang/String" = some m.cls := findClass_of_methodNamed Bd.named
  have X0 : Stand p l e ({ frames := 4, cells := 1, slots := 134, locals := 92 } : Room) s m #[(.ref a1), (.ref a2)] below meth c s₁ [] 0 0 := Stand.of_body Bd
  have e0 : s₁.heap = h0 := by rw [← hh, Bd.state]; rfl
  have N0 := Fr.nil n0
  have pre0 : ∀ t, Steps p.tables e below (s₁.setTop (mkF m 0 #[.val (.ref a1), .val (.ref a2)] [])) t → Steps p.tables e below (s₁.setTop (entryFrame m #[(.ref a1), (.ref a2)] 2)) t := fun t k => castTop (ef48_ m a1 a2) k
  obtain ⟨⟨G1, O2, P5⟩, ⟨G3, O4, rG3⟩, Sa, Sh, Sl⟩ := id hG
  obtain ⟨bE1, bV1, bC1, bN1, bM1, bA1⟩ := id B_a2
  obtain ⟨_, _, ⟨T2, L2, k2, n2⟩, -, X2, ⟨Lc2, hQ2, l2, y2, z2⟩, st2⟩ := X0.specialBack hx (y := m48_) rfl hown (mvT hZ (wt hw 198 rfl)) (mvT hZ (wt hw 199 rfl)) (mvT hZ (wt hw 200 rfl)) (by decide) (backOf (W := 0) (rmIa1 l Z a0 hw [] a1 a2 b kb es uv uc h0 n0 (Nat.le_trans Z0 (Keep.refl h0 [a1]).1) E_a1 F_value_a1 F_coder_a1 g_a1 hG O0 ⟨bE1, bV1, bC1, bN1, bM1, bA1⟩ hes hlw hc) hZ (wt hw 200 rfl) (wt hw 4 rfl) (by decide) (by decide)) (g := (mkF m 3 #[.val (.ref a1), .val (.ref a2)] [.null, (.ref a2), (.ref a1)])) rfl (by rw [hml]; rfl) (Steps.refl _) (a := a1) (argsL := [(.ref a2), .null]) (rest := []) (lenOf pd31_ rfl) rfl (by show 2 * 0 + _ ≤ _; exact Nat.le_of_eq rfl) (hb hby k48_3) (fun _ _ => ⟨rfl, e0, (by decide : 0 + 1 ≤ _), (by decide : 0 + 134 ≤ _)⟩)
  dsimp only [Pt.U, Pt.locs, Pt.cells, Pt.slots] at X2 l2 y2 z2 st2 hQ2
  rw [l2] at X2
  clear l2; subst y2 z2
  obtain ⟨rfl, N2q, K2q, SV2⟩ := hQ2
  have N2a := Fr.app N0 N2q
  have K1 : Keep h0 T2.heap [a1] := (Keep.refl h0 [a1]).trans K2q (allS (Or.inl (List.mem_of_getElem? (i := 0) rfl)) all0)
  obtain ⟨fs, hr, hrun, hended, hW, hsame⟩ := X2.leave (v := none) (fun _ => rfl)
  refine ⟨_, _, pre0 _ ?_, hrun, hended, _, _, rfl, ?_, ⟨_, rfl⟩, hW, hsame.mono (by decide) (by decide)⟩
  · show Steps p.tables e below (s₁.setTop (mkF m 0 #[.val (.ref a1), .val (.ref a2)] [])) _
    refine XS.aloadN X0.here hx rfl (hb hby k48_0) rfl rfl ?_
    refine XS.aloadN X0.here hx rfl (hb hby k48_1) rfl rfl ?_
    refine XS.aconstNull X0.here hx rfl (hb hby k48_2) ?_
    show Steps p.tables e below (s₁.setTop (mkF m 3 #[.val (.ref a1), .val (.ref a2)] [.null, (.ref a2), (.ref a1)])) _
    refine st2.trans ?_
    show Steps p.tables e below (T2.setTop (mkF m 6 #[.val (.ref a1), .val (.ref a2)] [])) _
    exact X2.returnOut hx Bd.returns (hb hby k48_6) hr
  · show QSt Z a1 es h0 n0 _ T2.heap _
    exact ⟨rfl, N2a, K1, SV2⟩
theorem rmTs1 (l : Launch) (Z : State) (a0 : Array Value) (hw : HW a0 Z) (ws : List Jvm.Cond) (a2 b : Addr) (kb : ClassId) (es : List Int32) (h0 : Heap) (n0 : Nat) (Z0 : n0 ≤ h0.size) (hG : GST Z) (O0 : Old Z n0 h0) (B_a2 : SBF Z h0 a2 (1 : Int32) (Int32.ofNat 67) (Int32.ofNat (2 * 130)) (wideBytes es) b kb) (hes : es.length = 67) (hlw : ∃ c ∈ es, (255 : Int32) < c) (hc : ∀ c ∈ es, ¬ c < 0 ∧ ¬ (65535 : Int32) < c) :
    Met l Z ws m50_ jdk_67_method_42_code 1 (some (.object "java/lang/String")) ({ frames := 5, cells := 2, slots := 138, locals := 106 } : Room) h0 #[(.ref a2)] (QSr Z es h0 n0) := by
  refine MetFree.of_bodySF (plainFor_of_name pn6_) hisR ?_
  intro p e s m args below meth c s₁ Bd hml0 hP hK
  obtain ⟨rfl, hZ, hh⟩ := hP
  have hx := Bd.exec
  have hby := Bd.bytes
  have hml : c.maxLocals = 1 := hml0
  have hown : s.vm.findClass "java/lang/StringBuilder" = some m.cls := findClass_of_methodNamed Bd.named
  have X0 : Stand p l e ({ frames := 5, cells := 2, slots := 138, locals := 106 } : Room) s m #[(.ref a2)] below meth c s₁ [] 0 0 := Stand.of_body Bd
  have e0 : s₁.heap = h0 := by rw [← hh, Bd.state]; rfl
  have N0 := Fr.nil n0
  have pre0 : ∀ t, Steps p.tables e below (s₁.setTop (mkF m 0 #[.val (.ref a2)] [])) t → Steps p.tables e below (s₁.setTop (entryFrame m #[(.ref a2)] 1)) t := fun t k => castTop (ef49_ m a2) k
  obtain ⟨⟨G1, O2, P5⟩, ⟨G3, O4, rG3⟩, Sa, Sh, Sl⟩ := id hG
  obtain ⟨bE1, bV1, bC1, bN1, bM1, bA1⟩ := id B_a2
  obtain ⟨T2, h2, X2, e2, E2, A2, D2, -, st2⟩ := newO X0 hx hZ hown (wt hw 194 rfl) (wt hw 3 rfl) (wt hw 4 rfl) e0 (g := (mkF m 0 #[.val (.ref a2)] [])) rfl (hb hby k49_0) (by decide) (by decide)
  obtain ⟨b2, g2⟩ : ∃ z, z = h0.size := ⟨_, rfl⟩
  rw [← g2] at A2 D2 st2
  have sz_b2 : h0.size ≤ b2 := Nat.le_trans (Keep.refl h0 []).1 (Nat.le_of_eq g2.symm)
  have g_b2 : n0 ≤ b2 := Nat.le_trans Z0 sz_b2
  have K1 : Keep h0 h2 [] := (Keep.refl h0 []).ext E2
  have F_value_b2 : Fld Z h2 b2 "java/lang/String" "value" "[B" .null := D2 (Or.inr (wt hw 17 rfl)) (ty := (.array .byte)) (by decide)
  have F_coder_b2 : Fld Z h2 b2 "java/lang/String" "coder" "B" (.int (0 : Int32)) := D2 (Or.inr (wt hw 18 rfl)) (ty := .byte) (by decide)
  have f4 : Old Z n0 h2 := (O0.ext E2)
  have f5 : Exa Z h2 a2 "java/lang/StringBuilder" := (bE1.ext E2)
  have f6 : Fld Z h2 a2 "java/lang/AbstractStringBuilder" "value" "[B" (.ref b) := (bV1.ext E2)
  have f7 : Fld Z h2 a2 "java/lang/AbstractStringBuilder" "coder" "B" (.int (1 : Int32)) := (bC1.ext E2)
  have f8 : Fld Z h2 a2 "java/lang/AbstractStringBuilder" "count" "I" (.int (Int32.ofNat 67)) := (bN1.ext E2)
  have f9 : Fld Z h2 a2 "java/lang/AbstractStringBuilder" "maybeLatin1" "Z" (.int (0 : Int32)) := (bM1.ext E2)
  have f10 : Arv Z h2 b kb .byte (Int32.ofNat (2 * 130)) (wideBytes es) (.int (0 : Int32)) := (bA1.ext E2)
  obtain ⟨_, _, ⟨T3, L3, k3, n3⟩, -, X3, ⟨Lc3, hQ3, l3, y3, z3⟩, st3⟩ := X2.specialBack hx (y := m49_) rfl hown (mvT hZ (wt hw 195 rfl)) (mvT hZ (wt hw 196 rfl)) (mvT hZ (wt hw 197 rfl)) (by decide) (backOf (W := 1) (rmIs1 l Z a0 hw [] b2 a2 b kb es .null (.int (0 : Int32)) h2 n0 (Nat.le_trans Z0 K1.1) A2 F_value_b2 F_coder_b2 g_b2 hG f4 ⟨f5, f6, f7, f8, f9, f10⟩ hes hlw hc) hZ (wt hw 197 rfl) (wt hw 4 rfl) (by decide) (by decide)) (g := (mkF m 5 #[.val (.ref a2)] [(.ref a2), (.ref b2), (.ref b2)])) rfl (by rw [hml]; rfl) (Steps.refl _) (a := b2) (argsL := [(.ref a2)]) (rest := [(.ref b2)]) (lenOf pd32_ rfl) rfl (by show 2 * 0 + _ ≤ _; exact Nat.le_of_eq rfl) (hb hby k49_5) (fun _ _ => ⟨rfl, e2, (by decide : 1 + 1 ≤ _), (by decide : 4 + 134 ≤ _)⟩)
  dsimp only [Pt.U, Pt.locs, Pt.cells, Pt.slots] at X3 l3 y3 z3 st3 hQ3
  rw [l3] at X3
  clear l3; subst y3 z3
  obtain ⟨rfl, N3q, K3q, SV3⟩ := hQ3
  have N3a := Fr.app N0 N3q
  have K2 : Keep h0 T3.heap [] := K1.trans K3q (allS (Or.inr sz_b2) all0)
  obtain ⟨fs, hr, hrun, hended, hW, hsame⟩ := X3.leave (v := some (.ref b2)) (fun h => by rw [Bd.returns] at h; cases h)
  refine ⟨_, _, pre0 _ ?_, hrun, hended, _, _, rfl, ?_, ⟨_, rfl⟩, hW, hsame.mono (by decide) (by decide)⟩
  · show Steps p.tables e below (s₁.setTop (mkF m 0 #[.val (.ref a2)] [])) _
    refine st2 _ ?_
    refine XS.dup X2.here hx rfl (hb hby k49_3) rfl rfl ?_
    refine XS.aloadN X2.here hx rfl (hb hby k49_4) rfl rfl ?_
    show Steps p.tables e below (T2.setTop (mkF m 5 #[.val (.ref a2)] [(.ref a2), (.ref b2), (.ref b2)])) _
    refine st3.trans ?_
    show Steps p.tables e below (T3.setTop (mkF m 8 #[.val (.ref a2)] [(.ref b2)])) _
    jvm_step X3.here [X3.here.top, hx, (hb hby k49_8), X3.method', Bd.returns, Value.isRef, FieldType.isReference]
    first | (intro acts; rw [hr _ acts rfl rfl rfl]) | rw [hr _ _ rfl rfl rfl]
    exact Steps.refl _
  · show QSr Z es h0 n0 _ T3.heap _
    exact ⟨b2, rfl, N3a, K2, SV3⟩
theorem k50_0 : decode c50_ 0 = .ok (.aload_n 0, 1) := by decide +kernel
theorem k50_1 : decode c50_ 1 = .ok (.invokevirtual 7, 3) := by decide +kernel
theorem k50_4 : decode c50_ 4 = .ok (.bipush 64, 2) := by decide +kernel
theorem k50_6 : decode c50_ 6 = .ok (.if_icmp .gt 7, 3) := by decide +kernel
theorem k50_9 : decode c50_ 9 = .ok (.aload_n 0, 1) := by decide +kernel
theorem k50_10 : decode c50_ 10 = .ok (.goto 28, 3) := by decide +kernel
theorem k50_38 : decode c50_ 38 = .ok (.areturn, 1) := by decide +kernel
theorem pn8_ : plainName "com/example/atomicity/atomicity/Text" = true := by first | (simp [plainName, overriddenIn]; done) | decide +kernel
theorem ef50_ (m : MethodId) (x0 : Addr) : entryFrame m #[(.ref x0)] 1 = mkF m 0 #[.val (.ref x0)] [] := by first | (simp [entryFrame, mkF, argsToLocals, Value.category]; done) | rfl
theorem rmAb0 (l : Launch) (Z : State) (a0 : Array Value) (hw : HW a0 Z) (ws : List Jvm.Cond) (a1 : Addr) (cs : List Int32) (h0 : Heap) (n0 : Nat) (Z0 : n0 ≤ h0.size) (hG : GST Z) (O0 : Old Z n0 h0) (S_a1 : StrU Z h0 a1 cs) (h64 : cs.length ≤ 64) :
    Met l Z ws m51_ prog_12_method_2_code 1 (some (.object "java/lang/String")) ({ frames := 3, cells := 0, slots := 0, locals := 40 } : Room) h0 #[(.ref a1)] (QN a1 h0 n0) := by
  refine MetFree.of_bodySF (plainFor_of_name pn8_) hisR ?_
  intro p e s m args below meth c s₁ Bd hml0 hP hK
  obtain ⟨rfl, hZ, hh⟩ := hP
  have hx := Bd.exec
  have hby := Bd.bytes
  have hml : c.maxLocals = 1 := hml0
  have hown : s.vm.findClass "com/example/atomicity/atomicity/Text" = some m.cls := findClass_of_methodNamed Bd.named
  have X0 : Stand p l e ({ frames := 3, cells := 0, slots := 0, locals := 40 } : Room) s m #[(.ref a1)] below meth c s₁ [] 0 0 := Stand.of_body Bd
  have e0 : s₁.heap = h0 := by rw [← hh, Bd.state]; rfl
  have N0 := Fr.nil n0
  have pre0 : ∀ t, Steps p.tables e below (s₁.setTop (mkF m 0 #[.val (.ref a1)] [])) t → Steps p.tables e below (s₁.setTop (entryFrame m #[(.ref a1)] 1)) t := fun t k => castTop (ef50_ m a1) k
  obtain ⟨⟨G1, O2, P5⟩, ⟨G3, O4, rG3⟩, Sa, Sh, Sl⟩ := id hG
  obtain ⟨sb2, sk2, sd2, sN2, sv2, sE2, sV2, sC2, sA2, sc2, su2⟩ := id S_a1
  obtain ⟨cq1, kq1, q1a, q1b, q1c⟩ := isOf hZ e0 S_a1.exa
  obtain ⟨_, _, ⟨T1, L1, k1, n1⟩, -, X1, ⟨Lc1, hQ1, l1, y1, z1⟩, st1⟩ := X0.virtualBack hx (y := m28_) (z := m28_) hown (mvT hZ (wt hw 27 rfl)) (mvT hZ (wt hw 28 rfl)) (notFace_of_selects (args := #[]) (mvT hZ (wt hw 30 rfl))) (mvT hZ (wt hw 30 rfl)) (mvT hZ (wt hw 29 rfl)) (by decide) (StrChars.Road.lenW (W := 0) hZ (own_hlen hw) (kI := 4) (wt hw 3 rfl) sE2 sV2 sC2 sA2 sc2 su2 (O2.ext O0.2) P5 (by omega) (by decide) (by decide)) q1a q1c (g := (mkF m 1 #[.val (.ref a1)] [(.ref a1)])) rfl (by rw [hml]; rfl) (Steps.refl _) (argsL := []) (rest := []) (lenOf pd17_ rfl) rfl (by show 2 * 0 + _ ≤ _; exact Nat.le_of_eq rfl) (hb hby k50_1) (fun _ _ => ⟨rfl, e0, (by decide : 0 + 0 ≤ _), (by decide : 0 + 0 ≤ _)⟩)
  dsimp only [Pt.U, Pt.locs, Pt.cells, Pt.slots] at X1 l1 y1 z1 st1 hQ1
  rw [l1] at X1
  clear l1; subst y1 z1
  obtain ⟨rfl, rfl, e1q⟩ := hQ1
  have N1a := Fr.app N0 (Fr.nil n0)
  obtain ⟨fs, hr, hrun, hended, hW, hsame⟩ := X1.leave (v := some (.ref a1)) (fun h => by rw [Bd.returns] at h; cases h)
  refine ⟨_, _, pre0 _ ?_, hrun, hended, _, _, rfl, ?_, ⟨_, rfl⟩, hW, hsame.mono (by decide) (by decide)⟩
  · show Steps p.tables e below (s₁.setTop (mkF m 0 #[.val (.ref a1)] [])) _
    refine XS.aloadN X0.here hx rfl (hb hby k50_0) rfl rfl ?_
    show Steps p.tables e below (s₁.setTop (mkF m 1 #[.val (.ref a1)] [(.ref a1)])) _
    refine st1.trans ?_
    refine XS.bipush X1.here hx rfl (hb hby k50_4) ?_
    show Steps p.tables e below (T1.setTop (mkF m 6 #[.val (.ref a1)] [(.int (64 : Int32)), (.int (Int32.ofNat cs.length))])) _
    refine XS.icmpNo X1.here hx rfl (hb hby k50_6) rfl (flt (fun q => by have := (own_lt_of (i := 64) (n := cs.length) (by omega) (by omega)).mp q; omega : ¬ ((64 : Int32) < (Int32.ofNat cs.length)))).2.2.1 ?_
    refine XS.aloadN X1.here hx rfl (hb hby k50_9) rfl rfl ?_
    refine XS.goto X1.here hx rfl (pc0 := 10) (pc' := 38) rfl (hb hby k50_10) (by decide) (by decide) ?_
    show Steps p.tables e below (T1.setTop (mkF m 38 #[.val (.ref a1)] [(.ref a1)])) _
    jvm_step X1.here [X1.here.top, hx, (hb hby k50_38), X1.method', Bd.returns, Value.isRef, FieldType.isReference]
    first | (intro acts; rw [hr _ acts rfl rfl rfl]) | rw [hr _ _ rfl rfl rfl]
    exact Steps.refl _
  · show QN a1 h0 n0 _ T1.heap _
    rw [e1q]
    exact ⟨rfl, N1a, rfl⟩
theorem own_td {cs : List Int32} (h : ∀ c ∈ cs, ¬ c < 0 ∧ ¬ (65535 : Int32) < c) : ∀ c ∈ cs.take 64 ++ own_dots, ¬ c < 0 ∧ ¬ (65535 : Int32) < c := fun c hc => (List.mem_append.mp hc).elim (fun q => h c (List.mem_of_mem_take q)) (own_dots_rng c)
theorem k50_13 : decode c50_ 13 = .ok (.new 15, 3) := by decide +kernel
theorem k50_16 : decode c50_ 16 = .ok (.dup, 1) := by decide +kernel
theorem k50_17 : decode c50_ 17 = .ok (.invokespecial 17, 3) := by decide +kernel
theorem k50_20 : decode c50_ 20 = .ok (.aload_n 0, 1) := by decide +kernel
theorem k50_21 : decode c50_ 21 = .ok (.iconst 0, 1) := by decide +kernel
theorem k50_22 : decode c50_ 22 = .ok (.bipush 64, 2) := by decide +kernel
theorem k50_24 : decode c50_ 24 = .ok (.invokevirtual 18, 3) := by decide +kernel
theorem k50_27 : decode c50_ 27 = .ok (.invokevirtual 22, 3) := by decide +kernel
theorem k50_30 : decode c50_ 30 = .ok (.ldc 26, 2) := by decide +kernel
theorem k50_32 : decode c50_ 32 = .ok (.invokevirtual 22, 3) := by decide +kernel
theorem k50_35 : decode c50_ 35 = .ok (.invokevirtual 28, 3) := by decide +kernel
theorem pd33_ : parseMethodDescriptor "(II)Ljava/lang/String;" = some ⟨[.int, .int], some (.object "java/lang/String")⟩ := by decide +kernel
theorem pd34_ : parseMethodDescriptor "(Ljava/lang/String;)Ljava/lang/StringBuilder;" = some ⟨[(.object "java/lang/String")], some (.object "java/lang/StringBuilder")⟩ := by decide +kernel
theorem own_lit__46__46__46_ : (∀ c ∈ ("..." : String).toList, c.toNat < 256) ∧ ("..." : String).toList.map (fun c => Value.int (Jvm.Lit.byteI c.toNat.toUInt16)) = [.int (46 : Int32), .int (46 : Int32), .int (46 : Int32)] := by decide +kernel
theorem pd35_ : parseMethodDescriptor "()Ljava/lang/String;" = some ⟨[], some (.object "java/lang/String")⟩ := by decide +kernel
theorem rmAbL (l : Launch) (Z : State) (a0 : Array Value) (hw : HW a0 Z) (ws : List Jvm.Cond) (hEL : EW Z a0 own_EL) (a1 : Addr) (cs : List Int32) (h0 : Heap) (n0 : Nat) (Z0 : n0 ≤ h0.size) (hG : GST Z) (O0 : Old Z n0 h0) (S_a1 : StrU Z h0 a1 cs) (h64 : 64 < cs.length) (hm : cs.length ≤ 127) (hc : ∀ c ∈ cs, ¬ c < 0 ∧ ¬ (65535 : Int32) < c) (hlw : ∀ c ∈ cs.take 64, ¬ (255 : Int32) < c) :
    MetFree l m51_ (head1 (Jvm.Cond.code m51_ prog_12_method_2_code 1 (some (.object "java/lang/String")) :: ws) ({ frames := 10, cells := 13, slots := 1416, locals := 143 } : Room)) (fun a U => a = #[(.ref a1)] ∧ Z.Warmed39 U.vm ∧ U.heap = h0 ∧ CHv Z own_EL U.vm h0) (fun _ _ _ _ _ => True) (fun _ U o U' => ∃ vr_ Lr_, o = .returned vr_ ∧ QSr Z (cs.take 64 ++ own_dots) h0 n0 vr_ U'.heap Lr_ ∧ CHr Z own_EL U.vm U.heap U'.vm U'.heap ∧ ReturnedEndW U o U' Lr_ 13 1416) := by
  refine MetFree.of_bodySF (plainFor_of_name pn8_) hisR ?_
  intro p e s m args below meth c s₁ Bd hml0 hP hK
  obtain ⟨rfl, hZ, hh, hCH0⟩ := hP
  have hx := Bd.exec
  have hby := Bd.bytes
  have hml : c.maxLocals = 1 := hml0
  have hown : s.vm.findClass "com/example/atomicity/atomicity/Text" = some m.cls := findClass_of_methodNamed Bd.named
  have X0 : Stand p l e ({ frames := 10, cells := 13, slots := 1416, locals := 143 } : Room) (s.setVm s.vm) m #[(.ref a1)] below meth c s₁ [] 0 0 := Stand.of_body Bd
  have e0 : s₁.heap = h0 := by rw [← hh, Bd.state]; rfl
  have N0 := Fr.nil n0
  have CH0 : CHr Z own_EL s.vm h0 s.vm h0 := CHr.refl hCH0
  have hS0 : s.Since s.vm 0 := State.WarmedH.since (State.WarmedH.refl s) 0
  have pre0 : ∀ t, Steps p.tables e below (s₁.setTop (mkF m 0 #[.val (.ref a1)] [])) t → Steps p.tables e below (s₁.setTop (entryFrame m #[(.ref a1)] 1)) t := fun t k => castTop (ef50_ m a1) k
  obtain ⟨⟨G1, O2, P5⟩, ⟨G3, O4, rG3⟩, Sa, Sh, Sl⟩ := id hG
  have hds : (cs.take 64).length = 64 := by rw [List.length_take, Nat.min_eq_left (by omega)]
  obtain ⟨sb2, sk2, sd2, sN2, sv2, sE2, sV2, sC2, sA2, sc2, su2⟩ := id S_a1
  obtain ⟨cq1, kq1, q1a, q1b, q1c⟩ := isOf hZ e0 S_a1.exa
  obtain ⟨_, _, ⟨T1, L1, k1, n1⟩, -, X1, ⟨Lc1, hQ1, l1, y1, z1⟩, st1⟩ := X0.virtualBack hx (y := m28_) (z := m28_) hown (mvT hZ (wt hw 27 rfl)) (mvT hZ (wt hw 28 rfl)) (notFace_of_selects (args := #[]) (mvT hZ (wt hw 30 rfl))) (mvT hZ (wt hw 30 rfl)) (mvT hZ (wt hw 29 rfl)) (by decide) (StrChars.Road.lenW (W := 0) hZ (own_hlen hw) (kI := 4) (wt hw 3 rfl) sE2 sV2 sC2 sA2 sc2 su2 (O2.ext O0.2) P5 (by omega) (by decide) (by decide)) q1a q1c (g := (mkF m 1 #[.val (.ref a1)] [(.ref a1)])) rfl (by rw [hml]; rfl) (Steps.refl _) (argsL := []) (rest := []) (lenOf pd17_ rfl) rfl (by show 2 * 0 + _ ≤ _; exact Nat.le_of_eq rfl) (hb hby k50_1) (fun _ _ => ⟨rfl, e0, (by decide : 0 + 0 ≤ _), (by decide : 0 + 0 ≤ _)⟩)
  dsimp only [Pt.U, Pt.locs, Pt.cells, Pt.slots] at X1 l1 y1 z1 st1 hQ1
  rw [l1] at X1
  clear l1; subst y1 z1
  obtain ⟨rfl, rfl, e1q⟩ := hQ1
  have N1a := Fr.app N0 (Fr.nil n0)
  obtain ⟨T3, h3, X3, e3, E3, A3, D3, -, st3⟩ := newO X1 hx hZ hown (wt hw 73 rfl) (wt hw 74 rfl) (wt hw 75 rfl) e1q (g := (mkF m 13 #[.val (.ref a1)] [])) rfl (hb hby k50_13) (by decide) (by decide)
  obtain ⟨b3, g3⟩ : ∃ z, z = h0.size := ⟨_, rfl⟩
  rw [← g3] at A3 D3 st3
  have sz_b3 : h0.size ≤ b3 := Nat.le_trans (Keep.refl h0 []).1 (Nat.le_of_eq g3.symm)
  have g_b3 : n0 ≤ b3 := Nat.le_trans Z0 sz_b3
  have CH1 : CHr Z own_EL s.vm h0 s.vm h3 := CH0.trans (CHr.ext E3 CH0.1)
  have K1 : Keep h0 h3 [] := (Keep.refl h0 []).ext E3
  have F_value_b3 : Fld Z h3 b3 "java/lang/AbstractStringBuilder" "value" "[B" .null := D3 (Or.inl (wt hw 88 rfl)) (ty := (.array .byte)) (by decide)
  have F_coder_b3 : Fld Z h3 b3 "java/lang/AbstractStringBuilder" "coder" "B" (.int (0 : Int32)) := D3 (Or.inl (wt hw 90 rfl)) (ty := .byte) (by decide)
  have F_count_b3 : Fld Z h3 b3 "java/lang/AbstractStringBuilder" "count" "I" (.int (0 : Int32)) := D3 (Or.inl (wt hw 148 rfl)) (ty := .int) (by decide)
  have F_maybeLatin1_b3 : Fld Z h3 b3 "java/lang/AbstractStringBuilder" "maybeLatin1" "Z" (.int (0 : Int32)) := D3 (Or.inl (wt hw 265 rfl)) (ty := .boolean) (by decide)
  have f5 : Old Z n0 h3 := (O0.ext E3)
  obtain ⟨_, _, ⟨T4, L4, k4, n4⟩, -, X4, ⟨Lc4, hQ4, l4, y4, z4⟩, st4⟩ := X3.specialBack hx (y := m30_) rfl hown (mvT hZ (wt hw 76 rfl)) (mvT hZ (wt hw 77 rfl)) (mvT hZ (wt hw 78 rfl)) (by decide) (backOf (W := 1) (rmSi l Z a0 hw [] b3 h3 n0 (Nat.le_trans Z0 K1.1) hG f5 A3 F_value_b3 F_coder_b3 F_count_b3 F_maybeLatin1_b3 g_b3) hZ (wt hw 78 rfl) (wt hw 75 rfl) (by decide) (by decide)) (g := (mkF m 17 #[.val (.ref a1)] [(.ref b3), (.ref b3)])) rfl (by rw [hml]; rfl) (Steps.refl _) (a := b3) (argsL := []) (rest := [(.ref b3)]) (lenOf pd25_ rfl) rfl (by show 2 * 0 + _ ≤ _; exact Nat.le_of_eq rfl) (hb hby k50_17) (fun _ _ => ⟨rfl, e3, (by decide : 1 + 1 ≤ _), (by decide : 4 + 16 ≤ _)⟩)
  dsimp only [Pt.U, Pt.locs, Pt.cells, Pt.slots] at X4 l4 y4 z4 st4 hQ4
  rw [l4] at X4
  clear l4; subst y4 z4
  obtain ⟨t4, tk4, rfl, N4q, K4q, ts4, Sb4⟩ := hQ4
  have N4a := Fr.app N1a N4q
  have CH2 : CHr Z own_EL s.vm h0 s.vm T4.heap := CH1.trans (CHr.keep K4q (allS (Safe.exa (hZ : Z.Warmed39 s.vm).alike A3 (by decide) (by decide)) all0) CH1.1)
  have K2 : Keep h0 T4.heap [] := K1.trans K4q (allS (Or.inr sz_b3) all0)
  obtain ⟨bE6, bV6, bC6, bN6, bM6, bA6⟩ := id Sb4
  have f8 : Old Z n0 T4.heap := (f5.keep K4q (allS g_b3 all0))
  have f9 : StrU Z T4.heap a1 cs := (S_a1.keep (((Keep.refl h0 []).ext E3).trans K4q (allS (Or.inr (Nat.le_trans (Keep.refl h0 []).1 (Nat.le_of_eq g3.symm))) all0)) all0)
  obtain ⟨cq7, kq7, q7a, q7b, q7c⟩ := isOf hZ rfl f9.exa
  obtain ⟨_, _, ⟨T7, L7, k7, n7⟩, -, X7, ⟨Lc7, hQ7, l7, y7, z7⟩, st7⟩ := X4.virtualBack hx (y := m27_) (z := m27_) hown (mvT hZ (wt hw 91 rfl)) (mvT hZ (wt hw 92 rfl)) (notFace_of_selects (args := #[]) (mvT hZ (wt hw 94 rfl))) (mvT hZ (wt hw 94 rfl)) (mvT hZ (wt hw 93 rfl)) (by decide) (backOf (W := 1) (rmSub l Z a0 hw [] a1 cs T4.heap n0 (Nat.le_trans Z0 K2.1) hG f8 f9 h64 hm hc) hZ (wt hw 95 rfl) (wt hw 4 rfl) (by decide) (by decide)) q7a q7c (g := (mkF m 24 #[.val (.ref a1)] [(.int (64 : Int32)), (.int (0 : Int32)), (.ref a1), (.ref b3)])) rfl (by rw [hml]; rfl) (Steps.refl _) (argsL := [(.int (0 : Int32)), (.int (64 : Int32))]) (rest := [(.ref b3)]) (lenOf pd33_ rfl) rfl (by show 2 * 0 + _ ≤ _; exact Nat.le_of_eq rfl) (hb hby k50_24) (fun _ _ => ⟨rfl, rfl, (by decide : 2 + 3 ≤ _), (by decide : 20 + 202 ≤ _)⟩)
  dsimp only [Pt.U, Pt.locs, Pt.cells, Pt.slots] at X7 l7 y7 z7 st7 hQ7
  rw [l7] at X7
  clear l7; subst y7 z7
  obtain ⟨r7, rfl, N7q, K7q, SV7⟩ := hQ7
  have N7a := Fr.app N4a N7q
  have CH3 : CHr Z own_EL s.vm h0 s.vm T7.heap := CH2.trans (CHr.keep K7q all0 CH2.1)
  have K3 : Keep h0 T7.heap [] := K2.trans K7q all0
  have f11 : Old Z n0 T7.heap := (f8.keep K7q all0)
  have f12 : Exa Z T7.heap b3 "java/lang/StringBuilder" := (bE6.keep K7q)
  have f13 : Fld Z T7.heap b3 "java/lang/AbstractStringBuilder" "value" "[B" (.ref t4) := (bV6.keep K7q nin0)
  have f14 : Fld Z T7.heap b3 "java/lang/AbstractStringBuilder" "coder" "B" (.int (0 : Int32)) := (bC6.keep K7q nin0)
  have f15 : Fld Z T7.heap b3 "java/lang/AbstractStringBuilder" "count" "I" (.int (0 : Int32)) := (bN6.keep K7q nin0)
  have f16 : Fld Z T7.heap b3 "java/lang/AbstractStringBuilder" "maybeLatin1" "Z" (.int (0 : Int32)) := (bM6.keep K7q nin0)
  have f17 : Arv Z T7.heap t4 tk4 .byte (16 : Int32) [] (.int (0 : Int32)) := (bA6.keep K7q nin0)
  obtain ⟨cq10, kq10, q10a, q10b, q10c⟩ := isOf hZ rfl f12
  obtain ⟨_, _, ⟨T10, L10, k10, n10⟩, -, X10, ⟨Lc10, hQ10, l10, y10, z10⟩, st10⟩ := X7.virtualBack hx (y := m44_) (z := m44_) hown (mvT hZ (wt hw 136 rfl)) (mvT hZ (wt hw 137 rfl)) (notFace_of_selects (args := #[]) (mvT hZ (wt hw 139 rfl))) (mvT hZ (wt hw 139 rfl)) (mvT hZ (wt hw 138 rfl)) (by decide) (backOf (W := 0) (rmSa1 l Z a0 hw [] b3 r7 t4 tk4 (cs.take 64) T7.heap n0 (Nat.le_trans Z0 K3.1) hG f11 ⟨f12, f13, f14, f15, f16, f17⟩ g_b3 SV7 hlw hds) hZ (wt hw 140 rfl) (wt hw 75 rfl) (by decide) (by decide)) q10a q10c (g := (mkF m 27 #[.val (.ref a1)] [(.ref r7), (.ref b3)])) rfl (by rw [hml]; rfl) (Steps.refl _) (argsL := [(.ref r7)]) (rest := []) (lenOf pd34_ rfl) rfl (by show 2 * 0 + _ ≤ _; exact Nat.le_of_eq rfl) (hb hby k50_27) (fun _ _ => ⟨rfl, rfl, (by decide : 5 + 2 ≤ _), (by decide : 222 + 520 ≤ _)⟩)
  dsimp only [Pt.U, Pt.locs, Pt.cells, Pt.slots] at X10 l10 y10 z10 st10 hQ10
  rw [l10] at X10
  clear l10; subst y10 z10
  obtain ⟨t10, tk10, rfl, N10q, K10q, ts10, Sb10⟩ := hQ10
  have N10a := Fr.app N7a N10q
  have CH4 : CHr Z own_EL s.vm h0 s.vm T10.heap := CH3.trans (CHr.keep K10q (allS (Safe.exa (hZ : Z.Warmed39 s.vm).alike f12 (by decide) (by decide)) all0) CH3.1)
  have K4 : Keep h0 T10.heap [] := K3.trans K10q (allS (Or.inr sz_b3) all0)
  obtain ⟨bE18, bV18, bC18, bN18, bM18, bA18⟩ := id Sb10
  obtain ⟨lit19, T19, h19, kl19, lba19, kk19, X19, e19, E19, hS19, hk19, hZ19, hown19, Ea19, Fc19, Fv19, V19, la19, lb19, C19, Lt19, sf19, st19⟩ := ldcCH X10 hx hZ hown (wt hw 188 rfl) (own_wS hw) rfl hS0 (Nat.zero_le _) hEL (by decide : ("com/example/atomicity/atomicity/Text", 26) ∈ own_EL) CH4.1 (vs := [.int (46 : Int32), .int (46 : Int32), .int (46 : Int32)]) (z := (3 : Int32)) own_lit__46__46__46_ (by decide) (by decide) (g := (mkF m 30 #[.val (.ref a1)] [(.ref b3)])) rfl (hb hby k50_30) (n := 12) (by decide) (by decide) (by decide) (by decide)
  have CH5 : CHr Z own_EL s.vm h0 T19.vm h19 := CH4.trans C19
  have K5 : Keep h0 h19 [] := K4.ext E19
  have f20 : Arv Z T10.heap t4 tk4 .byte (16 : Int32) [] (.int (0 : Int32)) := (f17.keep K10q (ninS (Ne.symm (Nat.ne_of_lt (Nat.lt_of_lt_of_le A3.lt ts4))) nin0))
  have f21 : Safe Z own_EL T19.vm h19 t4 := (C19.safe f20.lt (Safe.keep K10q (allS (Safe.exa (hZ : Z.Warmed39 s.vm).alike f12 (by decide) (by decide)) all0) CH3.1 (Safe.keep K7q all0 CH2.1 (Safe.keep K4q (allS (Safe.exa (hZ : Z.Warmed39 s.vm).alike A3 (by decide) (by decide)) all0) CH1.1 (Safe.new ts4)))))
  have ne19_t4 := sf19 t4 f21
  have f22 : Safe Z own_EL T19.vm h19 t10 := (C19.safe bA18.lt (Safe.keep K10q (allS (Safe.exa (hZ : Z.Warmed39 s.vm).alike f12 (by decide) (by decide)) all0) CH3.1 (Safe.new ts10)))
  have ne19_t10 := sf19 t10 f22
  have SL19 : StrU Z h19 lit19 own_dots := ⟨lba19, kk19, _, _, _, Ea19, Fv19, Fc19, V19, StrChars.Road.codOf (cs := own_dots) (n := 3) rfl own_dots_lat, own_dots_rng⟩
  have f24 : Old Z n0 h19 := ((f11.keep K10q (allS g_b3 all0)).ext E19)
  have f25 : Exa Z h19 b3 "java/lang/StringBuilder" := (bE18.ext E19)
  have f26 : Fld Z h19 b3 "java/lang/AbstractStringBuilder" "value" "[B" (.ref t10) := (bV18.ext E19)
  have f27 : Fld Z h19 b3 "java/lang/AbstractStringBuilder" "coder" "B" (.int (0 : Int32)) := (bC18.ext E19)
  have f28 : Fld Z h19 b3 "java/lang/AbstractStringBuilder" "count" "I" (.int (64 : Int32)) := (bN18.ext E19)
  have f29 : Fld Z h19 b3 "java/lang/AbstractStringBuilder" "maybeLatin1" "Z" (.int (0 : Int32)) := (bM18.ext E19)
  have f30 : Arv Z h19 t10 tk10 .byte (64 : Int32) ((cs.take 64).map own_lo) (.int (0 : Int32)) := (bA18.ext E19)
  obtain ⟨cq23, kq23, q23a, q23b, q23c⟩ := isOf hZ19 e19 f25
  obtain ⟨_, _, ⟨T23, L23, k23, n23⟩, -, X23, ⟨Lc23, hQ23, l23, y23, z23⟩, st23⟩ := X19.virtualBack hx (y := m44_) (z := m44_) hown19 (mvT hZ19 (wt hw 136 rfl)) (mvT hZ19 (wt hw 137 rfl)) (notFace_of_selects (args := #[]) (mvT hZ19 (wt hw 139 rfl))) (mvT hZ19 (wt hw 139 rfl)) (mvT hZ19 (wt hw 138 rfl)) (by decide) (backOf (W := 0) (rmSa2 l Z a0 hw [] b3 lit19 t10 tk10 (cs.take 64) h19 n0 (Nat.le_trans Z0 K5.1) hG f24 ⟨f25, f26, f27, f28, f29, f30⟩ g_b3 SL19 hds) hZ19 (wt hw 140 rfl) (wt hw 75 rfl) (by decide) (by decide)) q23a q23c (g := (mkF m 32 #[.val (.ref a1)] [(.ref lit19), (.ref b3)])) rfl (by rw [hml]; rfl) (Steps.refl _) (argsL := [(.ref lit19)]) (rest := []) (lenOf pd34_ rfl) rfl (by show 2 * 0 + _ ≤ _; exact Nat.le_of_eq rfl) (hb hby k50_32) (fun _ _ => ⟨rfl, e19, (by decide : 9 + 2 ≤ _), (by decide : 758 + 520 ≤ _)⟩)
  dsimp only [Pt.U, Pt.locs, Pt.cells, Pt.slots] at X23 l23 y23 z23 st23 hQ23
  rw [l23] at X23
  clear l23; subst y23 z23
  obtain ⟨t23, tk23, rfl, N23q, K23q, ts23, Sb23⟩ := hQ23
  have N23a := Fr.app N10a N23q
  have CH6 : CHr Z own_EL s.vm h0 T19.vm T23.heap := CH5.trans (CHr.keep K23q (allS (Safe.exa (hZ19 : Z.Warmed39 T19.vm).alike f25 (by decide) (by decide)) all0) CH5.1)
  have K6 : Keep h0 T23.heap [] := K5.trans K23q (allS (Or.inr sz_b3) all0)
  obtain ⟨bE31, bV31, bC31, bN31, bM31, bA31⟩ := id Sb23
  have f33 : Old Z n0 T23.heap := (f24.keep K23q (allS g_b3 all0))
  obtain ⟨cq32, kq32, q32a, q32b, q32c⟩ := isOf hZ19 rfl bE31
  obtain ⟨_, _, ⟨T32, L32, k32, n32⟩, -, X32, ⟨Lc32, hQ32, l32, y32, z32⟩, st32⟩ := X23.virtualBack hx (y := m50_) (z := m50_) hown19 (mvT hZ19 (wt hw 189 rfl)) (mvT hZ19 (wt hw 190 rfl)) (notFace_of_selects (args := #[]) (mvT hZ19 (wt hw 192 rfl))) (mvT hZ19 (wt hw 192 rfl)) (mvT hZ19 (wt hw 191 rfl)) (by decide) (backOf (W := 0) (rmTs0 l Z a0 hw [] b3 t23 tk23 (cs.take 64 ++ own_dots) T23.heap n0 (Nat.le_trans Z0 K6.1) hG f33 (by have q : SBF Z T23.heap b3 _ _ _ _ _ _ := ⟨bE31, bV31, bC31, bN31, bM31, bA31⟩; rw [← List.map_append] at q; exact q) (by rw [List.length_append, hds]; rfl) (fun c q => (List.mem_append.mp q).elim (hlw c) (own_dots_lat c)) (own_td hc)) hZ19 (wt hw 193 rfl) (wt hw 75 rfl) (by decide) (by decide)) q32a q32c (g := (mkF m 35 #[.val (.ref a1)] [(.ref b3)])) rfl (by rw [hml]; rfl) (Steps.refl _) (argsL := []) (rest := []) (lenOf pd35_ rfl) rfl (by show 2 * 0 + _ ≤ _; exact Nat.le_of_eq rfl) (hb hby k50_35) (fun _ _ => ⟨rfl, rfl, (by decide : 11 + 2 ≤ _), (by decide : 1278 + 138 ≤ _)⟩)
  dsimp only [Pt.U, Pt.locs, Pt.cells, Pt.slots] at X32 l32 y32 z32 st32 hQ32
  rw [l32] at X32
  clear l32; subst y32 z32
  obtain ⟨r32, rfl, N32q, K32q, SV32⟩ := hQ32
  have N32a := Fr.app N23a N32q
  have CH7 : CHr Z own_EL s.vm h0 T19.vm T32.heap := CH6.trans (CHr.keep K32q all0 CH6.1)
  have K7 : Keep h0 T32.heap [] := K6.trans K32q all0
  have hk_34 := Nat.le_trans hk19 (((Keep.refl h19 [b3]).trans K23q (allS (Or.inl (List.mem_of_getElem? (i := 0) rfl)) all0)).trans K32q all0).1
  obtain ⟨fs, hr, hrun, hended, hend⟩ := X32.leaveW hS19 hk_34 (v := some (.ref r32)) (fun h => by rw [Bd.returns] at h; cases h)
  refine ⟨_, _, pre0 _ ?_, hrun, hended, _, _, rfl, ?_, ?_, hend.1, hend.2.1, hend.2.2.1, hend.2.2.2.mono (by decide) (by decide)⟩
  · show Steps p.tables e below (s₁.setTop (mkF m 0 #[.val (.ref a1)] [])) _
    refine XS.aloadN X0.here hx rfl (hb hby k50_0) rfl rfl ?_
    show Steps p.tables e below (s₁.setTop (mkF m 1 #[.val (.ref a1)] [(.ref a1)])) _
    refine st1.trans ?_
    refine XS.bipush X1.here hx rfl (hb hby k50_4) ?_
    show Steps p.tables e below (T1.setTop (mkF m 6 #[.val (.ref a1)] [(.int (64 : Int32)), (.int (Int32.ofNat cs.length))])) _
    refine XS.icmpYes X1.here hx rfl (pc0 := 6) (pc' := 13) rfl (hb hby k50_6) rfl (tlt ((own_lt_of (i := 64) (n := cs.length) (by omega) (by omega)).mpr h64 : (64 : Int32) < (Int32.ofNat cs.length))).2.2.1 (by decide) (by decide) ?_
    show Steps p.tables e below (T1.setTop (mkF m 13 #[.val (.ref a1)] [])) _
    refine st3 _ ?_
    refine XS.dup X3.here hx rfl (hb hby k50_16) rfl rfl ?_
    show Steps p.tables e below (T3.setTop (mkF m 17 #[.val (.ref a1)] [(.ref b3), (.ref b3)])) _
    refine st4.trans ?_
    refine XS.aloadN X4.here hx rfl (hb hby k50_20) rfl rfl ?_
    refine XS.iconst X4.here hx rfl (hb hby k50_21) ?_
    refine XS.bipush X4.here hx rfl (hb hby k50_22) ?_
    show Steps p.tables e below (T4.setTop (mkF m 24 #[.val (.ref a1)] [(.int (64 : Int32)), (.int (0 : Int32)), (.ref a1), (.ref b3)])) _
    refine st7.trans ?_
    show Steps p.tables e below (T7.setTop (mkF m 27 #[.val (.ref a1)] [(.ref r7), (.ref b3)])) _
    refine st10.trans ?_
    show Steps p.tables e below (T10.setTop (mkF m 30 #[.val (.ref a1)] [(.ref b3)])) _
    refine st19 _ ?_
    show Steps p.tables e below (T19.setTop (mkF m 32 #[.val (.ref a1)] [(.ref lit19), (.ref b3)])) _
    refine st23.trans ?_
    show Steps p.tables e below (T23.setTop (mkF m 35 #[.val (.ref a1)] [(.ref b3)])) _
    refine st32.trans ?_
    show Steps p.tables e below (T32.setTop (mkF m 38 #[.val (.ref a1)] [(.ref r32)])) _
    jvm_step X32.here [X32.here.top, hx, (hb hby k50_38), X32.method', Bd.returns, Value.isRef, FieldType.isReference]
    first | (intro acts; rw [hr _ acts rfl rfl rfl]) | rw [hr _ _ rfl rfl rfl]
    exact Steps.refl _
  · show QSr Z (cs.take 64 ++ own_dots) h0 n0 _ T32.heap _
    exact ⟨r32, rfl, N32a, K7, SV32⟩
  · show CHr Z own_EL s.vm s.heap T32.vm T32.heap
    rw [hh]
    exact CH7.trans (CHv.at X32 hZ19 hEL CH7.1)
theorem rmAbW (l : Launch) (Z : State) (a0 : Array Value) (hw : HW a0 Z) (ws : List Jvm.Cond) (hEL : EW Z a0 own_EL) (a1 : Addr) (cs : List Int32) (h0 : Heap) (n0 : Nat) (Z0 : n0 ≤ h0.size) (hG : GST Z) (O0 : Old Z n0 h0) (S_a1 : StrU Z h0 a1 cs) (h64 : 64 < cs.length) (hm : cs.length ≤ 127) (hc : ∀ c ∈ cs, ¬ c < 0 ∧ ¬ (65535 : Int32) < c) (hlw : ∃ c ∈ cs.take 64, (255 : Int32) < c) :
    MetFree l m51_ (head1 (Jvm.Cond.code m51_ prog_12_method_2_code 1 (some (.object "java/lang/String")) :: ws) ({ frames := 10, cells := 13, slots := 1416, locals := 143 } : Room)) (fun a U => a = #[(.ref a1)] ∧ Z.Warmed39 U.vm ∧ U.heap = h0 ∧ CHv Z own_EL U.vm h0) (fun _ _ _ _ _ => True) (fun _ U o U' => ∃ vr_ Lr_, o = .returned vr_ ∧ QSr Z (cs.take 64 ++ own_dots) h0 n0 vr_ U'.heap Lr_ ∧ CHr Z own_EL U.vm U.heap U'.vm U'.heap ∧ ReturnedEndW U o U' Lr_ 13 1416) := by
  refine MetFree.of_bodySF (plainFor_of_name pn8_) hisR ?_
  intro p e s m args below meth c s₁ Bd hml0 hP hK
  obtain ⟨rfl, hZ, hh, hCH0⟩ := hP
  have hx := Bd.exec
  have hby := Bd.bytes
  have hml : c.maxLocals = 1 := hml0
  have hown : s.vm.findClass "com/example/atomicity/atomicity/Text" = some m.cls := findClass_of_methodNamed Bd.named
  have X0 : Stand p l e ({ frames := 10, cells := 13, slots := 1416, locals := 143 } : Room) (s.setVm s.vm) m #[(.ref a1)] below meth c s₁ [] 0 0 := Stand.of_body Bd
  have e0 : s₁.heap = h0 := by rw [← hh, Bd.state]; rfl
  have N0 := Fr.nil n0
  have CH0 : CHr Z own_EL s.vm h0 s.vm h0 := CHr.refl hCH0
  have hS0 : s.Since s.vm 0 := State.WarmedH.since (State.WarmedH.refl s) 0
  have pre0 : ∀ t, Steps p.tables e below (s₁.setTop (mkF m 0 #[.val (.ref a1)] [])) t → Steps p.tables e below (s₁.setTop (entryFrame m #[(.ref a1)] 1)) t := fun t k => castTop (ef50_ m a1) k
  obtain ⟨⟨G1, O2, P5⟩, ⟨G3, O4, rG3⟩, Sa, Sh, Sl⟩ := id hG
  have hds : (cs.take 64).length = 64 := by rw [List.length_take, Nat.min_eq_left (by omega)]
  obtain ⟨sb2, sk2, sd2, sN2, sv2, sE2, sV2, sC2, sA2, sc2, su2⟩ := id S_a1
  obtain ⟨cq1, kq1, q1a, q1b, q1c⟩ := isOf hZ e0 S_a1.exa
  obtain ⟨_, _, ⟨T1, L1, k1, n1⟩, -, X1, ⟨Lc1, hQ1, l1, y1, z1⟩, st1⟩ := X0.virtualBack hx (y := m28_) (z := m28_) hown (mvT hZ (wt hw 27 rfl)) (mvT hZ (wt hw 28 rfl)) (notFace_of_selects (args := #[]) (mvT hZ (wt hw 30 rfl))) (mvT hZ (wt hw 30 rfl)) (mvT hZ (wt hw 29 rfl)) (by decide) (StrChars.Road.lenW (W := 0) hZ (own_hlen hw) (kI := 4) (wt hw 3 rfl) sE2 sV2 sC2 sA2 sc2 su2 (O2.ext O0.2) P5 (by omega) (by decide) (by decide)) q1a q1c (g := (mkF m 1 #[.val (.ref a1)] [(.ref a1)])) rfl (by rw [hml]; rfl) (Steps.refl _) (argsL := []) (rest := []) (lenOf pd17_ rfl) rfl (by show 2 * 0 + _ ≤ _; exact Nat.le_of_eq rfl) (hb hby k50_1) (fun _ _ => ⟨rfl, e0, (by decide : 0 + 0 ≤ _), (by decide : 0 + 0 ≤ _)⟩)
  dsimp only [Pt.U, Pt.locs, Pt.cells, Pt.slots] at X1 l1 y1 z1 st1 hQ1
  rw [l1] at X1
  clear l1; subst y1 z1
  obtain ⟨rfl, rfl, e1q⟩ := hQ1
  have N1a := Fr.app N0 (Fr.nil n0)
  obtain ⟨T3, h3, X3, e3, E3, A3, D3, -, st3⟩ := newO X1 hx hZ hown (wt hw 73 rfl) (wt hw 74 rfl) (wt hw 75 rfl) e1q (g := (mkF m 13 #[.val (.ref a1)] [])) rfl (hb hby k50_13) (by decide) (by decide)
  obtain ⟨b3, g3⟩ : ∃ z, z = h0.size := ⟨_, rfl⟩
  rw [← g3] at A3 D3 st3
  have sz_b3 : h0.size ≤ b3 := Nat.le_trans (Keep.refl h0 []).1 (Nat.le_of_eq g3.symm)
  have g_b3 : n0 ≤ b3 := Nat.le_trans Z0 sz_b3
  have CH1 : CHr Z own_EL s.vm h0 s.vm h3 := CH0.trans (CHr.ext E3 CH0.1)
  have K1 : Keep h0 h3 [] := (Keep.refl h0 []).ext E3
  have F_value_b3 : Fld Z h3 b3 "java/lang/AbstractStringBuilder" "value" "[B" .null := D3 (Or.inl (wt hw 88 rfl)) (ty := (.array .byte)) (by decide)
  have F_coder_b3 : Fld Z h3 b3 "java/lang/AbstractStringBuilder" "coder" "B" (.int (0 : Int32)) := D3 (Or.inl (wt hw 90 rfl)) (ty := .byte) (by decide)
  have F_count_b3 : Fld Z h3 b3 "java/lang/AbstractStringBuilder" "count" "I" (.int (0 : Int32)) := D3 (Or.inl (wt hw 148 rfl)) (ty := .int) (by decide)
  have F_maybeLatin1_b3 : Fld Z h3 b3 "java/lang/AbstractStringBuilder" "maybeLatin1" "Z" (.int (0 : Int32)) := D3 (Or.inl (wt hw 265 rfl)) (ty := .boolean) (by decide)
  have f5 : Old Z n0 h3 := (O0.ext E3)
  obtain ⟨_, _, ⟨T4, L4, k4, n4⟩, -, X4, ⟨Lc4, hQ4, l4, y4, z4⟩, st4⟩ := X3.specialBack hx (y := m30_) rfl hown (mvT hZ (wt hw 76 rfl)) (mvT hZ (wt hw 77 rfl)) (mvT hZ (wt hw 78 rfl)) (by decide) (backOf (W := 1) (rmSi l Z a0 hw [] b3 h3 n0 (Nat.le_trans Z0 K1.1) hG f5 A3 F_value_b3 F_coder_b3 F_count_b3 F_maybeLatin1_b3 g_b3) hZ (wt hw 78 rfl) (wt hw 75 rfl) (by decide) (by decide)) (g := (mkF m 17 #[.val (.ref a1)] [(.ref b3), (.ref b3)])) rfl (by rw [hml]; rfl) (Steps.refl _) (a := b3) (argsL := []) (rest := [(.ref b3)]) (lenOf pd25_ rfl) rfl (by show 2 * 0 + _ ≤ _; exact Nat.le_of_eq rfl) (hb hby k50_17) (fun _ _ => ⟨rfl, e3, (by decide : 1 + 1 ≤ _), (by decide : 4 + 16 ≤ _)⟩)
  dsimp only [Pt.U, Pt.locs, Pt.cells, Pt.slots] at X4 l4 y4 z4 st4 hQ4
  rw [l4] at X4
  clear l4; subst y4 z4
  obtain ⟨t4, tk4, rfl, N4q, K4q, ts4, Sb4⟩ := hQ4
  have N4a := Fr.app N1a N4q
  have CH2 : CHr Z own_EL s.vm h0 s.vm T4.heap := CH1.trans (CHr.keep K4q (allS (Safe.exa (hZ : Z.Warmed39 s.vm).alike A3 (by decide) (by decide)) all0) CH1.1)
  have K2 : Keep h0 T4.heap [] := K1.trans K4q (allS (Or.inr sz_b3) all0)
  obtain ⟨bE6, bV6, bC6, bN6, bM6, bA6⟩ := id Sb4
  have f8 : Old Z n0 T4.heap := (f5.keep K4q (allS g_b3 all0))
  have f9 : StrU Z T4.heap a1 cs := (S_a1.keep (((Keep.refl h0 []).ext E3).trans K4q (allS (Or.inr (Nat.le_trans (Keep.refl h0 []).1 (Nat.le_of_eq g3.symm))) all0)) all0)
  obtain ⟨cq7, kq7, q7a, q7b, q7c⟩ := isOf hZ rfl f9.exa
  obtain ⟨_, _, ⟨T7, L7, k7, n7⟩, -, X7, ⟨Lc7, hQ7, l7, y7, z7⟩, st7⟩ := X4.virtualBack hx (y := m27_) (z := m27_) hown (mvT hZ (wt hw 91 rfl)) (mvT hZ (wt hw 92 rfl)) (notFace_of_selects (args := #[]) (mvT hZ (wt hw 94 rfl))) (mvT hZ (wt hw 94 rfl)) (mvT hZ (wt hw 93 rfl)) (by decide) (backOf (W := 1) (rmSub l Z a0 hw [] a1 cs T4.heap n0 (Nat.le_trans Z0 K2.1) hG f8 f9 h64 hm hc) hZ (wt hw 95 rfl) (wt hw 4 rfl) (by decide) (by decide)) q7a q7c (g := (mkF m 24 #[.val (.ref a1)] [(.int (64 : Int32)), (.int (0 : Int32)), (.ref a1), (.ref b3)])) rfl (by rw [hml]; rfl) (Steps.refl _) (argsL := [(.int (0 : Int32)), (.int (64 : Int32))]) (rest := [(.ref b3)]) (lenOf pd33_ rfl) rfl (by show 2 * 0 + _ ≤ _; exact Nat.le_of_eq rfl) (hb hby k50_24) (fun _ _ => ⟨rfl, rfl, (by decide : 2 + 3 ≤ _), (by decide : 20 + 202 ≤ _)⟩)
  dsimp only [Pt.U, Pt.locs, Pt.cells, Pt.slots] at X7 l7 y7 z7 st7 hQ7
  rw [l7] at X7
  clear l7; subst y7 z7
  obtain ⟨r7, rfl, N7q, K7q, SV7⟩ := hQ7
  have N7a := Fr.app N4a N7q
  have CH3 : CHr Z own_EL s.vm h0 s.vm T7.heap := CH2.trans (CHr.keep K7q all0 CH2.1)
  have K3 : Keep h0 T7.heap [] := K2.trans K7q all0
  have f11 : Old Z n0 T7.heap := (f8.keep K7q all0)
  have f12 : Exa Z T7.heap b3 "java/lang/StringBuilder" := (bE6.keep K7q)
  have f13 : Fld Z T7.heap b3 "java/lang/AbstractStringBuilder" "value" "[B" (.ref t4) := (bV6.keep K7q nin0)
  have f14 : Fld Z T7.heap b3 "java/lang/AbstractStringBuilder" "coder" "B" (.int (0 : Int32)) := (bC6.keep K7q nin0)
  have f15 : Fld Z T7.heap b3 "java/lang/AbstractStringBuilder" "count" "I" (.int (0 : Int32)) := (bN6.keep K7q nin0)
  have f16 : Fld Z T7.heap b3 "java/lang/AbstractStringBuilder" "maybeLatin1" "Z" (.int (0 : Int32)) := (bM6.keep K7q nin0)
  have f17 : Arv Z T7.heap t4 tk4 .byte (16 : Int32) [] (.int (0 : Int32)) := (bA6.keep K7q nin0)
  obtain ⟨cq10, kq10, q10a, q10b, q10c⟩ := isOf hZ rfl f12
  obtain ⟨_, _, ⟨T10, L10, k10, n10⟩, -, X10, ⟨Lc10, hQ10, l10, y10, z10⟩, st10⟩ := X7.virtualBack hx (y := m44_) (z := m44_) hown (mvT hZ (wt hw 136 rfl)) (mvT hZ (wt hw 137 rfl)) (notFace_of_selects (args := #[]) (mvT hZ (wt hw 139 rfl))) (mvT hZ (wt hw 139 rfl)) (mvT hZ (wt hw 138 rfl)) (by decide) (backOf (W := 0) (rmSa3 l Z a0 hw [] b3 r7 t4 tk4 (cs.take 64) T7.heap n0 (Nat.le_trans Z0 K3.1) hG f11 ⟨f12, f13, f14, f15, f16, f17⟩ g_b3 SV7 hlw hds) hZ (wt hw 140 rfl) (wt hw 75 rfl) (by decide) (by decide)) q10a q10c (g := (mkF m 27 #[.val (.ref a1)] [(.ref r7), (.ref b3)])) rfl (by rw [hml]; rfl) (Steps.refl _) (argsL := [(.ref r7)]) (rest := []) (lenOf pd34_ rfl) rfl (by show 2 * 0 + _ ≤ _; exact Nat.le_of_eq rfl) (hb hby k50_27) (fun _ _ => ⟨rfl, rfl, (by decide : 5 + 2 ≤ _), (by decide : 222 + 520 ≤ _)⟩)
  dsimp only [Pt.U, Pt.locs, Pt.cells, Pt.slots] at X10 l10 y10 z10 st10 hQ10
  rw [l10] at X10
  clear l10; subst y10 z10
  obtain ⟨t10, tk10, rfl, N10q, K10q, ts10, Sb10⟩ := hQ10
  have N10a := Fr.app N7a N10q
  have CH4 : CHr Z own_EL s.vm h0 s.vm T10.heap := CH3.trans (CHr.keep K10q (allS (Safe.exa (hZ : Z.Warmed39 s.vm).alike f12 (by decide) (by decide)) all0) CH3.1)
  have K4 : Keep h0 T10.heap [] := K3.trans K10q (allS (Or.inr sz_b3) all0)
  obtain ⟨bE18, bV18, bC18, bN18, bM18, bA18⟩ := id Sb10
  obtain ⟨lit19, T19, h19, kl19, lba19, kk19, X19, e19, E19, hS19, hk19, hZ19, hown19, Ea19, Fc19, Fv19, V19, la19, lb19, C19, Lt19, sf19, st19⟩ := ldcCH X10 hx hZ hown (wt hw 188 rfl) (own_wS hw) rfl hS0 (Nat.zero_le _) hEL (by decide : ("com/example/atomicity/atomicity/Text", 26) ∈ own_EL) CH4.1 (vs := [.int (46 : Int32), .int (46 : Int32), .int (46 : Int32)]) (z := (3 : Int32)) own_lit__46__46__46_ (by decide) (by decide) (g := (mkF m 30 #[.val (.ref a1)] [(.ref b3)])) rfl (hb hby k50_30) (n := 12) (by decide) (by decide) (by decide) (by decide)
  have CH5 : CHr Z own_EL s.vm h0 T19.vm h19 := CH4.trans C19
  have K5 : Keep h0 h19 [] := K4.ext E19
  have f20 : Arv Z T10.heap t4 tk4 .byte (16 : Int32) [] (.int (0 : Int32)) := (f17.keep K10q (ninS (Ne.symm (Nat.ne_of_lt (Nat.lt_of_lt_of_le A3.lt ts4))) nin0))
  have f21 : Safe Z own_EL T19.vm h19 t4 := (C19.safe f20.lt (Safe.keep K10q (allS (Safe.exa (hZ : Z.Warmed39 s.vm).alike f12 (by decide) (by decide)) all0) CH3.1 (Safe.keep K7q all0 CH2.1 (Safe.keep K4q (allS (Safe.exa (hZ : Z.Warmed39 s.vm).alike A3 (by decide) (by decide)) all0) CH1.1 (Safe.new ts4)))))
  have ne19_t4 := sf19 t4 f21
  have f22 : Safe Z own_EL T19.vm h19 t10 := (C19.safe bA18.lt (Safe.keep K10q (allS (Safe.exa (hZ : Z.Warmed39 s.vm).alike f12 (by decide) (by decide)) all0) CH3.1 (Safe.new ts10)))
  have ne19_t10 := sf19 t10 f22
  have SL19 : StrU Z h19 lit19 own_dots := ⟨lba19, kk19, _, _, _, Ea19, Fv19, Fc19, V19, StrChars.Road.codOf (cs := own_dots) (n := 3) rfl own_dots_lat, own_dots_rng⟩
  have f24 : Old Z n0 h19 := ((f11.keep K10q (allS g_b3 all0)).ext E19)
  have f25 : Exa Z h19 b3 "java/lang/StringBuilder" := (bE18.ext E19)
  have f26 : Fld Z h19 b3 "java/lang/AbstractStringBuilder" "value" "[B" (.ref t10) := (bV18.ext E19)
  have f27 : Fld Z h19 b3 "java/lang/AbstractStringBuilder" "coder" "B" (.int (1 : Int32)) := (bC18.ext E19)
  have f28 : Fld Z h19 b3 "java/lang/AbstractStringBuilder" "count" "I" (.int (64 : Int32)) := (bN18.ext E19)
  have f29 : Fld Z h19 b3 "java/lang/AbstractStringBuilder" "maybeLatin1" "Z" (.int (0 : Int32)) := (bM18.ext E19)
  have f30 : Arv Z h19 t10 tk10 .byte (Int32.ofNat (2 * 64)) (wideBytes (cs.take 64)) (.int (0 : Int32)) := (bA18.ext E19)
  obtain ⟨cq23, kq23, q23a, q23b, q23c⟩ := isOf hZ19 e19 f25
  obtain ⟨_, _, ⟨T23, L23, k23, n23⟩, -, X23, ⟨Lc23, hQ23, l23, y23, z23⟩, st23⟩ := X19.virtualBack hx (y := m44_) (z := m44_) hown19 (mvT hZ19 (wt hw 136 rfl)) (mvT hZ19 (wt hw 137 rfl)) (notFace_of_selects (args := #[]) (mvT hZ19 (wt hw 139 rfl))) (mvT hZ19 (wt hw 139 rfl)) (mvT hZ19 (wt hw 138 rfl)) (by decide) (backOf (W := 0) (rmSa4 l Z a0 hw [] b3 lit19 t10 tk10 (cs.take 64) h19 n0 (Nat.le_trans Z0 K5.1) hG f24 ⟨f25, f26, f27, f28, f29, f30⟩ g_b3 SL19 hds) hZ19 (wt hw 140 rfl) (wt hw 75 rfl) (by decide) (by decide)) q23a q23c (g := (mkF m 32 #[.val (.ref a1)] [(.ref lit19), (.ref b3)])) rfl (by rw [hml]; rfl) (Steps.refl _) (argsL := [(.ref lit19)]) (rest := []) (lenOf pd34_ rfl) rfl (by show 2 * 0 + _ ≤ _; exact Nat.le_of_eq rfl) (hb hby k50_32) (fun _ _ => ⟨rfl, e19, (by decide : 9 + 2 ≤ _), (by decide : 758 + 520 ≤ _)⟩)
  dsimp only [Pt.U, Pt.locs, Pt.cells, Pt.slots] at X23 l23 y23 z23 st23 hQ23
  rw [l23] at X23
  clear l23; subst y23 z23
  obtain ⟨t23, tk23, rfl, N23q, K23q, ts23, Sb23⟩ := hQ23
  have N23a := Fr.app N10a N23q
  have CH6 : CHr Z own_EL s.vm h0 T19.vm T23.heap := CH5.trans (CHr.keep K23q (allS (Safe.exa (hZ19 : Z.Warmed39 T19.vm).alike f25 (by decide) (by decide)) all0) CH5.1)
  have K6 : Keep h0 T23.heap [] := K5.trans K23q (allS (Or.inr sz_b3) all0)
  obtain ⟨bE31, bV31, bC31, bN31, bM31, bA31⟩ := id Sb23
  have f33 : Old Z n0 T23.heap := (f24.keep K23q (allS g_b3 all0))
  obtain ⟨cq32, kq32, q32a, q32b, q32c⟩ := isOf hZ19 rfl bE31
  obtain ⟨_, _, ⟨T32, L32, k32, n32⟩, -, X32, ⟨Lc32, hQ32, l32, y32, z32⟩, st32⟩ := X23.virtualBack hx (y := m50_) (z := m50_) hown19 (mvT hZ19 (wt hw 189 rfl)) (mvT hZ19 (wt hw 190 rfl)) (notFace_of_selects (args := #[]) (mvT hZ19 (wt hw 192 rfl))) (mvT hZ19 (wt hw 192 rfl)) (mvT hZ19 (wt hw 191 rfl)) (by decide) (backOf (W := 0) (rmTs1 l Z a0 hw [] b3 t23 tk23 (cs.take 64 ++ own_dots) T23.heap n0 (Nat.le_trans Z0 K6.1) hG f33 (by have q : SBF Z T23.heap b3 _ _ _ _ _ _ := ⟨bE31, bV31, bC31, bN31, bM31, bA31⟩; exact q) (by rw [List.length_append, hds]; rfl) (hlw.imp fun c q => ⟨List.mem_append_left _ q.1, q.2⟩) (own_td hc)) hZ19 (wt hw 193 rfl) (wt hw 75 rfl) (by decide) (by decide)) q32a q32c (g := (mkF m 35 #[.val (.ref a1)] [(.ref b3)])) rfl (by rw [hml]; rfl) (Steps.refl _) (argsL := []) (rest := []) (lenOf pd35_ rfl) rfl (by show 2 * 0 + _ ≤ _; exact Nat.le_of_eq rfl) (hb hby k50_35) (fun _ _ => ⟨rfl, rfl, (by decide : 11 + 2 ≤ _), (by decide : 1278 + 138 ≤ _)⟩)
  dsimp only [Pt.U, Pt.locs, Pt.cells, Pt.slots] at X32 l32 y32 z32 st32 hQ32
  rw [l32] at X32
  clear l32; subst y32 z32
  obtain ⟨r32, rfl, N32q, K32q, SV32⟩ := hQ32
  have N32a := Fr.app N23a N32q
  have CH7 : CHr Z own_EL s.vm h0 T19.vm T32.heap := CH6.trans (CHr.keep K32q all0 CH6.1)
  have K7 : Keep h0 T32.heap [] := K6.trans K32q all0
  have hk_34 := Nat.le_trans hk19 (((Keep.refl h19 [b3]).trans K23q (allS (Or.inl (List.mem_of_getElem? (i := 0) rfl)) all0)).trans K32q all0).1
  obtain ⟨fs, hr, hrun, hended, hend⟩ := X32.leaveW hS19 hk_34 (v := some (.ref r32)) (fun h => by rw [Bd.returns] at h; cases h)
  refine ⟨_, _, pre0 _ ?_, hrun, hended, _, _, rfl, ?_, ?_, hend.1, hend.2.1, hend.2.2.1, hend.2.2.2.mono (by decide) (by decide)⟩
  · show Steps p.tables e below (s₁.setTop (mkF m 0 #[.val (.ref a1)] [])) _
    refine XS.aloadN X0.here hx rfl (hb hby k50_0) rfl rfl ?_
    show Steps p.tables e below (s₁.setTop (mkF m 1 #[.val (.ref a1)] [(.ref a1)])) _
    refine st1.trans ?_
    refine XS.bipush X1.here hx rfl (hb hby k50_4) ?_
    show Steps p.tables e below (T1.setTop (mkF m 6 #[.val (.ref a1)] [(.int (64 : Int32)), (.int (Int32.ofNat cs.length))])) _
    refine XS.icmpYes X1.here hx rfl (pc0 := 6) (pc' := 13) rfl (hb hby k50_6) rfl (tlt ((own_lt_of (i := 64) (n := cs.length) (by omega) (by omega)).mpr h64 : (64 : Int32) < (Int32.ofNat cs.length))).2.2.1 (by decide) (by decide) ?_
    show Steps p.tables e below (T1.setTop (mkF m 13 #[.val (.ref a1)] [])) _
    refine st3 _ ?_
    refine XS.dup X3.here hx rfl (hb hby k50_16) rfl rfl ?_
    show Steps p.tables e below (T3.setTop (mkF m 17 #[.val (.ref a1)] [(.ref b3), (.ref b3)])) _
    refine st4.trans ?_
    refine XS.aloadN X4.here hx rfl (hb hby k50_20) rfl rfl ?_
    refine XS.iconst X4.here hx rfl (hb hby k50_21) ?_
    refine XS.bipush X4.here hx rfl (hb hby k50_22) ?_
    show Steps p.tables e below (T4.setTop (mkF m 24 #[.val (.ref a1)] [(.int (64 : Int32)), (.int (0 : Int32)), (.ref a1), (.ref b3)])) _
    refine st7.trans ?_
    show Steps p.tables e below (T7.setTop (mkF m 27 #[.val (.ref a1)] [(.ref r7), (.ref b3)])) _
    refine st10.trans ?_
    show Steps p.tables e below (T10.setTop (mkF m 30 #[.val (.ref a1)] [(.ref b3)])) _
    refine st19 _ ?_
    show Steps p.tables e below (T19.setTop (mkF m 32 #[.val (.ref a1)] [(.ref lit19), (.ref b3)])) _
    refine st23.trans ?_
    show Steps p.tables e below (T23.setTop (mkF m 35 #[.val (.ref a1)] [(.ref b3)])) _
    refine st32.trans ?_
    show Steps p.tables e below (T32.setTop (mkF m 38 #[.val (.ref a1)] [(.ref r32)])) _
    jvm_step X32.here [X32.here.top, hx, (hb hby k50_38), X32.method', Bd.returns, Value.isRef, FieldType.isReference]
    first | (intro acts; rw [hr _ acts rfl rfl rfl]) | rw [hr _ _ rfl rfl rfl]
    exact Steps.refl _
  · show QSr Z (cs.take 64 ++ own_dots) h0 n0 _ T32.heap _
    exact ⟨r32, rfl, N32a, K7, SV32⟩
  · show CHr Z own_EL s.vm s.heap T32.vm T32.heap
    rw [hh]
    exact CH7.trans (CHv.at X32 hZ19 hEL CH7.1)
theorem rmAb (l : Launch) (Z : State) (a0 : Array Value) (hw : HW a0 Z) (ws : List Jvm.Cond) (hEL : EW Z a0 own_EL) (a1 : Addr) (cs : List Int32) (h0 : Heap) (n0 : Nat) (Z0 : n0 ≤ h0.size) (hG : GST Z) (O0 : Old Z n0 h0) (S : StrU Z h0 a1 cs) (h64 : 64 < cs.length) (hm : cs.length ≤ 127) (hc : ∀ c ∈ cs, ¬ c < 0 ∧ ¬ (65535 : Int32) < c) :
    MetFree l m51_ (head1 (Jvm.Cond.code m51_ prog_12_method_2_code 1 (some (.object "java/lang/String")) :: ws) ({ frames := 10, cells := 13, slots := 1416, locals := 143 } : Room)) (fun a U => a = #[(.ref a1)] ∧ Z.Warmed39 U.vm ∧ U.heap = h0 ∧ CHv Z own_EL U.vm h0) (fun _ _ _ _ _ => True) (fun _ U o U' => ∃ vr_ Lr_, o = .returned vr_ ∧ QSr Z (cs.take 64 ++ own_dots) h0 n0 vr_ U'.heap Lr_ ∧ CHr Z own_EL U.vm U.heap U'.vm U'.heap ∧ ReturnedEndW U o U' Lr_ 13 1416) := by
  rcases own_latw (cs.take 64) with q | q
  · exact rmAbL l Z a0 hw ws hEL a1 cs h0 n0 Z0 hG O0 S h64 hm hc q
  · exact rmAbW l Z a0 hw ws hEL a1 cs h0 n0 Z0 hG O0 S h64 hm hc q
def own_ch (x : Int32) : Int32 := ((x &&& (65535 : Int32)).toUInt32.toUInt16.toUInt32.toInt32)
theorem own_rng (x : Int32) : ¬ nar .char x < 0 ∧ ¬ (65535 : Int32) < nar .char x := by
  have e0 : (0 : Int32).toInt = 0 := rfl
  have e1 : (65535 : Int32).toInt = 65535 := rfl
  have hb : (nar .char x).toBitVec.toNat < 65536 := by
    show ((x.toBitVec.setWidth 16).setWidth 32).toNat < 65536
    rw [BitVec.toNat_setWidth, BitVec.toNat_setWidth]
    have e16 : (2 : Nat) ^ 16 = 65536 := rfl
    have e32 : (2 : Nat) ^ 32 = 4294967296 := rfl
    omega
  have e : (nar .char x).toInt = (nar .char x).toBitVec.toNat := BitVec.toInt_eq_toNat_of_lt (by omega)
  rw [Int32.lt_iff_toInt_lt, Int32.lt_iff_toInt_lt, e, e0, e1]
  omega
theorem own_and127 (x : Int32) : ∃ n : Nat, n ≤ 127 ∧ (x &&& (127 : Int32)) = Int32.ofNat n := by
  refine ⟨(x &&& (127 : Int32)).toBitVec.toNat, ?_, ?_⟩
  · rw [Int32.toBitVec_and, BitVec.toNat_and]; exact Nat.and_le_right
  · apply Int32.toBitVec_inj.mp
    show _ = BitVec.ofNat 32 _
    rw [BitVec.ofNat_toNat]; simp
theorem own_andM (x : Int32) : ¬ ((x &&& (2147483647 : Int32)) < 0) := by
  rw [Int32.lt_iff_toInt_lt]
  have e0 : (0 : Int32).toInt = 0 := rfl
  rw [e0]
  have hm : (x &&& (2147483647 : Int32)).toBitVec.msb = false := by
    rw [Int32.toBitVec_and, BitVec.msb_and]
    have : (2147483647 : Int32).toBitVec.msb = false := by decide
    rw [this, Bool.and_false]
  have := BitVec.toInt_eq_toNat_of_msb hm
  show ¬ ((x &&& (2147483647 : Int32)).toBitVec.toInt < 0)
  omega
theorem own_rem (x : Int32) {n : Nat} (h0 : 0 < n) (hn : n ≤ 127) : ∃ i : Nat, i < n ∧ ((x &&& (2147483647 : Int32)) - ((x &&& (2147483647 : Int32)) / Int32.ofNat n) * Int32.ofNat n) = Int32.ofNat i := by
  have h := own_andM x
  generalize (x &&& (2147483647 : Int32)) = y at h
  rw [Int32.lt_iff_toInt_lt] at h
  have e0 : (0 : Int32).toInt = 0 := rfl
  rw [e0] at h
  have hy := Int32.toInt_lt y
  refine ⟨(y.toInt % n).toNat, ?_, ?_⟩
  · have := Int.emod_lt_of_pos y.toInt (show (0 : Int) < n by omega)
    have := Int.emod_nonneg y.toInt (show (n : Int) ≠ 0 by omega)
    omega
  · apply Int32.toInt_inj.mp
    have hm1 := Int.emod_lt_of_pos y.toInt (show (0 : Int) < n by omega)
    have hm2 := Int.emod_nonneg y.toInt (show (n : Int) ≠ 0 by omega)
    rw [own_toNat (by omega), Int32.toInt_sub, Int32.toInt_mul, Int32.toInt_div, own_toNat (by omega)]
    have t : y.toInt.tdiv n = y.toInt / n := Int.tdiv_eq_ediv_of_nonneg (by omega)
    rw [t]
    have d1 : 0 ≤ y.toInt / n := Int.ediv_nonneg (by omega) (by omega)
    have d2 : y.toInt / n ≤ y.toInt := Int.ediv_le_self _ (by omega)
    have q1 : (y.toInt / n).bmod (2 ^ 32) = y.toInt / n := Int.bmod_eq_of_le_mul_two (by omega) (by omega)
    rw [q1]
    have hd := Int.mul_ediv_add_emod y.toInt n
    have hc : (n : Int) * (y.toInt / n) = y.toInt / n * n := Int.mul_comm _ _
    rw [hc] at hd
    generalize y.toInt / n * n = w at hd ⊢
    have q2 : w.bmod (2 ^ 32) = w := Int.bmod_eq_of_le_mul_two (by omega) (by omega)
    rw [q2, Int.bmod_eq_of_le_mul_two (by omega) (by omega)]
    omega
theorem own_nz {n : Nat} (h0 : 0 < n) (hn : n ≤ 127) : Int32.ofNat n ≠ 0 := fun q => by
  have := (own_eq_of (i := n) (n := 0) (by omega) (by omega)).mp q; omega
def own_put (xs : List Int32) (i : Nat) (v : Int32) : List Int32 := if i < 64 then xs.set i v else xs
theorem own_put_len (xs : List Int32) (i : Nat) (v : Int32) : (own_put xs i v).length = xs.length := by unfold own_put; split <;> simp
theorem own_put_at {xs : List Int32} {i j : Nat} {v : Int32} (h : j < 64) : (own_put xs i v)[j]? = (xs.set i v)[j]? := by
  unfold own_put
  by_cases c : i < 64
  · rw [if_pos c]
  · rw [if_neg c, List.getElem?_set_ne (by omega)]
theorem own_cut3 {xs : List Int32} (h : xs.length = 67) : ((xs.set 64 (nar .char (46 : Int32))).set 65 (nar .char (46 : Int32))).set 66 (nar .char (46 : Int32)) = xs.take 64 ++ own_dots := by
  have e : nar .char (46 : Int32) = 46 := by decide
  rw [e]
  apply List.ext_getElem?
  intro j
  by_cases c : j < 64
  · rw [List.getElem?_set_ne (by omega), List.getElem?_set_ne (by omega), List.getElem?_set_ne (by omega), List.getElem?_append_left (by rw [List.length_take]; omega), List.getElem?_take_of_lt c]
  · have l64 : (xs.take 64).length = 64 := by rw [List.length_take]; omega
    rw [List.getElem?_append_right (by omega), l64]
    by_cases c1 : j = 64
    · subst c1; simp [own_dots, h]
    · by_cases c2 : j = 65
      · subst c2; simp [own_dots, h]
      · by_cases c3 : j = 66
        · subst c3; simp [own_dots, h]
        · rw [List.getElem?_eq_none (by simp; omega), List.getElem?_eq_none (by simp [own_dots]; omega)]
theorem own_cutlaw {n i1 i2 : Nat} {k1 k2 : Int32} (hn : 64 < n) : (((own_put (own_put (List.replicate 67 (0 : Int32)) i1 k1) i2 k2).set 64 (nar .char (46 : Int32))).set 65 (nar .char (46 : Int32))).set 66 (nar .char (46 : Int32)) = (((List.replicate n (0 : Int32)).set i1 k1).set i2 k2).take 64 ++ own_dots := by
  rw [own_cut3 (by rw [own_put_len, own_put_len]; simp)]
  congr 1
  apply List.ext_getElem?
  intro j
  by_cases c : j < 64
  · rw [List.getElem?_take_of_lt c, List.getElem?_take_of_lt c, own_put_at c]
    by_cases d : i2 = j
    · subst d
      rw [List.getElem?_set_self (by rw [own_put_len]; simp; omega), List.getElem?_set_self (by simp; omega)]
    · rw [List.getElem?_set_ne d, List.getElem?_set_ne d, own_put_at c]
      by_cases d1 : i1 = j
      · subst d1
        rw [List.getElem?_set_self (by simp; omega), List.getElem?_set_self (by simp; omega)]
      · rw [List.getElem?_set_ne d1, List.getElem?_set_ne d1, List.getElem?_replicate_of_lt (by omega), List.getElem?_replicate_of_lt (by omega)]
  · rw [List.getElem?_eq_none (by rw [List.length_take]; omega), List.getElem?_eq_none (by rw [List.length_take]; omega)]
theorem own_in_rng {n i1 i2 : Nat} {k1 k2 : Int32} (h1 : ¬ k1 < 0 ∧ ¬ (65535 : Int32) < k1) (h2 : ¬ k2 < 0 ∧ ¬ (65535 : Int32) < k2) : ∀ c ∈ ((List.replicate n (0 : Int32)).set i1 k1).set i2 k2, ¬ c < 0 ∧ ¬ (65535 : Int32) < c := by
  intro c hc
  rcases List.mem_or_eq_of_mem_set hc with q | rfl
  · rcases List.mem_or_eq_of_mem_set q with q | rfl
    · rw [List.eq_of_mem_replicate q]; decide
    · exact h1
  · exact h2
theorem StrV.toU {Z : State} {h : Heap} {a : Addr} {cs : List Int32} (S : StrV Z h a cs) : StrU Z h a cs := by
  obtain ⟨b, kb, N, vs, e, f, c, v, q⟩ := S
  exact ⟨b, kb, 0, N, vs, e, f, c, v, q⟩
def Q0 (n0 : Nat) (v : Option Value) (h : Heap) (L : List Loc) : Prop := v = some (.int (1 : Int32)) ∧ Fr n0 L
theorem own_monoE {l : Launch} {R : Room} {p : Program} {e : Env} {below : List Frame} {s : State} {args : Array Value} {y : MethodName} {len W : Nat} {P : Pt → Array Value → Prop} {h : Heap} {cs ds : List Int32} (B : Back l R p e below s args y len W P (fun A _ v B => ∃ L, (((v = some (.int 1) ∧ cs = ds) ∨ (v = some (.int 0) ∧ ¬ cs = ds)) ∧ L = [] ∧ B.U.heap = h) ∧ B.locs = A.locs ++ L ∧ B.cells = A.cells + 0 ∧ B.slots = A.slots + 0)) (q : cs = ds) :
    Back l R p e below s args y len W P (fun A _ v B => ∃ L, (v = some (.int (1 : Int32)) ∧ L = [] ∧ B.U.heap = h) ∧ B.locs = A.locs ++ L ∧ B.cells = A.cells + 0 ∧ B.slots = A.slots + 0) :=
  Back.mono B (fun _ _ hp => hp) (fun _ _ _ _ _ ⟨L, ⟨hv, h2, h3⟩, h4⟩ => ⟨L, ⟨hv.elim (fun z => z.1) (fun z => absurd q z.2), h2, h3⟩, h4⟩)
theorem pd36_ : parseMethodDescriptor "([C)V" = some ⟨[(.array .char)], none⟩ := by decide +kernel
theorem pd37_ : parseMethodDescriptor "(Ljava/lang/String;)Ljava/lang/String;" = some ⟨[(.object "java/lang/String")], some (.object "java/lang/String")⟩ := by decide +kernel
theorem pd38_ : parseMethodDescriptor "(Ljava/lang/Object;)Z" = some ⟨[(.object "java/lang/Object")], some .boolean⟩ := by decide +kernel
theorem pn9_ : plainName "com/example/atomicity/atomicity/TextAbbreviatePinLaw" = true := by first | (simp [plainName, overriddenIn]; done) | decide +kernel
theorem ef51_ (m : MethodId) (x0 : Int32) (x1 : Int32) (x2 : Int32) (x3 : Int32) (x4 : Int32) : entryFrame m #[(.int x0), (.int x1), (.int x2), (.int x3), (.int x4)] maxLocals = mkF m 0 #[.val (.int x0), .val (.int x1), .val (.int x2), .val (.int x3), .val (.int x4), .unset, .unset, .unset, .unset, .unset, .unset, .unset] [] := by first | (simp [entryFrame, mkF, argsToLocals, Value.category, maxLocals]; done) | rfl
theorem rm0 (l : Launch) (Z : State) (a0 : Array Value) (hw : HW a0 Z) (ws : List Jvm.Cond) (hEL : EW Z a0 own_EL) (p1 p2 p3 p4 p5 : Int32) (h0 : Heap) (n0 : Nat) (Z0 : n0 ≤ h0.size) (hG : GST Z) (O0 : Old Z n0 h0) :
    MetFree l x (head1 (Jvm.Cond.code x code maxLocals ret :: ws) room_1) (fun a U => a = #[(.int p1), (.int p2), (.int p3), (.int p4), (.int p5)] ∧ Z.Warmed39 U.vm ∧ U.heap = h0 ∧ CHv Z own_EL U.vm h0) (fun _ _ _ _ _ => True) (fun _ U o U' => ∃ vr_ Lr_, o = .returned vr_ ∧ Q0 n0 vr_ U'.heap Lr_ ∧ CHr Z own_EL U.vm U.heap U'.vm U'.heap ∧ ReturnedEndW U o U' Lr_ room_1.cells room_1.slots) := by
  refine MetFree.of_bodySF (plainFor_of_name pn9_) hisR ?_
  intro p e s m args below meth c s₁ Bd hml0 hP hK
  obtain ⟨rfl, hZ, hh, hCH0⟩ := hP
  have hx := Bd.exec
  have hby := Bd.bytes
  have hml : c.maxLocals = 12 := hml0
  have hown : s.vm.findClass "com/example/atomicity/atomicity/TextAbbreviatePinLaw" = some m.cls := findClass_of_methodNamed Bd.named
  have X0 : Stand p l e room_1 (s.setVm s.vm) m #[(.int p1), (.int p2), (.int p3), (.int p4), (.int p5)] below meth c s₁ [] 0 0 := Stand.of_body Bd
  have e0 : s₁.heap = h0 := by rw [← hh, Bd.state]; rfl
  have N0 := Fr.nil n0
  have CH0 : CHr Z own_EL s.vm h0 s.vm h0 := CHr.refl hCH0
  have hS0 : s.Since s.vm 0 := State.WarmedH.since (State.WarmedH.refl s) 0
  have pre0 : ∀ t, Steps p.tables e below (s₁.setTop (mkF m 0 #[.val (.int p1), .val (.int p2), .val (.int p3), .val (.int p4), .val (.int p5), .unset, .unset, .unset, .unset, .unset, .unset, .unset] [])) t → Steps p.tables e below (s₁.setTop (entryFrame m #[(.int p1), (.int p2), (.int p3), (.int p4), (.int p5)] maxLocals)) t := fun t k => castTop (ef51_ m p1 p2 p3 p4 p5) k
  obtain ⟨⟨G1, O2, P5⟩, ⟨G3, O4, rG3⟩, Sa, Sh, Sl⟩ := id hG
  obtain ⟨nn, hnn, en⟩ := own_and127 p1
  obtain ⟨T1, h1, ka1, X1, e1, E1, A1, st1⟩ := newP X0 hx hZ (wt hw 0 rfl) e0 (g := (mkF m 8 #[.val (.int p1), .val (.int p2), .val (.int p3), .val (.int p4), .val (.int p5), .val (.int (Int32.ofNat nn)), .unset, .unset, .unset, .unset, .unset, .unset] [(.int (Int32.ofNat nn))])) rfl (hb hby at_8) rfl (own_nonneg (by omega)) (cap := 127) (by rw [own_clamp (by omega)]; omega) (by decide) (by decide) (by decide)
  obtain ⟨b1, g1⟩ : ∃ z, z = h0.size := ⟨_, rfl⟩
  rw [← g1] at A1 st1
  have sz_b1 : h0.size ≤ b1 := Nat.le_trans (Keep.refl h0 []).1 (Nat.le_of_eq g1.symm)
  have g_b1 : n0 ≤ b1 := Nat.le_trans Z0 sz_b1
  have CH1 : CHr Z own_EL s.vm h0 s.vm h1 := CH0.trans (CHr.ext E1 CH0.1)
  have K1 : Keep h0 h1 [] := (Keep.refl h0 []).ext E1
  have V_b1 : Arv Z h1 b1 ka1 .char (Int32.ofNat nn) [] (.int (0 : Int32)) := Arv.new A1 (own_nonneg (by omega))
  obtain ⟨T2, h2, ka2, X2, e2, E2, A2, st2⟩ := newP X1 hx hZ (wt hw 0 rfl) e1 (g := (mkF m 14 #[.val (.int p1), .val (.int p2), .val (.int p3), .val (.int p4), .val (.int p5), .val (.int (Int32.ofNat nn)), .val (.ref b1), .unset, .unset, .unset, .unset, .unset] [(.int (67 : Int32))])) rfl (hb hby at_14) rfl (by decide) (cap := 67) (by decide) (by decide) (by decide) (by decide)
  obtain ⟨b2, g2⟩ : ∃ z, z = h1.size := ⟨_, rfl⟩
  rw [← g2] at A2 st2
  have sz_b2 : h0.size ≤ b2 := Nat.le_trans K1.1 (Nat.le_of_eq g2.symm)
  have g_b2 : n0 ≤ b2 := Nat.le_trans Z0 sz_b2
  have CH2 : CHr Z own_EL s.vm h0 s.vm h2 := CH1.trans (CHr.ext E2 CH1.1)
  have K2 : Keep h0 h2 [] := K1.ext E2
  have V_b2 : Arv Z h2 b2 ka2 .char (67 : Int32) [] (.int (0 : Int32)) := Arv.new A2 (by decide)
  have f4 : Arv Z h2 b1 ka1 .char (Int32.ofNat nn) [] (.int (0 : Int32)) := (V_b1.ext E2)
  have Vr3 : Arv Z h2 b1 ka1 .char (Int32.ofNat nn) ((List.replicate nn (0 : Int32)).map Value.int) (.int (0 : Int32)) := by
    have q := f4.pad (pad_rep [] (.int (0 : Int32)) nn)
    rw [List.map_replicate]; exact q
  have Vr5 : Arv Z h2 b2 ka2 .char (67 : Int32) ((List.replicate 67 (0 : Int32)).map Value.int) (.int (0 : Int32)) := by
    have q := V_b2.pad (pad_rep [] (.int (0 : Int32)) 67)
    rw [List.map_replicate]; exact q
  have cut6 : ∀ t, Steps p.tables e below (T2.setTop (mkF m 35 #[.val (.int p1), .val (.int p2), .val (.int p3), .val (.int p4), .val (.int p5), .val (.int (Int32.ofNat nn)), .val (.ref b1), .val (.ref b2), .val (.int (own_ch p3)), .val (.int (own_ch p5)), .unset, .unset] [(.int (Int32.ofNat nn))])) t → Steps p.tables e below (s₁.setTop (mkF m 0 #[.val (.int p1), .val (.int p2), .val (.int p3), .val (.int p4), .val (.int p5), .unset, .unset, .unset, .unset, .unset, .unset, .unset] [])) t := fun t kk => by
    show Steps p.tables e below (s₁.setTop (mkF m 0 #[.val (.int p1), .val (.int p2), .val (.int p3), .val (.int p4), .val (.int p5), .unset, .unset, .unset, .unset, .unset, .unset, .unset] [])) _
    refine XS.iloadN X0.here hx rfl (hb hby at_0) rfl ?_
    refine XS.bipush X0.here hx rfl (hb hby at_1) ?_
    refine XS.iand X0.here hx rfl (hb hby at_3) rfl ?_
    show Steps p.tables e below (s₁.setTop (mkF m 4 #[.val (.int p1), .val (.int p2), .val (.int p3), .val (.int p4), .val (.int p5), .unset, .unset, .unset, .unset, .unset, .unset, .unset] [(.int (p1 &&& (127 : Int32)))])) _
    rw [en]
    refine XS.istore X0.here hx rfl (hb hby at_4) rfl (l' := #[.val (.int p1), .val (.int p2), .val (.int p3), .val (.int p4), .val (.int p5), .val (.int (Int32.ofNat nn)), .unset, .unset, .unset, .unset, .unset, .unset]) rfl ?_
    refine XS.iload X0.here hx rfl (hb hby at_6) rfl ?_
    show Steps p.tables e below (s₁.setTop (mkF m 8 #[.val (.int p1), .val (.int p2), .val (.int p3), .val (.int p4), .val (.int p5), .val (.int (Int32.ofNat nn)), .unset, .unset, .unset, .unset, .unset, .unset] [(.int (Int32.ofNat nn))])) _
    refine st1 _ ?_
    refine XS.astore X1.here hx rfl (hb hby at_10) rfl rfl (l' := #[.val (.int p1), .val (.int p2), .val (.int p3), .val (.int p4), .val (.int p5), .val (.int (Int32.ofNat nn)), .val (.ref b1), .unset, .unset, .unset, .unset, .unset]) rfl ?_
    refine XS.bipush X1.here hx rfl (hb hby at_12) ?_
    show Steps p.tables e below (T1.setTop (mkF m 14 #[.val (.int p1), .val (.int p2), .val (.int p3), .val (.int p4), .val (.int p5), .val (.int (Int32.ofNat nn)), .val (.ref b1), .unset, .unset, .unset, .unset, .unset] [(.int (67 : Int32))])) _
    refine st2 _ ?_
    refine XS.astore X2.here hx rfl (hb hby at_16) rfl rfl (l' := #[.val (.int p1), .val (.int p2), .val (.int p3), .val (.int p4), .val (.int p5), .val (.int (Int32.ofNat nn)), .val (.ref b1), .val (.ref b2), .unset, .unset, .unset, .unset]) rfl ?_
    refine XS.iloadN X2.here hx rfl (hb hby at_18) rfl ?_
    show Steps p.tables e below (T2.setTop (mkF m 19 #[.val (.int p1), .val (.int p2), .val (.int p3), .val (.int p4), .val (.int p5), .val (.int (Int32.ofNat nn)), .val (.ref b1), .val (.ref b2), .unset, .unset, .unset, .unset] [(.int p3)])) _
    refine X2.ldcInt hx hown (mvT hZ (wt hw 1 rfl)) (g := (mkF m 19 #[.val (.int p1), .val (.int p2), .val (.int p3), .val (.int p4), .val (.int p5), .val (.int (Int32.ofNat nn)), .val (.ref b1), .val (.ref b2), .unset, .unset, .unset, .unset] [(.int p3)])) rfl (hb hby at_19) _ ?_
    refine XS.iand X2.here hx rfl (hb hby at_21) rfl ?_
    refine XS.i2c X2.here hx rfl (hb hby at_22) rfl ?_
    refine XS.istore X2.here hx rfl (hb hby at_23) rfl (l' := #[.val (.int p1), .val (.int p2), .val (.int p3), .val (.int p4), .val (.int p5), .val (.int (Int32.ofNat nn)), .val (.ref b1), .val (.ref b2), .val (.int (own_ch p3)), .unset, .unset, .unset]) rfl ?_
    refine XS.iload X2.here hx rfl (hb hby at_25) rfl ?_
    show Steps p.tables e below (T2.setTop (mkF m 27 #[.val (.int p1), .val (.int p2), .val (.int p3), .val (.int p4), .val (.int p5), .val (.int (Int32.ofNat nn)), .val (.ref b1), .val (.ref b2), .val (.int (own_ch p3)), .unset, .unset, .unset] [(.int p5)])) _
    refine X2.ldcInt hx hown (mvT hZ (wt hw 1 rfl)) (g := (mkF m 27 #[.val (.int p1), .val (.int p2), .val (.int p3), .val (.int p4), .val (.int p5), .val (.int (Int32.ofNat nn)), .val (.ref b1), .val (.ref b2), .val (.int (own_ch p3)), .unset, .unset, .unset] [(.int p5)])) rfl (hb hby at_27) _ ?_
    refine XS.iand X2.here hx rfl (hb hby at_29) rfl ?_
    refine XS.i2c X2.here hx rfl (hb hby at_30) rfl ?_
    refine XS.istore X2.here hx rfl (hb hby at_31) rfl (l' := #[.val (.int p1), .val (.int p2), .val (.int p3), .val (.int p4), .val (.int p5), .val (.int (Int32.ofNat nn)), .val (.ref b1), .val (.ref b2), .val (.int (own_ch p3)), .val (.int (own_ch p5)), .unset, .unset]) rfl ?_
    refine XS.iload X2.here hx rfl (hb hby at_33) rfl ?_
    exact kk
  by_cases hz : nn = 0
  · obtain ⟨cl7, Ar7, q7, S7, N_7, H_7, G7⟩ := id Vr5
    obtain ⟨T8, h8, X8, e8, W8, st8⟩ := stC X2 hx hZ e2 Ar7 (j := (64 : Int32)) (inb_of S7 ⟨by decide, by decide⟩) (g := (mkF m 104 #[.val (.int p1), .val (.int p2), .val (.int p3), .val (.int p4), .val (.int p5), .val (.int (Int32.ofNat nn)), .val (.ref b1), .val (.ref b2), .val (.int (own_ch p3)), .val (.int (own_ch p5)), .unset, .unset] [(.int (46 : Int32)), (.int (64 : Int32)), (.ref b2)])) rfl rfl (hb hby at_104)
    have Va8 := Arv.set Ar7 q7 S7 N_7 H_7 G7 (fits_nar_char _) W8 64 rfl (by rw [List.length_map]; exact (by simp [own_put_len]))
    have Vb8 : Arv Z h8 b2 ka2 .char (67 : Int32) (((List.replicate 67 (0 : Int32)).set 64 (nar .char (46 : Int32))).map Value.int) (.int (0 : Int32)) := by
      rw [List.map_set]; exact Va8
    have Nf8 := Fr.snoc X8 N0 g_b2
    have CH3 : CHr Z own_EL s.vm h0 s.vm h8 := CH2.trans (CHr.wr W8 (own_safeV (hZ : Z.Warmed39 s.vm).alike Vr5 (by decide)) CH2.1)
    have K3 : Keep h0 h8 [] := K2.wr W8 (Or.inr sz_b2)
    obtain ⟨cl9, Ar9, q9, S9, N_9, H_9, G9⟩ := id Vb8
    obtain ⟨T10, h10, X10, e10, W10, st10⟩ := stC X8 hx hZ e8 Ar9 (j := (65 : Int32)) (inb_of S9 ⟨by decide, by decide⟩) (g := (mkF m 111 #[.val (.int p1), .val (.int p2), .val (.int p3), .val (.int p4), .val (.int p5), .val (.int (Int32.ofNat nn)), .val (.ref b1), .val (.ref b2), .val (.int (own_ch p3)), .val (.int (own_ch p5)), .unset, .unset] [(.int (46 : Int32)), (.int (65 : Int32)), (.ref b2)])) rfl rfl (hb hby at_111)
    have Va10 := Arv.set Ar9 q9 S9 N_9 H_9 G9 (fits_nar_char _) W10 65 rfl (by rw [List.length_map]; exact (by simp [own_put_len]))
    have Vb10 : Arv Z h10 b2 ka2 .char (67 : Int32) ((((List.replicate 67 (0 : Int32)).set 64 (nar .char (46 : Int32))).set 65 (nar .char (46 : Int32))).map Value.int) (.int (0 : Int32)) := by
      rw [List.map_set]; exact Va10
    have Nf10 := Fr.snoc X10 Nf8 g_b2
    have CH4 : CHr Z own_EL s.vm h0 s.vm h10 := CH3.trans (CHr.wr W10 (own_safeV (hZ : Z.Warmed39 s.vm).alike Vb8 (by decide)) CH3.1)
    have K4 : Keep h0 h10 [] := K3.wr W10 (Or.inr sz_b2)
    obtain ⟨cl11, Ar11, q11, S11, N_11, H_11, G11⟩ := id Vb10
    obtain ⟨T12, h12, X12, e12, W12, st12⟩ := stC X10 hx hZ e10 Ar11 (j := (66 : Int32)) (inb_of S11 ⟨by decide, by decide⟩) (g := (mkF m 118 #[.val (.int p1), .val (.int p2), .val (.int p3), .val (.int p4), .val (.int p5), .val (.int (Int32.ofNat nn)), .val (.ref b1), .val (.ref b2), .val (.int (own_ch p3)), .val (.int (own_ch p5)), .unset, .unset] [(.int (46 : Int32)), (.int (66 : Int32)), (.ref b2)])) rfl rfl (hb hby at_118)
    have Va12 := Arv.set Ar11 q11 S11 N_11 H_11 G11 (fits_nar_char _) W12 66 rfl (by rw [List.length_map]; exact (by simp [own_put_len]))
    have Vb12 : Arv Z h12 b2 ka2 .char (67 : Int32) (((((List.replicate 67 (0 : Int32)).set 64 (nar .char (46 : Int32))).set 65 (nar .char (46 : Int32))).set 66 (nar .char (46 : Int32))).map Value.int) (.int (0 : Int32)) := by
      rw [List.map_set]; exact Va12
    have Nf12 := Fr.snoc X12 Nf10 g_b2
    have CH5 : CHr Z own_EL s.vm h0 s.vm h12 := CH4.trans (CHr.wr W12 (own_safeV (hZ : Z.Warmed39 s.vm).alike Vb10 (by decide)) CH4.1)
    have K5 : Keep h0 h12 [] := K4.wr W12 (Or.inr sz_b2)
    have f14 : Arv Z h12 b1 ka1 .char (Int32.ofNat nn) ((List.replicate nn (0 : Int32)).map Value.int) (.int (0 : Int32)) := (((Vr3.other W8 (Nat.ne_of_lt (Nat.lt_of_lt_of_le V_b1.lt (Nat.le_of_eq g2.symm)))).other W10 (Nat.ne_of_lt (Nat.lt_of_lt_of_le V_b1.lt (Nat.le_of_eq g2.symm)))).other W12 (Nat.ne_of_lt (Nat.lt_of_lt_of_le V_b1.lt (Nat.le_of_eq g2.symm))))
    have V013 : Arv Z h12 b1 ka1 .char (0 : Int32) [] (.int (0 : Int32)) := by
      have q := f14
      rw [hz] at q; exact q
    obtain ⟨T15, h15, X15, e15, E15, A15, D15, -, st15⟩ := newO X12 hx hZ hown (wt hw 2 rfl) (wt hw 3 rfl) (wt hw 4 rfl) e12 (g := (mkF m 119 #[.val (.int p1), .val (.int p2), .val (.int p3), .val (.int p4), .val (.int p5), .val (.int (Int32.ofNat nn)), .val (.ref b1), .val (.ref b2), .val (.int (own_ch p3)), .val (.int (own_ch p5)), .unset, .unset] [])) rfl (hb hby at_119) (by decide) (by decide)
    obtain ⟨b15, g15⟩ : ∃ z, z = h12.size := ⟨_, rfl⟩
    rw [← g15] at A15 D15 st15
    have sz_b15 : h0.size ≤ b15 := Nat.le_trans K5.1 (Nat.le_of_eq g15.symm)
    have g_b15 : n0 ≤ b15 := Nat.le_trans Z0 sz_b15
    have CH6 : CHr Z own_EL s.vm h0 s.vm h15 := CH5.trans (CHr.ext E15 CH5.1)
    have K6 : Keep h0 h15 [] := K5.ext E15
    have F_value_b15 : Fld Z h15 b15 "java/lang/String" "value" "[B" .null := D15 (Or.inr (wt hw 17 rfl)) (ty := (.array .byte)) (by decide)
    have F_coder_b15 : Fld Z h15 b15 "java/lang/String" "coder" "B" (.int (0 : Int32)) := D15 (Or.inr (wt hw 18 rfl)) (ty := .byte) (by decide)
    have Sf15 : Safe Z own_EL s.vm h15 b15 := Safe.ext E15 CH5.1 (Safe.new (Nat.le_of_eq g15.symm))
    have f17 : Arv Z h15 b1 ka1 .char (0 : Int32) [] (.int (0 : Int32)) := (V013.ext E15)
    obtain ⟨_, _, ⟨T16, L16, k16, n16⟩, -, X16', hs16, hg16, ⟨Lc16, hQ16, l16, y16, z16, C16⟩, st16⟩ := X15.specialBackS hx (y := m1_) rfl hown (mvT hZ (wt hw 5 rfl)) (mvT hZ (wt hw 6 rfl)) (mvT hZ (wt hw 7 rfl)) (by decide) (own_backSHs (x := b15) (W := 1) (rmE1 l Z a0 hw [] hEL b15 b1 .null (.int (0 : Int32)) ka1 [] (.int (0 : Int32)) h15 n0 (Nat.le_trans Z0 K6.1) A15 F_value_b15 F_coder_b15 g_b15 f17) hZ (wt hw 7 rfl) (wt hw 4 rfl) (by decide) (by decide) hEL CH6.1 A15.lt Sf15) (g := (mkF m 125 #[.val (.int p1), .val (.int p2), .val (.int p3), .val (.int p4), .val (.int p5), .val (.int (Int32.ofNat nn)), .val (.ref b1), .val (.ref b2), .val (.int (own_ch p3)), .val (.int (own_ch p5)), .unset, .unset] [(.ref b1), (.ref b15), (.ref b15)])) rfl (by rw [hml]; rfl) (Steps.refl _) (a := b15) (argsL := [(.ref b1)]) (rest := [(.ref b15)]) (lenOf pd36_ rfl) rfl (by show 2 * 0 + _ ≤ _; exact Nat.le_of_eq rfl) (hb hby at_125) (fun _ _ => ⟨rfl, e15, (by decide : 3 + 2 ≤ _), (by decide : 198 + 4 ≤ _)⟩)
    dsimp only [Pt.U, Pt.locs, Pt.cells, Pt.slots] at X16' l16 y16 z16 st16 hQ16 C16 hs16 hg16
    rw [l16] at X16'
    clear l16; subst y16 z16
    obtain ⟨X16, hS16, hZ16, hown16⟩ := rebS hS0 (by rw [e15]; exact (Nat.zero_le _)) X16' hs16 hg16 hZ hown
    obtain ⟨rfl, N16q, K16q, SV16⟩ := hQ16
    have N16a := Fr.app Nf12 N16q
    have CH7 : CHr Z own_EL s.vm h0 T16.vm T16.heap := CH6.trans C16
    have K7 : Keep h0 T16.heap [] := K6.trans K16q (allS (Or.inr sz_b15) all0)
    have SU16 : StrU Z T16.heap b15 [] := SV16.toU
    have f19 : Old Z n0 T16.heap := (((((((O0.ext E1).ext E2).wr W8 g_b2).wr W10 g_b2).wr W12 g_b2).ext E15).keep K16q (allS g_b15 all0))
    obtain ⟨_, _, ⟨T18, L18, k18, n18⟩, -, X18, ⟨Lc18, hQ18, l18, y18, z18⟩, st18⟩ := Jvm.LawKit.callS X16 hx (y := m51_) hown16 (mvT hZ16 (wt hw 23 rfl)) (mvT hZ16 (wt hw 24 rfl)) (mvT hZ16 (wt hw 25 rfl)) (mvT hZ16 (wt hw 26 rfl)) (by decide) (backOf (W := 0) (rmAb0 l Z a0 hw [] b15 [] T16.heap n0 (Nat.le_trans Z0 K7.1) hG f19 SU16 (by decide)) hZ16 (wt hw 26 rfl) (wt hw 25 rfl) (by decide) (by decide)) (g := (mkF m 132 #[.val (.int p1), .val (.int p2), .val (.int p3), .val (.int p4), .val (.int p5), .val (.int (Int32.ofNat nn)), .val (.ref b1), .val (.ref b2), .val (.int (own_ch p3)), .val (.int (own_ch p5)), .val (.ref b15), .unset] [(.ref b15)])) rfl (by rw [hml]; rfl) (argsL := [(.ref b15)]) (rest := []) (lenOf pd37_ rfl) rfl (by show 2 * 0 + _ ≤ _; exact Nat.le_of_eq rfl) (hb hby at_132) (fun _ _ => ⟨rfl, rfl, (by decide : 5 + 0 ≤ _), (by decide : 202 + 0 ≤ _)⟩)
    dsimp only [Pt.U, Pt.locs, Pt.cells, Pt.slots] at X18 l18 y18 z18 st18 hQ18
    rw [l18] at X18
    clear l18; subst y18 z18
    obtain ⟨rfl, N18q, e18q⟩ := hQ18
    have N18a := Fr.app N16a N18q
    obtain ⟨sb21, sk21, sd21, sN21, sv21, sE21, sV21, sC21, sA21, sc21, su21⟩ := id SU16
    obtain ⟨sb22, sk22, sd22, sN22, sv22, sE22, sV22, sC22, sA22, sc22, su22⟩ := id SU16
    obtain ⟨cq20, kq20, q20a, q20b, q20c⟩ := isOf hZ16 e18q SU16.exa
    obtain ⟨_, _, ⟨T20, L20, k20, n20⟩, -, X20, ⟨Lc20, hQ20, l20, y20, z20⟩, st20⟩ := X18.virtualBack hx (y := m52_) (z := m52_) hown16 (mvT hZ16 (wt hw 38 rfl)) (mvT hZ16 (wt hw 39 rfl)) (notFace_of_selects (args := #[]) (mvT hZ16 (wt hw 41 rfl))) (mvT hZ16 (wt hw 41 rfl)) (mvT hZ16 (wt hw 40 rfl)) (by decide) (own_monoE (StrChars.Road.eqW (W := 0) hZ16 (own_heq hw) (kI := 4) (wt hw 3 rfl) sE21 sV21 sC21 sA21 sc21 su21 (by decide) sE22 sV22 sC22 sA22 sc22 su22 (by decide) (O2.ext f19.2) P5 (by decide) (by decide)) rfl) q20a q20c (g := (mkF m 148 #[.val (.int p1), .val (.int p2), .val (.int p3), .val (.int p4), .val (.int p5), .val (.int (Int32.ofNat nn)), .val (.ref b1), .val (.ref b2), .val (.int (own_ch p3)), .val (.int (own_ch p5)), .val (.ref b15), .val (.ref b15)] [(.ref b15), (.ref b15)])) rfl (by rw [hml]; rfl) (Steps.refl _) (argsL := [(.ref b15)]) (rest := []) (lenOf pd38_ rfl) rfl (by show 2 * 0 + _ ≤ _; exact Nat.le_of_eq rfl) (hb hby at_148) (fun _ _ => ⟨rfl, e18q, (by decide : 5 + 0 ≤ _), (by decide : 202 + 0 ≤ _)⟩)
    dsimp only [Pt.U, Pt.locs, Pt.cells, Pt.slots] at X20 l20 y20 z20 st20 hQ20
    rw [l20] at X20
    clear l20; subst y20 z20
    obtain ⟨rfl, rfl, e20q⟩ := hQ20
    have N20a := Fr.app N18a (Fr.nil n0)
    obtain ⟨fs, hr, hrun, hended, hend⟩ := X20.leaveW hS16 (by rw [e20q]; exact (Nat.le_refl _)) (v := some (.int (1 : Int32))) (fun h => by rw [Bd.returns] at h; cases h)
    refine ⟨_, _, pre0 _ ?_, hrun, hended, _, _, rfl, ?_, ?_, hend.1, hend.2.1, hend.2.2.1, hend.2.2.2.mono (by decide) (by decide)⟩
    · refine cut6 _ ?_
      show Steps p.tables e below (T2.setTop (mkF m 35 #[.val (.int p1), .val (.int p2), .val (.int p3), .val (.int p4), .val (.int p5), .val (.int (Int32.ofNat nn)), .val (.ref b1), .val (.ref b2), .val (.int (own_ch p3)), .val (.int (own_ch p5)), .unset, .unset] [(.int (Int32.ofNat nn))])) _
      refine XS.ifYes X2.here hx rfl (pc0 := 35) (pc' := 98) rfl (hb hby at_35) rfl ((if0 _ _).trans (flt (by rw [hz]; decide : ¬ ((0 : Int32) < (Int32.ofNat nn)))).2.2.2) (by decide) (by decide) ?_
      refine XS.aload X2.here hx rfl (hb hby at_98) rfl rfl ?_
      refine XS.bipush X2.here hx rfl (hb hby at_100) ?_
      refine XS.bipush X2.here hx rfl (hb hby at_102) ?_
      show Steps p.tables e below (T2.setTop (mkF m 104 #[.val (.int p1), .val (.int p2), .val (.int p3), .val (.int p4), .val (.int p5), .val (.int (Int32.ofNat nn)), .val (.ref b1), .val (.ref b2), .val (.int (own_ch p3)), .val (.int (own_ch p5)), .unset, .unset] [(.int (46 : Int32)), (.int (64 : Int32)), (.ref b2)])) _
      refine st8 _ ?_
      refine XS.aload X8.here hx rfl (hb hby at_105) rfl rfl ?_
      refine XS.bipush X8.here hx rfl (hb hby at_107) ?_
      refine XS.bipush X8.here hx rfl (hb hby at_109) ?_
      show Steps p.tables e below (T8.setTop (mkF m 111 #[.val (.int p1), .val (.int p2), .val (.int p3), .val (.int p4), .val (.int p5), .val (.int (Int32.ofNat nn)), .val (.ref b1), .val (.ref b2), .val (.int (own_ch p3)), .val (.int (own_ch p5)), .unset, .unset] [(.int (46 : Int32)), (.int (65 : Int32)), (.ref b2)])) _
      refine st10 _ ?_
      refine XS.aload X10.here hx rfl (hb hby at_112) rfl rfl ?_
      refine XS.bipush X10.here hx rfl (hb hby at_114) ?_
      refine XS.bipush X10.here hx rfl (hb hby at_116) ?_
      show Steps p.tables e below (T10.setTop (mkF m 118 #[.val (.int p1), .val (.int p2), .val (.int p3), .val (.int p4), .val (.int p5), .val (.int (Int32.ofNat nn)), .val (.ref b1), .val (.ref b2), .val (.int (own_ch p3)), .val (.int (own_ch p5)), .unset, .unset] [(.int (46 : Int32)), (.int (66 : Int32)), (.ref b2)])) _
      refine st12 _ ?_
      show Steps p.tables e below (T12.setTop (mkF m 119 #[.val (.int p1), .val (.int p2), .val (.int p3), .val (.int p4), .val (.int p5), .val (.int (Int32.ofNat nn)), .val (.ref b1), .val (.ref b2), .val (.int (own_ch p3)), .val (.int (own_ch p5)), .unset, .unset] [])) _
      refine st15 _ ?_
      refine XS.dup X15.here hx rfl (hb hby at_122) rfl rfl ?_
      refine XS.aload X15.here hx rfl (hb hby at_123) rfl rfl ?_
      show Steps p.tables e below (T15.setTop (mkF m 125 #[.val (.int p1), .val (.int p2), .val (.int p3), .val (.int p4), .val (.int p5), .val (.int (Int32.ofNat nn)), .val (.ref b1), .val (.ref b2), .val (.int (own_ch p3)), .val (.int (own_ch p5)), .unset, .unset] [(.ref b1), (.ref b15), (.ref b15)])) _
      refine st16.trans ?_
      refine XS.astore X16.here hx rfl (hb hby at_128) rfl rfl (l' := #[.val (.int p1), .val (.int p2), .val (.int p3), .val (.int p4), .val (.int p5), .val (.int (Int32.ofNat nn)), .val (.ref b1), .val (.ref b2), .val (.int (own_ch p3)), .val (.int (own_ch p5)), .val (.ref b15), .unset]) rfl ?_
      refine XS.aload X16.here hx rfl (hb hby at_130) rfl rfl ?_
      show Steps p.tables e below (T16.setTop (mkF m 132 #[.val (.int p1), .val (.int p2), .val (.int p3), .val (.int p4), .val (.int p5), .val (.int (Int32.ofNat nn)), .val (.ref b1), .val (.ref b2), .val (.int (own_ch p3)), .val (.int (own_ch p5)), .val (.ref b15), .unset] [(.ref b15)])) _
      refine st18 _ ?_
      refine XS.astore X18.here hx rfl (hb hby at_135) rfl rfl (l' := #[.val (.int p1), .val (.int p2), .val (.int p3), .val (.int p4), .val (.int p5), .val (.int (Int32.ofNat nn)), .val (.ref b1), .val (.ref b2), .val (.int (own_ch p3)), .val (.int (own_ch p5)), .val (.ref b15), .val (.ref b15)]) rfl ?_
      refine XS.iload X18.here hx rfl (hb hby at_137) rfl ?_
      refine XS.bipush X18.here hx rfl (hb hby at_139) ?_
      show Steps p.tables e below (T18.setTop (mkF m 141 #[.val (.int p1), .val (.int p2), .val (.int p3), .val (.int p4), .val (.int p5), .val (.int (Int32.ofNat nn)), .val (.ref b1), .val (.ref b2), .val (.int (own_ch p3)), .val (.int (own_ch p5)), .val (.ref b15), .val (.ref b15)] [(.int (64 : Int32)), (.int (Int32.ofNat nn))])) _
      refine XS.icmpNo X18.here hx rfl (hb hby at_141) rfl (flt (by rw [hz]; decide : ¬ ((64 : Int32) < (Int32.ofNat nn)))).2.2.1 ?_
      refine XS.aload X18.here hx rfl (hb hby at_144) rfl rfl ?_
      refine XS.aload X18.here hx rfl (hb hby at_146) rfl rfl ?_
      show Steps p.tables e below (T18.setTop (mkF m 148 #[.val (.int p1), .val (.int p2), .val (.int p3), .val (.int p4), .val (.int p5), .val (.int (Int32.ofNat nn)), .val (.ref b1), .val (.ref b2), .val (.int (own_ch p3)), .val (.int (own_ch p5)), .val (.ref b15), .val (.ref b15)] [(.ref b15), (.ref b15)])) _
      refine st20.trans ?_
      show Steps p.tables e below (T20.setTop (mkF m 151 #[.val (.int p1), .val (.int p2), .val (.int p3), .val (.int p4), .val (.int p5), .val (.int (Int32.ofNat nn)), .val (.ref b1), .val (.ref b2), .val (.int (own_ch p3)), .val (.int (own_ch p5)), .val (.ref b15), .val (.ref b15)] [(.int (1 : Int32))])) _
      exact retN X20 hx (t := .boolean) Bd.returns (by simp) (hb hby at_151) hr
    · show Q0 n0 _ T20.heap _
      rw [e20q]
      exact ⟨rfl, N20a⟩
    · show CHr Z own_EL s.vm s.heap T20.vm T20.heap
      rw [hh, e20q]
      exact CH7.trans (CHv.at X20 hZ16 hEL CH7.1)
  · have hp : 0 < nn := Nat.pos_of_ne_zero hz
    obtain ⟨i1, hi1, ei1⟩ := own_rem p2 hp hnn
    obtain ⟨i2, hi2, ei2⟩ := own_rem p4 hp hnn
    obtain ⟨cl7, Ar7, q7, S7, N_7, H_7, G7⟩ := id Vr3
    obtain ⟨T8, h8, X8, e8, W8, st8⟩ := stC X2 hx hZ e2 Ar7 (j := (Int32.ofNat i1)) (own_inb S7 hi1 (by omega)) (g := (mkF m 62 #[.val (.int p1), .val (.int p2), .val (.int p3), .val (.int p4), .val (.int p5), .val (.int (Int32.ofNat nn)), .val (.ref b1), .val (.ref b2), .val (.int (own_ch p3)), .val (.int (own_ch p5)), .val (.int (Int32.ofNat i1)), .val (.int (Int32.ofNat i2))] [(.int (own_ch p3)), (.int (Int32.ofNat i1)), (.ref b1)])) rfl rfl (hb hby at_62)
    have Va8 := Arv.set Ar7 q7 S7 N_7 H_7 G7 (fits_nar_char _) W8 i1 (own_clamp (by omega)) (by rw [List.length_map]; exact (by simp; omega))
    have Vb8 : Arv Z h8 b1 ka1 .char (Int32.ofNat nn) (((List.replicate nn (0 : Int32)).set i1 (nar .char (own_ch p3))).map Value.int) (.int (0 : Int32)) := by
      rw [List.map_set]; exact Va8
    have Nf8 := Fr.snoc X8 N0 g_b1
    have CH3 : CHr Z own_EL s.vm h0 s.vm h8 := CH2.trans (CHr.wr W8 (own_safeV (hZ : Z.Warmed39 s.vm).alike Vr3 (by decide)) CH2.1)
    have K3 : Keep h0 h8 [] := K2.wr W8 (Or.inr sz_b1)
    have jn9 : ∃ (T_ : State) (h_ : Heap) (L_ : List Loc), Stand p l e room_1 (s.setVm s.vm) m #[(.int p1), (.int p2), (.int p3), (.int p4), (.int p5)] below meth c T_ L_ 2 194 ∧ T_.heap = h_ ∧ Fr n0 L_ ∧ Keep h8 h_ [b2] ∧ Arv Z h_ b2 ka2 .char (67 : Int32) ((own_put (List.replicate 67 (0 : Int32)) i1 (nar .char (own_ch p3))).map Value.int) (.int (0 : Int32)) ∧ ∀ t, Steps p.tables e below (T_.setTop (mkF m 77 #[.val (.int p1), .val (.int p2), .val (.int p3), .val (.int p4), .val (.int p5), .val (.int (Int32.ofNat nn)), .val (.ref b1), .val (.ref b2), .val (.int (own_ch p3)), .val (.int (own_ch p5)), .val (.int (Int32.ofNat i1)), .val (.int (Int32.ofNat i2))] [])) t → Steps p.tables e below (T8.setTop (mkF m 63 #[.val (.int p1), .val (.int p2), .val (.int p3), .val (.int p4), .val (.int p5), .val (.int (Int32.ofNat nn)), .val (.ref b1), .val (.ref b2), .val (.int (own_ch p3)), .val (.int (own_ch p5)), .val (.int (Int32.ofNat i1)), .val (.int (Int32.ofNat i2))] [])) t := by
      by_cases c1 : i1 < 64
      · have f60 : Arv Z h8 b2 ka2 .char (67 : Int32) ((List.replicate 67 (0 : Int32)).map Value.int) (.int (0 : Int32)) := (Vr5.other W8 (Ne.symm (Nat.ne_of_lt (Nat.lt_of_lt_of_le V_b1.lt (Nat.le_of_eq g2.symm)))))
        obtain ⟨cl61, Ar61, q61, S61, N_61, H_61, G61⟩ := id f60
        obtain ⟨T62, h62, X62, e62, W62, st62⟩ := stC X8 hx hZ e8 Ar61 (j := (Int32.ofNat i1)) (own_inb (n := 67) S61 (by omega) (by omega)) (g := (mkF m 76 #[.val (.int p1), .val (.int p2), .val (.int p3), .val (.int p4), .val (.int p5), .val (.int (Int32.ofNat nn)), .val (.ref b1), .val (.ref b2), .val (.int (own_ch p3)), .val (.int (own_ch p5)), .val (.int (Int32.ofNat i1)), .val (.int (Int32.ofNat i2))] [(.int (own_ch p3)), (.int (Int32.ofNat i1)), (.ref b2)])) rfl rfl (hb hby at_76)
        have Va62 := Arv.set Ar61 q61 S61 N_61 H_61 G61 (fits_nar_char _) W62 i1 (own_clamp (by omega)) (by rw [List.length_map]; exact (by simp [own_put_len]; omega))
        have Vb62 : Arv Z h62 b2 ka2 .char (67 : Int32) (((List.replicate 67 (0 : Int32)).set i1 (nar .char (own_ch p3))).map Value.int) (.int (0 : Int32)) := by
          rw [List.map_set]; exact Va62
        have Nf62 := Fr.snoc X62 Nf8 g_b2
        have CH4 : CHr Z own_EL s.vm h0 s.vm h62 := CH3.trans (CHr.wr W62 (own_safeV (hZ : Z.Warmed39 s.vm).alike f60 (by decide)) CH3.1)
        have K4 : Keep h0 h62 [] := K3.wr W62 (Or.inr sz_b2)
        have Vj63 : Arv Z h62 b2 ka2 .char (67 : Int32) ((own_put (List.replicate 67 (0 : Int32)) i1 (nar .char (own_ch p3))).map Value.int) (.int (0 : Int32)) := by
          rw [own_put, if_pos c1]; exact Vb62
        exact ⟨T62, _, _, X62, e62, Nf62, ((Keep.refl h8 [b2]).wr W62 (Or.inl (List.mem_of_getElem? (i := 0) rfl))), Vj63, fun t kk => by
          show Steps p.tables e below (T8.setTop (mkF m 63 #[.val (.int p1), .val (.int p2), .val (.int p3), .val (.int p4), .val (.int p5), .val (.int (Int32.ofNat nn)), .val (.ref b1), .val (.ref b2), .val (.int (own_ch p3)), .val (.int (own_ch p5)), .val (.int (Int32.ofNat i1)), .val (.int (Int32.ofNat i2))] [])) _
          refine XS.iload X8.here hx rfl (hb hby at_63) rfl ?_
          refine XS.bipush X8.here hx rfl (hb hby at_65) ?_
          show Steps p.tables e below (T8.setTop (mkF m 67 #[.val (.int p1), .val (.int p2), .val (.int p3), .val (.int p4), .val (.int p5), .val (.int (Int32.ofNat nn)), .val (.ref b1), .val (.ref b2), .val (.int (own_ch p3)), .val (.int (own_ch p5)), .val (.int (Int32.ofNat i1)), .val (.int (Int32.ofNat i2))] [(.int (64 : Int32)), (.int (Int32.ofNat i1))])) _
          refine XS.icmpNo X8.here hx rfl (hb hby at_67) rfl (tlt ((own_lt_of (i := i1) (n := 64) (by omega) (by omega)).mpr c1 : (Int32.ofNat i1) < (64 : Int32))).2.1 ?_
          refine XS.aload X8.here hx rfl (hb hby at_70) rfl rfl ?_
          refine XS.iload X8.here hx rfl (hb hby at_72) rfl ?_
          refine XS.iload X8.here hx rfl (hb hby at_74) rfl ?_
          show Steps p.tables e below (T8.setTop (mkF m 76 #[.val (.int p1), .val (.int p2), .val (.int p3), .val (.int p4), .val (.int p5), .val (.int (Int32.ofNat nn)), .val (.ref b1), .val (.ref b2), .val (.int (own_ch p3)), .val (.int (own_ch p5)), .val (.int (Int32.ofNat i1)), .val (.int (Int32.ofNat i2))] [(.int (own_ch p3)), (.int (Int32.ofNat i1)), (.ref b2)])) _
          refine st62 _ ?_
          show Steps p.tables e below (T62.setTop (mkF m 77 #[.val (.int p1), .val (.int p2), .val (.int p3), .val (.int p4), .val (.int p5), .val (.int (Int32.ofNat nn)), .val (.ref b1), .val (.ref b2), .val (.int (own_ch p3)), .val (.int (own_ch p5)), .val (.int (Int32.ofNat i1)), .val (.int (Int32.ofNat i2))] [])) _
          exact kk⟩
      · have f61 : Arv Z h8 b2 ka2 .char (67 : Int32) ((List.replicate 67 (0 : Int32)).map Value.int) (.int (0 : Int32)) := (Vr5.other W8 (Ne.symm (Nat.ne_of_lt (Nat.lt_of_lt_of_le V_b1.lt (Nat.le_of_eq g2.symm)))))
        have Vj60 : Arv Z h8 b2 ka2 .char (67 : Int32) ((own_put (List.replicate 67 (0 : Int32)) i1 (nar .char (own_ch p3))).map Value.int) (.int (0 : Int32)) := by
          rw [own_put, if_neg c1]; exact f61
        exact ⟨T8, _, _, X8, e8, Nf8, (Keep.refl h8 [b2]), Vj60, fun t kk => by
          show Steps p.tables e below (T8.setTop (mkF m 63 #[.val (.int p1), .val (.int p2), .val (.int p3), .val (.int p4), .val (.int p5), .val (.int (Int32.ofNat nn)), .val (.ref b1), .val (.ref b2), .val (.int (own_ch p3)), .val (.int (own_ch p5)), .val (.int (Int32.ofNat i1)), .val (.int (Int32.ofNat i2))] [])) _
          refine XS.iload X8.here hx rfl (hb hby at_63) rfl ?_
          refine XS.bipush X8.here hx rfl (hb hby at_65) ?_
          show Steps p.tables e below (T8.setTop (mkF m 67 #[.val (.int p1), .val (.int p2), .val (.int p3), .val (.int p4), .val (.int p5), .val (.int (Int32.ofNat nn)), .val (.ref b1), .val (.ref b2), .val (.int (own_ch p3)), .val (.int (own_ch p5)), .val (.int (Int32.ofNat i1)), .val (.int (Int32.ofNat i2))] [(.int (64 : Int32)), (.int (Int32.ofNat i1))])) _
          refine XS.icmpYes X8.here hx rfl (pc0 := 67) (pc' := 77) rfl (hb hby at_67) rfl (flt (fun q => c1 ((own_lt_of (i := i1) (n := 64) (by omega) (by omega)).mp q) : ¬ ((Int32.ofNat i1) < (64 : Int32)))).2.1 (by decide) (by decide) ?_
          show Steps p.tables e below (T8.setTop (mkF m 77 #[.val (.int p1), .val (.int p2), .val (.int p3), .val (.int p4), .val (.int p5), .val (.int (Int32.ofNat nn)), .val (.ref b1), .val (.ref b2), .val (.int (own_ch p3)), .val (.int (own_ch p5)), .val (.int (Int32.ofNat i1)), .val (.int (Int32.ofNat i2))] [])) _
          exact kk⟩
    obtain ⟨T9, h9, L9, X9, e9, N9j, K9j, V9j, st9⟩ := jn9
    have f112 : Arv Z h8 b2 ka2 .char (67 : Int32) ((List.replicate 67 (0 : Int32)).map Value.int) (.int (0 : Int32)) := (Vr5.other W8 (Ne.symm (Nat.ne_of_lt (Nat.lt_of_lt_of_le V_b1.lt (Nat.le_of_eq g2.symm)))))
    have CH4 : CHr Z own_EL s.vm h0 s.vm h9 := CH3.trans (CHr.keep K9j (allS (own_safeV (hZ : Z.Warmed39 s.vm).alike f112 (by decide)) all0) CH3.1)
    have K4 : Keep h0 h9 [] := K3.trans K9j (allS (Or.inr sz_b2) all0)
    have f113 : Arv Z h9 b1 ka1 .char (Int32.ofNat nn) (((List.replicate nn (0 : Int32)).set i1 (nar .char (own_ch p3))).map Value.int) (.int (0 : Int32)) := (Vb8.keep K9j (ninS (Nat.ne_of_lt (Nat.lt_of_lt_of_le V_b1.lt (Nat.le_of_eq g2.symm))) nin0))
    obtain ⟨cl114, Ar114, q114, S114, N_114, H_114, G114⟩ := id f113
    obtain ⟨T115, h115, X115, e115, W115, st115⟩ := stC X9 hx hZ e9 Ar114 (j := (Int32.ofNat i2)) (own_inb S114 hi2 (by omega)) (g := (mkF m 83 #[.val (.int p1), .val (.int p2), .val (.int p3), .val (.int p4), .val (.int p5), .val (.int (Int32.ofNat nn)), .val (.ref b1), .val (.ref b2), .val (.int (own_ch p3)), .val (.int (own_ch p5)), .val (.int (Int32.ofNat i1)), .val (.int (Int32.ofNat i2))] [(.int (own_ch p5)), (.int (Int32.ofNat i2)), (.ref b1)])) rfl rfl (hb hby at_83)
    have Va115 := Arv.set Ar114 q114 S114 N_114 H_114 G114 (fits_nar_char _) W115 i2 (own_clamp (by omega)) (by rw [List.length_map]; exact (by simp; omega))
    have Vb115 : Arv Z h115 b1 ka1 .char (Int32.ofNat nn) ((((List.replicate nn (0 : Int32)).set i1 (nar .char (own_ch p3))).set i2 (nar .char (own_ch p5))).map Value.int) (.int (0 : Int32)) := by
      rw [List.map_set]; exact Va115
    have Nf115 := Fr.snoc X115 N9j g_b1
    have CH5 : CHr Z own_EL s.vm h0 s.vm h115 := CH4.trans (CHr.wr W115 (own_safeV (hZ : Z.Warmed39 s.vm).alike f113 (by decide)) CH4.1)
    have K5 : Keep h0 h115 [] := K4.wr W115 (Or.inr sz_b1)
    have jn116 : ∃ (T_ : State) (h_ : Heap) (L_ : List Loc), Stand p l e room_1 (s.setVm s.vm) m #[(.int p1), (.int p2), (.int p3), (.int p4), (.int p5)] below meth c T_ L_ 2 194 ∧ T_.heap = h_ ∧ Fr n0 L_ ∧ Keep h115 h_ [b2] ∧ Arv Z h_ b2 ka2 .char (67 : Int32) ((own_put (own_put (List.replicate 67 (0 : Int32)) i1 (nar .char (own_ch p3))) i2 (nar .char (own_ch p5))).map Value.int) (.int (0 : Int32)) ∧ ∀ t, Steps p.tables e below (T_.setTop (mkF m 98 #[.val (.int p1), .val (.int p2), .val (.int p3), .val (.int p4), .val (.int p5), .val (.int (Int32.ofNat nn)), .val (.ref b1), .val (.ref b2), .val (.int (own_ch p3)), .val (.int (own_ch p5)), .val (.int (Int32.ofNat i1)), .val (.int (Int32.ofNat i2))] [])) t → Steps p.tables e below (T115.setTop (mkF m 84 #[.val (.int p1), .val (.int p2), .val (.int p3), .val (.int p4), .val (.int p5), .val (.int (Int32.ofNat nn)), .val (.ref b1), .val (.ref b2), .val (.int (own_ch p3)), .val (.int (own_ch p5)), .val (.int (Int32.ofNat i1)), .val (.int (Int32.ofNat i2))] [])) t := by
      by_cases c2 : i2 < 64
      · have f167 : Arv Z h115 b2 ka2 .char (67 : Int32) ((own_put (List.replicate 67 (0 : Int32)) i1 (nar .char (own_ch p3))).map Value.int) (.int (0 : Int32)) := (V9j.other W115 (Ne.symm (Nat.ne_of_lt (Nat.lt_of_lt_of_le V_b1.lt (Nat.le_of_eq g2.symm)))))
        obtain ⟨cl168, Ar168, q168, S168, N_168, H_168, G168⟩ := id f167
        obtain ⟨T169, h169, X169, e169, W169, st169⟩ := stC X115 hx hZ e115 Ar168 (j := (Int32.ofNat i2)) (own_inb (n := 67) S168 (by omega) (by omega)) (g := (mkF m 97 #[.val (.int p1), .val (.int p2), .val (.int p3), .val (.int p4), .val (.int p5), .val (.int (Int32.ofNat nn)), .val (.ref b1), .val (.ref b2), .val (.int (own_ch p3)), .val (.int (own_ch p5)), .val (.int (Int32.ofNat i1)), .val (.int (Int32.ofNat i2))] [(.int (own_ch p5)), (.int (Int32.ofNat i2)), (.ref b2)])) rfl rfl (hb hby at_97)
        have Va169 := Arv.set Ar168 q168 S168 N_168 H_168 G168 (fits_nar_char _) W169 i2 (own_clamp (by omega)) (by rw [List.length_map]; exact (by simp [own_put_len]; omega))
        have Vb169 : Arv Z h169 b2 ka2 .char (67 : Int32) (((own_put (List.replicate 67 (0 : Int32)) i1 (nar .char (own_ch p3))).set i2 (nar .char (own_ch p5))).map Value.int) (.int (0 : Int32)) := by
          rw [List.map_set]; exact Va169
        have Nf169 := Fr.snoc X169 Nf115 g_b2
        have CH6 : CHr Z own_EL s.vm h0 s.vm h169 := CH5.trans (CHr.wr W169 (own_safeV (hZ : Z.Warmed39 s.vm).alike f167 (by decide)) CH5.1)
        have K6 : Keep h0 h169 [] := K5.wr W169 (Or.inr sz_b2)
        have Vj170 : Arv Z h169 b2 ka2 .char (67 : Int32) ((own_put (own_put (List.replicate 67 (0 : Int32)) i1 (nar .char (own_ch p3))) i2 (nar .char (own_ch p5))).map Value.int) (.int (0 : Int32)) := by
          rw [own_put, if_pos c2]; exact Vb169
        exact ⟨T169, _, _, X169, e169, Nf169, ((Keep.refl h115 [b2]).wr W169 (Or.inl (List.mem_of_getElem? (i := 0) rfl))), Vj170, fun t kk => by
          show Steps p.tables e below (T115.setTop (mkF m 84 #[.val (.int p1), .val (.int p2), .val (.int p3), .val (.int p4), .val (.int p5), .val (.int (Int32.ofNat nn)), .val (.ref b1), .val (.ref b2), .val (.int (own_ch p3)), .val (.int (own_ch p5)), .val (.int (Int32.ofNat i1)), .val (.int (Int32.ofNat i2))] [])) _
          refine XS.iload X115.here hx rfl (hb hby at_84) rfl ?_
          refine XS.bipush X115.here hx rfl (hb hby at_86) ?_
          show Steps p.tables e below (T115.setTop (mkF m 88 #[.val (.int p1), .val (.int p2), .val (.int p3), .val (.int p4), .val (.int p5), .val (.int (Int32.ofNat nn)), .val (.ref b1), .val (.ref b2), .val (.int (own_ch p3)), .val (.int (own_ch p5)), .val (.int (Int32.ofNat i1)), .val (.int (Int32.ofNat i2))] [(.int (64 : Int32)), (.int (Int32.ofNat i2))])) _
          refine XS.icmpNo X115.here hx rfl (hb hby at_88) rfl (tlt ((own_lt_of (i := i2) (n := 64) (by omega) (by omega)).mpr c2 : (Int32.ofNat i2) < (64 : Int32))).2.1 ?_
          refine XS.aload X115.here hx rfl (hb hby at_91) rfl rfl ?_
          refine XS.iload X115.here hx rfl (hb hby at_93) rfl ?_
          refine XS.iload X115.here hx rfl (hb hby at_95) rfl ?_
          show Steps p.tables e below (T115.setTop (mkF m 97 #[.val (.int p1), .val (.int p2), .val (.int p3), .val (.int p4), .val (.int p5), .val (.int (Int32.ofNat nn)), .val (.ref b1), .val (.ref b2), .val (.int (own_ch p3)), .val (.int (own_ch p5)), .val (.int (Int32.ofNat i1)), .val (.int (Int32.ofNat i2))] [(.int (own_ch p5)), (.int (Int32.ofNat i2)), (.ref b2)])) _
          refine st169 _ ?_
          show Steps p.tables e below (T169.setTop (mkF m 98 #[.val (.int p1), .val (.int p2), .val (.int p3), .val (.int p4), .val (.int p5), .val (.int (Int32.ofNat nn)), .val (.ref b1), .val (.ref b2), .val (.int (own_ch p3)), .val (.int (own_ch p5)), .val (.int (Int32.ofNat i1)), .val (.int (Int32.ofNat i2))] [])) _
          exact kk⟩
      · have f168 : Arv Z h115 b2 ka2 .char (67 : Int32) ((own_put (List.replicate 67 (0 : Int32)) i1 (nar .char (own_ch p3))).map Value.int) (.int (0 : Int32)) := (V9j.other W115 (Ne.symm (Nat.ne_of_lt (Nat.lt_of_lt_of_le V_b1.lt (Nat.le_of_eq g2.symm)))))
        have Vj167 : Arv Z h115 b2 ka2 .char (67 : Int32) ((own_put (own_put (List.replicate 67 (0 : Int32)) i1 (nar .char (own_ch p3))) i2 (nar .char (own_ch p5))).map Value.int) (.int (0 : Int32)) := by
          rw [own_put, if_neg c2]; exact f168
        exact ⟨T115, _, _, X115, e115, Nf115, (Keep.refl h115 [b2]), Vj167, fun t kk => by
          show Steps p.tables e below (T115.setTop (mkF m 84 #[.val (.int p1), .val (.int p2), .val (.int p3), .val (.int p4), .val (.int p5), .val (.int (Int32.ofNat nn)), .val (.ref b1), .val (.ref b2), .val (.int (own_ch p3)), .val (.int (own_ch p5)), .val (.int (Int32.ofNat i1)), .val (.int (Int32.ofNat i2))] [])) _
          refine XS.iload X115.here hx rfl (hb hby at_84) rfl ?_
          refine XS.bipush X115.here hx rfl (hb hby at_86) ?_
          show Steps p.tables e below (T115.setTop (mkF m 88 #[.val (.int p1), .val (.int p2), .val (.int p3), .val (.int p4), .val (.int p5), .val (.int (Int32.ofNat nn)), .val (.ref b1), .val (.ref b2), .val (.int (own_ch p3)), .val (.int (own_ch p5)), .val (.int (Int32.ofNat i1)), .val (.int (Int32.ofNat i2))] [(.int (64 : Int32)), (.int (Int32.ofNat i2))])) _
          refine XS.icmpYes X115.here hx rfl (pc0 := 88) (pc' := 98) rfl (hb hby at_88) rfl (flt (fun q => c2 ((own_lt_of (i := i2) (n := 64) (by omega) (by omega)).mp q) : ¬ ((Int32.ofNat i2) < (64 : Int32)))).2.1 (by decide) (by decide) ?_
          show Steps p.tables e below (T115.setTop (mkF m 98 #[.val (.int p1), .val (.int p2), .val (.int p3), .val (.int p4), .val (.int p5), .val (.int (Int32.ofNat nn)), .val (.ref b1), .val (.ref b2), .val (.int (own_ch p3)), .val (.int (own_ch p5)), .val (.int (Int32.ofNat i1)), .val (.int (Int32.ofNat i2))] [])) _
          exact kk⟩
    obtain ⟨T116, h116, L116, X116, e116, N116j, K116j, V116j, st116⟩ := jn116
    have f219 : Arv Z h115 b2 ka2 .char (67 : Int32) ((own_put (List.replicate 67 (0 : Int32)) i1 (nar .char (own_ch p3))).map Value.int) (.int (0 : Int32)) := (V9j.other W115 (Ne.symm (Nat.ne_of_lt (Nat.lt_of_lt_of_le V_b1.lt (Nat.le_of_eq g2.symm)))))
    have CH6 : CHr Z own_EL s.vm h0 s.vm h116 := CH5.trans (CHr.keep K116j (allS (own_safeV (hZ : Z.Warmed39 s.vm).alike f219 (by decide)) all0) CH5.1)
    have K6 : Keep h0 h116 [] := K5.trans K116j (allS (Or.inr sz_b2) all0)
    obtain ⟨cl220, Ar220, q220, S220, N_220, H_220, G220⟩ := id V116j
    obtain ⟨T221, h221, X221, e221, W221, st221⟩ := stC X116 hx hZ e116 Ar220 (j := (64 : Int32)) (inb_of S220 ⟨by decide, by decide⟩) (g := (mkF m 104 #[.val (.int p1), .val (.int p2), .val (.int p3), .val (.int p4), .val (.int p5), .val (.int (Int32.ofNat nn)), .val (.ref b1), .val (.ref b2), .val (.int (own_ch p3)), .val (.int (own_ch p5)), .val (.int (Int32.ofNat i1)), .val (.int (Int32.ofNat i2))] [(.int (46 : Int32)), (.int (64 : Int32)), (.ref b2)])) rfl rfl (hb hby at_104)
    have Va221 := Arv.set Ar220 q220 S220 N_220 H_220 G220 (fits_nar_char _) W221 64 rfl (by rw [List.length_map]; exact (by simp [own_put_len]))
    have Vb221 : Arv Z h221 b2 ka2 .char (67 : Int32) (((own_put (own_put (List.replicate 67 (0 : Int32)) i1 (nar .char (own_ch p3))) i2 (nar .char (own_ch p5))).set 64 (nar .char (46 : Int32))).map Value.int) (.int (0 : Int32)) := by
      rw [List.map_set]; exact Va221
    have Nf221 := Fr.snoc X221 N116j g_b2
    have CH7 : CHr Z own_EL s.vm h0 s.vm h221 := CH6.trans (CHr.wr W221 (own_safeV (hZ : Z.Warmed39 s.vm).alike V116j (by decide)) CH6.1)
    have K7 : Keep h0 h221 [] := K6.wr W221 (Or.inr sz_b2)
    obtain ⟨cl222, Ar222, q222, S222, N_222, H_222, G222⟩ := id Vb221
    obtain ⟨T223, h223, X223, e223, W223, st223⟩ := stC X221 hx hZ e221 Ar222 (j := (65 : Int32)) (inb_of S222 ⟨by decide, by decide⟩) (g := (mkF m 111 #[.val (.int p1), .val (.int p2), .val (.int p3), .val (.int p4), .val (.int p5), .val (.int (Int32.ofNat nn)), .val (.ref b1), .val (.ref b2), .val (.int (own_ch p3)), .val (.int (own_ch p5)), .val (.int (Int32.ofNat i1)), .val (.int (Int32.ofNat i2))] [(.int (46 : Int32)), (.int (65 : Int32)), (.ref b2)])) rfl rfl (hb hby at_111)
    have Va223 := Arv.set Ar222 q222 S222 N_222 H_222 G222 (fits_nar_char _) W223 65 rfl (by rw [List.length_map]; exact (by simp [own_put_len]))
    have Vb223 : Arv Z h223 b2 ka2 .char (67 : Int32) ((((own_put (own_put (List.replicate 67 (0 : Int32)) i1 (nar .char (own_ch p3))) i2 (nar .char (own_ch p5))).set 64 (nar .char (46 : Int32))).set 65 (nar .char (46 : Int32))).map Value.int) (.int (0 : Int32)) := by
      rw [List.map_set]; exact Va223
    have Nf223 := Fr.snoc X223 Nf221 g_b2
    have CH8 : CHr Z own_EL s.vm h0 s.vm h223 := CH7.trans (CHr.wr W223 (own_safeV (hZ : Z.Warmed39 s.vm).alike Vb221 (by decide)) CH7.1)
    have K8 : Keep h0 h223 [] := K7.wr W223 (Or.inr sz_b2)
    obtain ⟨cl224, Ar224, q224, S224, N_224, H_224, G224⟩ := id Vb223
    obtain ⟨T225, h225, X225, e225, W225, st225⟩ := stC X223 hx hZ e223 Ar224 (j := (66 : Int32)) (inb_of S224 ⟨by decide, by decide⟩) (g := (mkF m 118 #[.val (.int p1), .val (.int p2), .val (.int p3), .val (.int p4), .val (.int p5), .val (.int (Int32.ofNat nn)), .val (.ref b1), .val (.ref b2), .val (.int (own_ch p3)), .val (.int (own_ch p5)), .val (.int (Int32.ofNat i1)), .val (.int (Int32.ofNat i2))] [(.int (46 : Int32)), (.int (66 : Int32)), (.ref b2)])) rfl rfl (hb hby at_118)
    have Va225 := Arv.set Ar224 q224 S224 N_224 H_224 G224 (fits_nar_char _) W225 66 rfl (by rw [List.length_map]; exact (by simp [own_put_len]))
    have Vb225 : Arv Z h225 b2 ka2 .char (67 : Int32) (((((own_put (own_put (List.replicate 67 (0 : Int32)) i1 (nar .char (own_ch p3))) i2 (nar .char (own_ch p5))).set 64 (nar .char (46 : Int32))).set 65 (nar .char (46 : Int32))).set 66 (nar .char (46 : Int32))).map Value.int) (.int (0 : Int32)) := by
      rw [List.map_set]; exact Va225
    have Nf225 := Fr.snoc X225 Nf223 g_b2
    have CH9 : CHr Z own_EL s.vm h0 s.vm h225 := CH8.trans (CHr.wr W225 (own_safeV (hZ : Z.Warmed39 s.vm).alike Vb223 (by decide)) CH8.1)
    have K9 : Keep h0 h225 [] := K8.wr W225 (Or.inr sz_b2)
    have hcr : ∀ c ∈ (((List.replicate nn (0 : Int32)).set i1 (nar .char (own_ch p3))).set i2 (nar .char (own_ch p5))), ¬ c < 0 ∧ ¬ (65535 : Int32) < c := own_in_rng (own_rng _) (own_rng _)
    have hlr : (((List.replicate nn (0 : Int32)).set i1 (nar .char (own_ch p3))).set i2 (nar .char (own_ch p5))).length = nn := by simp
    obtain ⟨T226, h226, X226, e226, E226, A226, D226, -, st226⟩ := newO X225 hx hZ hown (wt hw 2 rfl) (wt hw 3 rfl) (wt hw 4 rfl) e225 (g := (mkF m 119 #[.val (.int p1), .val (.int p2), .val (.int p3), .val (.int p4), .val (.int p5), .val (.int (Int32.ofNat nn)), .val (.ref b1), .val (.ref b2), .val (.int (own_ch p3)), .val (.int (own_ch p5)), .val (.int (Int32.ofNat i1)), .val (.int (Int32.ofNat i2))] [])) rfl (hb hby at_119) (by decide) (by decide)
    obtain ⟨b226, g226⟩ : ∃ z, z = h225.size := ⟨_, rfl⟩
    rw [← g226] at A226 D226 st226
    have sz_b226 : h0.size ≤ b226 := Nat.le_trans K9.1 (Nat.le_of_eq g226.symm)
    have g_b226 : n0 ≤ b226 := Nat.le_trans Z0 sz_b226
    have CH10 : CHr Z own_EL s.vm h0 s.vm h226 := CH9.trans (CHr.ext E226 CH9.1)
    have K10 : Keep h0 h226 [] := K9.ext E226
    have F_value_b226 : Fld Z h226 b226 "java/lang/String" "value" "[B" .null := D226 (Or.inr (wt hw 17 rfl)) (ty := (.array .byte)) (by decide)
    have F_coder_b226 : Fld Z h226 b226 "java/lang/String" "coder" "B" (.int (0 : Int32)) := D226 (Or.inr (wt hw 18 rfl)) (ty := .byte) (by decide)
    have Sf226 : Safe Z own_EL s.vm h226 b226 := Safe.ext E226 CH9.1 (Safe.new (Nat.le_of_eq g226.symm))
    have f228 : Old Z n0 h226 := ((((((((((O0.ext E1).ext E2).wr W8 g_b1).keep K9j (allS g_b2 all0)).wr W115 g_b1).keep K116j (allS g_b2 all0)).wr W221 g_b2).wr W223 g_b2).wr W225 g_b2).ext E226)
    have f229 : Arv Z h226 b1 ka1 .char (Int32.ofNat nn) ((((List.replicate nn (0 : Int32)).set i1 (nar .char (own_ch p3))).set i2 (nar .char (own_ch p5))).map Value.int) (.int (0 : Int32)) := (((((Vb115.keep K116j (ninS (Nat.ne_of_lt (Nat.lt_of_lt_of_le V_b1.lt (Nat.le_of_eq g2.symm))) nin0)).other W221 (Nat.ne_of_lt (Nat.lt_of_lt_of_le V_b1.lt (Nat.le_of_eq g2.symm)))).other W223 (Nat.ne_of_lt (Nat.lt_of_lt_of_le V_b1.lt (Nat.le_of_eq g2.symm)))).other W225 (Nat.ne_of_lt (Nat.lt_of_lt_of_le V_b1.lt (Nat.le_of_eq g2.symm)))).ext E226)
    obtain ⟨_, _, ⟨T227, L227, k227, n227⟩, -, X227, ⟨Lc227, hQ227, l227, y227, z227⟩, st227⟩ := X226.specialBack hx (y := m1_) rfl hown (mvT hZ (wt hw 5 rfl)) (mvT hZ (wt hw 6 rfl)) (mvT hZ (wt hw 7 rfl)) (by decide) (backOf (W := 1) (rmI1 l Z a0 hw [] b226 b1 ka1 nn (((List.replicate nn (0 : Int32)).set i1 (nar .char (own_ch p3))).set i2 (nar .char (own_ch p5))) .null (.int (0 : Int32)) h226 n0 (Nat.le_trans Z0 K10.1) A226 F_value_b226 F_coder_b226 g_b226 hG f228 f229 hlr hp hnn hcr) hZ (wt hw 7 rfl) (wt hw 4 rfl) (by decide) (by decide)) (g := (mkF m 125 #[.val (.int p1), .val (.int p2), .val (.int p3), .val (.int p4), .val (.int p5), .val (.int (Int32.ofNat nn)), .val (.ref b1), .val (.ref b2), .val (.int (own_ch p3)), .val (.int (own_ch p5)), .val (.int (Int32.ofNat i1)), .val (.int (Int32.ofNat i2))] [(.ref b1), (.ref b226), (.ref b226)])) rfl (by rw [hml]; rfl) (Steps.refl _) (a := b226) (argsL := [(.ref b1)]) (rest := [(.ref b226)]) (lenOf pd36_ rfl) rfl (by show 2 * 0 + _ ≤ _; exact Nat.le_of_eq rfl) (hb hby at_125) (fun _ _ => ⟨rfl, e226, (by decide : 3 + 2 ≤ _), (by decide : 198 + 387 ≤ _)⟩)
    dsimp only [Pt.U, Pt.locs, Pt.cells, Pt.slots] at X227 l227 y227 z227 st227 hQ227
    rw [l227] at X227
    clear l227; subst y227 z227
    obtain ⟨rfl, N227q, K227q, SV227⟩ := hQ227
    have N227a := Fr.app Nf225 N227q
    have CH11 : CHr Z own_EL s.vm h0 s.vm T227.heap := CH10.trans (CHr.keep K227q (allS Sf226 all0) CH10.1)
    have K11 : Keep h0 T227.heap [] := K10.trans K227q (allS (Or.inr sz_b226) all0)
    have cut230 : ∀ t, Steps p.tables e below (T227.setTop (mkF m 130 #[.val (.int p1), .val (.int p2), .val (.int p3), .val (.int p4), .val (.int p5), .val (.int (Int32.ofNat nn)), .val (.ref b1), .val (.ref b2), .val (.int (own_ch p3)), .val (.int (own_ch p5)), .val (.ref b226), .val (.int (Int32.ofNat i2))] [])) t → Steps p.tables e below (s₁.setTop (mkF m 0 #[.val (.int p1), .val (.int p2), .val (.int p3), .val (.int p4), .val (.int p5), .unset, .unset, .unset, .unset, .unset, .unset, .unset] [])) t := fun t kk => by
      refine cut6 _ ?_
      show Steps p.tables e below (T2.setTop (mkF m 35 #[.val (.int p1), .val (.int p2), .val (.int p3), .val (.int p4), .val (.int p5), .val (.int (Int32.ofNat nn)), .val (.ref b1), .val (.ref b2), .val (.int (own_ch p3)), .val (.int (own_ch p5)), .unset, .unset] [(.int (Int32.ofNat nn))])) _
      refine XS.ifNo X2.here hx rfl (hb hby at_35) rfl ((if0 _ _).trans (tlt ((own_lt_of (i := 0) (n := nn) (by omega) (by omega)).mpr hp : (0 : Int32) < (Int32.ofNat nn))).2.2.2) ?_
      refine XS.iloadN X2.here hx rfl (hb hby at_38) rfl ?_
      show Steps p.tables e below (T2.setTop (mkF m 39 #[.val (.int p1), .val (.int p2), .val (.int p3), .val (.int p4), .val (.int p5), .val (.int (Int32.ofNat nn)), .val (.ref b1), .val (.ref b2), .val (.int (own_ch p3)), .val (.int (own_ch p5)), .unset, .unset] [(.int p2)])) _
      refine X2.ldcInt hx hown (mvT hZ (wt hw 43 rfl)) (g := (mkF m 39 #[.val (.int p1), .val (.int p2), .val (.int p3), .val (.int p4), .val (.int p5), .val (.int (Int32.ofNat nn)), .val (.ref b1), .val (.ref b2), .val (.int (own_ch p3)), .val (.int (own_ch p5)), .unset, .unset] [(.int p2)])) rfl (hb hby at_39) _ ?_
      refine XS.iand X2.here hx rfl (hb hby at_41) rfl ?_
      refine XS.iload X2.here hx rfl (hb hby at_42) rfl ?_
      show Steps p.tables e below (T2.setTop (mkF m 44 #[.val (.int p1), .val (.int p2), .val (.int p3), .val (.int p4), .val (.int p5), .val (.int (Int32.ofNat nn)), .val (.ref b1), .val (.ref b2), .val (.int (own_ch p3)), .val (.int (own_ch p5)), .unset, .unset] [(.int (Int32.ofNat nn)), (.int (p2 &&& (2147483647 : Int32)))])) _
      refine XS.irem X2.here hx rfl (hb hby at_44) rfl (own_nz hp hnn) ?_
      show Steps p.tables e below (T2.setTop (mkF m 45 #[.val (.int p1), .val (.int p2), .val (.int p3), .val (.int p4), .val (.int p5), .val (.int (Int32.ofNat nn)), .val (.ref b1), .val (.ref b2), .val (.int (own_ch p3)), .val (.int (own_ch p5)), .unset, .unset] [(.int ((p2 &&& (2147483647 : Int32)) - ((p2 &&& (2147483647 : Int32)) / (Int32.ofNat nn)) * (Int32.ofNat nn)))])) _
      rw [ei1]
      refine XS.istore X2.here hx rfl (hb hby at_45) rfl (l' := #[.val (.int p1), .val (.int p2), .val (.int p3), .val (.int p4), .val (.int p5), .val (.int (Int32.ofNat nn)), .val (.ref b1), .val (.ref b2), .val (.int (own_ch p3)), .val (.int (own_ch p5)), .val (.int (Int32.ofNat i1)), .unset]) rfl ?_
      refine XS.iloadN X2.here hx rfl (hb hby at_47) rfl ?_
      show Steps p.tables e below (T2.setTop (mkF m 48 #[.val (.int p1), .val (.int p2), .val (.int p3), .val (.int p4), .val (.int p5), .val (.int (Int32.ofNat nn)), .val (.ref b1), .val (.ref b2), .val (.int (own_ch p3)), .val (.int (own_ch p5)), .val (.int (Int32.ofNat i1)), .unset] [(.int p4)])) _
      refine X2.ldcInt hx hown (mvT hZ (wt hw 43 rfl)) (g := (mkF m 48 #[.val (.int p1), .val (.int p2), .val (.int p3), .val (.int p4), .val (.int p5), .val (.int (Int32.ofNat nn)), .val (.ref b1), .val (.ref b2), .val (.int (own_ch p3)), .val (.int (own_ch p5)), .val (.int (Int32.ofNat i1)), .unset] [(.int p4)])) rfl (hb hby at_48) _ ?_
      refine XS.iand X2.here hx rfl (hb hby at_50) rfl ?_
      refine XS.iload X2.here hx rfl (hb hby at_51) rfl ?_
      show Steps p.tables e below (T2.setTop (mkF m 53 #[.val (.int p1), .val (.int p2), .val (.int p3), .val (.int p4), .val (.int p5), .val (.int (Int32.ofNat nn)), .val (.ref b1), .val (.ref b2), .val (.int (own_ch p3)), .val (.int (own_ch p5)), .val (.int (Int32.ofNat i1)), .unset] [(.int (Int32.ofNat nn)), (.int (p4 &&& (2147483647 : Int32)))])) _
      refine XS.irem X2.here hx rfl (hb hby at_53) rfl (own_nz hp hnn) ?_
      show Steps p.tables e below (T2.setTop (mkF m 54 #[.val (.int p1), .val (.int p2), .val (.int p3), .val (.int p4), .val (.int p5), .val (.int (Int32.ofNat nn)), .val (.ref b1), .val (.ref b2), .val (.int (own_ch p3)), .val (.int (own_ch p5)), .val (.int (Int32.ofNat i1)), .unset] [(.int ((p4 &&& (2147483647 : Int32)) - ((p4 &&& (2147483647 : Int32)) / (Int32.ofNat nn)) * (Int32.ofNat nn)))])) _
      rw [ei2]
      refine XS.istore X2.here hx rfl (hb hby at_54) rfl (l' := #[.val (.int p1), .val (.int p2), .val (.int p3), .val (.int p4), .val (.int p5), .val (.int (Int32.ofNat nn)), .val (.ref b1), .val (.ref b2), .val (.int (own_ch p3)), .val (.int (own_ch p5)), .val (.int (Int32.ofNat i1)), .val (.int (Int32.ofNat i2))]) rfl ?_
      refine XS.aload X2.here hx rfl (hb hby at_56) rfl rfl ?_
      refine XS.iload X2.here hx rfl (hb hby at_58) rfl ?_
      refine XS.iload X2.here hx rfl (hb hby at_60) rfl ?_
      show Steps p.tables e below (T2.setTop (mkF m 62 #[.val (.int p1), .val (.int p2), .val (.int p3), .val (.int p4), .val (.int p5), .val (.int (Int32.ofNat nn)), .val (.ref b1), .val (.ref b2), .val (.int (own_ch p3)), .val (.int (own_ch p5)), .val (.int (Int32.ofNat i1)), .val (.int (Int32.ofNat i2))] [(.int (own_ch p3)), (.int (Int32.ofNat i1)), (.ref b1)])) _
      refine st8 _ ?_
      show Steps p.tables e below (T8.setTop (mkF m 63 #[.val (.int p1), .val (.int p2), .val (.int p3), .val (.int p4), .val (.int p5), .val (.int (Int32.ofNat nn)), .val (.ref b1), .val (.ref b2), .val (.int (own_ch p3)), .val (.int (own_ch p5)), .val (.int (Int32.ofNat i1)), .val (.int (Int32.ofNat i2))] [])) _
      refine st9 _ ?_
      show Steps p.tables e below (T9.setTop (mkF m 77 #[.val (.int p1), .val (.int p2), .val (.int p3), .val (.int p4), .val (.int p5), .val (.int (Int32.ofNat nn)), .val (.ref b1), .val (.ref b2), .val (.int (own_ch p3)), .val (.int (own_ch p5)), .val (.int (Int32.ofNat i1)), .val (.int (Int32.ofNat i2))] [])) _
      refine XS.aload X9.here hx rfl (hb hby at_77) rfl rfl ?_
      refine XS.iload X9.here hx rfl (hb hby at_79) rfl ?_
      refine XS.iload X9.here hx rfl (hb hby at_81) rfl ?_
      show Steps p.tables e below (T9.setTop (mkF m 83 #[.val (.int p1), .val (.int p2), .val (.int p3), .val (.int p4), .val (.int p5), .val (.int (Int32.ofNat nn)), .val (.ref b1), .val (.ref b2), .val (.int (own_ch p3)), .val (.int (own_ch p5)), .val (.int (Int32.ofNat i1)), .val (.int (Int32.ofNat i2))] [(.int (own_ch p5)), (.int (Int32.ofNat i2)), (.ref b1)])) _
      refine st115 _ ?_
      show Steps p.tables e below (T115.setTop (mkF m 84 #[.val (.int p1), .val (.int p2), .val (.int p3), .val (.int p4), .val (.int p5), .val (.int (Int32.ofNat nn)), .val (.ref b1), .val (.ref b2), .val (.int (own_ch p3)), .val (.int (own_ch p5)), .val (.int (Int32.ofNat i1)), .val (.int (Int32.ofNat i2))] [])) _
      refine st116 _ ?_
      show Steps p.tables e below (T116.setTop (mkF m 98 #[.val (.int p1), .val (.int p2), .val (.int p3), .val (.int p4), .val (.int p5), .val (.int (Int32.ofNat nn)), .val (.ref b1), .val (.ref b2), .val (.int (own_ch p3)), .val (.int (own_ch p5)), .val (.int (Int32.ofNat i1)), .val (.int (Int32.ofNat i2))] [])) _
      refine XS.aload X116.here hx rfl (hb hby at_98) rfl rfl ?_
      refine XS.bipush X116.here hx rfl (hb hby at_100) ?_
      refine XS.bipush X116.here hx rfl (hb hby at_102) ?_
      show Steps p.tables e below (T116.setTop (mkF m 104 #[.val (.int p1), .val (.int p2), .val (.int p3), .val (.int p4), .val (.int p5), .val (.int (Int32.ofNat nn)), .val (.ref b1), .val (.ref b2), .val (.int (own_ch p3)), .val (.int (own_ch p5)), .val (.int (Int32.ofNat i1)), .val (.int (Int32.ofNat i2))] [(.int (46 : Int32)), (.int (64 : Int32)), (.ref b2)])) _
      refine st221 _ ?_
      refine XS.aload X221.here hx rfl (hb hby at_105) rfl rfl ?_
      refine XS.bipush X221.here hx rfl (hb hby at_107) ?_
      refine XS.bipush X221.here hx rfl (hb hby at_109) ?_
      show Steps p.tables e below (T221.setTop (mkF m 111 #[.val (.int p1), .val (.int p2), .val (.int p3), .val (.int p4), .val (.int p5), .val (.int (Int32.ofNat nn)), .val (.ref b1), .val (.ref b2), .val (.int (own_ch p3)), .val (.int (own_ch p5)), .val (.int (Int32.ofNat i1)), .val (.int (Int32.ofNat i2))] [(.int (46 : Int32)), (.int (65 : Int32)), (.ref b2)])) _
      refine st223 _ ?_
      refine XS.aload X223.here hx rfl (hb hby at_112) rfl rfl ?_
      refine XS.bipush X223.here hx rfl (hb hby at_114) ?_
      refine XS.bipush X223.here hx rfl (hb hby at_116) ?_
      show Steps p.tables e below (T223.setTop (mkF m 118 #[.val (.int p1), .val (.int p2), .val (.int p3), .val (.int p4), .val (.int p5), .val (.int (Int32.ofNat nn)), .val (.ref b1), .val (.ref b2), .val (.int (own_ch p3)), .val (.int (own_ch p5)), .val (.int (Int32.ofNat i1)), .val (.int (Int32.ofNat i2))] [(.int (46 : Int32)), (.int (66 : Int32)), (.ref b2)])) _
      refine st225 _ ?_
      show Steps p.tables e below (T225.setTop (mkF m 119 #[.val (.int p1), .val (.int p2), .val (.int p3), .val (.int p4), .val (.int p5), .val (.int (Int32.ofNat nn)), .val (.ref b1), .val (.ref b2), .val (.int (own_ch p3)), .val (.int (own_ch p5)), .val (.int (Int32.ofNat i1)), .val (.int (Int32.ofNat i2))] [])) _
      refine st226 _ ?_
      refine XS.dup X226.here hx rfl (hb hby at_122) rfl rfl ?_
      refine XS.aload X226.here hx rfl (hb hby at_123) rfl rfl ?_
      show Steps p.tables e below (T226.setTop (mkF m 125 #[.val (.int p1), .val (.int p2), .val (.int p3), .val (.int p4), .val (.int p5), .val (.int (Int32.ofNat nn)), .val (.ref b1), .val (.ref b2), .val (.int (own_ch p3)), .val (.int (own_ch p5)), .val (.int (Int32.ofNat i1)), .val (.int (Int32.ofNat i2))] [(.ref b1), (.ref b226), (.ref b226)])) _
      refine st227.trans ?_
      refine XS.astore X227.here hx rfl (hb hby at_128) rfl rfl (l' := #[.val (.int p1), .val (.int p2), .val (.int p3), .val (.int p4), .val (.int p5), .val (.int (Int32.ofNat nn)), .val (.ref b1), .val (.ref b2), .val (.int (own_ch p3)), .val (.int (own_ch p5)), .val (.ref b226), .val (.int (Int32.ofNat i2))]) rfl ?_
      exact kk
    by_cases hnb : nn ≤ 64
    · have f232 : Old Z n0 T227.heap := (f228.keep K227q (allS g_b226 all0))
      obtain ⟨_, _, ⟨T231, L231, k231, n231⟩, -, X231, ⟨Lc231, hQ231, l231, y231, z231⟩, st231⟩ := Jvm.LawKit.callS X227 hx (y := m51_) hown (mvT hZ (wt hw 23 rfl)) (mvT hZ (wt hw 24 rfl)) (mvT hZ (wt hw 25 rfl)) (mvT hZ (wt hw 26 rfl)) (by decide) (backOf (W := 0) (rmAb0 l Z a0 hw [] b226 (((List.replicate nn (0 : Int32)).set i1 (nar .char (own_ch p3))).set i2 (nar .char (own_ch p5))) T227.heap n0 (Nat.le_trans Z0 K11.1) hG f232 SV227 (by rw [hlr]; exact hnb)) hZ (wt hw 26 rfl) (wt hw 25 rfl) (by decide) (by decide)) (g := (mkF m 132 #[.val (.int p1), .val (.int p2), .val (.int p3), .val (.int p4), .val (.int p5), .val (.int (Int32.ofNat nn)), .val (.ref b1), .val (.ref b2), .val (.int (own_ch p3)), .val (.int (own_ch p5)), .val (.ref b226), .val (.int (Int32.ofNat i2))] [(.ref b226)])) rfl (by rw [hml]; rfl) (argsL := [(.ref b226)]) (rest := []) (lenOf pd37_ rfl) rfl (by show 2 * 0 + _ ≤ _; exact Nat.le_of_eq rfl) (hb hby at_132) (fun _ _ => ⟨rfl, rfl, (by decide : 5 + 0 ≤ _), (by decide : 585 + 0 ≤ _)⟩)
      dsimp only [Pt.U, Pt.locs, Pt.cells, Pt.slots] at X231 l231 y231 z231 st231 hQ231
      rw [l231] at X231
      clear l231; subst y231 z231
      obtain ⟨rfl, N231q, e231q⟩ := hQ231
      have N231a := Fr.app N227a N231q
      obtain ⟨sb234, sk234, sd234, sN234, sv234, sE234, sV234, sC234, sA234, sc234, su234⟩ := id SV227
      obtain ⟨sb235, sk235, sd235, sN235, sv235, sE235, sV235, sC235, sA235, sc235, su235⟩ := id SV227
      obtain ⟨cq233, kq233, q233a, q233b, q233c⟩ := isOf hZ e231q SV227.exa
      obtain ⟨_, _, ⟨T233, L233, k233, n233⟩, -, X233, ⟨Lc233, hQ233, l233, y233, z233⟩, st233⟩ := X231.virtualBack hx (y := m52_) (z := m52_) hown (mvT hZ (wt hw 38 rfl)) (mvT hZ (wt hw 39 rfl)) (notFace_of_selects (args := #[]) (mvT hZ (wt hw 41 rfl))) (mvT hZ (wt hw 41 rfl)) (mvT hZ (wt hw 40 rfl)) (by decide) (own_monoE (StrChars.Road.eqW (W := 0) hZ (own_heq hw) (kI := 4) (wt hw 3 rfl) sE234 sV234 sC234 sA234 sc234 su234 (by rw [hlr]; omega) sE235 sV235 sC235 sA235 sc235 su235 (by rw [hlr]; omega) (O2.ext f232.2) P5 (by decide) (by decide)) rfl) q233a q233c (g := (mkF m 148 #[.val (.int p1), .val (.int p2), .val (.int p3), .val (.int p4), .val (.int p5), .val (.int (Int32.ofNat nn)), .val (.ref b1), .val (.ref b2), .val (.int (own_ch p3)), .val (.int (own_ch p5)), .val (.ref b226), .val (.ref b226)] [(.ref b226), (.ref b226)])) rfl (by rw [hml]; rfl) (Steps.refl _) (argsL := [(.ref b226)]) (rest := []) (lenOf pd38_ rfl) rfl (by show 2 * 0 + _ ≤ _; exact Nat.le_of_eq rfl) (hb hby at_148) (fun _ _ => ⟨rfl, e231q, (by decide : 5 + 0 ≤ _), (by decide : 585 + 0 ≤ _)⟩)
      dsimp only [Pt.U, Pt.locs, Pt.cells, Pt.slots] at X233 l233 y233 z233 st233 hQ233
      rw [l233] at X233
      clear l233; subst y233 z233
      obtain ⟨rfl, rfl, e233q⟩ := hQ233
      have N233a := Fr.app N231a (Fr.nil n0)
      obtain ⟨fs, hr, hrun, hended, hend⟩ := X233.leaveW hS0 (by rw [e233q]; exact (Nat.zero_le _)) (v := some (.int (1 : Int32))) (fun h => by rw [Bd.returns] at h; cases h)
      refine ⟨_, _, pre0 _ ?_, hrun, hended, _, _, rfl, ?_, ?_, hend.1, hend.2.1, hend.2.2.1, hend.2.2.2.mono (by decide) (by decide)⟩
      · refine cut230 _ ?_
        refine XS.aload X227.here hx rfl (hb hby at_130) rfl rfl ?_
        show Steps p.tables e below (T227.setTop (mkF m 132 #[.val (.int p1), .val (.int p2), .val (.int p3), .val (.int p4), .val (.int p5), .val (.int (Int32.ofNat nn)), .val (.ref b1), .val (.ref b2), .val (.int (own_ch p3)), .val (.int (own_ch p5)), .val (.ref b226), .val (.int (Int32.ofNat i2))] [(.ref b226)])) _
        refine st231 _ ?_
        refine XS.astore X231.here hx rfl (hb hby at_135) rfl rfl (l' := #[.val (.int p1), .val (.int p2), .val (.int p3), .val (.int p4), .val (.int p5), .val (.int (Int32.ofNat nn)), .val (.ref b1), .val (.ref b2), .val (.int (own_ch p3)), .val (.int (own_ch p5)), .val (.ref b226), .val (.ref b226)]) rfl ?_
        refine XS.iload X231.here hx rfl (hb hby at_137) rfl ?_
        refine XS.bipush X231.here hx rfl (hb hby at_139) ?_
        show Steps p.tables e below (T231.setTop (mkF m 141 #[.val (.int p1), .val (.int p2), .val (.int p3), .val (.int p4), .val (.int p5), .val (.int (Int32.ofNat nn)), .val (.ref b1), .val (.ref b2), .val (.int (own_ch p3)), .val (.int (own_ch p5)), .val (.ref b226), .val (.ref b226)] [(.int (64 : Int32)), (.int (Int32.ofNat nn))])) _
        refine XS.icmpNo X231.here hx rfl (hb hby at_141) rfl (flt (fun q => by have := (own_lt_of (i := 64) (n := nn) (by omega) (by omega)).mp q; omega : ¬ ((64 : Int32) < (Int32.ofNat nn)))).2.2.1 ?_
        refine XS.aload X231.here hx rfl (hb hby at_144) rfl rfl ?_
        refine XS.aload X231.here hx rfl (hb hby at_146) rfl rfl ?_
        show Steps p.tables e below (T231.setTop (mkF m 148 #[.val (.int p1), .val (.int p2), .val (.int p3), .val (.int p4), .val (.int p5), .val (.int (Int32.ofNat nn)), .val (.ref b1), .val (.ref b2), .val (.int (own_ch p3)), .val (.int (own_ch p5)), .val (.ref b226), .val (.ref b226)] [(.ref b226), (.ref b226)])) _
        refine st233.trans ?_
        show Steps p.tables e below (T233.setTop (mkF m 151 #[.val (.int p1), .val (.int p2), .val (.int p3), .val (.int p4), .val (.int p5), .val (.int (Int32.ofNat nn)), .val (.ref b1), .val (.ref b2), .val (.int (own_ch p3)), .val (.int (own_ch p5)), .val (.ref b226), .val (.ref b226)] [(.int (1 : Int32))])) _
        exact retN X233 hx (t := .boolean) Bd.returns (by simp) (hb hby at_151) hr
      · show Q0 n0 _ T233.heap _
        rw [e233q]
        exact ⟨rfl, N233a⟩
      · show CHr Z own_EL s.vm s.heap T233.vm T233.heap
        rw [hh, e233q]
        exact CH11.trans (CHv.at X233 hZ hEL CH11.1)
    · have f232 : Old Z n0 T227.heap := (f228.keep K227q (allS g_b226 all0))
      obtain ⟨_, _, ⟨T231, L231, k231, n231⟩, -, X231', hs231, hg231, ⟨Lc231, hQ231, l231, y231, z231, C231⟩, st231⟩ := callSS X227 hx (y := m51_) hown (mvT hZ (wt hw 23 rfl)) (mvT hZ (wt hw 24 rfl)) (mvT hZ (wt hw 25 rfl)) (mvT hZ (wt hw 26 rfl)) (by decide) (backOfSH (W := 0) (rmAb l Z a0 hw [] hEL b226 (((List.replicate nn (0 : Int32)).set i1 (nar .char (own_ch p3))).set i2 (nar .char (own_ch p5))) T227.heap n0 (Nat.le_trans Z0 K11.1) hG f232 SV227 (by rw [hlr]; omega) (by rw [hlr]; exact hnn) hcr) hZ (wt hw 26 rfl) (wt hw 25 rfl) (by decide) (by decide) hEL CH11.1) (g := (mkF m 132 #[.val (.int p1), .val (.int p2), .val (.int p3), .val (.int p4), .val (.int p5), .val (.int (Int32.ofNat nn)), .val (.ref b1), .val (.ref b2), .val (.int (own_ch p3)), .val (.int (own_ch p5)), .val (.ref b226), .val (.int (Int32.ofNat i2))] [(.ref b226)])) rfl (by rw [hml]; rfl) (argsL := [(.ref b226)]) (rest := []) (lenOf pd37_ rfl) rfl (by show 2 * 0 + _ ≤ _; exact Nat.le_of_eq rfl) (hb hby at_132) (fun _ _ => ⟨rfl, rfl, (by decide : 5 + 13 ≤ _), (by decide : 585 + 1416 ≤ _)⟩)
      dsimp only [Pt.U, Pt.locs, Pt.cells, Pt.slots] at X231' l231 y231 z231 st231 hQ231 C231 hs231 hg231
      rw [l231] at X231'
      clear l231; subst y231 z231
      obtain ⟨X231, hS231, hZ231, hown231⟩ := rebS hS0 (Nat.zero_le _) X231' hs231 hg231 hZ hown
      obtain ⟨r231, rfl, N231q, K231q, SV231⟩ := hQ231
      have N231a := Fr.app N227a N231q
      have CH12 : CHr Z own_EL s.vm h0 T231.vm T231.heap := CH11.trans C231
      have K12 : Keep h0 T231.heap [] := K11.trans K231q all0
      obtain ⟨T233, h233, X233, e233, E233, A233, D233, -, st233⟩ := newO X231 hx hZ231 hown231 (wt hw 2 rfl) (wt hw 3 rfl) (wt hw 4 rfl) rfl (g := (mkF m 154 #[.val (.int p1), .val (.int p2), .val (.int p3), .val (.int p4), .val (.int p5), .val (.int (Int32.ofNat nn)), .val (.ref b1), .val (.ref b2), .val (.int (own_ch p3)), .val (.int (own_ch p5)), .val (.ref b226), .val (.ref r231)] [(.ref r231)])) rfl (hb hby at_154) (by decide) (by decide)
      obtain ⟨b233, g233⟩ : ∃ z, z = T231.heap.size := ⟨_, rfl⟩
      rw [← g233] at A233 D233 st233
      have sz_b233 : h0.size ≤ b233 := Nat.le_trans K12.1 (Nat.le_of_eq g233.symm)
      have g_b233 : n0 ≤ b233 := Nat.le_trans Z0 sz_b233
      have CH13 : CHr Z own_EL s.vm h0 T231.vm h233 := CH12.trans (CHr.ext E233 CH12.1)
      have K13 : Keep h0 h233 [] := K12.ext E233
      have F_value_b233 : Fld Z h233 b233 "java/lang/String" "value" "[B" .null := D233 (Or.inr (wt hw 17 rfl)) (ty := (.array .byte)) (by decide)
      have F_coder_b233 : Fld Z h233 b233 "java/lang/String" "coder" "B" (.int (0 : Int32)) := D233 (Or.inr (wt hw 18 rfl)) (ty := .byte) (by decide)
      have Sf233 : Safe Z own_EL T231.vm h233 b233 := Safe.ext E233 CH12.1 (Safe.new (Nat.le_of_eq g233.symm))
      have f235 : Arv Z h233 b2 ka2 .char (67 : Int32) (((((own_put (own_put (List.replicate 67 (0 : Int32)) i1 (nar .char (own_ch p3))) i2 (nar .char (own_ch p5))).set 64 (nar .char (46 : Int32))).set 65 (nar .char (46 : Int32))).set 66 (nar .char (46 : Int32))).map Value.int) (.int (0 : Int32)) := ((((Vb225.ext E226).keep K227q (ninS (Nat.ne_of_lt (Nat.lt_of_lt_of_le Vb225.lt (Nat.le_of_eq g226.symm))) nin0)).keep K231q nin0).ext E233)
      have Vc234 : Arv Z h233 b2 ka2 .char (Int32.ofNat 67) (((((List.replicate nn (0 : Int32)).set i1 (nar .char (own_ch p3))).set i2 (nar .char (own_ch p5))).take 64 ++ own_dots).map Value.int) (.int (0 : Int32)) := by
        have q := f235
        rw [own_cutlaw (n := nn) (by omega)] at q; exact q
      have hl2 : ((((List.replicate nn (0 : Int32)).set i1 (nar .char (own_ch p3))).set i2 (nar .char (own_ch p5))).take 64 ++ own_dots).length = 67 := by rw [List.length_append, List.length_take, hlr, Nat.min_eq_left (by omega)]; rfl
      have f237 : Old Z n0 h233 := ((f232.keep K231q all0).ext E233)
      obtain ⟨_, _, ⟨T236, L236, k236, n236⟩, -, X236, ⟨Lc236, hQ236, l236, y236, z236⟩, st236⟩ := X233.specialBack hx (y := m1_) rfl hown231 (mvT hZ231 (wt hw 5 rfl)) (mvT hZ231 (wt hw 6 rfl)) (mvT hZ231 (wt hw 7 rfl)) (by decide) (backOf (W := 2) (rmI1 l Z a0 hw [] b233 b2 ka2 67 ((((List.replicate nn (0 : Int32)).set i1 (nar .char (own_ch p3))).set i2 (nar .char (own_ch p5))).take 64 ++ own_dots) .null (.int (0 : Int32)) h233 n0 (Nat.le_trans Z0 K13.1) A233 F_value_b233 F_coder_b233 g_b233 hG f237 Vc234 hl2 (by decide) (by decide) (own_td hcr)) hZ231 (wt hw 7 rfl) (wt hw 4 rfl) (by decide) (by decide)) (g := (mkF m 160 #[.val (.int p1), .val (.int p2), .val (.int p3), .val (.int p4), .val (.int p5), .val (.int (Int32.ofNat nn)), .val (.ref b1), .val (.ref b2), .val (.int (own_ch p3)), .val (.int (own_ch p5)), .val (.ref b226), .val (.ref r231)] [(.ref b2), (.ref b233), (.ref b233), (.ref r231)])) rfl (by rw [hml]; rfl) (Steps.refl _) (a := b233) (argsL := [(.ref b2)]) (rest := [(.ref b233), (.ref r231)]) (lenOf pd36_ rfl) rfl (by show 2 * 0 + _ ≤ _; exact Nat.le_of_eq rfl) (hb hby at_160) (fun _ _ => ⟨rfl, e233, (by decide : 19 + 2 ≤ _), (by decide : 2005 + 387 ≤ _)⟩)
      dsimp only [Pt.U, Pt.locs, Pt.cells, Pt.slots] at X236 l236 y236 z236 st236 hQ236
      rw [l236] at X236
      clear l236; subst y236 z236
      obtain ⟨rfl, N236q, K236q, SV236⟩ := hQ236
      have N236a := Fr.app N231a N236q
      have CH14 : CHr Z own_EL s.vm h0 T231.vm T236.heap := CH13.trans (CHr.keep K236q (allS Sf233 all0) CH13.1)
      have f240 : StrU Z T236.heap r231 ((((List.replicate nn (0 : Int32)).set i1 (nar .char (own_ch p3))).set i2 (nar .char (own_ch p5))).take 64 ++ own_dots) := (SV231.keep (((Keep.refl T231.heap []).ext E233).trans K236q (allS (Or.inr (Nat.le_trans (Keep.refl T231.heap []).1 (Nat.le_of_eq g233.symm))) all0)) all0)
      obtain ⟨sb239, sk239, sd239, sN239, sv239, sE239, sV239, sC239, sA239, sc239, su239⟩ := id f240
      obtain ⟨sb241, sk241, sd241, sN241, sv241, sE241, sV241, sC241, sA241, sc241, su241⟩ := id SV236
      have f242 : Old Z n0 T236.heap := (f237.keep K236q (allS g_b233 all0))
      obtain ⟨cq238, kq238, q238a, q238b, q238c⟩ := isOf hZ231 rfl f240.exa
      obtain ⟨_, _, ⟨T238, L238, k238, n238⟩, -, X238, ⟨Lc238, hQ238, l238, y238, z238⟩, st238⟩ := X236.virtualBack hx (y := m52_) (z := m52_) hown231 (mvT hZ231 (wt hw 38 rfl)) (mvT hZ231 (wt hw 39 rfl)) (notFace_of_selects (args := #[]) (mvT hZ231 (wt hw 41 rfl))) (mvT hZ231 (wt hw 41 rfl)) (mvT hZ231 (wt hw 40 rfl)) (by decide) (own_monoE (StrChars.Road.eqW (W := 0) hZ231 (own_heq hw) (kI := 4) (wt hw 3 rfl) sE239 sV239 sC239 sA239 sc239 su239 (by rw [hl2]; decide) sE241 sV241 sC241 sA241 sc241 su241 (by rw [hl2]; decide) (O2.ext f242.2) P5 (by decide) (by decide)) rfl) q238a q238c (g := (mkF m 163 #[.val (.int p1), .val (.int p2), .val (.int p3), .val (.int p4), .val (.int p5), .val (.int (Int32.ofNat nn)), .val (.ref b1), .val (.ref b2), .val (.int (own_ch p3)), .val (.int (own_ch p5)), .val (.ref b226), .val (.ref r231)] [(.ref b233), (.ref r231)])) rfl (by rw [hml]; rfl) (Steps.refl _) (argsL := [(.ref b233)]) (rest := []) (lenOf pd38_ rfl) rfl (by show 2 * 0 + _ ≤ _; exact Nat.le_of_eq rfl) (hb hby at_163) (fun _ _ => ⟨rfl, rfl, (by decide : 21 + 0 ≤ _), (by decide : 2392 + 0 ≤ _)⟩)
      dsimp only [Pt.U, Pt.locs, Pt.cells, Pt.slots] at X238 l238 y238 z238 st238 hQ238
      rw [l238] at X238
      clear l238; subst y238 z238
      obtain ⟨rfl, rfl, e238q⟩ := hQ238
      have N238a := Fr.app N236a (Fr.nil n0)
      have hk_243 := Nat.le_trans (Nat.le_refl _) (((Keep.refl T231.heap []).ext E233).trans K236q (allS (Or.inr (Nat.le_trans (Keep.refl T231.heap []).1 (Nat.le_of_eq g233.symm))) all0)).1
      obtain ⟨fs, hr, hrun, hended, hend⟩ := X238.leaveW hS231 (by rw [e238q]; exact hk_243) (v := some (.int (1 : Int32))) (fun h => by rw [Bd.returns] at h; cases h)
      refine ⟨_, _, pre0 _ ?_, hrun, hended, _, _, rfl, ?_, ?_, hend.1, hend.2.1, hend.2.2.1, hend.2.2.2.mono (by decide) (by decide)⟩
      · refine cut230 _ ?_
        refine XS.aload X227.here hx rfl (hb hby at_130) rfl rfl ?_
        show Steps p.tables e below (T227.setTop (mkF m 132 #[.val (.int p1), .val (.int p2), .val (.int p3), .val (.int p4), .val (.int p5), .val (.int (Int32.ofNat nn)), .val (.ref b1), .val (.ref b2), .val (.int (own_ch p3)), .val (.int (own_ch p5)), .val (.ref b226), .val (.int (Int32.ofNat i2))] [(.ref b226)])) _
        refine st231.trans ?_
        refine XS.astore X231.here hx rfl (hb hby at_135) rfl rfl (l' := #[.val (.int p1), .val (.int p2), .val (.int p3), .val (.int p4), .val (.int p5), .val (.int (Int32.ofNat nn)), .val (.ref b1), .val (.ref b2), .val (.int (own_ch p3)), .val (.int (own_ch p5)), .val (.ref b226), .val (.ref r231)]) rfl ?_
        refine XS.iload X231.here hx rfl (hb hby at_137) rfl ?_
        refine XS.bipush X231.here hx rfl (hb hby at_139) ?_
        show Steps p.tables e below (T231.setTop (mkF m 141 #[.val (.int p1), .val (.int p2), .val (.int p3), .val (.int p4), .val (.int p5), .val (.int (Int32.ofNat nn)), .val (.ref b1), .val (.ref b2), .val (.int (own_ch p3)), .val (.int (own_ch p5)), .val (.ref b226), .val (.ref r231)] [(.int (64 : Int32)), (.int (Int32.ofNat nn))])) _
        refine XS.icmpYes X231.here hx rfl (pc0 := 141) (pc' := 152) rfl (hb hby at_141) rfl (tlt ((own_lt_of (i := 64) (n := nn) (by omega) (by omega)).mpr (by omega) : (64 : Int32) < (Int32.ofNat nn))).2.2.1 (by decide) (by decide) ?_
        refine XS.aload X231.here hx rfl (hb hby at_152) rfl rfl ?_
        show Steps p.tables e below (T231.setTop (mkF m 154 #[.val (.int p1), .val (.int p2), .val (.int p3), .val (.int p4), .val (.int p5), .val (.int (Int32.ofNat nn)), .val (.ref b1), .val (.ref b2), .val (.int (own_ch p3)), .val (.int (own_ch p5)), .val (.ref b226), .val (.ref r231)] [(.ref r231)])) _
        refine st233 _ ?_
        refine XS.dup X233.here hx rfl (hb hby at_157) rfl rfl ?_
        refine XS.aload X233.here hx rfl (hb hby at_158) rfl rfl ?_
        show Steps p.tables e below (T233.setTop (mkF m 160 #[.val (.int p1), .val (.int p2), .val (.int p3), .val (.int p4), .val (.int p5), .val (.int (Int32.ofNat nn)), .val (.ref b1), .val (.ref b2), .val (.int (own_ch p3)), .val (.int (own_ch p5)), .val (.ref b226), .val (.ref r231)] [(.ref b2), (.ref b233), (.ref b233), (.ref r231)])) _
        refine st236.trans ?_
        show Steps p.tables e below (T236.setTop (mkF m 163 #[.val (.int p1), .val (.int p2), .val (.int p3), .val (.int p4), .val (.int p5), .val (.int (Int32.ofNat nn)), .val (.ref b1), .val (.ref b2), .val (.int (own_ch p3)), .val (.int (own_ch p5)), .val (.ref b226), .val (.ref r231)] [(.ref b233), (.ref r231)])) _
        refine st238.trans ?_
        show Steps p.tables e below (T238.setTop (mkF m 166 #[.val (.int p1), .val (.int p2), .val (.int p3), .val (.int p4), .val (.int p5), .val (.int (Int32.ofNat nn)), .val (.ref b1), .val (.ref b2), .val (.int (own_ch p3)), .val (.int (own_ch p5)), .val (.ref b226), .val (.ref r231)] [(.int (1 : Int32))])) _
        exact retN X238 hx (t := .boolean) Bd.returns (by simp) (hb hby at_166) hr
      · show Q0 n0 _ T238.heap _
        rw [e238q]
        exact ⟨rfl, N238a⟩
      · show CHr Z own_EL s.vm s.heap T238.vm T238.heap
        rw [hh, e238q]
        exact CH14.trans (CHv.at X238 hZ231 hEL CH14.1)
theorem comes_1 {Post : Tables → Env → Array Value → State → Outcome → State → Prop} (hpost : ∀ tb e args s v u, (limb_1_1.after args s (.returned v) u = true ∧ limb_1_2.after args s (.returned v) u = true ∧ True) → ReturnedEndW s (.returned v) u (Jvm.fieldLocs frame_1_writes args s ++ Jvm.arrayLocs frame_1_arrays args s ++ Jvm.staticLocs frame_1_statics s) 48 5312 → Post tb e args s (.returned v) u) :
    ArmFor flags0 classFile x code maxLocals ret World_1 tables_1 room_1 Calls_1 rest_1 Pre_1 Post := by
  intro l hfl _ _ p e ha hc hk s m args below hf hA hF happ hP
  obtain ⟨hcalls, hrest, hpre⟩ := hP
  obtain ⟨-, -, -, hnamed, -, -, -, hat⟩ := (Spec.applies_iff hf).mp happ
  obtain ⟨hg, hn⟩ := and_e (Cond.before_iff.mp (show (Jvm.Cond.and given_1 narrow_1).before args s = true from hpre))
  obtain ⟨g1, g2⟩ := and_e hg
  obtain ⟨g3, g4⟩ := and_e g2
  obtain ⟨g5, g6⟩ := and_e g4
  obtain ⟨g7, g8⟩ := and_e g6
  obtain ⟨g9, g10⟩ := and_e g8
  obtain ⟨w0, w1, w2, w3, w4, rfl⟩ : ∃ w0 w1 w2 w3 w4 : Value, args = #[w0, w1, w2, w3, w4] := by
    have hs : args.size = 5 := by simpa [Cond.value, given_1] using g1
    obtain ⟨L⟩ := args
    match L, hs with
    | [w0, w1, w2, w3, w4], _ => exact ⟨w0, w1, w2, w3, w4, rfl⟩
  have hw := fun d (hd : d ∈ tables_1) => atoms_spec (ws := Jvm.Cond.code x code maxLocals ret :: tables_1) hat d (List.mem_cons_of_mem _ hd)
  obtain ⟨hsets, hown0⟩ := atoms_of _ (rest_1_c_eq ▸ (show rest_1_c.before _ s = true from hrest))
  obtain ⟨i0, ei0⟩ := is_v g3
  obtain rfl : w0 = (.int i0) := Option.some.inj ei0
  obtain ⟨i1, ei1⟩ := is_v g5
  obtain rfl : w1 = (.int i1) := Option.some.inj ei1
  obtain ⟨i2, ei2⟩ := is_v g7
  obtain rfl : w2 = (.int i2) := Option.some.inj ei2
  obtain ⟨i3, ei3⟩ := is_v g9
  obtain rfl : w3 = (.int i3) := Option.some.inj ei3
  obtain ⟨i4, ei4⟩ := is_v g10
  obtain rfl : w4 = (.int i4) := Option.some.inj ei4
  have n5 := not_v (Cond.before_iff.mp (hsets _ (List.mem_of_getElem? (i := 2) rfl)))
  obtain ⟨i11, e10⟩ := is_v (Cond.before_iff.mp (hsets _ (List.mem_of_getElem? (i := 1) rfl)))
  have S12 : Sta s s.heap "java/lang/String" "COMPACT_STRINGS" "Z" (.int i11) := Sta.start e10 (Or.inl (hsets _ (List.mem_of_getElem? (i := 0) rfl)))
  have c17 : ¬ (i11 = (0 : Int32)) := gotF (Cond.eq_ints e10 (Term.int_eval (0))) n5
  obtain ⟨v13, e14, r15⟩ := isR_v (Cond.before_iff.mp (hsets _ (List.mem_of_getElem? (i := 8) rfl)))
  have S16 : Sta s s.heap "jdk/internal/util/Preconditions" "SIOOBE_FORMATTER" "Ljava/util/function/BiFunction;" v13 := Sta.start e14 (Or.inl (hsets _ (List.mem_of_getElem? (i := 7) rfl)))
  have u12 : Sta s s.heap "java/lang/StringUTF16" "$assertionsDisabled" "Z" (.int (1 : Int32)) := Sta.start (eqv_i (Term.int_eval (1)) (Cond.before_iff.mp (hsets _ (List.mem_of_getElem? (i := 12) rfl)))) (Or.inl (hsets _ (List.mem_of_getElem? (i := 11) rfl)))
  have u15 : Sta s s.heap "java/lang/StringUTF16" "HI_BYTE_SHIFT" "I" (.int (0 : Int32)) := Sta.start (eqv_i (Term.int_eval (0)) (Cond.before_iff.mp (hsets _ (List.mem_of_getElem? (i := 15) rfl)))) (Or.inl (hsets _ (List.mem_of_getElem? (i := 14) rfl)))
  have u18 : Sta s s.heap "java/lang/StringUTF16" "LO_BYTE_SHIFT" "I" (.int (8 : Int32)) := Sta.start (eqv_i (Term.int_eval (8)) (Cond.before_iff.mp (hsets _ (List.mem_of_getElem? (i := 18) rfl)))) (Or.inl (hsets _ (List.mem_of_getElem? (i := 17) rfl)))
  have hG : GST s := ⟨⟨i11, S12, c17⟩, ⟨v13, S16, r15⟩, u12, u15, u18⟩
  have hEL : EW s _ own_EL := (EW.cons (wt hw 188 rfl) (by decide +kernel) (EW.cons (wt hw 15 rfl) (by decide +kernel) EW.nil))
  have hCH : CHv s own_EL s.vm s.heap := CHv.start hEL (fun p hp => hcalls.1 p hp) (hsets _ (List.mem_of_getElem? (i := 2) rfl)) (own_wS hw _ (by simp [Bundle.stringAtoms])) (own_wS hw _ (by simp [Bundle.stringAtoms, Bundle.sN]))
  obtain ⟨n, o, h1, h2, h3, _, L, rfl, ⟨rfl, N⟩, hch, hq⟩ := rm0 l s _ hw tables_1 hEL i0 i1 i2 i3 i4 s.heap s.heap.size (Nat.le_refl _) hG (Old.start s) p e ha hc hk s m _ below hf ((Spec.applies_iff_loose hf).mp happ).1 ⟨rfl, State.Warmed39.refl s, rfl, hCH⟩ trivial
  exact ⟨n, _, h1, h2, h3, hpost _ _ _ _ _ _ ⟨Cond.after_iff.mpr rfl, Cond.after_iff.mpr (eq_i res_at (Term.int_eval (1)) rfl), trivial⟩ ⟨hq.1, hq.2.1, hq.2.2.1, (hq.2.2.2.sift fun y hy => Or.inr (N y hy)).mono (by decide) (by decide)⟩⟩
theorem main_1_1 : Claimed_1_1 := comes_1 fun _ _ _ _ _ _ h hF => ⟨h.1, hF⟩
theorem main_1_2 : Claimed_1_2 := comes_1 fun _ _ _ _ _ _ h hF => ⟨h.2.1, hF⟩
end Jvm.Pilot.@@N@@
namespace Jvm.Pilot.@@N@@
open Jvm Jvm.ClassFile Sem Op Lib Jvm.Free Jvm.Stand Jvm.Pilot.@@N@@.Jvm.D
/-! MADE BY PROGRAM (witnessworld.py) out of the Statement's table words and the real class files: 26 classes; the members and pool entries that the words name. The judged class is class 1, her method 1. -/
namespace start1
open Jvm.ClassFile
def u (s : String) : CpInfo := .utf8 (stringToUtf16 s)
/-- a pool by its gaps: so many unusable entries, then the entry; so many at the end -/
def gap : Nat → List CpInfo → List CpInfo
  | 0, r => r
  | n + 1, r => .unusable :: gap n r
def poolList (es : List (Nat × CpInfo)) (last : Nat) : List CpInfo := es.foldr (fun e r => gap e.1 (e.2 :: r)) (gap last [])
def pool (es : List (Nat × CpInfo)) (last : Nat) : Array CpInfo := ⟨poolList es last⟩
def fileOf (pool : Array CpInfo) (this : Nat) (attrs : Array Attribute := #[]) (ms : Array MethodInfo := #[]) (fl : Nat := 33) (sup : Nat := 0) (ifs : Array Nat := #[]) (fds : Array FieldInfo := #[]) : ClassFile where
  minorVersion := 0
  majorVersion := 65
  constantPool := pool
  accessFlags := fl
  thisClass := this
  superClass := sup
  interfaces := ifs
  fields := fds
  methods := ms
  attributes := attrs
def plain (name : String) (sup : Option ClassId) : Class where
  name := name
  kind := .ordinary
  loader := none
  accessFlags := 33
  super := sup
  interfaces := #[]
  cf := none
  fields := #[]
  methods := #[]
  instanceTypes := #[]
  staticTypes := #[]
  resolved := #[]
  callSites := []
  init := .initialized
  statics := none
  mirror := none

def pool0 : Array CpInfo := pool [(5, u "<init>"), (0, u "()V"), (1, .class_ 10), (1, u "java/lang/Object")] 113

def k0c0 : Code := { maxStack := 0, maxLocals := 1, code := object_method_1_code, exceptionTable := #[], attributes := #[] }
def k0m0 : Method := { name := "<init>", desc := "()V", sig := { parameters := [], returnType := none }, accessFlags := 1, code := some k0c0 }
/-- java/lang/Object -/
def k0 : Class := { plain "java/lang/Object" none with
  accessFlags := 33
  interfaces := #[]
  cf := some (fileOf pool0 8 #[] #[{ accessFlags := 1, nameIndex := 5, descriptorIndex := 6, attributes := #[] }] 33 0 #[] #[])
  fields := #[]
  methods := #[k0m0]
  instanceTypes := #[]
  staticTypes := #[]
  resolved := Array.replicate 124 none
  statics := none }

def pool1 : Array CpInfo := pool [(2, .class_ 4), (1, u "java/lang/Object"), (0, u "<init>"), (0, u "()V"), (0, .integer 65535), (0, .integer 2147483647), (0, .class_ 10), (0, u "java/lang/String"), (0, .methodref 9 12), (0, .nameAndType 5 13), (0, u "([C)V"), (0, .methodref 15 16), (0, .class_ 17), (0, .nameAndType 18 19), (0, u "com/example/atomicity/atomicity/Text"), (0, u "abbreviate"), (0, u "(Ljava/lang/String;)Ljava/lang/String;"), (0, .methodref 9 21), (0, .nameAndType 22 23), (0, u "equals"), (0, u "(Ljava/lang/Object;)Z"), (0, .class_ 25), (0, u "com/example/atomicity/atomicity/TextAbbreviatePinLaw"), (2, u "law"), (0, u "(IIIII)Z")] 5

def k1m0 : Method := { name := "<init>", desc := "()V", sig := { parameters := [], returnType := none }, accessFlags := 1, code := none }
def k1c1 : Code := { maxStack := 4, maxLocals := 12, code := code, exceptionTable := #[], attributes := #[] }
def k1m1 : Method := { name := "law", desc := "(IIIII)Z", sig := { parameters := [.int, .int, .int, .int, .int], returnType := some .boolean }, accessFlags := 9, code := some k1c1 }
/-- com/example/atomicity/atomicity/TextAbbreviatePinLaw -/
def k1 : Class := { plain "com/example/atomicity/atomicity/TextAbbreviatePinLaw" (some 0) with
  accessFlags := 49
  interfaces := #[]
  cf := some (fileOf pool1 24 #[] #[{ accessFlags := 1, nameIndex := 5, descriptorIndex := 6, attributes := #[] }, { accessFlags := 9, nameIndex := 28, descriptorIndex := 29, attributes := #[] }] 49 2 #[] #[])
  fields := #[]
  methods := #[k1m0, k1m1]
  instanceTypes := #[]
  staticTypes := #[]
  resolved := Array.replicate 35 none
  statics := none }

def pool2 : Array CpInfo := pool [(1, .class_ 2), (0, u "java/io/Serializable"), (0, .class_ 4), (0, u "java/lang/Object")] 2

/-- java/io/Serializable -/
def k2 : Class := { plain "java/io/Serializable" (some 0) with
  accessFlags := 1537
  interfaces := #[]
  cf := some (fileOf pool2 1 #[] #[] 1537 3 #[] #[])
  fields := #[]
  methods := #[]
  instanceTypes := #[]
  staticTypes := #[]
  resolved := Array.replicate 7 none
  statics := none }

def pool3 : Array CpInfo := pool [(1, .class_ 2), (0, u "java/lang/Comparable"), (0, .class_ 4), (0, u "java/lang/Object")] 7

/-- java/lang/Comparable -/
def k3 : Class := { plain "java/lang/Comparable" (some 0) with
  accessFlags := 1537
  interfaces := #[]
  cf := some (fileOf pool3 1 #[] #[] 1537 3 #[] #[])
  fields := #[]
  methods := #[]
  instanceTypes := #[]
  staticTypes := #[]
  resolved := Array.replicate 12 none
  statics := none }

def pool4 : Array CpInfo := pool [(2, .class_ 4), (1, u "java/lang/CharSequence"), (42, .class_ 48), (0, u "java/lang/CharSequence$1CodePointIterator"), (10, .class_ 60), (0, u "java/lang/CharSequence$1CharIterator"), (5, .class_ 67), (0, u "java/lang/Object")] 63

/-- java/lang/CharSequence -/
def k4 : Class := { plain "java/lang/CharSequence" (some 0) with
  accessFlags := 1537
  interfaces := #[]
  cf := some (fileOf pool4 2 #[.nestMembers #[47, 59]] #[] 1537 66 #[] #[])
  fields := #[]
  methods := #[]
  instanceTypes := #[]
  staticTypes := #[]
  resolved := Array.replicate 131 none
  statics := none }

def pool5 : Array CpInfo := pool [(1, .class_ 2), (0, u "java/lang/constant/Constable"), (0, .class_ 4), (0, u "java/lang/Object")] 6

/-- java/lang/constant/Constable -/
def k5 : Class := { plain "java/lang/constant/Constable" (some 0) with
  accessFlags := 1537
  interfaces := #[]
  cf := some (fileOf pool5 1 #[] #[] 1537 3 #[] #[])
  fields := #[]
  methods := #[]
  instanceTypes := #[]
  staticTypes := #[]
  resolved := Array.replicate 11 none
  statics := none }

def pool6 : Array CpInfo := pool [(1, .class_ 2), (0, u "java/lang/constant/ConstantDesc"), (0, .class_ 4), (0, u "java/lang/Object")] 32

/-- java/lang/constant/ConstantDesc -/
def k6 : Class := { plain "java/lang/constant/ConstantDesc" (some 0) with
  accessFlags := 1537
  interfaces := #[]
  cf := some (fileOf pool6 1 #[] #[] 1537 3 #[] #[])
  fields := #[]
  methods := #[]
  instanceTypes := #[]
  staticTypes := #[]
  resolved := Array.replicate 37 none
  statics := none }

def pool7 : Array CpInfo := pool [(1, .methodref 2 3), (0, .class_ 4), (0, .nameAndType 5 6), (0, u "java/lang/Object"), (0, u "<init>"), (0, u "()V"), (0, .string 8), (0, u ""), (0, .fieldref 10 11), (0, .class_ 12), (0, .nameAndType 13 14), (0, u "java/lang/String"), (0, u "value"), (0, u "[B"), (0, .fieldref 10 16), (0, .nameAndType 17 18), (0, u "coder"), (0, u "B"), (2, u "hash"), (0, u "I"), (2, u "hashIsZero"), (0, u "Z"), (0, .methodref 10 28), (0, .nameAndType 5 29), (0, u "([CIILjava/lang/Void;)V"), (6, u "checkBoundsOffCount"), (0, u "(III)I"), (0, .fieldref 10 39), (0, .nameAndType 40 26), (0, u "COMPACT_STRINGS"), (1, .class_ 44), (1, u "java/lang/StringUTF16"), (0, u "compress"), (1, .methodref 42 48), (0, .nameAndType 49 50), (0, u "coderFromArrayLen"), (0, u "([BI)B"), (3, .methodref 55 56), (0, .class_ 57), (0, .nameAndType 58 59), (0, u "java/util/Arrays"), (0, u "copyOfRange"), (0, u "([BII)[B"), (46, .methodref 107 108), (0, .class_ 109), (0, .nameAndType 110 111), (0, u "java/lang/StringLatin1"), (0, u "inflate"), (0, u "([BI[BII)V"), (30, u "()Z"), (34, .methodref 42 178), (0, .nameAndType 45 179), (0, u "([CII)[B"), (13, .class_ 195), (1, u "java/lang/System"), (15, u "([BB)V"), (0, .methodref 193 213), (0, .nameAndType 214 215), (0, u "arraycopy"), (0, u "(Ljava/lang/Object;ILjava/lang/Object;II)V"), (118, u "()I"), (0, .methodref 10 336), (0, .nameAndType 17 337), (0, u "()B"), (2, u "()[B"), (148, .methodref 10 490), (0, .nameAndType 5 491), (0, u "(Ljava/lang/AbstractStringBuilder;Ljava/lang/Void;)V"), (0, .methodref 10 493), (0, .nameAndType 494 142), (0, u "isLatin1"), (10, .methodref 10 506), (0, .nameAndType 507 334), (0, u "length"), (5, u "checkFromToIndex"), (7, .methodref 10 522), (0, .nameAndType 523 524), (0, u "checkBoundsBeginEnd"), (0, u "(III)V"), (7, u "getBytes"), (8, .methodref 107 542), (0, .nameAndType 543 544), (0, u "equals"), (0, u "([B[B)Z"), (4, .methodref 550 506), (0, .class_ 551), (0, u "java/lang/AbstractStringBuilder"), (0, .methodref 550 553), (0, .nameAndType 554 340), (0, u "getValue"), (18, u "(Ljava/lang/Object;)Z"), (1, .class_ 576), (0, u "java/lang/CharSequence"), (22, u "CASE_INSENSITIVE_ORDER"), (0, u "Ljava/util/Comparator;"), (82, u "substring"), (0, u "(II)Ljava/lang/String;"), (0, .methodref 107 686), (0, .nameAndType 687 688), (0, u "newString"), (0, u "([BII)Ljava/lang/String;"), (0, .methodref 42 686), (131, u "([BIB)V"), (188, u "([C)V"), (36, .methodref 550 493), (0, .fieldref 550 1049), (0, .nameAndType 1050 26), (0, u "maybeLatin1"), (2, .fieldref 1054 1055), (0, .class_ 1056), (0, .nameAndType 1057 1058), (0, u "jdk/internal/util/Preconditions"), (0, u "SIOOBE_FORMATTER"), (0, u "Ljava/util/function/BiFunction;"), (3, .methodref 1054 1063), (0, .nameAndType 513 1064), (0, u "(IIILjava/util/function/BiFunction;)I"), (0, .methodref 1054 1066), (0, .nameAndType 1067 1064), (0, u "checkFromIndexSize"), (33, u "serialPersistentFields"), (0, u "[Ljava/io/ObjectStreamField;"), (0, .class_ 1104), (0, u "java/lang/String$CaseInsensitiveComparator"), (1, .class_ 1107), (0, u "java/io/Serializable"), (0, .class_ 1109), (0, u "java/lang/Comparable"), (0, .class_ 1111), (0, u "java/lang/constant/Constable"), (0, .class_ 1113), (0, u "java/lang/constant/ConstantDesc"), (2, u "serialVersionUID"), (0, u "J"), (3, u "REPL"), (0, u "C"), (2, u "LATIN1"), (1, u "UTF16"), (105, u "(Ljava/lang/StringBuilder;)V")] 217

def k7m0 : Method := { name := "<init>", desc := "()V", sig := { parameters := [], returnType := none }, accessFlags := 1, code := none }
def k7c1 : Code := { maxStack := 5, maxLocals := 2, code := jdk_42_method_3_code, exceptionTable := #[], attributes := #[] }
def k7m1 : Method := { name := "<init>", desc := "([C)V", sig := { parameters := [(.array .char)], returnType := none }, accessFlags := 1, code := some k7c1 }
def k7c2 : Code := { maxStack := 3, maxLocals := 2, code := jdk_42_method_53_code, exceptionTable := #[], attributes := #[] }
def k7m2 : Method := { name := "<init>", desc := "(Ljava/lang/StringBuilder;)V", sig := { parameters := [(.object "java/lang/StringBuilder")], returnType := none }, accessFlags := 1, code := some k7c2 }
def k7c3 : Code := { maxStack := 2, maxLocals := 1, code := jdk_42_method_54_code, exceptionTable := #[], attributes := #[] }
def k7m3 : Method := { name := "length", desc := "()I", sig := { parameters := [], returnType := some .int }, accessFlags := 1, code := some k7c3 }
def k7c4 : Code := { maxStack := 2, maxLocals := 3, code := jdk_42_method_66_code, exceptionTable := #[], attributes := #[] }
def k7m4 : Method := { name := "equals", desc := "(Ljava/lang/Object;)Z", sig := { parameters := [(.object "java/lang/Object")], returnType := some .boolean }, accessFlags := 1, code := some k7c4 }
def k7c5 : Code := { maxStack := 3, maxLocals := 5, code := jdk_42_method_92_code, exceptionTable := #[], attributes := #[] }
def k7m5 : Method := { name := "substring", desc := "(II)Ljava/lang/String;", sig := { parameters := [.int, .int], returnType := some (.object "java/lang/String") }, accessFlags := 1, code := some k7c5 }
def k7c6 : Code := { maxStack := 5, maxLocals := 4, code := jdk_42_method_147_code, exceptionTable := #[], attributes := #[] }
def k7m6 : Method := { name := "getBytes", desc := "([BIB)V", sig := { parameters := [(.array .byte), .int, .byte], returnType := none }, accessFlags := 0, code := some k7c6 }
def k7c7 : Code := { maxStack := 4, maxLocals := 6, code := jdk_42_method_149_code, exceptionTable := #[], attributes := #[] }
def k7m7 : Method := { name := "<init>", desc := "([CIILjava/lang/Void;)V", sig := { parameters := [(.array .char), .int, .int, (.object "java/lang/Void")], returnType := none }, accessFlags := 2, code := some k7c7 }
def k7c8 : Code := { maxStack := 5, maxLocals := 5, code := jdk_42_method_150_code, exceptionTable := #[], attributes := #[] }
def k7m8 : Method := { name := "<init>", desc := "(Ljava/lang/AbstractStringBuilder;Ljava/lang/Void;)V", sig := { parameters := [(.object "java/lang/AbstractStringBuilder"), (.object "java/lang/Void")], returnType := none }, accessFlags := 0, code := some k7c8 }
def k7c9 : Code := { maxStack := 2, maxLocals := 3, code := jdk_42_method_151_code, exceptionTable := #[], attributes := #[] }
def k7m9 : Method := { name := "<init>", desc := "([BB)V", sig := { parameters := [(.array .byte), .byte], returnType := none }, accessFlags := 0, code := some k7c9 }
def k7c10 : Code := { maxStack := 1, maxLocals := 1, code := jdk_42_method_152_code, exceptionTable := #[], attributes := #[] }
def k7m10 : Method := { name := "coder", desc := "()B", sig := { parameters := [], returnType := some .byte }, accessFlags := 0, code := some k7c10 }
def k7c11 : Code := { maxStack := 1, maxLocals := 1, code := jdk_42_method_154_code, exceptionTable := #[], attributes := #[] }
def k7m11 : Method := { name := "isLatin1", desc := "()Z", sig := { parameters := [], returnType := some .boolean }, accessFlags := 0, code := some k7c11 }
def k7c12 : Code := { maxStack := 4, maxLocals := 3, code := jdk_42_method_157_code, exceptionTable := #[], attributes := #[] }
def k7m12 : Method := { name := "checkBoundsOffCount", desc := "(III)I", sig := { parameters := [.int, .int, .int], returnType := some .int }, accessFlags := 8, code := some k7c12 }
def k7c13 : Code := { maxStack := 4, maxLocals := 3, code := jdk_42_method_158_code, exceptionTable := #[], attributes := #[] }
def k7m13 : Method := { name := "checkBoundsBeginEnd", desc := "(III)V", sig := { parameters := [.int, .int, .int], returnType := none }, accessFlags := 8, code := some k7c13 }
/-- java/lang/String -/
def k7 : Class := { plain "java/lang/String" (some 0) with
  accessFlags := 49
  interfaces := #[2, 3, 4, 5, 6]
  cf := some (fileOf pool7 10 #[.nestMembers #[1103]] #[{ accessFlags := 1, nameIndex := 5, descriptorIndex := 6, attributes := #[] }, { accessFlags := 1, nameIndex := 5, descriptorIndex := 1010, attributes := #[] }, { accessFlags := 1, nameIndex := 5, descriptorIndex := 1233, attributes := #[] }, { accessFlags := 1, nameIndex := 507, descriptorIndex := 334, attributes := #[] }, { accessFlags := 1, nameIndex := 543, descriptorIndex := 573, attributes := #[] }, { accessFlags := 1, nameIndex := 683, descriptorIndex := 684, attributes := #[] }, { accessFlags := 0, nameIndex := 532, descriptorIndex := 821, attributes := #[] }, { accessFlags := 2, nameIndex := 5, descriptorIndex := 29, attributes := #[] }, { accessFlags := 0, nameIndex := 5, descriptorIndex := 491, attributes := #[] }, { accessFlags := 0, nameIndex := 5, descriptorIndex := 211, attributes := #[] }, { accessFlags := 0, nameIndex := 17, descriptorIndex := 337, attributes := #[] }, { accessFlags := 0, nameIndex := 494, descriptorIndex := 142, attributes := #[] }, { accessFlags := 8, nameIndex := 36, descriptorIndex := 37, attributes := #[] }, { accessFlags := 8, nameIndex := 523, descriptorIndex := 524, attributes := #[] }] 49 2 #[1106, 1108, 575, 1110, 1112] #[{ accessFlags := 18, nameIndex := 13, descriptorIndex := 14, attributes := #[] }, { accessFlags := 18, nameIndex := 17, descriptorIndex := 18, attributes := #[] }, { accessFlags := 2, nameIndex := 21, descriptorIndex := 22, attributes := #[] }, { accessFlags := 2, nameIndex := 25, descriptorIndex := 26, attributes := #[] }, { accessFlags := 26, nameIndex := 1116, descriptorIndex := 1117, attributes := #[] }, { accessFlags := 24, nameIndex := 40, descriptorIndex := 26, attributes := #[] }, { accessFlags := 26, nameIndex := 1101, descriptorIndex := 1102, attributes := #[] }, { accessFlags := 26, nameIndex := 1121, descriptorIndex := 1122, attributes := #[] }, { accessFlags := 25, nameIndex := 599, descriptorIndex := 600, attributes := #[] }, { accessFlags := 24, nameIndex := 1125, descriptorIndex := 18, attributes := #[] }, { accessFlags := 24, nameIndex := 1127, descriptorIndex := 18, attributes := #[] }])
  fields := #[{ name := "value", type := (.array .byte), accessFlags := 18, slot := 0, constantValue := 0 }, { name := "coder", type := .byte, accessFlags := 18, slot := 1, constantValue := 0 }, { name := "hash", type := .int, accessFlags := 2, slot := 2, constantValue := 0 }, { name := "hashIsZero", type := .boolean, accessFlags := 2, slot := 3, constantValue := 0 }, { name := "serialVersionUID", type := .long, accessFlags := 26, slot := 0, constantValue := 0 }, { name := "COMPACT_STRINGS", type := .boolean, accessFlags := 24, slot := 1, constantValue := 0 }, { name := "serialPersistentFields", type := (.array (.object "java/io/ObjectStreamField")), accessFlags := 26, slot := 2, constantValue := 0 }, { name := "REPL", type := .char, accessFlags := 26, slot := 3, constantValue := 0 }, { name := "CASE_INSENSITIVE_ORDER", type := (.object "java/util/Comparator"), accessFlags := 25, slot := 4, constantValue := 0 }, { name := "LATIN1", type := .byte, accessFlags := 24, slot := 5, constantValue := 0 }, { name := "UTF16", type := .byte, accessFlags := 24, slot := 6, constantValue := 0 }]
  methods := #[k7m0, k7m1, k7m2, k7m3, k7m4, k7m5, k7m6, k7m7, k7m8, k7m9, k7m10, k7m11, k7m12, k7m13]
  instanceTypes := #[(.array .byte), .byte, .int, .boolean]
  staticTypes := #[.long, .boolean, (.array (.object "java/io/ObjectStreamField")), .char, (.object "java/util/Comparator"), .byte, .byte]
  resolved := Array.replicate 1451 none
  statics := some 0 }

def pool8 : Array CpInfo := pool [(2, .class_ 4), (0, .nameAndType 5 6), (0, u "java/lang/Object"), (0, u "<init>"), (0, u "()V"), (0, .methodref 8 9), (0, .class_ 10), (0, .nameAndType 11 12), (0, u "java/lang/String"), (0, u "length"), (0, u "()I"), (0, .class_ 14), (0, u "com/example/atomicity/atomicity/Text"), (0, .class_ 16), (0, u "java/lang/StringBuilder"), (0, .methodref 15 3), (0, .methodref 8 19), (0, .nameAndType 20 21), (0, u "substring"), (0, u "(II)Ljava/lang/String;"), (0, .methodref 15 23), (0, .nameAndType 24 25), (0, u "append"), (0, u "(Ljava/lang/String;)Ljava/lang/StringBuilder;"), (0, .string 27), (0, u "..."), (0, .methodref 15 29), (0, .nameAndType 30 31), (0, u "toString"), (0, u "()Ljava/lang/String;"), (7, u "FILE_REASONS"), (0, u "Ljava/util/Map;"), (68, u "MAX_QUOTED"), (0, u "I"), (6, u "abbreviate"), (0, u "(Ljava/lang/String;)Ljava/lang/String;")] 6

def k8m0 : Method := { name := "<init>", desc := "()V", sig := { parameters := [], returnType := none }, accessFlags := 2, code := none }
def k8c1 : Code := { maxStack := 4, maxLocals := 1, code := prog_12_method_2_code, exceptionTable := #[], attributes := #[] }
def k8m1 : Method := { name := "abbreviate", desc := "(Ljava/lang/String;)Ljava/lang/String;", sig := { parameters := [(.object "java/lang/String")], returnType := some (.object "java/lang/String") }, accessFlags := 8, code := some k8c1 }
/-- com/example/atomicity/atomicity/Text -/
def k8 : Class := { plain "com/example/atomicity/atomicity/Text" (some 0) with
  accessFlags := 48
  interfaces := #[]
  cf := some (fileOf pool8 13 #[] #[{ accessFlags := 2, nameIndex := 5, descriptorIndex := 6, attributes := #[] }, { accessFlags := 8, nameIndex := 117, descriptorIndex := 118, attributes := #[] }] 48 2 #[] #[{ accessFlags := 26, nameIndex := 109, descriptorIndex := 110, attributes := #[] }, { accessFlags := 26, nameIndex := 39, descriptorIndex := 40, attributes := #[] }])
  fields := #[{ name := "MAX_QUOTED", type := .int, accessFlags := 26, slot := 0, constantValue := 0 }, { name := "FILE_REASONS", type := (.object "java/util/Map"), accessFlags := 26, slot := 1, constantValue := 0 }]
  methods := #[k8m0, k8m1]
  instanceTypes := #[]
  staticTypes := #[.int, (.object "java/util/Map")]
  resolved := Array.replicate 125 none
  statics := none }

def pool9 : Array CpInfo := pool [(3, .class_ 4), (0, u "java/lang/String"), (1, .class_ 8), (1, u "java/lang/Object"), (0, u "<init>"), (0, u "()V"), (0, .methodref 12 13), (0, .class_ 14), (0, .nameAndType 15 16), (0, u "java/lang/StringUTF16"), (0, u "newBytesLength"), (0, u "(I)I"), (3, .integer 1073741823), (23, .fieldref 12 45), (0, .nameAndType 46 47), (0, u "$assertionsDisabled"), (0, u "Z"), (0, .methodref 12 49), (0, .nameAndType 50 51), (0, u "length"), (0, u "([B)I"), (7, .fieldref 12 60), (0, .nameAndType 61 62), (0, u "HI_BYTE_SHIFT"), (0, u "I"), (0, .fieldref 12 64), (0, .nameAndType 65 62), (0, u "LO_BYTE_SHIFT"), (5, .methodref 12 72), (0, .nameAndType 73 74), (0, u "getChar"), (0, u "([BI)C"), (24, u "(II[B)V"), (7, .methodref 12 108), (0, .nameAndType 109 110), (0, u "newBytesFor"), (0, u "(I)[B"), (0, .methodref 12 112), (0, .nameAndType 113 114), (0, u "putChar"), (0, u "([BII)V"), (0, .methodref 12 116), (0, .nameAndType 117 118), (0, u "compress"), (0, u "([CI[BII)I"), (0, .methodref 12 120), (0, .nameAndType 121 122), (0, u "toBytes"), (0, u "([CII)[B"), (0, .methodref 12 124), (0, .nameAndType 117 125), (0, u "([BI[BII)I"), (0, .methodref 127 128), (0, .class_ 129), (0, .nameAndType 130 131), (0, u "java/util/Arrays"), (0, u "copyOfRange"), (0, u "([BII)[B"), (8, u "inflate"), (0, u "([BI[BII)V"), (31, .methodref 12 174), (0, .nameAndType 175 99), (0, u "checkBoundsOffCount"), (75, .fieldref 3 252), (0, .nameAndType 253 47), (0, u "COMPACT_STRINGS"), (3, .methodref 12 258), (0, .nameAndType 117 131), (0, .methodref 12 260), (0, .nameAndType 261 262), (0, u "coderFromArrayLen"), (0, u "([BI)B"), (0, .methodref 3 264), (0, .nameAndType 9 265), (0, u "([BB)V"), (15, u "(III)I"), (45, u "newString"), (0, u "([BII)Ljava/lang/String;"), (40, .class_ 371), (1, u "java/lang/StringUTF16$LinesSpliterator"), (47, .methodref 3 420), (0, .nameAndType 175 281), (9, u "MAX_LENGTH"), (196, .class_ 628), (0, u "java/lang/StringUTF16$CodePointsSpliterator"), (0, .class_ 630), (0, u "java/lang/StringUTF16$CharsSpliterator")] 4

def k9m0 : Method := { name := "<init>", desc := "()V", sig := { parameters := [], returnType := none }, accessFlags := 0, code := none }
def k9c1 : Code := { maxStack := 1, maxLocals := 1, code := jdk_52_method_2_code, exceptionTable := #[], attributes := #[] }
def k9m1 : Method := { name := "newBytesFor", desc := "(I)[B", sig := { parameters := [.int], returnType := some (.array .byte) }, accessFlags := 9, code := some k9c1 }
def k9c2 : Code := { maxStack := 4, maxLocals := 1, code := jdk_52_method_3_code, exceptionTable := #[], attributes := #[] }
def k9m2 : Method := { name := "newBytesLength", desc := "(I)I", sig := { parameters := [.int], returnType := some .int }, accessFlags := 9, code := some k9c2 }
def k9c3 : Code := { maxStack := 4, maxLocals := 3, code := jdk_52_method_4_code, exceptionTable := #[], attributes := #[] }
def k9m3 : Method := { name := "putChar", desc := "([BII)V", sig := { parameters := [(.array .byte), .int, .int], returnType := none }, accessFlags := 8, code := some k9c3 }
def k9c4 : Code := { maxStack := 3, maxLocals := 2, code := jdk_52_method_5_code, exceptionTable := #[], attributes := #[] }
def k9m4 : Method := { name := "getChar", desc := "([BI)C", sig := { parameters := [(.array .byte), .int], returnType := some .char }, accessFlags := 8, code := some k9c4 }
def k9c5 : Code := { maxStack := 2, maxLocals := 1, code := jdk_52_method_6_code, exceptionTable := #[], attributes := #[] }
def k9m5 : Method := { name := "length", desc := "([B)I", sig := { parameters := [(.array .byte)], returnType := some .int }, accessFlags := 9, code := some k9c5 }
def k9c6 : Code := { maxStack := 4, maxLocals := 5, code := jdk_52_method_14_code, exceptionTable := #[], attributes := #[] }
def k9m6 : Method := { name := "toBytes", desc := "([CII)[B", sig := { parameters := [(.array .char), .int, .int], returnType := some (.array .byte) }, accessFlags := 9, code := some k9c6 }
def k9c7 : Code := { maxStack := 2, maxLocals := 2, code := jdk_52_method_15_code, exceptionTable := #[], attributes := #[] }
def k9m7 : Method := { name := "coderFromArrayLen", desc := "([BI)B", sig := { parameters := [(.array .byte), .int], returnType := some .byte }, accessFlags := 8, code := some k9c7 }
def k9c8 : Code := { maxStack := 5, maxLocals := 6, code := jdk_52_method_16_code, exceptionTable := #[], attributes := #[] }
def k9m8 : Method := { name := "compress", desc := "([CII)[B", sig := { parameters := [(.array .char), .int, .int], returnType := some (.array .byte) }, accessFlags := 9, code := some k9c8 }
def k9c9 : Code := { maxStack := 5, maxLocals := 6, code := jdk_52_method_17_code, exceptionTable := #[], attributes := #[] }
def k9m9 : Method := { name := "compress", desc := "([BII)[B", sig := { parameters := [(.array .byte), .int, .int], returnType := some (.array .byte) }, accessFlags := 9, code := some k9c9 }
def k9c10 : Code := { maxStack := 3, maxLocals := 7, code := jdk_52_method_21_code, exceptionTable := #[], attributes := #[] }
def k9m10 : Method := { name := "compress", desc := "([CI[BII)I", sig := { parameters := [(.array .char), .int, (.array .byte), .int, .int], returnType := some .int }, accessFlags := 9, code := some k9c10 }
def k9c11 : Code := { maxStack := 3, maxLocals := 7, code := jdk_52_method_22_code, exceptionTable := #[], attributes := #[] }
def k9m11 : Method := { name := "compress", desc := "([BI[BII)I", sig := { parameters := [(.array .byte), .int, (.array .byte), .int, .int], returnType := some .int }, accessFlags := 9, code := some k9c11 }
def k9c12 : Code := { maxStack := 6, maxLocals := 5, code := jdk_52_method_69_code, exceptionTable := #[], attributes := #[] }
def k9m12 : Method := { name := "newString", desc := "([BII)Ljava/lang/String;", sig := { parameters := [(.array .byte), .int, .int], returnType := some (.object "java/lang/String") }, accessFlags := 9, code := some k9c12 }
def k9c13 : Code := { maxStack := 4, maxLocals := 6, code := jdk_52_method_86_code, exceptionTable := #[], attributes := #[] }
def k9m13 : Method := { name := "inflate", desc := "([BI[BII)V", sig := { parameters := [(.array .byte), .int, (.array .byte), .int, .int], returnType := none }, accessFlags := 9, code := some k9c13 }
def k9c14 : Code := { maxStack := 3, maxLocals := 3, code := jdk_52_method_94_code, exceptionTable := #[], attributes := #[] }
def k9m14 : Method := { name := "checkBoundsOffCount", desc := "(II[B)V", sig := { parameters := [.int, .int, (.array .byte)], returnType := none }, accessFlags := 9, code := some k9c14 }
/-- java/lang/StringUTF16 -/
def k9 : Class := { plain "java/lang/StringUTF16" (some 0) with
  accessFlags := 48
  interfaces := #[]
  cf := some (fileOf pool9 12 #[.nestMembers #[627, 629, 369]] #[{ accessFlags := 0, nameIndex := 9, descriptorIndex := 10, attributes := #[] }, { accessFlags := 9, nameIndex := 109, descriptorIndex := 110, attributes := #[] }, { accessFlags := 9, nameIndex := 15, descriptorIndex := 16, attributes := #[] }, { accessFlags := 8, nameIndex := 113, descriptorIndex := 114, attributes := #[] }, { accessFlags := 8, nameIndex := 73, descriptorIndex := 74, attributes := #[] }, { accessFlags := 9, nameIndex := 50, descriptorIndex := 51, attributes := #[] }, { accessFlags := 9, nameIndex := 121, descriptorIndex := 122, attributes := #[] }, { accessFlags := 8, nameIndex := 261, descriptorIndex := 262, attributes := #[] }, { accessFlags := 9, nameIndex := 117, descriptorIndex := 122, attributes := #[] }, { accessFlags := 9, nameIndex := 117, descriptorIndex := 131, attributes := #[] }, { accessFlags := 9, nameIndex := 117, descriptorIndex := 118, attributes := #[] }, { accessFlags := 9, nameIndex := 117, descriptorIndex := 125, attributes := #[] }, { accessFlags := 9, nameIndex := 327, descriptorIndex := 328, attributes := #[] }, { accessFlags := 9, nameIndex := 140, descriptorIndex := 141, attributes := #[] }, { accessFlags := 9, nameIndex := 175, descriptorIndex := 99, attributes := #[] }] 48 6 #[] #[{ accessFlags := 26, nameIndex := 61, descriptorIndex := 62, attributes := #[] }, { accessFlags := 26, nameIndex := 65, descriptorIndex := 62, attributes := #[] }, { accessFlags := 24, nameIndex := 430, descriptorIndex := 62, attributes := #[] }, { accessFlags := 4120, nameIndex := 46, descriptorIndex := 47, attributes := #[] }])
  fields := #[{ name := "HI_BYTE_SHIFT", type := .int, accessFlags := 26, slot := 0, constantValue := 0 }, { name := "LO_BYTE_SHIFT", type := .int, accessFlags := 26, slot := 1, constantValue := 0 }, { name := "MAX_LENGTH", type := .int, accessFlags := 24, slot := 2, constantValue := 0 }, { name := "$assertionsDisabled", type := .boolean, accessFlags := 4120, slot := 3, constantValue := 0 }]
  methods := #[k9m0, k9m1, k9m2, k9m3, k9m4, k9m5, k9m6, k9m7, k9m8, k9m9, k9m10, k9m11, k9m12, k9m13, k9m14]
  instanceTypes := #[]
  staticTypes := #[.int, .int, .int, .boolean]
  resolved := Array.replicate 635 none
  statics := some 1 }

def pool10 : Array CpInfo := pool [(1, .class_ 2), (0, u "java/lang/Appendable"), (0, .class_ 4), (0, u "java/lang/Object")] 9

/-- java/lang/Appendable -/
def k10 : Class := { plain "java/lang/Appendable" (some 0) with
  accessFlags := 1537
  interfaces := #[]
  cf := some (fileOf pool10 1 #[] #[] 1537 3 #[] #[])
  fields := #[]
  methods := #[]
  instanceTypes := #[]
  staticTypes := #[]
  resolved := Array.replicate 14 none
  statics := none }

def pool11 : Array CpInfo := pool [(1, .class_ 2), (0, u "java/lang/String"), (0, .methodref 4 5), (0, .class_ 6), (0, .nameAndType 7 8), (0, u "java/lang/Object"), (0, u "<init>"), (0, u "()V"), (1, .class_ 12), (1, u "java/lang/AbstractStringBuilder"), (0, u "EMPTYVALUE"), (0, u "[B"), (0, .fieldref 10 16), (0, .nameAndType 17 14), (0, u "value"), (0, .fieldref 1 19), (0, .nameAndType 20 21), (0, u "COMPACT_STRINGS"), (0, u "Z"), (0, .fieldref 10 23), (0, .nameAndType 24 25), (0, u "coder"), (0, u "B"), (0, .methodref 27 28), (0, .class_ 29), (0, .nameAndType 30 31), (0, u "java/lang/StringUTF16"), (0, u "newBytesFor"), (0, u "(I)[B"), (0, .methodref 1 33), (0, .nameAndType 34 35), (0, u "length"), (0, u "()I"), (3, .integer 2147483647), (0, .methodref 1 41), (0, .nameAndType 24 42), (0, u "()B"), (2, u "append"), (0, u "(Ljava/lang/String;)Ljava/lang/AbstractStringBuilder;"), (1, .class_ 49), (0, u "java/lang/CharSequence"), (19, u "(Ljava/lang/String;)V"), (5, u "maybeLatin1"), (3, .fieldref 10 80), (0, .nameAndType 81 82), (0, u "count"), (0, u "I"), (0, .methodref 10 84), (0, .nameAndType 85 86), (0, u "isLatin1"), (0, u "()Z"), (1, .class_ 90), (1, u "java/lang/StringLatin1"), (9, .methodref 10 101), (0, .nameAndType 102 103), (0, u "ensureCapacityInternal"), (0, u "(I)V"), (0, .methodref 10 105), (0, .nameAndType 106 107), (0, u "newCapacity"), (0, u "(I)I"), (0, .methodref 109 110), (0, .class_ 111), (0, .nameAndType 112 113), (0, u "java/util/Arrays"), (0, u "copyOf"), (0, u "([BI)[B"), (0, .methodref 115 116), (0, .class_ 117), (0, .nameAndType 118 119), (0, u "jdk/internal/util/ArraysSupport"), (0, u "newLength"), (0, u "(III)I"), (5, .methodref 88 126), (0, .nameAndType 127 128), (0, u "inflate"), (0, u "([BI[BII)V"), (66, .methodref 10 196), (0, .nameAndType 127 8), (11, .methodref 10 209), (0, .nameAndType 210 211), (0, u "putStringAt"), (0, u "(ILjava/lang/String;)V"), (5, u "inflateIfNeededFor"), (2, .nameAndType 221 222), (0, u "getBytes"), (0, u "([BIB)V"), (174, .methodref 10 398), (0, .nameAndType 217 69), (0, .methodref 1 220), (3, u "()[B"), (40, .class_ 445), (0, u "java/lang/Appendable"), (106, u "getValue")] 56

def k11m0 : Method := { name := "<init>", desc := "()V", sig := { parameters := [], returnType := none }, accessFlags := 0, code := none }
def k11c1 : Code := { maxStack := 2, maxLocals := 2, code := jdk_68_method_2_code, exceptionTable := #[], attributes := #[] }
def k11m1 : Method := { name := "<init>", desc := "(I)V", sig := { parameters := [.int], returnType := none }, accessFlags := 0, code := some k11c1 }
def k11c2 : Code := { maxStack := 1, maxLocals := 1, code := jdk_68_method_6_code, exceptionTable := #[], attributes := #[] }
def k11m2 : Method := { name := "length", desc := "()I", sig := { parameters := [], returnType := some .int }, accessFlags := 1, code := some k11c2 }
def k11c3 : Code := { maxStack := 4, maxLocals := 3, code := jdk_68_method_9_code, exceptionTable := #[], attributes := #[] }
def k11m3 : Method := { name := "ensureCapacityInternal", desc := "(I)V", sig := { parameters := [.int], returnType := none }, accessFlags := 2, code := some k11c3 }
def k11c4 : Code := { maxStack := 5, maxLocals := 6, code := jdk_68_method_10_code, exceptionTable := #[], attributes := #[] }
def k11m4 : Method := { name := "newCapacity", desc := "(I)I", sig := { parameters := [.int], returnType := some .int }, accessFlags := 2, code := some k11c4 }
def k11c5 : Code := { maxStack := 5, maxLocals := 2, code := jdk_68_method_11_code, exceptionTable := #[], attributes := #[] }
def k11m5 : Method := { name := "inflate", desc := "()V", sig := { parameters := [], returnType := none }, accessFlags := 2, code := some k11c5 }
def k11c6 : Code := { maxStack := 3, maxLocals := 3, code := jdk_68_method_22_code, exceptionTable := #[], attributes := #[] }
def k11m6 : Method := { name := "append", desc := "(Ljava/lang/String;)Ljava/lang/AbstractStringBuilder;", sig := { parameters := [(.object "java/lang/String")], returnType := some (.object "java/lang/AbstractStringBuilder") }, accessFlags := 1, code := some k11c6 }
def k11c7 : Code := { maxStack := 1, maxLocals := 1, code := jdk_68_method_64_code, exceptionTable := #[], attributes := #[] }
def k11m7 : Method := { name := "getValue", desc := "()[B", sig := { parameters := [], returnType := some (.array .byte) }, accessFlags := 16, code := some k11c7 }
def k11c8 : Code := { maxStack := 1, maxLocals := 1, code := jdk_68_method_68_code, exceptionTable := #[], attributes := #[] }
def k11m8 : Method := { name := "isLatin1", desc := "()Z", sig := { parameters := [], returnType := some .boolean }, accessFlags := 16, code := some k11c8 }
def k11c9 : Code := { maxStack := 2, maxLocals := 2, code := jdk_68_method_71_code, exceptionTable := #[], attributes := #[] }
def k11m9 : Method := { name := "inflateIfNeededFor", desc := "(Ljava/lang/String;)V", sig := { parameters := [(.object "java/lang/String")], returnType := none }, accessFlags := 2, code := some k11c9 }
def k11c10 : Code := { maxStack := 4, maxLocals := 3, code := jdk_68_method_73_code, exceptionTable := #[], attributes := #[] }
def k11m10 : Method := { name := "putStringAt", desc := "(ILjava/lang/String;)V", sig := { parameters := [.int, (.object "java/lang/String")], returnType := none }, accessFlags := 2, code := some k11c10 }
/-- java/lang/AbstractStringBuilder -/
def k11 : Class := { plain "java/lang/AbstractStringBuilder" (some 0) with
  accessFlags := 1056
  interfaces := #[10, 4]
  cf := some (fileOf pool11 10 #[] #[{ accessFlags := 0, nameIndex := 7, descriptorIndex := 8, attributes := #[] }, { accessFlags := 0, nameIndex := 7, descriptorIndex := 103, attributes := #[] }, { accessFlags := 1, nameIndex := 34, descriptorIndex := 35, attributes := #[] }, { accessFlags := 2, nameIndex := 102, descriptorIndex := 103, attributes := #[] }, { accessFlags := 2, nameIndex := 106, descriptorIndex := 107, attributes := #[] }, { accessFlags := 2, nameIndex := 127, descriptorIndex := 8, attributes := #[] }, { accessFlags := 1, nameIndex := 45, descriptorIndex := 46, attributes := #[] }, { accessFlags := 16, nameIndex := 552, descriptorIndex := 403, attributes := #[] }, { accessFlags := 16, nameIndex := 85, descriptorIndex := 86, attributes := #[] }, { accessFlags := 2, nameIndex := 217, descriptorIndex := 69, attributes := #[] }, { accessFlags := 2, nameIndex := 210, descriptorIndex := 211, attributes := #[] }] 1056 4 #[444, 48] #[{ accessFlags := 0, nameIndex := 17, descriptorIndex := 14, attributes := #[] }, { accessFlags := 0, nameIndex := 24, descriptorIndex := 25, attributes := #[] }, { accessFlags := 0, nameIndex := 75, descriptorIndex := 21, attributes := #[] }, { accessFlags := 0, nameIndex := 81, descriptorIndex := 82, attributes := #[] }, { accessFlags := 26, nameIndex := 13, descriptorIndex := 14, attributes := #[] }])
  fields := #[{ name := "value", type := (.array .byte), accessFlags := 0, slot := 0, constantValue := 0 }, { name := "coder", type := .byte, accessFlags := 0, slot := 1, constantValue := 0 }, { name := "maybeLatin1", type := .boolean, accessFlags := 0, slot := 2, constantValue := 0 }, { name := "count", type := .int, accessFlags := 0, slot := 3, constantValue := 0 }, { name := "EMPTYVALUE", type := (.array .byte), accessFlags := 26, slot := 0, constantValue := 0 }]
  methods := #[k11m0, k11m1, k11m2, k11m3, k11m4, k11m5, k11m6, k11m7, k11m8, k11m9, k11m10]
  instanceTypes := #[(.array .byte), .byte, .boolean, .int]
  staticTypes := #[(.array .byte)]
  resolved := Array.replicate 609 none
  statics := none }

def pool12 : Array CpInfo := pool [(1, .methodref 2 3), (0, .class_ 4), (0, .nameAndType 5 6), (0, u "java/lang/AbstractStringBuilder"), (0, u "<init>"), (0, u "(I)V"), (11, .class_ 20), (1, u "java/lang/String"), (3, .class_ 26), (1, u "java/lang/StringBuilder"), (0, u "append"), (0, u "(Ljava/lang/String;)Ljava/lang/StringBuilder;"), (0, .methodref 2 30), (0, .nameAndType 27 31), (0, u "(Ljava/lang/String;)Ljava/lang/AbstractStringBuilder;"), (105, .methodref 18 138), (0, .nameAndType 5 139), (0, u "(Ljava/lang/StringBuilder;)V"), (5, u "()V"), (10, u "()I"), (186, .methodref 2 344), (0, .nameAndType 345 156), (0, u "length"), (3, .class_ 350), (0, u "java/lang/Appendable"), (0, .class_ 352), (0, u "java/io/Serializable"), (0, .class_ 354), (0, u "java/lang/Comparable"), (0, .class_ 356), (0, u "java/lang/CharSequence"), (0, u "serialVersionUID"), (0, u "J"), (40, u "toString"), (0, u "()Ljava/lang/String;")] 21

def k12c0 : Code := { maxStack := 2, maxLocals := 1, code := jdk_67_method_1_code, exceptionTable := #[], attributes := #[] }
def k12m0 : Method := { name := "<init>", desc := "()V", sig := { parameters := [], returnType := none }, accessFlags := 1, code := some k12c0 }
def k12c1 : Code := { maxStack := 2, maxLocals := 2, code := jdk_67_method_7_code, exceptionTable := #[], attributes := #[] }
def k12m1 : Method := { name := "append", desc := "(Ljava/lang/String;)Ljava/lang/StringBuilder;", sig := { parameters := [(.object "java/lang/String")], returnType := some (.object "java/lang/StringBuilder") }, accessFlags := 1, code := some k12c1 }
def k12c2 : Code := { maxStack := 3, maxLocals := 1, code := jdk_67_method_42_code, exceptionTable := #[], attributes := #[] }
def k12m2 : Method := { name := "toString", desc := "()Ljava/lang/String;", sig := { parameters := [], returnType := some (.object "java/lang/String") }, accessFlags := 1, code := some k12c2 }
def k12c3 : Code := { maxStack := 1, maxLocals := 1, code := jdk_67_method_93_code, exceptionTable := #[], attributes := #[] }
def k12m3 : Method := { name := "length", desc := "()I", sig := { parameters := [], returnType := some .int }, accessFlags := 4161, code := some k12c3 }
/-- java/lang/StringBuilder -/
def k12 : Class := { plain "java/lang/StringBuilder" (some 11) with
  accessFlags := 49
  interfaces := #[10, 2, 3, 4]
  cf := some (fileOf pool12 24 #[] #[{ accessFlags := 1, nameIndex := 5, descriptorIndex := 145, attributes := #[] }, { accessFlags := 1, nameIndex := 27, descriptorIndex := 28, attributes := #[] }, { accessFlags := 1, nameIndex := 399, descriptorIndex := 400, attributes := #[] }, { accessFlags := 4161, nameIndex := 345, descriptorIndex := 156, attributes := #[] }] 49 2 #[349, 351, 353, 355] #[{ accessFlags := 24, nameIndex := 357, descriptorIndex := 358, attributes := #[] }])
  fields := #[{ name := "serialVersionUID", type := .long, accessFlags := 24, slot := 0, constantValue := 0 }]
  methods := #[k12m0, k12m1, k12m2, k12m3]
  instanceTypes := #[(.array .byte), .byte, .boolean, .int]
  staticTypes := #[.long]
  resolved := Array.replicate 422 none
  statics := none }

def pool13 : Array CpInfo := pool [(2, .class_ 4), (1, u "java/lang/Object"), (0, u "<init>"), (0, u "()V"), (17, .class_ 26), (1, u "jdk/internal/util/Preconditions"), (20, u "checkFromToIndex"), (1, u "checkFromIndexSize"), (5, .class_ 56), (0, u "jdk/internal/util/Preconditions$4"), (57, .class_ 115), (0, u "jdk/internal/util/Preconditions$1"), (7, u "SIOOBE_FORMATTER"), (0, u "Ljava/util/function/BiFunction;"), (0, .class_ 126), (0, u "jdk/internal/util/Preconditions$2"), (3, u "AIOOBE_FORMATTER"), (0, .class_ 132), (0, u "jdk/internal/util/Preconditions$3"), (3, u "IOOBE_FORMATTER"), (46, u "(IIILjava/util/function/BiFunction;)I")] 10

def k13m0 : Method := { name := "<init>", desc := "()V", sig := { parameters := [], returnType := none }, accessFlags := 1, code := none }
def k13c1 : Code := { maxStack := 4, maxLocals := 4, code := jdk_41_method_12_code, exceptionTable := #[], attributes := #[] }
def k13m1 : Method := { name := "checkFromToIndex", desc := "(IIILjava/util/function/BiFunction;)I", sig := { parameters := [.int, .int, .int, (.object "java/util/function/BiFunction")], returnType := some .int }, accessFlags := 9, code := some k13c1 }
def k13c2 : Code := { maxStack := 4, maxLocals := 4, code := jdk_41_method_13_code, exceptionTable := #[], attributes := #[] }
def k13m2 : Method := { name := "checkFromIndexSize", desc := "(IIILjava/util/function/BiFunction;)I", sig := { parameters := [.int, .int, .int, (.object "java/util/function/BiFunction")], returnType := some .int }, accessFlags := 9, code := some k13c2 }
/-- jdk/internal/util/Preconditions -/
def k13 : Class := { plain "jdk/internal/util/Preconditions" (some 0) with
  accessFlags := 33
  interfaces := #[]
  cf := some (fileOf pool13 24 #[.nestMembers #[55, 131, 125, 114]] #[{ accessFlags := 1, nameIndex := 5, descriptorIndex := 6, attributes := #[] }, { accessFlags := 9, nameIndex := 47, descriptorIndex := 183, attributes := #[] }, { accessFlags := 9, nameIndex := 49, descriptorIndex := 183, attributes := #[] }] 33 2 #[] #[{ accessFlags := 25, nameIndex := 123, descriptorIndex := 124, attributes := #[] }, { accessFlags := 25, nameIndex := 130, descriptorIndex := 124, attributes := #[] }, { accessFlags := 25, nameIndex := 136, descriptorIndex := 124, attributes := #[] }])
  fields := #[{ name := "SIOOBE_FORMATTER", type := (.object "java/util/function/BiFunction"), accessFlags := 25, slot := 0, constantValue := 0 }, { name := "AIOOBE_FORMATTER", type := (.object "java/util/function/BiFunction"), accessFlags := 25, slot := 1, constantValue := 0 }, { name := "IOOBE_FORMATTER", type := (.object "java/util/function/BiFunction"), accessFlags := 25, slot := 2, constantValue := 0 }]
  methods := #[k13m0, k13m1, k13m2]
  instanceTypes := #[]
  staticTypes := #[(.object "java/util/function/BiFunction"), (.object "java/util/function/BiFunction"), (.object "java/util/function/BiFunction")]
  resolved := Array.replicate 194 none
  statics := some 2 }

def pool14 : Array CpInfo := pool [(1, .class_ 2), (0, u "java/lang/String"), (1, .class_ 6), (1, u "java/lang/Object"), (0, u "<init>"), (0, u "()V"), (5, .class_ 16), (1, u "java/lang/StringLatin1"), (0, u "inflate"), (2, .class_ 22), (1, u "java/lang/StringUTF16"), (3, .nameAndType 17 27), (0, u "([BI[BII)V"), (84, .methodref 1 113), (0, .nameAndType 7 114), (0, u "([BB)V"), (6, u "$assertionsDisabled"), (0, u "Z"), (8, .class_ 133), (1, u "java/util/Arrays"), (62, u "newString"), (0, u "([BII)Ljava/lang/String;"), (23, .class_ 223), (1, u "java/lang/StringLatin1$LinesSpliterator"), (8, .methodref 131 233), (0, .nameAndType 234 235), (0, u "copyOfRange"), (0, u "([BII)[B"), (4, .methodref 20 26), (40, u "equals"), (0, u "([B[B)Z"), (107, .class_ 391), (0, u "java/lang/StringLatin1$CharsSpliterator")] 3

def k14m0 : Method := { name := "<init>", desc := "()V", sig := { parameters := [], returnType := none }, accessFlags := 0, code := none }
def k14c1 : Code := { maxStack := 3, maxLocals := 3, code := jdk_43_method_13_code, exceptionTable := #[], attributes := #[] }
def k14m1 : Method := { name := "equals", desc := "([B[B)Z", sig := { parameters := [(.array .byte), (.array .byte)], returnType := some .boolean }, accessFlags := 9, code := some k14c1 }
def k14c2 : Code := { maxStack := 6, maxLocals := 3, code := jdk_43_method_47_code, exceptionTable := #[], attributes := #[] }
def k14m2 : Method := { name := "newString", desc := "([BII)Ljava/lang/String;", sig := { parameters := [(.array .byte), .int, .int], returnType := some (.object "java/lang/String") }, accessFlags := 9, code := some k14c2 }
def k14c3 : Code := { maxStack := 5, maxLocals := 5, code := jdk_43_method_50_code, exceptionTable := #[], attributes := #[] }
def k14m3 : Method := { name := "inflate", desc := "([BI[BII)V", sig := { parameters := [(.array .byte), .int, (.array .byte), .int, .int], returnType := none }, accessFlags := 9, code := some k14c3 }
/-- java/lang/StringLatin1 -/
def k14 : Class := { plain "java/lang/StringLatin1" (some 0) with
  accessFlags := 48
  interfaces := #[]
  cf := some (fileOf pool14 14 #[.nestMembers #[390, 221]] #[{ accessFlags := 0, nameIndex := 7, descriptorIndex := 8, attributes := #[] }, { accessFlags := 9, nameIndex := 281, descriptorIndex := 282, attributes := #[] }, { accessFlags := 9, nameIndex := 196, descriptorIndex := 197, attributes := #[] }, { accessFlags := 9, nameIndex := 17, descriptorIndex := 27, attributes := #[] }] 48 4 #[] #[{ accessFlags := 4120, nameIndex := 121, descriptorIndex := 122, attributes := #[] }])
  fields := #[{ name := "$assertionsDisabled", type := .boolean, accessFlags := 4120, slot := 0, constantValue := 0 }]
  methods := #[k14m0, k14m1, k14m2, k14m3]
  instanceTypes := #[]
  staticTypes := #[.boolean]
  resolved := Array.replicate 395 none
  statics := none }

def pool15 : Array CpInfo := pool [(2, .class_ 4), (1, u "java/lang/Object"), (0, u "<init>"), (0, u "()V"), (7, .class_ 16), (1, u "java/util/Arrays"), (57, .class_ 76), (1, u "java/util/Arrays$NaturalOrder"), (36, .class_ 115), (1, u "java/util/Arrays$LegacyMergeSort"), (1, u "Z"), (21, u "copyOfRange"), (10, .methodref 151 152), (0, .class_ 153), (0, .nameAndType 154 155), (0, u "java/lang/System"), (0, u "arraycopy"), (0, u "(Ljava/lang/Object;ILjava/lang/Object;II)V"), (146, u "copyOf"), (1, .methodref 305 306), (0, .class_ 307), (0, .nameAndType 308 309), (0, u "java/lang/Math"), (0, u "min"), (0, u "(II)I"), (29, .methodref 14 340), (0, .nameAndType 341 342), (0, u "copyOfRangeByte"), (0, u "([BII)[B"), (0, .methodref 14 344), (0, .nameAndType 345 346), (0, u "checkLength"), (0, u "(II)V"), (28, .class_ 376), (0, u "java/util/Arrays$ArrayList"), (68, u "$assertionsDisabled"), (269, u "MIN_ARRAY_SORT_GRAN"), (0, u "I"), (2, u "INSERTIONSORT_THRESHOLD"), (149, u "([BI)[B"), (105, .class_ 976), (0, u "java/util/Arrays$ArrayItr")] 52

def k15m0 : Method := { name := "<init>", desc := "()V", sig := { parameters := [], returnType := none }, accessFlags := 2, code := none }
def k15c1 : Code := { maxStack := 6, maxLocals := 3, code := jdk_65_method_121_code, exceptionTable := #[], attributes := #[] }
def k15m1 : Method := { name := "copyOf", desc := "([BI)[B", sig := { parameters := [(.array .byte), .int], returnType := some (.array .byte) }, accessFlags := 9, code := some k15c1 }
def k15c2 : Code := { maxStack := 4, maxLocals := 2, code := jdk_65_method_131_code, exceptionTable := #[], attributes := #[] }
def k15m2 : Method := { name := "checkLength", desc := "(II)V", sig := { parameters := [.int, .int], returnType := none }, accessFlags := 10, code := some k15c2 }
def k15c3 : Code := { maxStack := 3, maxLocals := 3, code := jdk_65_method_132_code, exceptionTable := #[], attributes := #[] }
def k15m3 : Method := { name := "copyOfRange", desc := "([BII)[B", sig := { parameters := [(.array .byte), .int, .int], returnType := some (.array .byte) }, accessFlags := 9, code := some k15c3 }
def k15c4 : Code := { maxStack := 6, maxLocals := 5, code := jdk_65_method_133_code, exceptionTable := #[], attributes := #[] }
def k15m4 : Method := { name := "copyOfRangeByte", desc := "([BII)[B", sig := { parameters := [(.array .byte), .int, .int], returnType := some (.array .byte) }, accessFlags := 10, code := some k15c4 }
/-- java/util/Arrays -/
def k15 : Class := { plain "java/util/Arrays" (some 0) with
  accessFlags := 49
  interfaces := #[]
  cf := some (fileOf pool15 14 #[.nestMembers #[975, 375, 113, 74]] #[{ accessFlags := 2, nameIndex := 5, descriptorIndex := 6, attributes := #[] }, { accessFlags := 9, nameIndex := 302, descriptorIndex := 869, attributes := #[] }, { accessFlags := 10, nameIndex := 345, descriptorIndex := 346, attributes := #[] }, { accessFlags := 9, nameIndex := 139, descriptorIndex := 342, attributes := #[] }, { accessFlags := 10, nameIndex := 341, descriptorIndex := 342, attributes := #[] }] 49 2 #[] #[{ accessFlags := 26, nameIndex := 715, descriptorIndex := 716, attributes := #[] }, { accessFlags := 26, nameIndex := 719, descriptorIndex := 716, attributes := #[] }, { accessFlags := 4120, nameIndex := 445, descriptorIndex := 117, attributes := #[] }])
  fields := #[{ name := "MIN_ARRAY_SORT_GRAN", type := .int, accessFlags := 26, slot := 0, constantValue := 0 }, { name := "INSERTIONSORT_THRESHOLD", type := .int, accessFlags := 26, slot := 1, constantValue := 0 }, { name := "$assertionsDisabled", type := .boolean, accessFlags := 4120, slot := 2, constantValue := 0 }]
  methods := #[k15m0, k15m1, k15m2, k15m3, k15m4]
  instanceTypes := #[]
  staticTypes := #[.int, .int, .boolean]
  resolved := Array.replicate 1029 none
  statics := none }

def pool16 : Array CpInfo := pool [(1, .class_ 2), (0, u "java/lang/Math"), (1, .class_ 6), (1, u "java/lang/Object"), (0, u "<init>"), (0, u "()V"), (89, .class_ 100), (1, u "java/lang/Math$RandomNumberGeneratorHolder"), (71, u "negativeZeroFloatBits"), (0, u "J"), (2, u "negativeZeroDoubleBits"), (21, u "max"), (2, u "min"), (43, u "$assertionsDisabled"), (0, u "Z"), (88, u "(II)I"), (2, u "twoToTheDoubleScaleDown"), (0, u "D"), (4, u "twoToTheDoubleScaleUp"), (9, u "E"), (3, u "PI"), (2, u "TAU"), (2, u "DEGREES_TO_RADIANS"), (0, u "RADIANS_TO_DEGREES")] 94

def k16m0 : Method := { name := "<init>", desc := "()V", sig := { parameters := [], returnType := none }, accessFlags := 2, code := none }
def k16c1 : Code := { maxStack := 2, maxLocals := 2, code := jdk_29_method_65_code, exceptionTable := #[], attributes := #[] }
def k16m1 : Method := { name := "max", desc := "(II)I", sig := { parameters := [.int, .int], returnType := some .int }, accessFlags := 9, code := some k16c1 }
def k16c2 : Code := { maxStack := 2, maxLocals := 2, code := jdk_29_method_69_code, exceptionTable := #[], attributes := #[] }
def k16m2 : Method := { name := "min", desc := "(II)I", sig := { parameters := [.int, .int], returnType := some .int }, accessFlags := 9, code := some k16c2 }
/-- java/lang/Math -/
def k16 : Class := { plain "java/lang/Math" (some 0) with
  accessFlags := 49
  interfaces := #[]
  cf := some (fileOf pool16 1 #[.nestMembers #[98]] #[{ accessFlags := 2, nameIndex := 7, descriptorIndex := 8, attributes := #[] }, { accessFlags := 9, nameIndex := 198, descriptorIndex := 335, attributes := #[] }, { accessFlags := 9, nameIndex := 201, descriptorIndex := 335, attributes := #[] }] 49 4 #[] #[{ accessFlags := 25, nameIndex := 354, descriptorIndex := 339, attributes := #[] }, { accessFlags := 25, nameIndex := 358, descriptorIndex := 339, attributes := #[] }, { accessFlags := 25, nameIndex := 361, descriptorIndex := 339, attributes := #[] }, { accessFlags := 26, nameIndex := 364, descriptorIndex := 339, attributes := #[] }, { accessFlags := 26, nameIndex := 365, descriptorIndex := 339, attributes := #[] }, { accessFlags := 26, nameIndex := 172, descriptorIndex := 173, attributes := #[] }, { accessFlags := 26, nameIndex := 176, descriptorIndex := 173, attributes := #[] }, { accessFlags := 8, nameIndex := 344, descriptorIndex := 339, attributes := #[] }, { accessFlags := 8, nameIndex := 338, descriptorIndex := 339, attributes := #[] }, { accessFlags := 4120, nameIndex := 245, descriptorIndex := 246, attributes := #[] }])
  fields := #[{ name := "E", type := .double, accessFlags := 25, slot := 0, constantValue := 0 }, { name := "PI", type := .double, accessFlags := 25, slot := 1, constantValue := 0 }, { name := "TAU", type := .double, accessFlags := 25, slot := 2, constantValue := 0 }, { name := "DEGREES_TO_RADIANS", type := .double, accessFlags := 26, slot := 3, constantValue := 0 }, { name := "RADIANS_TO_DEGREES", type := .double, accessFlags := 26, slot := 4, constantValue := 0 }, { name := "negativeZeroFloatBits", type := .long, accessFlags := 26, slot := 5, constantValue := 0 }, { name := "negativeZeroDoubleBits", type := .long, accessFlags := 26, slot := 6, constantValue := 0 }, { name := "twoToTheDoubleScaleUp", type := .double, accessFlags := 8, slot := 7, constantValue := 0 }, { name := "twoToTheDoubleScaleDown", type := .double, accessFlags := 8, slot := 8, constantValue := 0 }, { name := "$assertionsDisabled", type := .boolean, accessFlags := 4120, slot := 9, constantValue := 0 }]
  methods := #[k16m0, k16m1, k16m2]
  instanceTypes := #[]
  staticTypes := #[.double, .double, .double, .double, .double, .long, .long, .double, .double, .boolean]
  resolved := Array.replicate 460 none
  statics := none }

def pool17 : Array CpInfo := pool [(2, .class_ 4), (1, u "java/lang/Object"), (0, u "<init>"), (0, u "()V"), (1, .class_ 10), (1, u "java/lang/System"), (0, u "allowSecurityManager"), (0, u "I"), (16, u "cons"), (0, u "Ljava/io/Console;"), (77, .class_ 110), (1, u "java/lang/System$CallersHolder"), (43, u "initialErrStream"), (0, u "Ljava/io/PrintStream;"), (19, u "security"), (0, u "Ljava/lang/SecurityManager;"), (31, .class_ 209), (0, u "java/lang/System$1"), (7, u "props"), (0, u "Ljava/util/Properties;"), (2, u "lineSeparator"), (0, u "Ljava/lang/String;"), (96, .class_ 321), (1, u "java/lang/System$LoggerFinder"), (5, .class_ 328), (0, u "java/lang/System$Logger"), (67, u "err"), (2, u "out"), (91, u "notSupportedJnuEncoding"), (15, u "in"), (17, u "initialIn"), (0, u "Ljava/io/InputStream;"), (35, u "bootLayer"), (0, u "Ljava/lang/ModuleLayer;"), (99, .class_ 664), (0, u "java/lang/System$2"), (9, u "NEVER"), (2, u "MAYBE"), (49, u "arraycopy"), (0, u "(Ljava/lang/Object;ILjava/lang/Object;II)V"), (72, .class_ 802), (0, u "java/lang/System$Logger$Level")] 31

def k17m0 : Method := { name := "<init>", desc := "()V", sig := { parameters := [], returnType := none }, accessFlags := 2, code := none }
def k17m1 : Method := { name := "arraycopy", desc := "(Ljava/lang/Object;ILjava/lang/Object;II)V", sig := { parameters := [(.object "java/lang/Object"), .int, (.object "java/lang/Object"), .int, .int], returnType := none }, accessFlags := 265, code := none }
/-- java/lang/System -/
def k17 : Class := { plain "java/lang/System" (some 0) with
  accessFlags := 49
  interfaces := #[]
  cf := some (fileOf pool17 8 #[.nestMembers #[319, 327, 801, 108, 663, 208]] #[{ accessFlags := 2, nameIndex := 5, descriptorIndex := 6, attributes := #[] }, { accessFlags := 265, nameIndex := 727, descriptorIndex := 728, attributes := #[] }] 49 2 #[] #[{ accessFlags := 25, nameIndex := 507, descriptorIndex := 526, attributes := #[] }, { accessFlags := 25, nameIndex := 399, descriptorIndex := 155, attributes := #[] }, { accessFlags := 25, nameIndex := 396, descriptorIndex := 155, attributes := #[] }, { accessFlags := 10, nameIndex := 525, descriptorIndex := 526, attributes := #[] }, { accessFlags := 26, nameIndex := 674, descriptorIndex := 12, attributes := #[] }, { accessFlags := 26, nameIndex := 677, descriptorIndex := 12, attributes := #[] }, { accessFlags := 10, nameIndex := 11, descriptorIndex := 12, attributes := #[] }, { accessFlags := 74, nameIndex := 175, descriptorIndex := 176, attributes := #[] }, { accessFlags := 10, nameIndex := 491, descriptorIndex := 222, attributes := #[] }, { accessFlags := 74, nameIndex := 29, descriptorIndex := 30, attributes := #[] }, { accessFlags := 74, nameIndex := 154, descriptorIndex := 155, attributes := #[] }, { accessFlags := 10, nameIndex := 217, descriptorIndex := 218, attributes := #[] }, { accessFlags := 10, nameIndex := 221, descriptorIndex := 222, attributes := #[] }, { accessFlags := 8, nameIndex := 562, descriptorIndex := 563, attributes := #[] }])
  fields := #[{ name := "in", type := (.object "java/io/InputStream"), accessFlags := 25, slot := 0, constantValue := 0 }, { name := "out", type := (.object "java/io/PrintStream"), accessFlags := 25, slot := 1, constantValue := 0 }, { name := "err", type := (.object "java/io/PrintStream"), accessFlags := 25, slot := 2, constantValue := 0 }, { name := "initialIn", type := (.object "java/io/InputStream"), accessFlags := 10, slot := 3, constantValue := 0 }, { name := "NEVER", type := .int, accessFlags := 26, slot := 4, constantValue := 0 }, { name := "MAYBE", type := .int, accessFlags := 26, slot := 5, constantValue := 0 }, { name := "allowSecurityManager", type := .int, accessFlags := 10, slot := 6, constantValue := 0 }, { name := "security", type := (.object "java/lang/SecurityManager"), accessFlags := 74, slot := 7, constantValue := 0 }, { name := "notSupportedJnuEncoding", type := (.object "java/lang/String"), accessFlags := 10, slot := 8, constantValue := 0 }, { name := "cons", type := (.object "java/io/Console"), accessFlags := 74, slot := 9, constantValue := 0 }, { name := "initialErrStream", type := (.object "java/io/PrintStream"), accessFlags := 74, slot := 10, constantValue := 0 }, { name := "props", type := (.object "java/util/Properties"), accessFlags := 10, slot := 11, constantValue := 0 }, { name := "lineSeparator", type := (.object "java/lang/String"), accessFlags := 10, slot := 12, constantValue := 0 }, { name := "bootLayer", type := (.object "java/lang/ModuleLayer"), accessFlags := 8, slot := 13, constantValue := 0 }]
  methods := #[k17m0, k17m1]
  instanceTypes := #[]
  staticTypes := #[(.object "java/io/InputStream"), (.object "java/io/PrintStream"), (.object "java/io/PrintStream"), (.object "java/io/InputStream"), .int, .int, .int, (.object "java/lang/SecurityManager"), (.object "java/lang/String"), (.object "java/io/Console"), (.object "java/io/PrintStream"), (.object "java/util/Properties"), (.object "java/lang/String"), (.object "java/lang/ModuleLayer")]
  resolved := Array.replicate 834 none
  statics := none }

def pool18 : Array CpInfo := pool [(9, u "<init>"), (6, .class_ 18), (1, u "java/lang/Object"), (0, u "()V"), (1, .class_ 23), (1, u "jdk/internal/util/ArraysSupport"), (0, u "LOG2_ARRAY_LONG_INDEX_SCALE"), (0, u "I"), (2, u "U"), (0, u "Ljdk/internal/misc/Unsafe;"), (8, u "BIG_ENDIAN"), (0, u "Z"), (8, u "LOG2_BYTE_BIT_SIZE"), (4, u "LOG2_ARRAY_INT_INDEX_SCALE"), (54, u "JLA"), (0, u "Ljdk/internal/access/JavaLangAccess;"), (11, u "LOG2_ARRAY_BOOLEAN_INDEX_SCALE"), (9, u "LOG2_ARRAY_BYTE_INDEX_SCALE"), (5, u "LOG2_ARRAY_CHAR_INDEX_SCALE"), (5, u "LOG2_ARRAY_SHORT_INDEX_SCALE"), (18, u "LOG2_ARRAY_FLOAT_INDEX_SCALE"), (24, u "LOG2_ARRAY_DOUBLE_INDEX_SCALE"), (6, .methodref 195 196), (0, .class_ 197), (0, .nameAndType 198 199), (0, u "java/lang/Math"), (0, u "max"), (0, u "(II)I"), (0, .integer 2147483639), (76, u "T_BOOLEAN"), (2, u "T_CHAR"), (1, u "T_FLOAT"), (1, u "T_DOUBLE"), (1, u "T_BYTE"), (1, u "T_SHORT"), (1, u "T_INT"), (1, u "T_LONG"), (1, u "SOFT_MAX_ARRAY_LENGTH"), (56, u "newLength"), (0, u "(III)I")] 25

def k18m0 : Method := { name := "<init>", desc := "()V", sig := { parameters := [], returnType := none }, accessFlags := 2, code := none }
def k18c1 : Code := { maxStack := 3, maxLocals := 4, code := jdk_48_method_27_code, exceptionTable := #[], attributes := #[] }
def k18m1 : Method := { name := "newLength", desc := "(III)I", sig := { parameters := [.int, .int, .int], returnType := some .int }, accessFlags := 9, code := some k18c1 }
/-- jdk/internal/util/ArraysSupport -/
def k18 : Class := { plain "jdk/internal/util/ArraysSupport" (some 0) with
  accessFlags := 33
  interfaces := #[]
  cf := some (fileOf pool18 21 #[] #[{ accessFlags := 2, nameIndex := 9, descriptorIndex := 19, attributes := #[] }, { accessFlags := 9, nameIndex := 351, descriptorIndex := 352, attributes := #[] }] 33 16 #[] #[{ accessFlags := 24, nameIndex := 28, descriptorIndex := 29, attributes := #[] }, { accessFlags := 26, nameIndex := 38, descriptorIndex := 39, attributes := #[] }, { accessFlags := 25, nameIndex := 121, descriptorIndex := 25, attributes := #[] }, { accessFlags := 25, nameIndex := 131, descriptorIndex := 25, attributes := #[] }, { accessFlags := 25, nameIndex := 137, descriptorIndex := 25, attributes := #[] }, { accessFlags := 25, nameIndex := 143, descriptorIndex := 25, attributes := #[] }, { accessFlags := 25, nameIndex := 53, descriptorIndex := 25, attributes := #[] }, { accessFlags := 25, nameIndex := 24, descriptorIndex := 25, attributes := #[] }, { accessFlags := 25, nameIndex := 162, descriptorIndex := 25, attributes := #[] }, { accessFlags := 25, nameIndex := 187, descriptorIndex := 25, attributes := #[] }, { accessFlags := 26, nameIndex := 48, descriptorIndex := 25, attributes := #[] }, { accessFlags := 25, nameIndex := 277, descriptorIndex := 25, attributes := #[] }, { accessFlags := 25, nameIndex := 280, descriptorIndex := 25, attributes := #[] }, { accessFlags := 25, nameIndex := 282, descriptorIndex := 25, attributes := #[] }, { accessFlags := 25, nameIndex := 284, descriptorIndex := 25, attributes := #[] }, { accessFlags := 25, nameIndex := 286, descriptorIndex := 25, attributes := #[] }, { accessFlags := 25, nameIndex := 288, descriptorIndex := 25, attributes := #[] }, { accessFlags := 25, nameIndex := 290, descriptorIndex := 25, attributes := #[] }, { accessFlags := 25, nameIndex := 292, descriptorIndex := 25, attributes := #[] }, { accessFlags := 26, nameIndex := 108, descriptorIndex := 109, attributes := #[] }, { accessFlags := 25, nameIndex := 294, descriptorIndex := 25, attributes := #[] }])
  fields := #[{ name := "U", type := (.object "jdk/internal/misc/Unsafe"), accessFlags := 24, slot := 0, constantValue := 0 }, { name := "BIG_ENDIAN", type := .boolean, accessFlags := 26, slot := 1, constantValue := 0 }, { name := "LOG2_ARRAY_BOOLEAN_INDEX_SCALE", type := .int, accessFlags := 25, slot := 2, constantValue := 0 }, { name := "LOG2_ARRAY_BYTE_INDEX_SCALE", type := .int, accessFlags := 25, slot := 3, constantValue := 0 }, { name := "LOG2_ARRAY_CHAR_INDEX_SCALE", type := .int, accessFlags := 25, slot := 4, constantValue := 0 }, { name := "LOG2_ARRAY_SHORT_INDEX_SCALE", type := .int, accessFlags := 25, slot := 5, constantValue := 0 }, { name := "LOG2_ARRAY_INT_INDEX_SCALE", type := .int, accessFlags := 25, slot := 6, constantValue := 0 }, { name := "LOG2_ARRAY_LONG_INDEX_SCALE", type := .int, accessFlags := 25, slot := 7, constantValue := 0 }, { name := "LOG2_ARRAY_FLOAT_INDEX_SCALE", type := .int, accessFlags := 25, slot := 8, constantValue := 0 }, { name := "LOG2_ARRAY_DOUBLE_INDEX_SCALE", type := .int, accessFlags := 25, slot := 9, constantValue := 0 }, { name := "LOG2_BYTE_BIT_SIZE", type := .int, accessFlags := 26, slot := 10, constantValue := 0 }, { name := "T_BOOLEAN", type := .int, accessFlags := 25, slot := 11, constantValue := 0 }, { name := "T_CHAR", type := .int, accessFlags := 25, slot := 12, constantValue := 0 }, { name := "T_FLOAT", type := .int, accessFlags := 25, slot := 13, constantValue := 0 }, { name := "T_DOUBLE", type := .int, accessFlags := 25, slot := 14, constantValue := 0 }, { name := "T_BYTE", type := .int, accessFlags := 25, slot := 15, constantValue := 0 }, { name := "T_SHORT", type := .int, accessFlags := 25, slot := 16, constantValue := 0 }, { name := "T_INT", type := .int, accessFlags := 25, slot := 17, constantValue := 0 }, { name := "T_LONG", type := .int, accessFlags := 25, slot := 18, constantValue := 0 }, { name := "JLA", type := (.object "jdk/internal/access/JavaLangAccess"), accessFlags := 26, slot := 19, constantValue := 0 }, { name := "SOFT_MAX_ARRAY_LENGTH", type := .int, accessFlags := 25, slot := 20, constantValue := 0 }]
  methods := #[k18m0, k18m1]
  instanceTypes := #[]
  staticTypes := #[(.object "jdk/internal/misc/Unsafe"), .boolean, .int, .int, .int, .int, .int, .int, .int, .int, .int, .int, .int, .int, .int, .int, .int, .int, .int, (.object "jdk/internal/access/JavaLangAccess"), .int]
  resolved := Array.replicate 378 none
  statics := none }

def pool19 : Array CpInfo := pool [(1, u "java/lang/Cloneable"), (0, .class_ 1), (0, u "java/lang/Object"), (0, .class_ 3)] 3

/-- java/lang/Cloneable -/
def k19 : Class := { plain "java/lang/Cloneable" (some 0) with
  accessFlags := 1537
  interfaces := #[]
  cf := some (fileOf pool19 2 #[] #[] 1537 4 #[] #[])
  fields := #[]
  methods := #[]
  instanceTypes := #[]
  staticTypes := #[]
  resolved := Array.replicate 8 none
  statics := none }

/-- the primitive byte -/
def k20 : Class := { plain "byte" none with kind := .primitive 'B', accessFlags := 0x411 }
/-- [B -/
def k21 : Class := { plain "[B" (some 0) with kind := .array 20 .byte, interfaces := #[19, 2], accessFlags := 1041 }

/-- the primitive char -/
def k22 : Class := { plain "char" none with kind := .primitive 'C', accessFlags := 0x411 }
/-- [C -/
def k23 : Class := { plain "[C" (some 0) with kind := .array 22 .char, interfaces := #[19, 2], accessFlags := 1041 }

/-- the primitive int -/
def k24 : Class := { plain "int" none with kind := .primitive 'I', accessFlags := 0x411 }
/-- [I -/
def k25 : Class := { plain "[I" (some 0) with kind := .array 24 .int, interfaces := #[19, 2], accessFlags := 1041 }

def heap : Heap := #[{ cls := 7, slots := #[.long 0, .int 1, .null, .int 0, .null, .int 0, .int 0], vm := .statics 7 },
  { cls := 9, slots := #[.int 0, .int 8, .int 0, .int 1], vm := .statics 9 },
  { cls := 13, slots := #[.null, .null, .null], vm := .statics 13 }]
def classes : Array Class := #[k0, k1, k2, k3, k4, k5, k6, k7, k8, k9, k10, k11, k12, k13, k14, k15, k16, k17, k18, k19, k20, k21, k22, k23, k24, k25]
def interned : List (Array UInt16 × Addr) := []
def slotsUsed : Nat := 14
def theMethod : MethodId := ⟨1, 1⟩
def args0 : Array Value := #[.int 5, .int 7, .int 9, .int 3, .int 4]
def aboutOver (below : List Frame) : State where
  vm := { classes := classes, interned := interned.toArray }
  heap := heap
  slotsUsed := slotsUsed
  threads := #[{ frames := .invoking theMethod args0 :: below }]
def below0 : List Frame := [.native { method := ⟨0, 0⟩, args := #[] }]
def about1 : State := aboutOver below0
def p0 : Program := .bare "" "" ""
def e0 : Env := launch0.env 0 0 0
theorem w_frames : about1.frames = Frame.invoking theMethod args0 :: below0 := rfl
set_option maxRecDepth 65536 in
theorem w_args : argsFit about1.vm theMethod args0 = true := by decide +kernel
set_option maxRecDepth 65536 in
theorem w_heap : heapFits about1 = true := by decide +kernel
set_option maxRecDepth 65536 in
theorem w_runnable : about1.curStatus? = some .runnable := by decide +kernel
set_option maxRecDepth 65536 in
theorem w_alone : about1.alone = true := by decide +kernel
set_option maxRecDepth 65536 in
theorem w_named : about1.methodNamed? x = some theMethod := by decide +kernel
set_option maxRecDepth 65536 in
theorem w_hears : about1.hears theMethod below0 = true := by decide +kernel
set_option maxRecDepth 65536 in
theorem w_ripe : about1.ripe theMethod args0 below0 = true := by decide +kernel
theorem w_running : about1.status = .running := rfl
set_option maxRecDepth 65536 in
theorem w_room : about1.hasRoom e0.platform room_1 = true :=
  launch0.hasRoom_least _ room_1 (by decide +kernel) (by decide +kernel) (by decide +kernel) (by decide +kernel) (by decide +kernel) (by decide +kernel)
theorem allAtoms_all (ts : List Jvm.Cond) (a : Array Jvm.Value) (st : Jvm.State) : (allAtoms ts).before a st = ts.all (fun c => c.before a st) := by
  induction ts with
  | nil => rfl
  | cons c t ih =>
    show (Jvm.Cond.and c (allAtoms t)).before a st = _
    rw [Jvm.Cond.before_and, ih, List.all_cons]
def words1 : List Jvm.Cond := Jvm.Cond.code x code maxLocals ret :: tables_1
/-- a 'code' word, met by the world's own term for the bytes: nothing is compared byte by byte -/
theorem code_word {y : MethodName} {bytes : ByteArray} {mx : Nat} {rt : Option FieldType} {a : Array Value} {s : State} {m : MethodId} {meth : Method} {c : Code} (h1 : s.methodNamed? y = some m) (h2 : s.vm.method? m = some meth) (h3 : meth.code = some c) (h4 : c.code = bytes)
    (h5 : (c.maxLocals == mx && c.exceptionTable.isEmpty && decide (c.maxStack ≤ mostOperands) && decide (meth.sig.returnType = rt) && !meth.locks && decide (parseMethodDescriptor y.desc = some meth.sig)) = true) : (Jvm.Cond.code y bytes mx rt).before a s = true := by
  simp only [Bool.and_eq_true, beq_iff_eq, Bool.not_eq_true', decide_eq_true_eq] at h5
  obtain ⟨⟨⟨⟨⟨g1, g2⟩, g3⟩, g4⟩, g5⟩, g6⟩ := h5
  simp [Cond.before, Cond.holds, Cond.value, h1, h2, h3, h4, g1, g2, g3, g4, g5, g6]
def isCode : Jvm.Cond → Bool
  | .code _ _ _ _ => true
  | _ => false
theorem all_split {L : List Jvm.Cond} {P : Jvm.Cond → Bool} (h1 : L.all (fun c => isCode c || P c) = true) (h2 : ∀ c ∈ L.filter isCode, P c = true) : L.all P = true := by
  refine List.all_eq_true.mpr fun c hc => ?_
  have h := List.all_eq_true.mp h1 c hc
  rcases Bool.eq_false_or_eq_true (isCode c) with hi | hi
  · exact h2 c (List.mem_filter.mpr ⟨hc, hi⟩)
  · simpa [hi] using h
set_option maxRecDepth 65536 in
theorem w_c0 : (Jvm.Cond.code x code maxLocals ret).before args0 about1 = true := code_word (m := ⟨1, 1⟩) (meth := k1m1) (c := k1c1) (by decide +kernel) rfl rfl rfl (by decide +kernel)
set_option maxRecDepth 65536 in
theorem w_c1 : (Jvm.Cond.code ({ cls := "java/lang/String", name := "<init>", desc := "([C)V" } : Jvm.MethodName) jdk_42_method_3_code (2 : Nat) (Option.none : Option Jvm.ClassFile.FieldType)).before args0 about1 = true := code_word (m := ⟨7, 1⟩) (meth := k7m1) (c := k7c1) (by decide +kernel) rfl rfl rfl (by decide +kernel)
set_option maxRecDepth 65536 in
theorem w_c2 : (Jvm.Cond.code ({ cls := "java/lang/String", name := "<init>", desc := "([CIILjava/lang/Void;)V" } : Jvm.MethodName) jdk_42_method_149_code (6 : Nat) (Option.none : Option Jvm.ClassFile.FieldType)).before args0 about1 = true := code_word (m := ⟨7, 7⟩) (meth := k7m7) (c := k7c7) (by decide +kernel) rfl rfl rfl (by decide +kernel)
set_option maxRecDepth 65536 in
theorem w_c3 : (Jvm.Cond.code ({ cls := "java/lang/Object", name := "<init>", desc := "()V" } : Jvm.MethodName) object_method_1_code (1 : Nat) (Option.none : Option Jvm.ClassFile.FieldType)).before args0 about1 = true := code_word (m := ⟨0, 0⟩) (meth := k0m0) (c := k0c0) (by decide +kernel) rfl rfl rfl (by decide +kernel)
set_option maxRecDepth 65536 in
theorem w_c4 : (Jvm.Cond.code ({ cls := "com/example/atomicity/atomicity/Text", name := "abbreviate", desc := "(Ljava/lang/String;)Ljava/lang/String;" } : Jvm.MethodName) prog_12_method_2_code (1 : Nat) (Option.some (Jvm.ClassFile.FieldType.object "java/lang/String"))).before args0 about1 = true := code_word (m := ⟨8, 1⟩) (meth := k8m1) (c := k8c1) (by decide +kernel) rfl rfl rfl (by decide +kernel)
set_option maxRecDepth 65536 in
theorem w_c5 : (Jvm.Cond.code ({ cls := "java/lang/String", name := "length", desc := "()I" } : Jvm.MethodName) jdk_42_method_54_code (1 : Nat) (Option.some Jvm.ClassFile.FieldType.int)).before args0 about1 = true := code_word (m := ⟨7, 3⟩) (meth := k7m3) (c := k7c3) (by decide +kernel) rfl rfl rfl (by decide +kernel)
set_option maxRecDepth 65536 in
theorem w_c6 : (Jvm.Cond.code ({ cls := "java/lang/String", name := "coder", desc := "()B" } : Jvm.MethodName) jdk_42_method_152_code (1 : Nat) (Option.some Jvm.ClassFile.FieldType.byte)).before args0 about1 = true := code_word (m := ⟨7, 10⟩) (meth := k7m10) (c := k7c10) (by decide +kernel) rfl rfl rfl (by decide +kernel)
set_option maxRecDepth 65536 in
theorem w_c7 : (Jvm.Cond.code ({ cls := "java/lang/String", name := "equals", desc := "(Ljava/lang/Object;)Z" } : Jvm.MethodName) jdk_42_method_66_code (3 : Nat) (Option.some Jvm.ClassFile.FieldType.boolean)).before args0 about1 = true := code_word (m := ⟨7, 4⟩) (meth := k7m4) (c := k7c4) (by decide +kernel) rfl rfl rfl (by decide +kernel)
set_option maxRecDepth 65536 in
theorem w_c8 : (Jvm.Cond.code ({ cls := "java/lang/StringUTF16", name := "compress", desc := "([CII)[B" } : Jvm.MethodName) jdk_52_method_16_code (6 : Nat) (Option.some (Jvm.ClassFile.FieldType.array Jvm.ClassFile.FieldType.byte))).before args0 about1 = true := code_word (m := ⟨9, 8⟩) (meth := k9m8) (c := k9c8) (by decide +kernel) rfl rfl rfl (by decide +kernel)
set_option maxRecDepth 65536 in
theorem w_c9 : (Jvm.Cond.code ({ cls := "java/lang/StringUTF16", name := "compress", desc := "([CI[BII)I" } : Jvm.MethodName) jdk_52_method_21_code (7 : Nat) (Option.some Jvm.ClassFile.FieldType.int)).before args0 about1 = true := code_word (m := ⟨9, 10⟩) (meth := k9m10) (c := k9c10) (by decide +kernel) rfl rfl rfl (by decide +kernel)
set_option maxRecDepth 65536 in
theorem w_c10 : (Jvm.Cond.code ({ cls := "java/lang/StringUTF16", name := "coderFromArrayLen", desc := "([BI)B" } : Jvm.MethodName) jdk_52_method_15_code (2 : Nat) (Option.some Jvm.ClassFile.FieldType.byte)).before args0 about1 = true := code_word (m := ⟨9, 7⟩) (meth := k9m7) (c := k9c7) (by decide +kernel) rfl rfl rfl (by decide +kernel)
set_option maxRecDepth 65536 in
theorem w_c11 : (Jvm.Cond.code ({ cls := "java/lang/StringUTF16", name := "toBytes", desc := "([CII)[B" } : Jvm.MethodName) jdk_52_method_14_code (5 : Nat) (Option.some (Jvm.ClassFile.FieldType.array Jvm.ClassFile.FieldType.byte))).before args0 about1 = true := code_word (m := ⟨9, 6⟩) (meth := k9m6) (c := k9c6) (by decide +kernel) rfl rfl rfl (by decide +kernel)
set_option maxRecDepth 65536 in
theorem w_c12 : (Jvm.Cond.code ({ cls := "java/lang/StringUTF16", name := "newBytesFor", desc := "(I)[B" } : Jvm.MethodName) jdk_52_method_2_code (1 : Nat) (Option.some (Jvm.ClassFile.FieldType.array Jvm.ClassFile.FieldType.byte))).before args0 about1 = true := code_word (m := ⟨9, 1⟩) (meth := k9m1) (c := k9c1) (by decide +kernel) rfl rfl rfl (by decide +kernel)
set_option maxRecDepth 65536 in
theorem w_c13 : (Jvm.Cond.code ({ cls := "java/lang/StringUTF16", name := "newBytesLength", desc := "(I)I" } : Jvm.MethodName) jdk_52_method_3_code (1 : Nat) (Option.some Jvm.ClassFile.FieldType.int)).before args0 about1 = true := code_word (m := ⟨9, 2⟩) (meth := k9m2) (c := k9c2) (by decide +kernel) rfl rfl rfl (by decide +kernel)
set_option maxRecDepth 65536 in
theorem w_c14 : (Jvm.Cond.code ({ cls := "java/lang/StringUTF16", name := "putChar", desc := "([BII)V" } : Jvm.MethodName) jdk_52_method_4_code (3 : Nat) (Option.none : Option Jvm.ClassFile.FieldType)).before args0 about1 = true := code_word (m := ⟨9, 3⟩) (meth := k9m3) (c := k9c3) (by decide +kernel) rfl rfl rfl (by decide +kernel)
set_option maxRecDepth 65536 in
theorem w_c15 : (Jvm.Cond.code ({ cls := "java/lang/StringUTF16", name := "getChar", desc := "([BI)C" } : Jvm.MethodName) jdk_52_method_5_code (2 : Nat) (Option.some Jvm.ClassFile.FieldType.char)).before args0 about1 = true := code_word (m := ⟨9, 4⟩) (meth := k9m4) (c := k9c4) (by decide +kernel) rfl rfl rfl (by decide +kernel)
set_option maxRecDepth 65536 in
theorem w_c16 : (Jvm.Cond.code ({ cls := "java/lang/StringBuilder", name := "<init>", desc := "()V" } : Jvm.MethodName) jdk_67_method_1_code (1 : Nat) (Option.none : Option Jvm.ClassFile.FieldType)).before args0 about1 = true := code_word (m := ⟨12, 0⟩) (meth := k12m0) (c := k12c0) (by decide +kernel) rfl rfl rfl (by decide +kernel)
set_option maxRecDepth 65536 in
theorem w_c17 : (Jvm.Cond.code ({ cls := "java/lang/AbstractStringBuilder", name := "<init>", desc := "(I)V" } : Jvm.MethodName) jdk_68_method_2_code (2 : Nat) (Option.none : Option Jvm.ClassFile.FieldType)).before args0 about1 = true := code_word (m := ⟨11, 1⟩) (meth := k11m1) (c := k11c1) (by decide +kernel) rfl rfl rfl (by decide +kernel)
set_option maxRecDepth 65536 in
theorem w_c18 : (Jvm.Cond.code ({ cls := "java/lang/String", name := "substring", desc := "(II)Ljava/lang/String;" } : Jvm.MethodName) jdk_42_method_92_code (5 : Nat) (Option.some (Jvm.ClassFile.FieldType.object "java/lang/String"))).before args0 about1 = true := code_word (m := ⟨7, 5⟩) (meth := k7m5) (c := k7c5) (by decide +kernel) rfl rfl rfl (by decide +kernel)
set_option maxRecDepth 65536 in
theorem w_c19 : (Jvm.Cond.code ({ cls := "java/lang/String", name := "checkBoundsBeginEnd", desc := "(III)V" } : Jvm.MethodName) jdk_42_method_158_code (3 : Nat) (Option.none : Option Jvm.ClassFile.FieldType)).before args0 about1 = true := code_word (m := ⟨7, 13⟩) (meth := k7m13) (c := k7c13) (by decide +kernel) rfl rfl rfl (by decide +kernel)
set_option maxRecDepth 65536 in
theorem w_c20 : (Jvm.Cond.code ({ cls := "jdk/internal/util/Preconditions", name := "checkFromToIndex", desc := "(IIILjava/util/function/BiFunction;)I" } : Jvm.MethodName) jdk_41_method_12_code (4 : Nat) (Option.some Jvm.ClassFile.FieldType.int)).before args0 about1 = true := code_word (m := ⟨13, 1⟩) (meth := k13m1) (c := k13c1) (by decide +kernel) rfl rfl rfl (by decide +kernel)
set_option maxRecDepth 65536 in
theorem w_c21 : (Jvm.Cond.code ({ cls := "java/lang/String", name := "isLatin1", desc := "()Z" } : Jvm.MethodName) jdk_42_method_154_code (1 : Nat) (Option.some Jvm.ClassFile.FieldType.boolean)).before args0 about1 = true := code_word (m := ⟨7, 11⟩) (meth := k7m11) (c := k7c11) (by decide +kernel) rfl rfl rfl (by decide +kernel)
set_option maxRecDepth 65536 in
theorem w_c22 : (Jvm.Cond.code ({ cls := "java/lang/StringLatin1", name := "newString", desc := "([BII)Ljava/lang/String;" } : Jvm.MethodName) jdk_43_method_47_code (3 : Nat) (Option.some (Jvm.ClassFile.FieldType.object "java/lang/String"))).before args0 about1 = true := code_word (m := ⟨14, 2⟩) (meth := k14m2) (c := k14c2) (by decide +kernel) rfl rfl rfl (by decide +kernel)
set_option maxRecDepth 65536 in
theorem w_c23 : (Jvm.Cond.code ({ cls := "java/util/Arrays", name := "copyOfRange", desc := "([BII)[B" } : Jvm.MethodName) jdk_65_method_132_code (3 : Nat) (Option.some (Jvm.ClassFile.FieldType.array Jvm.ClassFile.FieldType.byte))).before args0 about1 = true := code_word (m := ⟨15, 3⟩) (meth := k15m3) (c := k15c3) (by decide +kernel) rfl rfl rfl (by decide +kernel)
set_option maxRecDepth 65536 in
theorem w_c24 : (Jvm.Cond.code ({ cls := "java/util/Arrays", name := "copyOfRangeByte", desc := "([BII)[B" } : Jvm.MethodName) jdk_65_method_133_code (5 : Nat) (Option.some (Jvm.ClassFile.FieldType.array Jvm.ClassFile.FieldType.byte))).before args0 about1 = true := code_word (m := ⟨15, 4⟩) (meth := k15m4) (c := k15c4) (by decide +kernel) rfl rfl rfl (by decide +kernel)
set_option maxRecDepth 65536 in
theorem w_c25 : (Jvm.Cond.code ({ cls := "java/util/Arrays", name := "checkLength", desc := "(II)V" } : Jvm.MethodName) jdk_65_method_131_code (2 : Nat) (Option.none : Option Jvm.ClassFile.FieldType)).before args0 about1 = true := code_word (m := ⟨15, 2⟩) (meth := k15m2) (c := k15c2) (by decide +kernel) rfl rfl rfl (by decide +kernel)
set_option maxRecDepth 65536 in
theorem w_c26 : (Jvm.Cond.code ({ cls := "java/lang/Math", name := "min", desc := "(II)I" } : Jvm.MethodName) jdk_29_method_69_code (2 : Nat) (Option.some Jvm.ClassFile.FieldType.int)).before args0 about1 = true := code_word (m := ⟨16, 2⟩) (meth := k16m2) (c := k16c2) (by decide +kernel) rfl rfl rfl (by decide +kernel)
set_option maxRecDepth 65536 in
theorem w_c27 : (Jvm.Cond.code ({ cls := "java/lang/String", name := "<init>", desc := "([BB)V" } : Jvm.MethodName) jdk_42_method_151_code (3 : Nat) (Option.none : Option Jvm.ClassFile.FieldType)).before args0 about1 = true := code_word (m := ⟨7, 9⟩) (meth := k7m9) (c := k7c9) (by decide +kernel) rfl rfl rfl (by decide +kernel)
set_option maxRecDepth 65536 in
theorem w_c28 : (Jvm.Cond.code ({ cls := "java/lang/StringBuilder", name := "append", desc := "(Ljava/lang/String;)Ljava/lang/StringBuilder;" } : Jvm.MethodName) jdk_67_method_7_code (2 : Nat) (Option.some (Jvm.ClassFile.FieldType.object "java/lang/StringBuilder"))).before args0 about1 = true := code_word (m := ⟨12, 1⟩) (meth := k12m1) (c := k12c1) (by decide +kernel) rfl rfl rfl (by decide +kernel)
set_option maxRecDepth 65536 in
theorem w_c29 : (Jvm.Cond.code ({ cls := "java/lang/AbstractStringBuilder", name := "append", desc := "(Ljava/lang/String;)Ljava/lang/AbstractStringBuilder;" } : Jvm.MethodName) jdk_68_method_22_code (3 : Nat) (Option.some (Jvm.ClassFile.FieldType.object "java/lang/AbstractStringBuilder"))).before args0 about1 = true := code_word (m := ⟨11, 6⟩) (meth := k11m6) (c := k11c6) (by decide +kernel) rfl rfl rfl (by decide +kernel)
set_option maxRecDepth 65536 in
theorem w_c30 : (Jvm.Cond.code ({ cls := "java/lang/AbstractStringBuilder", name := "ensureCapacityInternal", desc := "(I)V" } : Jvm.MethodName) jdk_68_method_9_code (3 : Nat) (Option.none : Option Jvm.ClassFile.FieldType)).before args0 about1 = true := code_word (m := ⟨11, 3⟩) (meth := k11m3) (c := k11c3) (by decide +kernel) rfl rfl rfl (by decide +kernel)
set_option maxRecDepth 65536 in
theorem w_c31 : (Jvm.Cond.code ({ cls := "java/lang/AbstractStringBuilder", name := "newCapacity", desc := "(I)I" } : Jvm.MethodName) jdk_68_method_10_code (6 : Nat) (Option.some Jvm.ClassFile.FieldType.int)).before args0 about1 = true := code_word (m := ⟨11, 4⟩) (meth := k11m4) (c := k11c4) (by decide +kernel) rfl rfl rfl (by decide +kernel)
set_option maxRecDepth 65536 in
theorem w_c32 : (Jvm.Cond.code ({ cls := "jdk/internal/util/ArraysSupport", name := "newLength", desc := "(III)I" } : Jvm.MethodName) jdk_48_method_27_code (4 : Nat) (Option.some Jvm.ClassFile.FieldType.int)).before args0 about1 = true := code_word (m := ⟨18, 1⟩) (meth := k18m1) (c := k18c1) (by decide +kernel) rfl rfl rfl (by decide +kernel)
set_option maxRecDepth 65536 in
theorem w_c33 : (Jvm.Cond.code ({ cls := "java/lang/Math", name := "max", desc := "(II)I" } : Jvm.MethodName) jdk_29_method_65_code (2 : Nat) (Option.some Jvm.ClassFile.FieldType.int)).before args0 about1 = true := code_word (m := ⟨16, 1⟩) (meth := k16m1) (c := k16c1) (by decide +kernel) rfl rfl rfl (by decide +kernel)
set_option maxRecDepth 65536 in
theorem w_c34 : (Jvm.Cond.code ({ cls := "java/util/Arrays", name := "copyOf", desc := "([BI)[B" } : Jvm.MethodName) jdk_65_method_121_code (3 : Nat) (Option.some (Jvm.ClassFile.FieldType.array Jvm.ClassFile.FieldType.byte))).before args0 about1 = true := code_word (m := ⟨15, 1⟩) (meth := k15m1) (c := k15c1) (by decide +kernel) rfl rfl rfl (by decide +kernel)
set_option maxRecDepth 65536 in
theorem w_c35 : (Jvm.Cond.code ({ cls := "java/lang/AbstractStringBuilder", name := "putStringAt", desc := "(ILjava/lang/String;)V" } : Jvm.MethodName) jdk_68_method_73_code (3 : Nat) (Option.none : Option Jvm.ClassFile.FieldType)).before args0 about1 = true := code_word (m := ⟨11, 10⟩) (meth := k11m10) (c := k11c10) (by decide +kernel) rfl rfl rfl (by decide +kernel)
set_option maxRecDepth 65536 in
theorem w_c36 : (Jvm.Cond.code ({ cls := "java/lang/AbstractStringBuilder", name := "inflateIfNeededFor", desc := "(Ljava/lang/String;)V" } : Jvm.MethodName) jdk_68_method_71_code (2 : Nat) (Option.none : Option Jvm.ClassFile.FieldType)).before args0 about1 = true := code_word (m := ⟨11, 9⟩) (meth := k11m9) (c := k11c9) (by decide +kernel) rfl rfl rfl (by decide +kernel)
set_option maxRecDepth 65536 in
theorem w_c37 : (Jvm.Cond.code ({ cls := "java/lang/String", name := "getBytes", desc := "([BIB)V" } : Jvm.MethodName) jdk_42_method_147_code (4 : Nat) (Option.none : Option Jvm.ClassFile.FieldType)).before args0 about1 = true := code_word (m := ⟨7, 6⟩) (meth := k7m6) (c := k7c6) (by decide +kernel) rfl rfl rfl (by decide +kernel)
set_option maxRecDepth 65536 in
theorem w_c38 : (Jvm.Cond.code ({ cls := "java/lang/StringBuilder", name := "toString", desc := "()Ljava/lang/String;" } : Jvm.MethodName) jdk_67_method_42_code (1 : Nat) (Option.some (Jvm.ClassFile.FieldType.object "java/lang/String"))).before args0 about1 = true := code_word (m := ⟨12, 2⟩) (meth := k12m2) (c := k12c2) (by decide +kernel) rfl rfl rfl (by decide +kernel)
set_option maxRecDepth 65536 in
theorem w_c39 : (Jvm.Cond.code ({ cls := "java/lang/String", name := "<init>", desc := "(Ljava/lang/StringBuilder;)V" } : Jvm.MethodName) jdk_42_method_53_code (2 : Nat) (Option.none : Option Jvm.ClassFile.FieldType)).before args0 about1 = true := code_word (m := ⟨7, 2⟩) (meth := k7m2) (c := k7c2) (by decide +kernel) rfl rfl rfl (by decide +kernel)
set_option maxRecDepth 65536 in
theorem w_c40 : (Jvm.Cond.code ({ cls := "java/lang/String", name := "<init>", desc := "(Ljava/lang/AbstractStringBuilder;Ljava/lang/Void;)V" } : Jvm.MethodName) jdk_42_method_150_code (5 : Nat) (Option.none : Option Jvm.ClassFile.FieldType)).before args0 about1 = true := code_word (m := ⟨7, 8⟩) (meth := k7m8) (c := k7c8) (by decide +kernel) rfl rfl rfl (by decide +kernel)
set_option maxRecDepth 65536 in
theorem w_c41 : (Jvm.Cond.code ({ cls := "java/lang/AbstractStringBuilder", name := "getValue", desc := "()[B" } : Jvm.MethodName) jdk_68_method_64_code (1 : Nat) (Option.some (Jvm.ClassFile.FieldType.array Jvm.ClassFile.FieldType.byte))).before args0 about1 = true := code_word (m := ⟨11, 7⟩) (meth := k11m7) (c := k11c7) (by decide +kernel) rfl rfl rfl (by decide +kernel)
set_option maxRecDepth 65536 in
theorem w_c42 : (Jvm.Cond.code ({ cls := "java/lang/StringBuilder", name := "length", desc := "()I" } : Jvm.MethodName) jdk_67_method_93_code (1 : Nat) (Option.some Jvm.ClassFile.FieldType.int)).before args0 about1 = true := code_word (m := ⟨12, 3⟩) (meth := k12m3) (c := k12c3) (by decide +kernel) rfl rfl rfl (by decide +kernel)
set_option maxRecDepth 65536 in
theorem w_c43 : (Jvm.Cond.code ({ cls := "java/lang/AbstractStringBuilder", name := "length", desc := "()I" } : Jvm.MethodName) jdk_68_method_6_code (1 : Nat) (Option.some Jvm.ClassFile.FieldType.int)).before args0 about1 = true := code_word (m := ⟨11, 2⟩) (meth := k11m2) (c := k11c2) (by decide +kernel) rfl rfl rfl (by decide +kernel)
set_option maxRecDepth 65536 in
theorem w_c44 : (Jvm.Cond.code ({ cls := "java/lang/AbstractStringBuilder", name := "isLatin1", desc := "()Z" } : Jvm.MethodName) jdk_68_method_68_code (1 : Nat) (Option.some Jvm.ClassFile.FieldType.boolean)).before args0 about1 = true := code_word (m := ⟨11, 8⟩) (meth := k11m8) (c := k11c8) (by decide +kernel) rfl rfl rfl (by decide +kernel)
set_option maxRecDepth 65536 in
theorem w_c45 : (Jvm.Cond.code ({ cls := "java/lang/StringLatin1", name := "equals", desc := "([B[B)Z" } : Jvm.MethodName) jdk_43_method_13_code (3 : Nat) (Option.some Jvm.ClassFile.FieldType.boolean)).before args0 about1 = true := code_word (m := ⟨14, 1⟩) (meth := k14m1) (c := k14c1) (by decide +kernel) rfl rfl rfl (by decide +kernel)
set_option maxRecDepth 65536 in
theorem w_c46 : (Jvm.Cond.code ({ cls := "java/lang/StringUTF16", name := "newString", desc := "([BII)Ljava/lang/String;" } : Jvm.MethodName) jdk_52_method_69_code (5 : Nat) (Option.some (Jvm.ClassFile.FieldType.object "java/lang/String"))).before args0 about1 = true := code_word (m := ⟨9, 12⟩) (meth := k9m12) (c := k9c12) (by decide +kernel) rfl rfl rfl (by decide +kernel)
set_option maxRecDepth 65536 in
theorem w_c47 : (Jvm.Cond.code ({ cls := "java/lang/StringUTF16", name := "compress", desc := "([BII)[B" } : Jvm.MethodName) jdk_52_method_17_code (6 : Nat) (Option.some (Jvm.ClassFile.FieldType.array Jvm.ClassFile.FieldType.byte))).before args0 about1 = true := code_word (m := ⟨9, 9⟩) (meth := k9m9) (c := k9c9) (by decide +kernel) rfl rfl rfl (by decide +kernel)
set_option maxRecDepth 65536 in
theorem w_c48 : (Jvm.Cond.code ({ cls := "java/lang/StringUTF16", name := "compress", desc := "([BI[BII)I" } : Jvm.MethodName) jdk_52_method_22_code (7 : Nat) (Option.some Jvm.ClassFile.FieldType.int)).before args0 about1 = true := code_word (m := ⟨9, 11⟩) (meth := k9m11) (c := k9c11) (by decide +kernel) rfl rfl rfl (by decide +kernel)
set_option maxRecDepth 65536 in
theorem w_c49 : (Jvm.Cond.code ({ cls := "java/lang/StringUTF16", name := "checkBoundsOffCount", desc := "(II[B)V" } : Jvm.MethodName) jdk_52_method_94_code (3 : Nat) (Option.none : Option Jvm.ClassFile.FieldType)).before args0 about1 = true := code_word (m := ⟨9, 14⟩) (meth := k9m14) (c := k9c14) (by decide +kernel) rfl rfl rfl (by decide +kernel)
set_option maxRecDepth 65536 in
theorem w_c50 : (Jvm.Cond.code ({ cls := "java/lang/StringUTF16", name := "length", desc := "([B)I" } : Jvm.MethodName) jdk_52_method_6_code (1 : Nat) (Option.some Jvm.ClassFile.FieldType.int)).before args0 about1 = true := code_word (m := ⟨9, 5⟩) (meth := k9m5) (c := k9c5) (by decide +kernel) rfl rfl rfl (by decide +kernel)
set_option maxRecDepth 65536 in
theorem w_c51 : (Jvm.Cond.code ({ cls := "java/lang/String", name := "checkBoundsOffCount", desc := "(III)I" } : Jvm.MethodName) jdk_42_method_157_code (3 : Nat) (Option.some Jvm.ClassFile.FieldType.int)).before args0 about1 = true := code_word (m := ⟨7, 12⟩) (meth := k7m12) (c := k7c12) (by decide +kernel) rfl rfl rfl (by decide +kernel)
set_option maxRecDepth 65536 in
theorem w_c52 : (Jvm.Cond.code ({ cls := "jdk/internal/util/Preconditions", name := "checkFromIndexSize", desc := "(IIILjava/util/function/BiFunction;)I" } : Jvm.MethodName) jdk_41_method_13_code (4 : Nat) (Option.some Jvm.ClassFile.FieldType.int)).before args0 about1 = true := code_word (m := ⟨13, 2⟩) (meth := k13m2) (c := k13c2) (by decide +kernel) rfl rfl rfl (by decide +kernel)
set_option maxRecDepth 65536 in
theorem w_c53 : (Jvm.Cond.code ({ cls := "java/lang/AbstractStringBuilder", name := "inflate", desc := "()V" } : Jvm.MethodName) jdk_68_method_11_code (2 : Nat) (Option.none : Option Jvm.ClassFile.FieldType)).before args0 about1 = true := code_word (m := ⟨11, 5⟩) (meth := k11m5) (c := k11c5) (by decide +kernel) rfl rfl rfl (by decide +kernel)
set_option maxRecDepth 65536 in
theorem w_c54 : (Jvm.Cond.code ({ cls := "java/lang/StringLatin1", name := "inflate", desc := "([BI[BII)V" } : Jvm.MethodName) jdk_43_method_50_code (5 : Nat) (Option.none : Option Jvm.ClassFile.FieldType)).before args0 about1 = true := code_word (m := ⟨14, 3⟩) (meth := k14m3) (c := k14c3) (by decide +kernel) rfl rfl rfl (by decide +kernel)
set_option maxRecDepth 65536 in
theorem w_c55 : (Jvm.Cond.code ({ cls := "java/lang/StringUTF16", name := "inflate", desc := "([BI[BII)V" } : Jvm.MethodName) jdk_52_method_86_code (6 : Nat) (Option.none : Option Jvm.ClassFile.FieldType)).before args0 about1 = true := code_word (m := ⟨9, 13⟩) (meth := k9m13) (c := k9c13) (by decide +kernel) rfl rfl rfl (by decide +kernel)
def codes1 : List Jvm.Cond := [Jvm.Cond.code x code maxLocals ret, Jvm.Cond.code ({ cls := "java/lang/String", name := "<init>", desc := "([C)V" } : Jvm.MethodName) jdk_42_method_3_code (2 : Nat) (Option.none : Option Jvm.ClassFile.FieldType), Jvm.Cond.code ({ cls := "java/lang/String", name := "<init>", desc := "([CIILjava/lang/Void;)V" } : Jvm.MethodName) jdk_42_method_149_code (6 : Nat) (Option.none : Option Jvm.ClassFile.FieldType), Jvm.Cond.code ({ cls := "java/lang/Object", name := "<init>", desc := "()V" } : Jvm.MethodName) object_method_1_code (1 : Nat) (Option.none : Option Jvm.ClassFile.FieldType), Jvm.Cond.code ({ cls := "com/example/atomicity/atomicity/Text", name := "abbreviate", desc := "(Ljava/lang/String;)Ljava/lang/String;" } : Jvm.MethodName) prog_12_method_2_code (1 : Nat) (Option.some (Jvm.ClassFile.FieldType.object "java/lang/String")), Jvm.Cond.code ({ cls := "java/lang/String", name := "length", desc := "()I" } : Jvm.MethodName) jdk_42_method_54_code (1 : Nat) (Option.some Jvm.ClassFile.FieldType.int), Jvm.Cond.code ({ cls := "java/lang/String", name := "coder", desc := "()B" } : Jvm.MethodName) jdk_42_method_152_code (1 : Nat) (Option.some Jvm.ClassFile.FieldType.byte), Jvm.Cond.code ({ cls := "java/lang/String", name := "equals", desc := "(Ljava/lang/Object;)Z" } : Jvm.MethodName) jdk_42_method_66_code (3 : Nat) (Option.some Jvm.ClassFile.FieldType.boolean), Jvm.Cond.code ({ cls := "java/lang/StringUTF16", name := "compress", desc := "([CII)[B" } : Jvm.MethodName) jdk_52_method_16_code (6 : Nat) (Option.some (Jvm.ClassFile.FieldType.array Jvm.ClassFile.FieldType.byte)), Jvm.Cond.code ({ cls := "java/lang/StringUTF16", name := "compress", desc := "([CI[BII)I" } : Jvm.MethodName) jdk_52_method_21_code (7 : Nat) (Option.some Jvm.ClassFile.FieldType.int), Jvm.Cond.code ({ cls := "java/lang/StringUTF16", name := "coderFromArrayLen", desc := "([BI)B" } : Jvm.MethodName) jdk_52_method_15_code (2 : Nat) (Option.some Jvm.ClassFile.FieldType.byte), Jvm.Cond.code ({ cls := "java/lang/StringUTF16", name := "toBytes", desc := "([CII)[B" } : Jvm.MethodName) jdk_52_method_14_code (5 : Nat) (Option.some (Jvm.ClassFile.FieldType.array Jvm.ClassFile.FieldType.byte)), Jvm.Cond.code ({ cls := "java/lang/StringUTF16", name := "newBytesFor", desc := "(I)[B" } : Jvm.MethodName) jdk_52_method_2_code (1 : Nat) (Option.some (Jvm.ClassFile.FieldType.array Jvm.ClassFile.FieldType.byte)), Jvm.Cond.code ({ cls := "java/lang/StringUTF16", name := "newBytesLength", desc := "(I)I" } : Jvm.MethodName) jdk_52_method_3_code (1 : Nat) (Option.some Jvm.ClassFile.FieldType.int), Jvm.Cond.code ({ cls := "java/lang/StringUTF16", name := "putChar", desc := "([BII)V" } : Jvm.MethodName) jdk_52_method_4_code (3 : Nat) (Option.none : Option Jvm.ClassFile.FieldType), Jvm.Cond.code ({ cls := "java/lang/StringUTF16", name := "getChar", desc := "([BI)C" } : Jvm.MethodName) jdk_52_method_5_code (2 : Nat) (Option.some Jvm.ClassFile.FieldType.char), Jvm.Cond.code ({ cls := "java/lang/StringBuilder", name := "<init>", desc := "()V" } : Jvm.MethodName) jdk_67_method_1_code (1 : Nat) (Option.none : Option Jvm.ClassFile.FieldType), Jvm.Cond.code ({ cls := "java/lang/AbstractStringBuilder", name := "<init>", desc := "(I)V" } : Jvm.MethodName) jdk_68_method_2_code (2 : Nat) (Option.none : Option Jvm.ClassFile.FieldType), Jvm.Cond.code ({ cls := "java/lang/String", name := "substring", desc := "(II)Ljava/lang/String;" } : Jvm.MethodName) jdk_42_method_92_code (5 : Nat) (Option.some (Jvm.ClassFile.FieldType.object "java/lang/String")), Jvm.Cond.code ({ cls := "java/lang/String", name := "checkBoundsBeginEnd", desc := "(III)V" } : Jvm.MethodName) jdk_42_method_158_code (3 : Nat) (Option.none : Option Jvm.ClassFile.FieldType), Jvm.Cond.code ({ cls := "jdk/internal/util/Preconditions", name := "checkFromToIndex", desc := "(IIILjava/util/function/BiFunction;)I" } : Jvm.MethodName) jdk_41_method_12_code (4 : Nat) (Option.some Jvm.ClassFile.FieldType.int), Jvm.Cond.code ({ cls := "java/lang/String", name := "isLatin1", desc := "()Z" } : Jvm.MethodName) jdk_42_method_154_code (1 : Nat) (Option.some Jvm.ClassFile.FieldType.boolean), Jvm.Cond.code ({ cls := "java/lang/StringLatin1", name := "newString", desc := "([BII)Ljava/lang/String;" } : Jvm.MethodName) jdk_43_method_47_code (3 : Nat) (Option.some (Jvm.ClassFile.FieldType.object "java/lang/String")), Jvm.Cond.code ({ cls := "java/util/Arrays", name := "copyOfRange", desc := "([BII)[B" } : Jvm.MethodName) jdk_65_method_132_code (3 : Nat) (Option.some (Jvm.ClassFile.FieldType.array Jvm.ClassFile.FieldType.byte)), Jvm.Cond.code ({ cls := "java/util/Arrays", name := "copyOfRangeByte", desc := "([BII)[B" } : Jvm.MethodName) jdk_65_method_133_code (5 : Nat) (Option.some (Jvm.ClassFile.FieldType.array Jvm.ClassFile.FieldType.byte)), Jvm.Cond.code ({ cls := "java/util/Arrays", name := "checkLength", desc := "(II)V" } : Jvm.MethodName) jdk_65_method_131_code (2 : Nat) (Option.none : Option Jvm.ClassFile.FieldType), Jvm.Cond.code ({ cls := "java/lang/Math", name := "min", desc := "(II)I" } : Jvm.MethodName) jdk_29_method_69_code (2 : Nat) (Option.some Jvm.ClassFile.FieldType.int), Jvm.Cond.code ({ cls := "java/lang/String", name := "<init>", desc := "([BB)V" } : Jvm.MethodName) jdk_42_method_151_code (3 : Nat) (Option.none : Option Jvm.ClassFile.FieldType), Jvm.Cond.code ({ cls := "java/lang/StringBuilder", name := "append", desc := "(Ljava/lang/String;)Ljava/lang/StringBuilder;" } : Jvm.MethodName) jdk_67_method_7_code (2 : Nat) (Option.some (Jvm.ClassFile.FieldType.object "java/lang/StringBuilder")), Jvm.Cond.code ({ cls := "java/lang/AbstractStringBuilder", name := "append", desc := "(Ljava/lang/String;)Ljava/lang/AbstractStringBuilder;" } : Jvm.MethodName) jdk_68_method_22_code (3 : Nat) (Option.some (Jvm.ClassFile.FieldType.object "java/lang/AbstractStringBuilder")), Jvm.Cond.code ({ cls := "java/lang/AbstractStringBuilder", name := "ensureCapacityInternal", desc := "(I)V" } : Jvm.MethodName) jdk_68_method_9_code (3 : Nat) (Option.none : Option Jvm.ClassFile.FieldType), Jvm.Cond.code ({ cls := "java/lang/AbstractStringBuilder", name := "newCapacity", desc := "(I)I" } : Jvm.MethodName) jdk_68_method_10_code (6 : Nat) (Option.some Jvm.ClassFile.FieldType.int), Jvm.Cond.code ({ cls := "jdk/internal/util/ArraysSupport", name := "newLength", desc := "(III)I" } : Jvm.MethodName) jdk_48_method_27_code (4 : Nat) (Option.some Jvm.ClassFile.FieldType.int), Jvm.Cond.code ({ cls := "java/lang/Math", name := "max", desc := "(II)I" } : Jvm.MethodName) jdk_29_method_65_code (2 : Nat) (Option.some Jvm.ClassFile.FieldType.int), Jvm.Cond.code ({ cls := "java/util/Arrays", name := "copyOf", desc := "([BI)[B" } : Jvm.MethodName) jdk_65_method_121_code (3 : Nat) (Option.some (Jvm.ClassFile.FieldType.array Jvm.ClassFile.FieldType.byte)), Jvm.Cond.code ({ cls := "java/lang/AbstractStringBuilder", name := "putStringAt", desc := "(ILjava/lang/String;)V" } : Jvm.MethodName) jdk_68_method_73_code (3 : Nat) (Option.none : Option Jvm.ClassFile.FieldType), Jvm.Cond.code ({ cls := "java/lang/AbstractStringBuilder", name := "inflateIfNeededFor", desc := "(Ljava/lang/String;)V" } : Jvm.MethodName) jdk_68_method_71_code (2 : Nat) (Option.none : Option Jvm.ClassFile.FieldType), Jvm.Cond.code ({ cls := "java/lang/String", name := "getBytes", desc := "([BIB)V" } : Jvm.MethodName) jdk_42_method_147_code (4 : Nat) (Option.none : Option Jvm.ClassFile.FieldType), Jvm.Cond.code ({ cls := "java/lang/StringBuilder", name := "toString", desc := "()Ljava/lang/String;" } : Jvm.MethodName) jdk_67_method_42_code (1 : Nat) (Option.some (Jvm.ClassFile.FieldType.object "java/lang/String")), Jvm.Cond.code ({ cls := "java/lang/String", name := "<init>", desc := "(Ljava/lang/StringBuilder;)V" } : Jvm.MethodName) jdk_42_method_53_code (2 : Nat) (Option.none : Option Jvm.ClassFile.FieldType), Jvm.Cond.code ({ cls := "java/lang/String", name := "<init>", desc := "(Ljava/lang/AbstractStringBuilder;Ljava/lang/Void;)V" } : Jvm.MethodName) jdk_42_method_150_code (5 : Nat) (Option.none : Option Jvm.ClassFile.FieldType), Jvm.Cond.code ({ cls := "java/lang/AbstractStringBuilder", name := "getValue", desc := "()[B" } : Jvm.MethodName) jdk_68_method_64_code (1 : Nat) (Option.some (Jvm.ClassFile.FieldType.array Jvm.ClassFile.FieldType.byte)), Jvm.Cond.code ({ cls := "java/lang/StringBuilder", name := "length", desc := "()I" } : Jvm.MethodName) jdk_67_method_93_code (1 : Nat) (Option.some Jvm.ClassFile.FieldType.int), Jvm.Cond.code ({ cls := "java/lang/AbstractStringBuilder", name := "length", desc := "()I" } : Jvm.MethodName) jdk_68_method_6_code (1 : Nat) (Option.some Jvm.ClassFile.FieldType.int), Jvm.Cond.code ({ cls := "java/lang/AbstractStringBuilder", name := "isLatin1", desc := "()Z" } : Jvm.MethodName) jdk_68_method_68_code (1 : Nat) (Option.some Jvm.ClassFile.FieldType.boolean), Jvm.Cond.code ({ cls := "java/lang/StringLatin1", name := "equals", desc := "([B[B)Z" } : Jvm.MethodName) jdk_43_method_13_code (3 : Nat) (Option.some Jvm.ClassFile.FieldType.boolean), Jvm.Cond.code ({ cls := "java/lang/StringUTF16", name := "newString", desc := "([BII)Ljava/lang/String;" } : Jvm.MethodName) jdk_52_method_69_code (5 : Nat) (Option.some (Jvm.ClassFile.FieldType.object "java/lang/String")), Jvm.Cond.code ({ cls := "java/lang/StringUTF16", name := "compress", desc := "([BII)[B" } : Jvm.MethodName) jdk_52_method_17_code (6 : Nat) (Option.some (Jvm.ClassFile.FieldType.array Jvm.ClassFile.FieldType.byte)), Jvm.Cond.code ({ cls := "java/lang/StringUTF16", name := "compress", desc := "([BI[BII)I" } : Jvm.MethodName) jdk_52_method_22_code (7 : Nat) (Option.some Jvm.ClassFile.FieldType.int), Jvm.Cond.code ({ cls := "java/lang/StringUTF16", name := "checkBoundsOffCount", desc := "(II[B)V" } : Jvm.MethodName) jdk_52_method_94_code (3 : Nat) (Option.none : Option Jvm.ClassFile.FieldType), Jvm.Cond.code ({ cls := "java/lang/StringUTF16", name := "length", desc := "([B)I" } : Jvm.MethodName) jdk_52_method_6_code (1 : Nat) (Option.some Jvm.ClassFile.FieldType.int), Jvm.Cond.code ({ cls := "java/lang/String", name := "checkBoundsOffCount", desc := "(III)I" } : Jvm.MethodName) jdk_42_method_157_code (3 : Nat) (Option.some Jvm.ClassFile.FieldType.int), Jvm.Cond.code ({ cls := "jdk/internal/util/Preconditions", name := "checkFromIndexSize", desc := "(IIILjava/util/function/BiFunction;)I" } : Jvm.MethodName) jdk_41_method_13_code (4 : Nat) (Option.some Jvm.ClassFile.FieldType.int), Jvm.Cond.code ({ cls := "java/lang/AbstractStringBuilder", name := "inflate", desc := "()V" } : Jvm.MethodName) jdk_68_method_11_code (2 : Nat) (Option.none : Option Jvm.ClassFile.FieldType), Jvm.Cond.code ({ cls := "java/lang/StringLatin1", name := "inflate", desc := "([BI[BII)V" } : Jvm.MethodName) jdk_43_method_50_code (5 : Nat) (Option.none : Option Jvm.ClassFile.FieldType), Jvm.Cond.code ({ cls := "java/lang/StringUTF16", name := "inflate", desc := "([BI[BII)V" } : Jvm.MethodName) jdk_52_method_86_code (6 : Nat) (Option.none : Option Jvm.ClassFile.FieldType)]
set_option maxRecDepth 65536 in
theorem codes_eq : words1.filter isCode = codes1 := rfl
theorem w_codes : ∀ c ∈ words1.filter isCode, c.before args0 about1 = true := by
  rw [codes_eq]
  intro c hc
  simp only [codes1, List.mem_cons, List.not_mem_nil, or_false] at hc
  rcases hc with rfl | rfl | rfl | rfl | rfl | rfl | rfl | rfl | rfl | rfl | rfl | rfl | rfl | rfl | rfl | rfl | rfl | rfl | rfl | rfl | rfl | rfl | rfl | rfl | rfl | rfl | rfl | rfl | rfl | rfl | rfl | rfl | rfl | rfl | rfl | rfl | rfl | rfl | rfl | rfl | rfl | rfl | rfl | rfl | rfl | rfl | rfl | rfl | rfl | rfl | rfl | rfl | rfl | rfl | rfl | rfl
  · exact w_c0
  · exact w_c1
  · exact w_c2
  · exact w_c3
  · exact w_c4
  · exact w_c5
  · exact w_c6
  · exact w_c7
  · exact w_c8
  · exact w_c9
  · exact w_c10
  · exact w_c11
  · exact w_c12
  · exact w_c13
  · exact w_c14
  · exact w_c15
  · exact w_c16
  · exact w_c17
  · exact w_c18
  · exact w_c19
  · exact w_c20
  · exact w_c21
  · exact w_c22
  · exact w_c23
  · exact w_c24
  · exact w_c25
  · exact w_c26
  · exact w_c27
  · exact w_c28
  · exact w_c29
  · exact w_c30
  · exact w_c31
  · exact w_c32
  · exact w_c33
  · exact w_c34
  · exact w_c35
  · exact w_c36
  · exact w_c37
  · exact w_c38
  · exact w_c39
  · exact w_c40
  · exact w_c41
  · exact w_c42
  · exact w_c43
  · exact w_c44
  · exact w_c45
  · exact w_c46
  · exact w_c47
  · exact w_c48
  · exact w_c49
  · exact w_c50
  · exact w_c51
  · exact w_c52
  · exact w_c53
  · exact w_c54
  · exact w_c55
set_option maxRecDepth 65536 in
theorem w_t1 : (words1.take 24).all (fun c => isCode c || c.before args0 about1) = true := by decide +kernel
set_option maxRecDepth 65536 in
theorem w_t2 : ((words1.drop 24).take 24).all (fun c => isCode c || c.before args0 about1) = true := by decide +kernel
set_option maxRecDepth 65536 in
theorem w_t3 : (((words1.drop 24).drop 24).take 24).all (fun c => isCode c || c.before args0 about1) = true := by decide +kernel
set_option maxRecDepth 65536 in
theorem w_t4 : ((((words1.drop 24).drop 24).drop 24).take 24).all (fun c => isCode c || c.before args0 about1) = true := by decide +kernel
set_option maxRecDepth 65536 in
theorem w_t5 : (((((words1.drop 24).drop 24).drop 24).drop 24).take 24).all (fun c => isCode c || c.before args0 about1) = true := by decide +kernel
set_option maxRecDepth 65536 in
theorem w_t6 : ((((((words1.drop 24).drop 24).drop 24).drop 24).drop 24).take 24).all (fun c => isCode c || c.before args0 about1) = true := by decide +kernel
set_option maxRecDepth 65536 in
theorem w_t7 : (((((((words1.drop 24).drop 24).drop 24).drop 24).drop 24).drop 24).take 24).all (fun c => isCode c || c.before args0 about1) = true := by decide +kernel
set_option maxRecDepth 65536 in
theorem w_t8 : ((((((((words1.drop 24).drop 24).drop 24).drop 24).drop 24).drop 24).drop 24).take 24).all (fun c => isCode c || c.before args0 about1) = true := by decide +kernel
set_option maxRecDepth 65536 in
theorem w_t9 : (((((((((words1.drop 24).drop 24).drop 24).drop 24).drop 24).drop 24).drop 24).drop 24).take 24).all (fun c => isCode c || c.before args0 about1) = true := by decide +kernel
set_option maxRecDepth 65536 in
theorem w_t10 : ((((((((((words1.drop 24).drop 24).drop 24).drop 24).drop 24).drop 24).drop 24).drop 24).drop 24).take 24).all (fun c => isCode c || c.before args0 about1) = true := by decide +kernel
set_option maxRecDepth 65536 in
theorem w_t11 : (((((((((((words1.drop 24).drop 24).drop 24).drop 24).drop 24).drop 24).drop 24).drop 24).drop 24).drop 24).take 24).all (fun c => isCode c || c.before args0 about1) = true := by decide +kernel
set_option maxRecDepth 65536 in
theorem w_t12 : (((((((((((words1.drop 24).drop 24).drop 24).drop 24).drop 24).drop 24).drop 24).drop 24).drop 24).drop 24).drop 24).all (fun c => isCode c || c.before args0 about1) = true := by decide +kernel
theorem w_tables : (allAtoms (Jvm.Cond.code x code maxLocals ret :: tables_1)).before args0 about1 = true := by
  rw [allAtoms_all]
  show words1.all (fun c => c.before args0 about1) = true
  refine all_split ?_ w_codes
  rw [← List.take_append_drop 24 words1, List.all_append, w_t1, ← List.take_append_drop 24 (words1.drop 24), List.all_append, w_t2, ← List.take_append_drop 24 ((words1.drop 24).drop 24), List.all_append, w_t3, ← List.take_append_drop 24 (((words1.drop 24).drop 24).drop 24), List.all_append, w_t4, ← List.take_append_drop 24 ((((words1.drop 24).drop 24).drop 24).drop 24), List.all_append, w_t5, ← List.take_append_drop 24 (((((words1.drop 24).drop 24).drop 24).drop 24).drop 24), List.all_append, w_t6, ← List.take_append_drop 24 ((((((words1.drop 24).drop 24).drop 24).drop 24).drop 24).drop 24), List.all_append, w_t7, ← List.take_append_drop 24 (((((((words1.drop 24).drop 24).drop 24).drop 24).drop 24).drop 24).drop 24), List.all_append, w_t8, ← List.take_append_drop 24 ((((((((words1.drop 24).drop 24).drop 24).drop 24).drop 24).drop 24).drop 24).drop 24), List.all_append, w_t9, ← List.take_append_drop 24 (((((((((words1.drop 24).drop 24).drop 24).drop 24).drop 24).drop 24).drop 24).drop 24).drop 24), List.all_append, w_t10, ← List.take_append_drop 24 ((((((((((words1.drop 24).drop 24).drop 24).drop 24).drop 24).drop 24).drop 24).drop 24).drop 24).drop 24), List.all_append, w_t11, w_t12]
  rfl
set_option maxRecDepth 65536 in
theorem w_rest : rest_1_c.before args0 about1 = true := by decide +kernel
set_option maxRecDepth 65536 in
theorem w_case : (Jvm.Cond.and given_1 narrow_1).before args0 about1 = true := by decide +kernel
set_option maxRecDepth 65536 in
theorem w_consts : constsHeld consts_1 about1 := Jvm.Lit.constsHeldB_iff.mp (by decide +kernel)
theorem w_applies : (headSpec (Jvm.Cond.code x code maxLocals ret :: tables_1) room_1).applies x e0.platform about1 = true :=
  (Spec.applies_iff w_frames).mpr ⟨w_running, w_runnable, w_alone, w_named, w_hears, w_ripe, w_room, w_tables⟩
theorem atStart : AtStart classFile x code maxLocals ret World_1 tables_1 room_1 Calls_1 rest_1 Pre_1 launch0 p0 e0 about1 theMethod args0 below0 :=
  ⟨lists_1, trivial, launch0.admits_env _ _ _, launch0.least_env, fairChoices_fair.cas, fairChoices_fair.clock, w_frames, w_args, w_heap, w_applies, ⟨w_consts, trivial⟩, w_rest, w_case⟩
end start1
theorem witness_1 : WitnessClaimed_1 := ⟨start1.p0, start1.e0, start1.about1, start1.theMethod, start1.args0, start1.below0, start1.atStart⟩
end Jvm.Pilot.@@N@@
