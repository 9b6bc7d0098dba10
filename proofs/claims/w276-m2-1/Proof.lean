import JvmDerived
import JvmDerived.Pilot.@@N@@Statement
import JvmDerived.Pilot.@@N@@Code
set_option linter.unusedVariables false
set_option linter.unusedSimpArgs false
namespace Jvm.RoadKit
open Sem ClassFile Op Lib Jvm.Stand Jvm.Free Jvm.LawKit
section New
variable {p : Program} {l : Launch} {e : Env} {R : Room} {s : State} {m : MethodId} {args : Array Value} {below : List Frame} {meth : Method} {c : Code} {T : State} {locs : List Loc} {cells slots : Nat}
theorem retI (X : Stand p l e R s m args below meth c T locs cells slots) (hx : p.tables.exec = Jvm.exec) {pc : Nat} {Ls : Array Slot} {z : Int32} {rest : List Value} (hret : meth.sig.returnType = some .int) (hd : decode c.code pc = .ok (.ireturn, 1)) {fs : List Frame}
    (hl : ∀ (f : JFrame) (acts : List Action), f.method = m → f.locked = none → f.entered = [] → (doReturn e (T.setTop f) acts (some (.int z))).1 = T.setFrames fs) : Steps p.tables e below (T.setTop (mkF m pc Ls (.int z :: rest))) (T.setFrames fs) := by
  have hm' : T.vm.method? m = some meth := X.method'
  have hn : narrow .int (.int z) = .int z := rfl
  show Steps p.tables e below (T.setTop { method := m, pc := pc, locals := Ls, stack := _ :: rest, locked := none }) _
  jvm_step X.here [X.here.top, hx, hd, hm', hret, hn]
  first | (intro acts; rw [hl _ acts rfl rfl rfl]) | rw [hl _ _ rfl rfl rfl]
  exact Steps.refl _
end New
end Jvm.RoadKit
/- laws to paste: Road.backV, Road.eqW, Road.codOf (cut by pick.py; bodies as the Statement names them) -/
namespace Jvm.Pilot.@@N@@
namespace StrChars
open Jvm Sem ClassFile Op Lib Jvm.Stand Jvm.Free.XT Jvm.Free.ALB Jvm.Free.JM Jvm.Free
open Jvm.Lib.Cold (StaticIs)
/-- a char array whose places are chars -/
def Ch (a : Addr) (A : Cell) (U : State) : Prop := Arr .char a A U ∧ Typed .char A
theorem Ch.mv {a : Addr} {A : Cell} {U U' : State} (h : Ch a A U) (hal : U.vm.Alike U'.vm) (hh : U'.heap = U.heap) : Ch a A U' := ⟨h.1.mv hal hh, h.2⟩
theorem Ch.keep {a : Addr} {A : Cell} {U U' : State} (h : Ch a A U) (hal : U.vm.Alike U'.vm) (hk : U'.heap[a]? = some A) : Ch a A U' := ⟨h.1.keep hal hk, h.2⟩
/-- what place i of a char[]'s cell holds -/
def cv (A : Cell) (i : Nat) : Int32 := match A.slots[i]? with | some (.int x) => x | _ => 0
theorem Ch.get {a : Addr} {A : Cell} {U : State} (h : Ch a A U) {i : Nat} (hi : i < A.slots.size) : A.slots[i]? = some (.int (cv A i)) := by
  have e := Array.getElem?_eq_getElem hi
  have f := h.2 i _ e
  unfold cv; rw [e]
  generalize A.slots[i] = v at f
  cases v <;> simp [fits] at f ⊢
/-- the byte that i2b leaves of a char -/
def lo8 (x : Int32) : Int32 := x.toInt8.toInt32
theorem fits_lo8 (y : Int32) : fits .byte (.int (lo8 y)) = true := by
  have h1 := y.toInt8.le_toInt
  have h2 := y.toInt8.toInt_lt
  simp only [lo8, fits, Bool.and_eq_true, decide_eq_true_eq, Int32.le_iff_toInt_le, Int8.toInt_toInt32, show (-128 : Int32).toInt = -128 from by decide, show (127 : Int32).toInt = 127 from by decide]
  omega
/-- A' is A but that each place j of lo .. hi - 1 holds f j -/
def Laid (A A' : Cell) (lo hi : Nat) (f : Nat → Value) : Prop := A'.cls = A.cls ∧ A'.vm = A.vm ∧ A'.slots.size = A.slots.size ∧ ∀ i, A'.slots[i]? = if lo ≤ i ∧ i < hi then some (f i) else A.slots[i]?
theorem Laid.zero (A : Cell) (lo : Nat) (f : Nat → Value) : Laid A A lo (lo + 0) f := ⟨rfl, rfl, rfl, fun i => by rw [if_neg (by omega)]⟩
theorem Laid.step {A Ak : Cell} {lo k : Nat} {f : Nat → Value} {v : Value} (h : Laid A Ak lo k f) (hlo : lo ≤ k) (hk : k < Ak.slots.size) (hv : v = f k) : Laid A (Ak.setSlot k v) lo (k + 1) f := by
  refine ⟨h.1, h.2.1, by simpa [Cell.setSlot] using h.2.2.1, fun i => ?_⟩
  by_cases e : k = i
  · subst e; rw [Cell.slots_setSlot_self v hk, if_pos (by omega), hv]
  · rw [Cell.slots_setSlot_ne v e, h.2.2.2 i]
    by_cases q : lo ≤ i ∧ i < k
    · rw [if_pos q, if_pos (by omega)]
    · rw [if_neg q, if_neg (by omega)]
def U16 : String := "java/lang/StringUTF16"
namespace Cmp5
def yN : MethodName := ⟨"java/lang/StringUTF16", "compress", "([CI[BII)I"⟩
abbrev yB : ByteArray := jdk_52_method_21_code
theorem d0 : decode yB 0 = .ok (.iconst 0, 1) := by decide +kernel
theorem d1 : decode yB 1 = .ok (.istore 5, 2) := by decide +kernel
theorem d3 : decode yB 3 = .ok (.iload 5, 2) := by decide +kernel
theorem d5 : decode yB 5 = .ok (.iload 4, 2) := by decide +kernel
theorem d7 : decode yB 7 = .ok (.if_icmp (.ge) 37, 3) := by decide +kernel
theorem d10 : decode yB 10 = .ok (.aload_n 0, 1) := by decide +kernel
theorem d11 : decode yB 11 = .ok (.iload_n 1, 1) := by decide +kernel
theorem d12 : decode yB 12 = .ok (.caload, 1) := by decide +kernel
theorem d13 : decode yB 13 = .ok (.istore 6, 2) := by decide +kernel
theorem d15 : decode yB 15 = .ok (.iload 6, 2) := by decide +kernel
theorem d17 : decode yB 17 = .ok (.sipush 255, 3) := by decide +kernel
theorem d20 : decode yB 20 = .ok (.if_icmp (.le) 6, 3) := by decide +kernel
theorem d26 : decode yB 26 = .ok (.aload_n 2, 1) := by decide +kernel
theorem d27 : decode yB 27 = .ok (.iload_n 3, 1) := by decide +kernel
theorem d28 : decode yB 28 = .ok (.iload 6, 2) := by decide +kernel
theorem d30 : decode yB 30 = .ok (.i2b, 1) := by decide +kernel
theorem d31 : decode yB 31 = .ok (.bastore, 1) := by decide +kernel
theorem d32 : decode yB 32 = .ok (.iinc 1 1, 3) := by decide +kernel
theorem d35 : decode yB 35 = .ok (.iinc 3 1, 3) := by decide +kernel
theorem d38 : decode yB 38 = .ok (.iinc 5 1, 3) := by decide +kernel
theorem d41 : decode yB 41 = .ok (.goto (-38), 3) := by decide +kernel
theorem d44 : decode yB 44 = .ok (.iload 4, 2) := by decide +kernel
theorem d46 : decode yB 46 = .ok (.ireturn, 1) := by decide +kernel
def site : List Cond := []
def tab : Cond := tabOf yN yB 7 (some .int) site
def P (b : Addr) (A : Cell) (d : Addr) (B : Cell) (o q len : Nat) (args : Array Value) (s : State) : Prop := args = #[.ref b, .int (Int32.ofNat o), .ref d, .int (Int32.ofNat q), .int (Int32.ofNat len)] ∧ Ch b A s ∧ Arr .byte d B s ∧ b ≠ d ∧ o + len ≤ A.slots.size ∧ q + len ≤ B.slots.size ∧ ∀ i, i < len → ¬ 255 < cv A (o + i)
def E (b : Addr) (A : Cell) (d : Addr) (B : Cell) (o q len : Nat) (r : Option Value) (s u : State) : Prop := r = some (.int (Int32.ofNat len)) ∧ ∃ B', Put d B' s u ∧ Laid B B' q (q + len) (fun j => Value.int (lo8 (cv A (o + (j - q)))))
/-- no char of the range above 255: len; the places written hold each char's low byte -/
theorem law (l : Launch) (b : Addr) (A : Cell) (d : Addr) (B : Cell) (o q len : Nat) : Law l yN 5 5 0 0 yB 7 (some .int) site (P b A d B o q len) (E b A d B o q len) (copyLocs d q len) 0 0 := by
  refine Law.of_walk (plainFor_of_name (by decide +kernel)) (by decide +kernel) (by decide +kernel) (by decide) (fun _ _ h => by rw [h.1]; rfl) (fun _ U U' hal hh h => ⟨h.1, h.2.1.mv hal hh, h.2.2.1.mv hal hh, h.2.2.2⟩) (fun r U U' V V' h1 hal h2 h => ⟨h.1, h.2.elim fun B' q => ⟨B', q.1.mv h1 h2, q.2⟩⟩) ?_
  intro p e s m args below meth c s₁ X0 hexec hbytes hml hret hlk hnm hown hh0 W hP
  obtain ⟨rfl, hA, hB, hne, l1, l2, hp⟩ := hP
  have c1 : Steps p.tables e below (s₁.setTop (entryFrame m #[.ref b, .int (Int32.ofNat o), .ref d, .int (Int32.ofNat q), .int (Int32.ofNat len)] 7)) (s₁.setTop (mkF m 0 #[.val (.ref b), .val (.int (Int32.ofNat o)), .val (.ref d), .val (.int (Int32.ofNat q)), .val (.int (Int32.ofNat len)), .unset, .unset] [])) := entry rfl
  have hA0 := hA.1.mv X0.warmed.alike hh0
  have hB0 := hB.mv X0.warmed.alike hh0
  have a31 := hA.1.2.2.2
  have c2 : Steps p.tables e below (s₁.setTop (entryFrame m #[.ref b, .int (Int32.ofNat o), .ref d, .int (Int32.ofNat q), .int (Int32.ofNat len)] 7)) (s₁.setTop (mkF m 3 #[.val (.ref b), .val (.int (Int32.ofNat o)), .val (.ref d), .val (.int (Int32.ofNat q)), .val (.int (Int32.ofNat len)), .val (.int 0), .unset] [])) := c1.trans (by
    refine iconstV X0.here hexec rfl 0 (hb hbytes d0) (by decide) ?_
    refine XS.istore X0.here hexec rfl (hb hbytes d1) rfl rfl ?_
    exact Steps.refl _)
  have loop : ∀ (r i : Nat), i + r = len → ∀ (z : Slot), (z = .unset ∨ ∃ w, z = .val w ∧ w.category = 1) → ∀ (Tl : State) (Bk : Cell), Stand p l e { frames := 0, locals := 0, cells := 0, slots := 0 } s m #[.ref b, .int (Int32.ofNat o), .ref d, .int (Int32.ofNat q), .int (Int32.ofNat len)] below meth c Tl ([] ++ copyLocs d q i) 0 0 → Put d Bk s₁ Tl → Laid B Bk q (q + i) (fun j => Value.int (lo8 (cv A (o + (j - q))))) →
      Steps p.tables e below (s₁.setTop (entryFrame m #[.ref b, .int (Int32.ofNat o), .ref d, .int (Int32.ofNat q), .int (Int32.ofNat len)] 7)) (Tl.setTop (mkF m 3 #[.val (.ref b), .val (.int (Int32.ofNat (o + i))), .val (.ref d), .val (.int (Int32.ofNat (q + i))), .val (.int (Int32.ofNat len)), .val (.int (Int32.ofNat i)), z] [])) → ∃ (T' : State) (B' : Cell) (z' : Slot), Stand p l e { frames := 0, locals := 0, cells := 0, slots := 0 } s m #[.ref b, .int (Int32.ofNat o), .ref d, .int (Int32.ofNat q), .int (Int32.ofNat len)] below meth c T' ([] ++ copyLocs d q len) 0 0 ∧ Put d B' s₁ T' ∧ Laid B B' q (q + len) (fun j => Value.int (lo8 (cv A (o + (j - q))))) ∧
      Steps p.tables e below (s₁.setTop (entryFrame m #[.ref b, .int (Int32.ofNat o), .ref d, .int (Int32.ofNat q), .int (Int32.ofNat len)] 7)) (T'.setTop (mkF m 3 #[.val (.ref b), .val (.int (Int32.ofNat (o + len))), .val (.ref d), .val (.int (Int32.ofNat (q + len))), .val (.int (Int32.ofNat len)), .val (.int (Int32.ofNat len)), z'] [])) := by
    intro r
    induction r with
    | zero =>
      intro i hi z hz Tl Bk Xl pl fl cl
      have hil : i = len := by omega
      rw [hil] at Xl fl cl
      exact ⟨Tl, Bk, z, Xl, pl, fl, cl⟩
    | succ r ih =>
      intro i hi z hz Tl Bk Xl pl fl cl
      have all := X0.warmed.alike.symm.trans Xl.warmed.alike
      have hAl := hA0.keep all (pl.other hne hA0.1)
      have hBk := hB0.like all pl.1 fl.1 fl.2.1 fl.2.2.1
      have hlt : q + i < Bk.slots.size := by rw [fl.2.2.1]; omega
      have c3 : Steps p.tables e below (s₁.setTop (entryFrame m #[.ref b, .int (Int32.ofNat o), .ref d, .int (Int32.ofNat q), .int (Int32.ofNat len)] 7)) (Tl.setTop (mkF m 12 #[.val (.ref b), .val (.int (Int32.ofNat (o + i))), .val (.ref d), .val (.int (Int32.ofNat (q + i))), .val (.int (Int32.ofNat len)), .val (.int (Int32.ofNat i)), z] [.int (Int32.ofNat (o + i)), .ref b])) := cl.trans (by
        refine XS.iload Xl.here hexec rfl (hb hbytes d3) rfl ?_
        refine XS.iload Xl.here hexec rfl (hb hbytes d5) rfl ?_
        refine XS.icmpNo Xl.here hexec rfl (hb hbytes d7) rfl (ii_ge_f (lt32 (by omega) (by omega))) ?_
        refine XS.aloadN Xl.here hexec rfl (hb hbytes d10) rfl rfl ?_
        refine XS.iloadN Xl.here hexec rfl (hb hbytes d11) rfl ?_
        exact Steps.refl _)
      have c4 : Steps p.tables e below (s₁.setTop (entryFrame m #[.ref b, .int (Int32.ofNat o), .ref d, .int (Int32.ofNat q), .int (Int32.ofNat len)] 7)) (Tl.setTop (mkF m 13 #[.val (.ref b), .val (.int (Int32.ofNat (o + i))), .val (.ref d), .val (.int (Int32.ofNat (q + i))), .val (.int (Int32.ofNat len)), .val (.int (Int32.ofNat i)), z] [.int (cv A (o + i))])) := c3.trans (by
        refine Xl.aget hexec hAl rfl (hA.get (i := o + i) (by omega)) rfl rfl (hb hbytes d12) ?_
        exact Steps.refl _)
      have c5 : Steps p.tables e below (s₁.setTop (entryFrame m #[.ref b, .int (Int32.ofNat o), .ref d, .int (Int32.ofNat q), .int (Int32.ofNat len)] 7)) (Tl.setTop (mkF m 15 #[.val (.ref b), .val (.int (Int32.ofNat (o + i))), .val (.ref d), .val (.int (Int32.ofNat (q + i))), .val (.int (Int32.ofNat len)), .val (.int (Int32.ofNat i)), .val (.int (cv A (o + i)))] [])) := c4.trans (by
        refine XS.istoreS Xl.here hexec rfl (hb hbytes d13) rfl rfl hz ?_
        exact Steps.refl _)
      have c6 : Steps p.tables e below (s₁.setTop (entryFrame m #[.ref b, .int (Int32.ofNat o), .ref d, .int (Int32.ofNat q), .int (Int32.ofNat len)] 7)) (Tl.setTop (mkF m 31 #[.val (.ref b), .val (.int (Int32.ofNat (o + i))), .val (.ref d), .val (.int (Int32.ofNat (q + i))), .val (.int (Int32.ofNat len)), .val (.int (Int32.ofNat i)), .val (.int (cv A (o + i)))] [.int (lo8 (cv A (o + i))), .int (Int32.ofNat (q + i)), .ref d])) := c5.trans (by
        refine XS.iload Xl.here hexec rfl (hb hbytes d15) rfl ?_
        refine sipushV Xl.here hexec rfl 255 (hb hbytes d17) (by decide) ?_
        refine XS.icmpYes Xl.here hexec rfl (pc0 := 20) rfl (hb hbytes d20) rfl (ii_le_t (hp i (by omega))) (by decide) rfl ?_
        refine XS.aloadN Xl.here hexec rfl (hb hbytes d26) rfl rfl ?_
        refine XS.iloadN Xl.here hexec rfl (hb hbytes d27) rfl ?_
        refine XS.iload Xl.here hexec rfl (hb hbytes d28) rfl ?_
        refine i2b Xl.here hexec rfl (hb hbytes d30) rfl ?_
        exact Steps.refl _)
      obtain ⟨T7, X7, p7, st7⟩ := Xl.aput hexec hBk rfl hlt rfl (fits_lo8 (cv A (o + i))) (g := (mkF m 31 #[.val (.ref b), .val (.int (Int32.ofNat (o + i))), .val (.ref d), .val (.int (Int32.ofNat (q + i))), .val (.int (Int32.ofNat len)), .val (.int (Int32.ofNat i)), .val (.int (cv A (o + i)))] [.int (lo8 (cv A (o + i))), .int (Int32.ofNat (q + i)), .ref d])) rfl (rest := []) rfl (hb hbytes d31)
      have c8 : Steps p.tables e below (s₁.setTop (entryFrame m #[.ref b, .int (Int32.ofNat o), .ref d, .int (Int32.ofNat q), .int (Int32.ofNat len)] 7)) (T7.setTop (mkF m 32 #[.val (.ref b), .val (.int (Int32.ofNat (o + i))), .val (.ref d), .val (.int (Int32.ofNat (q + i))), .val (.int (Int32.ofNat len)), .val (.int (Int32.ofNat i)), .val (.int (cv A (o + i)))] [])) := c6.trans (st7 _ (Steps.refl _))
      have c9 : Steps p.tables e below (s₁.setTop (entryFrame m #[.ref b, .int (Int32.ofNat o), .ref d, .int (Int32.ofNat q), .int (Int32.ofNat len)] 7)) (T7.setTop (mkF m 3 #[.val (.ref b), .val (.int (Int32.ofNat (o + i) + 1)), .val (.ref d), .val (.int (Int32.ofNat (q + i) + 1)), .val (.int (Int32.ofNat len)), .val (.int (Int32.ofNat i + 1)), .val (.int (cv A (o + i)))] [])) := c8.trans (by
        refine iincV X7.here hexec rfl 1 (hb hbytes d32) (by decide) rfl rfl ?_
        refine iincV X7.here hexec rfl 1 (hb hbytes d35) (by decide) rfl rfl ?_
        refine iincV X7.here hexec rfl 1 (hb hbytes d38) (by decide) rfl rfl ?_
        refine XS.goto X7.here hexec rfl (pc0 := 41) rfl (hb hbytes d41) (by decide) rfl ?_
        exact Steps.refl _)
      have c10 : Steps p.tables e below (s₁.setTop (entryFrame m #[.ref b, .int (Int32.ofNat o), .ref d, .int (Int32.ofNat q), .int (Int32.ofNat len)] 7)) (T7.setTop (mkF m 3 #[.val (.ref b), .val (.int (Int32.ofNat (o + (i + 1)))), .val (.ref d), .val (.int (Int32.ofNat (q + (i + 1)))), .val (.int (Int32.ofNat len)), .val (.int (Int32.ofNat (i + 1))), .val (.int (cv A (o + i)))] [])) := by
        have := c9
        rw [succ32, succ32, succ32] at this
        exact this
      exact ih (i + 1) (by omega) _ (Or.inr ⟨_, rfl, rfl⟩) T7 _ (by rw [copyLocs_step, ← List.append_assoc]; exact X7) (pl.trans p7) (fl.step (by omega) hlt (by simp)) c10
  obtain ⟨T9, B9, z9, X9, p9, f9, g9⟩ := loop len 0 (by omega) .unset (Or.inl rfl) s₁ B (by simpa [copyLocs] using X0) ⟨hB0.1, fun _ _ => rfl, rfl⟩ (Laid.zero _ _ _) c2
  have c11 : Steps p.tables e below (s₁.setTop (entryFrame m #[.ref b, .int (Int32.ofNat o), .ref d, .int (Int32.ofNat q), .int (Int32.ofNat len)] 7)) (T9.setTop (mkF m 46 #[.val (.ref b), .val (.int (Int32.ofNat (o + len))), .val (.ref d), .val (.int (Int32.ofNat (q + len))), .val (.int (Int32.ofNat len)), .val (.int (Int32.ofNat len)), z9] [.int (Int32.ofNat len)])) := g9.trans (by
    refine XS.iload X9.here hexec rfl (hb hbytes d3) rfl ?_
    refine XS.iload X9.here hexec rfl (hb hbytes d5) rfl ?_
    refine XS.icmpYes X9.here hexec rfl (pc0 := 7) rfl (hb hbytes d7) rfl (ii_ge_t (nlt32 (by omega) (Nat.le_refl _))) (by decide) rfl ?_
    refine XS.iload X9.here hexec rfl (hb hbytes d44) rfl ?_
    exact Steps.refl _)
  exact ⟨T9, some (.int (Int32.ofNat len)), _, _, _, X9, by simp, rfl, rfl, (fun h => by cases h), ⟨rfl, B9, p9.from hh0, f9⟩, fun fs hl => c11.trans (X9.ireturnOut hexec hret rfl (Or.inl rfl) (hb hbytes d46) hl)⟩
end Cmp5
namespace Cmp3
def yN : MethodName := ⟨"java/lang/StringUTF16", "compress", "([CII)[B"⟩
abbrev yB : ByteArray := jdk_52_method_16_code
theorem d0 : decode yB 0 = .ok (.iload_n 2, 1) := by decide +kernel
theorem d1 : decode yB 1 = .ok (.newarray .byte, 2) := by decide +kernel
theorem d3 : decode yB 3 = .ok (.astore_n 3, 1) := by decide +kernel
theorem d4 : decode yB 4 = .ok (.aload_n 0, 1) := by decide +kernel
theorem d5 : decode yB 5 = .ok (.iload_n 1, 1) := by decide +kernel
theorem d6 : decode yB 6 = .ok (.aload_n 3, 1) := by decide +kernel
theorem d7 : decode yB 7 = .ok (.iconst 0, 1) := by decide +kernel
theorem d8 : decode yB 8 = .ok (.iload_n 2, 1) := by decide +kernel
theorem d9 : decode yB 9 = .ok (.invokestatic 115, 3) := by decide +kernel
theorem d12 : decode yB 12 = .ok (.istore 4, 2) := by decide +kernel
theorem d14 : decode yB 14 = .ok (.iload 4, 2) := by decide +kernel
theorem d16 : decode yB 16 = .ok (.iload_n 2, 1) := by decide +kernel
theorem d17 : decode yB 17 = .ok (.if_icmp (.eq) 40, 3) := by decide +kernel
theorem d57 : decode yB 57 = .ok (.aload_n 3, 1) := by decide +kernel
theorem d58 : decode yB 58 = .ok (.areturn, 1) := by decide +kernel
def site : List Cond := [.arrayClass .byte, Cmp5.tab] ++ staticW U16 115 Cmp5.yN
def tab : Cond := tabOf yN yB 6 (some (.array .byte)) site
def P (b : Addr) (A : Cell) (o len : Nat) (args : Array Value) (s : State) : Prop := args = #[.ref b, .int (Int32.ofNat o), .int (Int32.ofNat len)] ∧ Ch b A s ∧ o + len ≤ A.slots.size ∧ len ≤ 536870912 ∧ ∀ i, i < len → ¬ 255 < cv A (o + i)
def E (b : Addr) (A : Cell) (o len : Nat) (r : Option Value) (s u : State) : Prop := NewArr .byte "[B" len (fun j => .int (lo8 (cv A (o + j)))) r s u ∧ u.heap.size = s.heap.size + 1
/-- no char of the range above 255: a new byte[] of their low bytes -/
theorem law (l : Launch) (b : Addr) (A : Cell) (o len : Nat) : Law l yN 3 3 1 18 yB 6 (some (.array .byte)) site (P b A o len) (E b A o len) [] 1 len := by
  refine Law.of_walk (plainFor_of_name (by decide +kernel)) (by decide +kernel) (by decide +kernel) (by decide) (fun _ _ h => by rw [h.1]; rfl) (fun _ U U' hal hh h => ⟨h.1, h.2.1.mv hal hh, h.2.2⟩) (fun r U U' V V' h1 hal h2 h => ⟨NewArr.mv r U U' V V' h1 hal h2 h.1, by rw [h1, h2]; exact h.2⟩) ?_
  intro p e s m args below meth c s₁ X0 hexec hbytes hml hret hlk hnm hown hh0 W hP
  obtain ⟨rfl, hA, l1, l2, hp⟩ := hP
  have a31 := hA.1.2.2.2
  have c1 : Steps p.tables e below (s₁.setTop (entryFrame m #[.ref b, .int (Int32.ofNat o), .int (Int32.ofNat len)] 6)) (s₁.setTop (mkF m 0 #[.val (.ref b), .val (.int (Int32.ofNat o)), .val (.int (Int32.ofNat len)), .unset, .unset, .unset] [])) := entry rfl
  have c2 : Steps p.tables e below (s₁.setTop (entryFrame m #[.ref b, .int (Int32.ofNat o), .int (Int32.ofNat len)] 6)) (s₁.setTop (mkF m 1 #[.val (.ref b), .val (.int (Int32.ofNat o)), .val (.int (Int32.ofNat len)), .unset, .unset, .unset] [.int (Int32.ofNat len)])) := c1.trans (by
    refine XS.iloadN X0.here hexec rfl (hb hbytes d0) rfl ?_
    exact Steps.refl _)
  obtain ⟨T3, B3, X3, ba3, bs3, bv3, bh3, bf3, st3⟩ := X0.anew hexec (atype := .byte) (wk W (.arrayClass .byte)) rfl (by show len * 1 ≤ _; omega) (by omega) (g := (mkF m 1 #[.val (.ref b), .val (.int (Int32.ofNat o)), .val (.int (Int32.ofNat len)), .unset, .unset, .unset] [.int (Int32.ofNat len)])) rfl (hb hbytes d1) (rest := []) rfl (Nat.le_refl _) (by show 0 + len ≤ len; omega)
  rw [hh0] at ba3 st3
  have kp3 : XT.Kept s T3 := (XT.Kept.of_eq hh0).push bh3
  have hA3 := hA.keep X3.warmed.alike (kp3 _ _ hA.1.1)
  have hne : b ≠ s.heap.size := hA.1.ne
  have c4 : Steps p.tables e below (s₁.setTop (entryFrame m #[.ref b, .int (Int32.ofNat o), .int (Int32.ofNat len)] 6)) (T3.setTop (mkF m 3 #[.val (.ref b), .val (.int (Int32.ofNat o)), .val (.int (Int32.ofNat len)), .unset, .unset, .unset] [.ref s.heap.size])) := c2.trans (st3 _ (Steps.refl _))
  have c5 : Steps p.tables e below (s₁.setTop (entryFrame m #[.ref b, .int (Int32.ofNat o), .int (Int32.ofNat len)] 6)) (T3.setTop (mkF m 9 #[.val (.ref b), .val (.int (Int32.ofNat o)), .val (.int (Int32.ofNat len)), .val (.ref s.heap.size), .unset, .unset] [.int (Int32.ofNat len), .int 0, .ref s.heap.size, .int (Int32.ofNat o), .ref b])) := c4.trans (by
    refine XS.astoreN X3.here hexec rfl (hb hbytes d3) rfl rfl rfl ?_
    refine XS.aloadN X3.here hexec rfl (hb hbytes d4) rfl rfl ?_
    refine XS.iloadN X3.here hexec rfl (hb hbytes d5) rfl ?_
    refine XS.aloadN X3.here hexec rfl (hb hbytes d6) rfl rfl ?_
    refine iconstV X3.here hexec rfl 0 (hb hbytes d7) (by decide) ?_
    refine XS.iloadN X3.here hexec rfl (hb hbytes d8) rfl ?_
    exact Steps.refl _)
  obtain ⟨v6, T6, X6, E6, g6⟩ := X3.callS hexec (Cmp5.law l b A s.heap.size B3 o 0 len) hown (wks W (staticW U16 115 Cmp5.yN)) (wk W Cmp5.tab) (W := 0) (Nat.le_of_ble_eq_true rfl) (Nat.le_of_ble_eq_true rfl) (Nat.le_refl _) (by show 0 + len + 0 ≤ len; omega) (g := (mkF m 9 #[.val (.ref b), .val (.int (Int32.ofNat o)), .val (.int (Int32.ofNat len)), .val (.ref s.heap.size), .unset, .unset] [.int (Int32.ofNat len), .int (Int32.ofNat 0), .ref s.heap.size, .int (Int32.ofNat o), .ref b])) rfl (by rw [hml]; rfl) c5 (argsL := [.ref b, .int (Int32.ofNat o), .ref s.heap.size, .int (Int32.ofNat 0), .int (Int32.ofNat len)]) (rest := []) rfl rfl (by show 2 * 0 + 0 ≤ _; decide) (hb hbytes d9) (⟨rfl, hA3, ba3, hne, l1, by rw [bs3]; simp, hp⟩)
  obtain ⟨rfl, B6, p6, f6⟩ := E6
  have c7 : Steps p.tables e below (s₁.setTop (entryFrame m #[.ref b, .int (Int32.ofNat o), .int (Int32.ofNat len)] 6)) (T6.setTop (mkF m 12 #[.val (.ref b), .val (.int (Int32.ofNat o)), .val (.int (Int32.ofNat len)), .val (.ref s.heap.size), .unset, .unset] [.int (Int32.ofNat len)])) := g6
  have c8 : Steps p.tables e below (s₁.setTop (entryFrame m #[.ref b, .int (Int32.ofNat o), .int (Int32.ofNat len)] 6)) (T6.setTop (mkF m 58 #[.val (.ref b), .val (.int (Int32.ofNat o)), .val (.int (Int32.ofNat len)), .val (.ref s.heap.size), .val (.int (Int32.ofNat len)), .unset] [.ref s.heap.size])) := c7.trans (by
    refine XS.istore X6.here hexec rfl (hb hbytes d12) rfl rfl ?_
    refine XS.iload X6.here hexec rfl (hb hbytes d14) rfl ?_
    refine XS.iloadN X6.here hexec rfl (hb hbytes d16) rfl ?_
    refine XS.icmpYes X6.here hexec rfl (pc0 := 17) rfl (hb hbytes d17) rfl (ii_eq_t rfl) (by decide) rfl ?_
    refine XS.aloadN X6.here hexec rfl (hb hbytes d57) rfl rfl ?_
    exact Steps.refl _)
  have X8 := X6.wide (L' := []) (cells' := 1) (slots' := len) (fun x hx hlt => by
    simp only [List.nil_append, copyLocs, List.mem_map, List.mem_range] at hx
    obtain ⟨i, -, rfl⟩ := hx
    exact absurd hlt (Nat.lt_irrefl _)) (Nat.le_refl _) (by omega)
  exact ⟨T6, some (.ref s.heap.size), _, _, _, X8, rfl, rfl, rfl, (fun h => by cases h), ⟨⟨rfl, B6, ba3.like (X3.warmed.alike.symm.trans X6.warmed.alike) p6.1 f6.1 f6.2.1 f6.2.2.1, f6.2.1.trans bv3, by rw [X6.warmed.alike.findClass, f6.1]; exact bf3, by rw [f6.2.2.1, bs3]; simp, fun j hj => by rw [f6.2.2.2 j, if_pos (by omega)]; rfl, kp3.put p6 (Nat.le_refl _)⟩, by rw [p6.2.2, bh3, hh0]; simp⟩, fun fs hl => c8.trans (X8.areturnOut hexec rfl hret rfl (hb hbytes d58) hl)⟩
end Cmp3
namespace CodL
def yN : MethodName := ⟨"java/lang/StringUTF16", "coderFromArrayLen", "([BI)B"⟩
abbrev yB : ByteArray := jdk_52_method_15_code
theorem d0 : decode yB 0 = .ok (.iload_n 1, 1) := by decide +kernel
theorem d1 : decode yB 1 = .ok (.aload_n 0, 1) := by decide +kernel
theorem d2 : decode yB 2 = .ok (.arraylength, 1) := by decide +kernel
theorem d3 : decode yB 3 = .ok (.isub, 1) := by decide +kernel
theorem d4 : decode yB 4 = .ok (.bipush 31, 2) := by decide +kernel
theorem d6 : decode yB 6 = .ok (.iushr, 1) := by decide +kernel
theorem d7 : decode yB 7 = .ok (.i2b, 1) := by decide +kernel
theorem d8 : decode yB 8 = .ok (.ireturn, 1) := by decide +kernel
def site : List Cond := []
def tab : Cond := tabOf yN yB 2 (some .byte) site
def P (d : Addr) (B : Cell) (args : Array Value) (s : State) : Prop := args = #[.ref d, .int (Int32.ofNat B.slots.size)] ∧ Arr .byte d B s
def E (r : Option Value) (s u : State) : Prop := XT.PureE (some (.int 0)) r s u
/-- an array as long as the number of chars: LATIN1 -/
theorem law (l : Launch) (d : Addr) (B : Cell) : Law l yN 2 2 0 0 yB 2 (some .byte) site (P d B) E [] 0 0 := by
  refine Law.of_walk (plainFor_of_name (by decide +kernel)) (by decide +kernel) (by decide +kernel) (by decide) (fun _ _ h => by rw [h.1]; rfl) (fun _ U U' hal hh h => ⟨h.1, h.2.mv hal hh⟩) (fun r U U' V V' h1 hal h2 h => XT.PureE.mv r U U' V V' h1 hal h2 h) ?_
  intro p e s m args below meth c s₁ X0 hexec hbytes hml hret hlk hnm hown hh0 W hP
  obtain ⟨rfl, hB⟩ := hP
  have hB0 := hB.mv X0.warmed.alike hh0
  have c1 : Steps p.tables e below (s₁.setTop (entryFrame m #[.ref d, .int (Int32.ofNat B.slots.size)] 2)) (s₁.setTop (mkF m 0 #[.val (.ref d), .val (.int (Int32.ofNat B.slots.size))] [])) := entry rfl
  have c2 : Steps p.tables e below (s₁.setTop (entryFrame m #[.ref d, .int (Int32.ofNat B.slots.size)] 2)) (s₁.setTop (mkF m 2 #[.val (.ref d), .val (.int (Int32.ofNat B.slots.size))] [.ref d, .int (Int32.ofNat B.slots.size)])) := c1.trans (by
    refine XS.iloadN X0.here hexec rfl (hb hbytes d0) rfl ?_
    refine XS.aloadN X0.here hexec rfl (hb hbytes d1) rfl rfl ?_
    exact Steps.refl _)
  have c3 : Steps p.tables e below (s₁.setTop (entryFrame m #[.ref d, .int (Int32.ofNat B.slots.size)] 2)) (s₁.setTop (mkF m 8 #[.val (.ref d), .val (.int (Int32.ofNat B.slots.size))] [.int (lo8 (ushr (Int32.ofNat B.slots.size - Int32.ofNat B.slots.size) 31))])) := c2.trans (by
    refine X0.alen hexec hB0 rfl rfl (hb hbytes d2) ?_
    refine XS.isub X0.here hexec rfl (hb hbytes d3) rfl ?_
    refine bipushV X0.here hexec rfl 31 (hb hbytes d4) (by decide) ?_
    refine iushr X0.here hexec rfl (hb hbytes d6) rfl ?_
    refine i2b X0.here hexec rfl (hb hbytes d7) rfl ?_
    exact Steps.refl _)
  have e0 : lo8 (ushr (Int32.ofNat B.slots.size - Int32.ofNat B.slots.size) 31) = 0 := by rw [Int32.sub_self]; decide
  rw [e0] at c3
  exact ⟨s₁, some (.int 0), _, _, _, X0, rfl, rfl, rfl, (fun h => by cases h), ⟨rfl, hh0⟩, fun fs hl => c3.trans (X0.ireturnOut hexec hret rfl (Or.inr (Or.inr (Or.inl rfl))) (hb hbytes d8) hl)⟩
end CodL
/-- the String at a is Latin-1 over a new byte[] (the heap's one new cell): the low bytes of the len chars of A from o on; every cell but a is kept -/
def Got (a : Addr) (D : Cell) (fV fC : Field) (A : Cell) (o len : Nat) (r : Option Value) (s u : State) : Prop := r = none ∧ ∃ D' V : Cell, Blank "java/lang/String" a D' u ∧ Same D D' [fV.slot, fC.slot] ∧ D'.slots[fV.slot]? = some (.ref s.heap.size) ∧ D'.slots[fC.slot]? = some (.int 0) ∧ Arr .byte s.heap.size V u ∧ V.vm = .none ∧ u.vm.findClass "[B" = some V.cls ∧ V.slots.size = len ∧ (∀ j, j < len → V.slots[j]? = some (.int (lo8 (cv A (o + j))))) ∧ (∀ (y : Addr) (c : Cell), y ≠ a → s.heap[y]? = some c → u.heap[y]? = some c) ∧ u.heap.size = s.heap.size + 1
theorem Got.mv {a : Addr} {D A : Cell} {fV fC : Field} {o len : Nat} : ∀ r (U U' V V' : State), U'.heap = U.heap → V.vm.Alike V'.vm → V'.heap = V.heap → Got a D fV fC A o len r U V → Got a D fV fC A o len r U' V' :=
  fun r U U' V V' h1 hal h2 ⟨e0, D', X, a1, a2, a3, a4, a5, a6, a7, a8, a9, a10, a11⟩ => ⟨e0, D', X, a1.mv hal h2, a2, by rw [h1]; exact a3, a4, by rw [h1]; exact a5.mv hal h2, a6, by rw [hal.findClass]; exact a7, a8, a9, by rw [h1, h2]; exact a10, by rw [h1, h2]; exact a11⟩
namespace New4
def yN : MethodName := ⟨"java/lang/String", "<init>", "([CIILjava/lang/Void;)V"⟩
abbrev yB : ByteArray := jdk_42_method_149_code
theorem d0 : decode yB 0 = .ok (.aload_n 0, 1) := by decide +kernel
theorem d1 : decode yB 1 = .ok (.invokespecial 1, 3) := by decide +kernel
theorem d4 : decode yB 4 = .ok (.iload_n 3, 1) := by decide +kernel
theorem d5 : decode yB 5 = .ok (.ifCond (.ne) 22, 3) := by decide +kernel
theorem d27 : decode yB 27 = .ok (.getstatic 38, 3) := by decide +kernel
theorem d30 : decode yB 30 = .ok (.ifCond (.eq) 28, 3) := by decide +kernel
theorem d33 : decode yB 33 = .ok (.aload_n 1, 1) := by decide +kernel
theorem d34 : decode yB 34 = .ok (.iload_n 2, 1) := by decide +kernel
theorem d35 : decode yB 35 = .ok (.iload_n 3, 1) := by decide +kernel
theorem d36 : decode yB 36 = .ok (.invokestatic 177, 3) := by decide +kernel
theorem d39 : decode yB 39 = .ok (.astore 5, 2) := by decide +kernel
theorem d41 : decode yB 41 = .ok (.aload_n 0, 1) := by decide +kernel
theorem d42 : decode yB 42 = .ok (.aload 5, 2) := by decide +kernel
theorem d44 : decode yB 44 = .ok (.iload_n 3, 1) := by decide +kernel
theorem d45 : decode yB 45 = .ok (.invokestatic 47, 3) := by decide +kernel
theorem d48 : decode yB 48 = .ok (.putfield 15, 3) := by decide +kernel
theorem d51 : decode yB 51 = .ok (.aload_n 0, 1) := by decide +kernel
theorem d52 : decode yB 52 = .ok (.aload 5, 2) := by decide +kernel
theorem d54 : decode yB 54 = .ok (.putfield 9, 3) := by decide +kernel
theorem d57 : decode yB 57 = .ok (.return_, 1) := by decide +kernel
def site : List Cond := [.fieldLink "java/lang/String" 38 "java/lang/String" "COMPACT_STRINGS" "Z", Cmp3.tab, CodL.tab, .laysFinal "java/lang/String" "java/lang/String" "value" "[B", .fieldLink "java/lang/String" 9 "java/lang/String" "value" "[B", .laysFinal "java/lang/String" "java/lang/String" "coder" "B", .fieldLink "java/lang/String" 15 "java/lang/String" "coder" "B"] ++ objW "java/lang/String" 1 ++ staticW "java/lang/String" 177 Cmp3.yN ++ staticW "java/lang/String" 47 CodL.yN
def tab : Cond := tabOf yN yB 6 none site
def P (a : Addr) (D : Cell) (fV fC : Field) (b : Addr) (A : Cell) (z : Int32) (o len : Nat) (args : Array Value) (s : State) : Prop := args = #[.ref a, .ref b, .int (Int32.ofNat o), .int (Int32.ofNat len), .null] ∧ Blank "java/lang/String" a D s ∧ Found "java/lang/String" "value" "[B" fV s ∧ Found "java/lang/String" "coder" "B" fC s ∧ Ch b A s ∧ StaticIs s "java/lang/String" "COMPACT_STRINGS" "Z" (.int z) ∧ ¬ z = 0 ∧ 0 < len ∧ o + len ≤ A.slots.size ∧ len ≤ 536870912 ∧ ∀ i, i < len → ¬ 255 < cv A (o + i)
def E (a : Addr) (D : Cell) (fV fC : Field) (A : Cell) (o len : Nat) (r : Option Value) (s u : State) : Prop := Got a D fV fC A o len r s u
/-- len > 0, no char of the range above 255: a Latin-1 String of their low bytes -/
theorem law (l : Launch) (a : Addr) (D : Cell) (fV fC : Field) (b : Addr) (A : Cell) (z : Int32) (o len : Nat) : Law l yN 5 4 2 35 yB 6 none site (P a D fV fC b A z o len) (E a D fV fC A o len) [⟨a, fC.slot⟩, ⟨a, fV.slot⟩] 1 len := by
  refine Law.of_walk (plainFor_of_name (by decide +kernel)) (by decide +kernel) (by decide +kernel) (by decide) (fun _ _ h => by rw [h.1]; rfl) (fun _ U U' hal hh h => ⟨h.1, h.2.1.mv hal hh, h.2.2.1.al hal, h.2.2.2.1.al hal, h.2.2.2.2.1.mv hal hh, h.2.2.2.2.2.1.there hal hh, h.2.2.2.2.2.2⟩) (fun r U U' V V' h1 hal h2 h => Got.mv r U U' V V' h1 hal h2 h) ?_
  intro p e s m args below meth c s₁ X0 hexec hbytes hml hret hlk hnm hown hh0 W hP
  obtain ⟨rfl, hB, f1, f2, hA, s1, hz, l0, l1, l2, hp⟩ := hP
  have a31 := hA.1.2.2.2
  have c1 : Steps p.tables e below (s₁.setTop (entryFrame m #[.ref a, .ref b, .int (Int32.ofNat o), .int (Int32.ofNat len), .null] 6)) (s₁.setTop (mkF m 0 #[.val (.ref a), .val (.ref b), .val (.int (Int32.ofNat o)), .val (.int (Int32.ofNat len)), .val .null, .unset] [])) := entry rfl
  have c2 : Steps p.tables e below (s₁.setTop (entryFrame m #[.ref a, .ref b, .int (Int32.ofNat o), .int (Int32.ofNat len), .null] 6)) (s₁.setTop (mkF m 1 #[.val (.ref a), .val (.ref b), .val (.int (Int32.ofNat o)), .val (.int (Int32.ofNat len)), .val .null, .unset] [.ref a])) := c1.trans (by
    refine XS.aloadN X0.here hexec rfl (hb hbytes d0) rfl rfl ?_
    exact Steps.refl _)
  obtain ⟨T3, X3, q3, st3⟩ := X0.oinit hexec hown (wks W (objW "java/lang/String" 1)) (g := (mkF m 1 #[.val (.ref a), .val (.ref b), .val (.int (Int32.ofNat o)), .val (.int (Int32.ofNat len)), .val .null, .unset] [.ref a])) rfl (by rw [hml]; rfl) (rest := []) rfl (hb hbytes d1) (W := 0) (by show 2 * 0 + 0 ≤ _; decide) (Nat.le_of_ble_eq_true rfl) (Nat.le_of_ble_eq_true rfl)
  have hh3 := q3.trans hh0
  have c4 : Steps p.tables e below (s₁.setTop (entryFrame m #[.ref a, .ref b, .int (Int32.ofNat o), .int (Int32.ofNat len), .null] 6)) (T3.setTop (mkF m 27 #[.val (.ref a), .val (.ref b), .val (.int (Int32.ofNat o)), .val (.int (Int32.ofNat len)), .val .null, .unset] [])) := (c2.trans (st3 _ (Steps.refl _))).trans (by
    refine XS.iloadN X3.here hexec rfl (hb hbytes d4) rfl ?_
    refine XS.ifYes X3.here hexec rfl (pc0 := 5) rfl (hb hbytes d5) rfl (i0_ne_t (nz32 (by omega) l0)) (by decide) rfl ?_
    exact Steps.refl _)
  obtain ⟨T5, X5, q5, st5⟩ := X3.sget hexec hown (wk W (.fieldLink "java/lang/String" 38 "java/lang/String" "COMPACT_STRINGS" "Z")) s1 (fun _ _ h => by rw [hh3]; exact h) (g := (mkF m 27 #[.val (.ref a), .val (.ref b), .val (.int (Int32.ofNat o)), .val (.int (Int32.ofNat len)), .val .null, .unset] [])) rfl (hb hbytes d27)
  have hh5 := q5.trans hh3
  have c6 : Steps p.tables e below (s₁.setTop (entryFrame m #[.ref a, .ref b, .int (Int32.ofNat o), .int (Int32.ofNat len), .null] 6)) (T5.setTop (mkF m 30 #[.val (.ref a), .val (.ref b), .val (.int (Int32.ofNat o)), .val (.int (Int32.ofNat len)), .val .null, .unset] [.int z])) := c4.trans (st5 _ (Steps.refl _))
  have c7 : Steps p.tables e below (s₁.setTop (entryFrame m #[.ref a, .ref b, .int (Int32.ofNat o), .int (Int32.ofNat len), .null] 6)) (T5.setTop (mkF m 36 #[.val (.ref a), .val (.ref b), .val (.int (Int32.ofNat o)), .val (.int (Int32.ofNat len)), .val .null, .unset] [.int (Int32.ofNat len), .int (Int32.ofNat o), .ref b])) := c6.trans (by
    refine XS.ifNo X5.here hexec rfl (hb hbytes d30) rfl (i0_eq_f hz) ?_
    refine XS.aloadN X5.here hexec rfl (hb hbytes d33) rfl rfl ?_
    refine XS.iloadN X5.here hexec rfl (hb hbytes d34) rfl ?_
    refine XS.iloadN X5.here hexec rfl (hb hbytes d35) rfl ?_
    exact Steps.refl _)
  obtain ⟨v8, T8, X8, E8, g8⟩ := X5.callS hexec (Cmp3.law l b A o len) hown (wks W (staticW "java/lang/String" 177 Cmp3.yN)) (wk W Cmp3.tab) (W := 0) (Nat.le_of_ble_eq_true rfl) (Nat.le_of_ble_eq_true rfl) (Nat.le_refl _) (by show 0 + len ≤ len; omega) (g := (mkF m 36 #[.val (.ref a), .val (.ref b), .val (.int (Int32.ofNat o)), .val (.int (Int32.ofNat len)), .val .null, .unset] [.int (Int32.ofNat len), .int (Int32.ofNat o), .ref b])) rfl (by rw [hml]; rfl) c7 (argsL := [.ref b, .int (Int32.ofNat o), .int (Int32.ofNat len)]) (rest := []) rfl rfl (by show 2 * 0 + 0 ≤ _; decide) (hb hbytes d36) (⟨rfl, hA.mv X5.warmed.alike hh5, l1, l2, hp⟩)
  obtain ⟨e8, z8⟩ := E8
  obtain ⟨rfl, N, n1, n2, n3, n4, n5, n6⟩ := NewArr.mv _ T5 s _ _ hh5.symm (Vm.Alike.refl _) rfl e8
  rw [hh5] at z8
  have hB1 := hB.keep X8.warmed.alike (n6 _ _ hB.1)
  have hne : s.heap.size ≠ a := (Nat.ne_of_lt (Array.getElem?_eq_some_iff.mp hB.1).1).symm
  have c9 : Steps p.tables e below (s₁.setTop (entryFrame m #[.ref a, .ref b, .int (Int32.ofNat o), .int (Int32.ofNat len), .null] 6)) (T8.setTop (mkF m 39 #[.val (.ref a), .val (.ref b), .val (.int (Int32.ofNat o)), .val (.int (Int32.ofNat len)), .val .null, .unset] [.ref s.heap.size])) := g8
  have c10 : Steps p.tables e below (s₁.setTop (entryFrame m #[.ref a, .ref b, .int (Int32.ofNat o), .int (Int32.ofNat len), .null] 6)) (T8.setTop (mkF m 45 #[.val (.ref a), .val (.ref b), .val (.int (Int32.ofNat o)), .val (.int (Int32.ofNat len)), .val .null, .val (.ref s.heap.size)] [.int (Int32.ofNat N.slots.size), .ref s.heap.size, .ref a])) := by
    have hc : Steps p.tables e below (s₁.setTop (entryFrame m #[.ref a, .ref b, .int (Int32.ofNat o), .int (Int32.ofNat len), .null] 6)) (T8.setTop (mkF m 45 #[.val (.ref a), .val (.ref b), .val (.int (Int32.ofNat o)), .val (.int (Int32.ofNat len)), .val .null, .val (.ref s.heap.size)] [.int (Int32.ofNat len), .ref s.heap.size, .ref a])) := c9.trans (by
      refine XS.astore X8.here hexec rfl (hb hbytes d39) rfl rfl rfl ?_
      refine XS.aloadN X8.here hexec rfl (hb hbytes d41) rfl rfl ?_
      refine XS.aload X8.here hexec rfl (hb hbytes d42) rfl rfl ?_
      refine XS.iloadN X8.here hexec rfl (hb hbytes d44) rfl ?_
      exact Steps.refl _)
    rw [n4]; exact hc
  obtain ⟨v11, T11, X11, E11, g11⟩ := X8.callS hexec (CodL.law l s.heap.size N) hown (wks W (staticW "java/lang/String" 47 CodL.yN)) (wk W CodL.tab) (W := 1) (Nat.le_of_ble_eq_true rfl) (Nat.le_of_ble_eq_true rfl) (Nat.le_refl _) (by show 0 + len + 0 ≤ len; omega) (g := (mkF m 45 #[.val (.ref a), .val (.ref b), .val (.int (Int32.ofNat o)), .val (.int (Int32.ofNat len)), .val .null, .val (.ref s.heap.size)] [.int (Int32.ofNat N.slots.size), .ref s.heap.size, .ref a])) rfl (by rw [hml]; rfl) c10 (argsL := [.ref s.heap.size, .int (Int32.ofNat N.slots.size)]) (rest := [.ref a]) rfl rfl (by show 2 * 0 + (1 + 0) ≤ _; decide) (hb hbytes d45) (⟨rfl, n1⟩)
  obtain ⟨rfl, q11⟩ := E11
  have hB11 := hB1.mv (X8.warmed.alike.symm.trans X11.warmed.alike) q11
  have c12 : Steps p.tables e below (s₁.setTop (entryFrame m #[.ref a, .ref b, .int (Int32.ofNat o), .int (Int32.ofNat len), .null] 6)) (T11.setTop (mkF m 48 #[.val (.ref a), .val (.ref b), .val (.int (Int32.ofNat o)), .val (.int (Int32.ofNat len)), .val .null, .val (.ref s.heap.size)] [.int 0, .ref a])) := g11
  obtain ⟨T13, X13, p13, bl13, sl13, st13⟩ := X11.finit hexec hown (wk W (.fieldLink "java/lang/String" 15 "java/lang/String" "coder" "B")) (Or.inr ⟨_, (wk W (.laysFinal "java/lang/String" "java/lang/String" "coder" "B"))⟩) (Or.inl ⟨rfl, hnm⟩) f2 (Or.inl rfl) hB11 (t := .byte) (by decide +kernel) rfl (g := (mkF m 48 #[.val (.ref a), .val (.ref b), .val (.int (Int32.ofNat o)), .val (.int (Int32.ofNat len)), .val .null, .val (.ref s.heap.size)] [.int 0, .ref a])) rfl (rest := []) rfl (hb hbytes d48)
  have c14 : Steps p.tables e below (s₁.setTop (entryFrame m #[.ref a, .ref b, .int (Int32.ofNat o), .int (Int32.ofNat len), .null] 6)) (T13.setTop (mkF m 54 #[.val (.ref a), .val (.ref b), .val (.int (Int32.ofNat o)), .val (.int (Int32.ofNat len)), .val .null, .val (.ref s.heap.size)] [.ref s.heap.size, .ref a])) := (c12.trans (st13 _ (Steps.refl _))).trans (by
    refine XS.aloadN X13.here hexec rfl (hb hbytes d51) rfl rfl ?_
    refine XS.aload X13.here hexec rfl (hb hbytes d52) rfl rfl ?_
    exact Steps.refl _)
  obtain ⟨T15, X15, p15, bl15, sl15, st15⟩ := X13.finit hexec hown (wk W (.fieldLink "java/lang/String" 9 "java/lang/String" "value" "[B")) (Or.inr ⟨_, (wk W (.laysFinal "java/lang/String" "java/lang/String" "value" "[B"))⟩) (Or.inl ⟨rfl, hnm⟩) f1 (Or.inl rfl) bl13 (t := (.array .byte)) (by decide +kernel) rfl (g := (mkF m 54 #[.val (.ref a), .val (.ref b), .val (.int (Int32.ofNat o)), .val (.int (Int32.ofNat len)), .val .null, .val (.ref s.heap.size)] [.ref s.heap.size, .ref a])) rfl (rest := []) rfl (hb hbytes d54)
  have c16 : Steps p.tables e below (s₁.setTop (entryFrame m #[.ref a, .ref b, .int (Int32.ofNat o), .int (Int32.ofNat len), .null] 6)) (T15.setTop (mkF m 57 #[.val (.ref a), .val (.ref b), .val (.int (Int32.ofNat o)), .val (.int (Int32.ofNat len)), .val .null, .val (.ref s.heap.size)] [])) := c14.trans (st15 _ (Steps.refl _))
  have ap := apart (Or.inr ⟨_, (wk W (.laysFinal "java/lang/String" "java/lang/String" "value" "[B"))⟩) (Or.inr ⟨_, (wk W (.laysFinal "java/lang/String" "java/lang/String" "coder" "B"))⟩) f1 f2 (t₁ := .array .byte) (t₂ := .byte) (by decide +kernel) (by decide +kernel) (by decide)
  have al := X8.warmed.alike.symm.trans X15.warmed.alike
  have n7 : T11.heap[s.heap.size]? = some N := by rw [q11]; exact n1.1
  exact ⟨T15, none, _, _, _, X15, by simp, rfl, by omega, (fun _ => rfl), ⟨rfl, _, N, bl15, ((Same.refl D _).set _ (by simp)).set _ (by simp), sl15, (Cell.slots_setSlot_ne _ ap).trans sl13, n1.keep al (p15.other hne (p13.other hne n7)), n2, by rw [al.findClass]; exact n3, n4, n5, fun y c h1 h2 => p15.other h1 (p13.other h1 (by rw [q11]; exact n6 y c h2)), by rw [p15.2.2, p13.2.2, q11]; exact z8⟩, fun fs hl => c16.trans (X15.returnOut hexec hret (hb hbytes d57) hl)⟩
end New4
namespace New1
def yN : MethodName := ⟨"java/lang/String", "<init>", "([C)V"⟩
abbrev yB : ByteArray := jdk_42_method_3_code
theorem d0 : decode yB 0 = .ok (.aload_n 0, 1) := by decide +kernel
theorem d1 : decode yB 1 = .ok (.aload_n 1, 1) := by decide +kernel
theorem d2 : decode yB 2 = .ok (.iconst 0, 1) := by decide +kernel
theorem d3 : decode yB 3 = .ok (.aload_n 1, 1) := by decide +kernel
theorem d4 : decode yB 4 = .ok (.arraylength, 1) := by decide +kernel
theorem d5 : decode yB 5 = .ok (.aconst_null, 1) := by decide +kernel
theorem d6 : decode yB 6 = .ok (.invokespecial 27, 3) := by decide +kernel
theorem d9 : decode yB 9 = .ok (.return_, 1) := by decide +kernel
def site : List Cond := [New4.tab] ++ initW "java/lang/String" 27 New4.yN
def tab : Cond := tabOf yN yB 2 none site
def P (a : Addr) (D : Cell) (fV fC : Field) (b : Addr) (A : Cell) (z : Int32) (args : Array Value) (s : State) : Prop := args = #[.ref a, .ref b] ∧ Blank "java/lang/String" a D s ∧ Found "java/lang/String" "value" "[B" fV s ∧ Found "java/lang/String" "coder" "B" fC s ∧ Ch b A s ∧ StaticIs s "java/lang/String" "COMPACT_STRINGS" "Z" (.int z) ∧ ¬ z = 0 ∧ 0 < A.slots.size ∧ A.slots.size ≤ 536870912 ∧ ∀ i, i < A.slots.size → ¬ 255 < cv A i
def E (a : Addr) (D : Cell) (fV fC : Field) (A : Cell) (r : Option Value) (s u : State) : Prop := Got a D fV fC A 0 A.slots.size r s u
/-- new String(chars), not empty, no char above 255: a Latin-1 String of their low bytes -/
theorem law (l : Launch) (a : Addr) (D : Cell) (fV fC : Field) (b : Addr) (A : Cell) (z : Int32) : Law l yN 2 1 3 52 yB 2 none site (P a D fV fC b A z) (E a D fV fC A) [⟨a, fC.slot⟩, ⟨a, fV.slot⟩] 1 A.slots.size := by
  refine Law.of_walk (plainFor_of_name (by decide +kernel)) (by decide +kernel) (by decide +kernel) (by decide) (fun _ _ h => by rw [h.1]; rfl) (fun _ U U' hal hh h => ⟨h.1, h.2.1.mv hal hh, h.2.2.1.al hal, h.2.2.2.1.al hal, h.2.2.2.2.1.mv hal hh, h.2.2.2.2.2.1.there hal hh, h.2.2.2.2.2.2⟩) (fun r U U' V V' h1 hal h2 h => Got.mv r U U' V V' h1 hal h2 h) ?_
  intro p e s m args below meth c s₁ X0 hexec hbytes hml hret hlk hnm hown hh0 W hP
  obtain ⟨rfl, hB, f1, f2, hA, s1, hz, l0, l2, hp⟩ := hP
  have c1 : Steps p.tables e below (s₁.setTop (entryFrame m #[.ref a, .ref b] 2)) (s₁.setTop (mkF m 0 #[.val (.ref a), .val (.ref b)] [])) := entry rfl
  have c2 : Steps p.tables e below (s₁.setTop (entryFrame m #[.ref a, .ref b] 2)) (s₁.setTop (mkF m 6 #[.val (.ref a), .val (.ref b)] [.null, .int (Int32.ofNat A.slots.size), .int 0, .ref b, .ref a])) := c1.trans (by
    refine XS.aloadN X0.here hexec rfl (hb hbytes d0) rfl rfl ?_
    refine XS.aloadN X0.here hexec rfl (hb hbytes d1) rfl rfl ?_
    refine iconstV X0.here hexec rfl 0 (hb hbytes d2) (by decide) ?_
    refine XS.aloadN X0.here hexec rfl (hb hbytes d3) rfl rfl ?_
    refine X0.alen hexec (hA.1.mv X0.warmed.alike hh0) rfl rfl (hb hbytes d4) ?_
    refine XS.aconstNull X0.here hexec rfl (hb hbytes d5) ?_
    exact Steps.refl _)
  obtain ⟨v3, T3, X3, E3, g3⟩ := X0.callN hexec (New4.law l a D fV fC b A z 0 A.slots.size) rfl hown (wks W (initW "java/lang/String" 27 New4.yN)) (W New4.tab (by simp only [site, List.mem_cons, List.mem_append, true_or, or_true])) (W := 0) (Nat.le_of_ble_eq_true rfl) (Nat.le_of_ble_eq_true rfl) (Nat.le_refl _) (by show 0 + A.slots.size ≤ A.slots.size; omega) (g := (mkF m 6 #[.val (.ref a), .val (.ref b)] [.null, .int (Int32.ofNat A.slots.size), .int (Int32.ofNat 0), .ref b, .ref a])) rfl (by rw [hml]; rfl) c2 (argsL := [.ref b, .int (Int32.ofNat 0), .int (Int32.ofNat A.slots.size), .null]) (rest := []) rfl rfl (by show 2 * 0 + 0 ≤ _; decide) (hb hbytes d6) (⟨rfl, hB.mv X0.warmed.alike hh0, f1.al X0.warmed.alike, f2.al X0.warmed.alike, hA.mv X0.warmed.alike hh0, s1.there X0.warmed.alike hh0, hz, l0, by omega, l2, fun i hi => by rw [Nat.zero_add]; exact hp i hi⟩)
  have e0 := Got.mv _ s₁ s _ _ hh0.symm (Vm.Alike.refl _) rfl E3
  obtain rfl := e0.1
  have c4 : Steps p.tables e below (s₁.setTop (entryFrame m #[.ref a, .ref b] 2)) (T3.setTop (mkF m 9 #[.val (.ref a), .val (.ref b)] [])) := g3
  exact ⟨T3, none, _, _, _, X3, by simp, rfl, by omega, (fun _ => rfl), e0, fun fs hl => c4.trans (X3.returnOut hexec hret (hb hbytes d9) hl)⟩
theorem pays {l : Launch} {R : Room} {p : Program} {e : Env} {below : List Frame} {s : State} {sargs : Array Value} {len W : Nat} (a : Addr) (D : Cell) (fV fC : Field) (b : Addr) (A : Cell) (z : Int32) (htab : tab.before sargs s = true) (hfr : 4 ≤ R.frames) (hlo : W + 65 ≤ R.locals) :
    Back l R p e below s sargs yN len W (fun A₁ a₁ => A₁.cells + 1 ≤ R.cells ∧ A₁.slots + A.slots.size ≤ R.slots ∧ P a D fV fC b A z a₁ A₁.U) (fun A₁ _ v₁ B₁ => E a D fV fC A v₁ A₁.U B₁.U ∧ B₁.locs = A₁.locs ++ [⟨a, fC.slot⟩, ⟨a, fV.slot⟩] ∧ B₁.cells = A₁.cells + 1 ∧ B₁.slots = A₁.slots + A.slots.size) :=
  (law l a D fV fC b A z).pays htab hfr (by omega)
end New1
/-- the byte, read back as charAt reads it, is the char -/
theorem lo8_mask {x : Int32} (h0 : ¬ x < 0) (h1 : ¬ 255 < x) : lo8 x &&& 255 = x := by
  have t : ∀ k : Fin 256, lo8 (Int32.ofNat k.val) &&& 255 = Int32.ofNat k.val := by decide +kernel
  rw [Int32.lt_iff_toInt_lt] at h0 h1
  have e0 : (0 : Int32).toInt = 0 := rfl
  have e1 : (255 : Int32).toInt = 255 := rfl
  obtain ⟨k, hk⟩ : ∃ k : Nat, x.toInt = k := ⟨x.toInt.toNat, by omega⟩
  have hx : x = Int32.ofNat k := Int32.toInt_inj.mp (by rw [hk, Int32.toInt_ofNat_small (by omega)])
  rw [hx]
  exact t ⟨k, by omega⟩
end StrChars
namespace StrChars.Road
open Jvm Sem ClassFile Op Lib Jvm.Stand Jvm.Free Jvm.Free.XT
open Jvm.Lib.Cold (StaticIs)
abbrev ST : String := "java/lang/String"
/-- every table word that New1's law asks, flat -/
abbrev words : List Jvm.Cond := [.code New1.yN New1.yB 2 none, .initialized ST, .methodLink ST 27 New4.yN, .instanceMethod New4.yN,
  .code New4.yN New4.yB 6 none, .fieldLink ST 38 ST "COMPACT_STRINGS" "Z", .laysFinal ST ST "value" "[B", .fieldLink ST 9 ST "value" "[B", .laysFinal ST ST "coder" "B", .fieldLink ST 15 ST "coder" "B",
  .methodLink ST 1 Lib.objectInit, .instanceMethod Lib.objectInit, .code Lib.objectInit ⟨#[0xb1]⟩ 1 none, .methodLink ST 177 Cmp3.yN, .static Cmp3.yN, .methodLink ST 47 CodL.yN, .static CodL.yN,
  .code Cmp3.yN Cmp3.yB 6 (some (.array .byte)), .initialized U16, .arrayClass .byte, .methodLink U16 115 Cmp5.yN, .static Cmp5.yN, .code Cmp5.yN Cmp5.yB 7 (some .int), .code CodL.yN CodL.yB 2 (some .byte)]
theorem tab_of {a : Array Value} {s : State} (h : ∀ w ∈ words, w.before a s = true) : New1.tab.before a s = true := by
  have h5 : Cmp5.tab.before a s = true := unparts (wk h (.code Cmp5.yN Cmp5.yB 7 (some .int))) (wks h (.initialized Cmp5.yN.cls :: Cmp5.site))
  have hc : CodL.tab.before a s = true := unparts (wk h (.code CodL.yN CodL.yB 2 (some .byte))) (wks h (.initialized CodL.yN.cls :: CodL.site))
  have q5 : ∀ w ∈ Cmp5.tab :: words, w.before a s = true := fun w hw => (List.mem_cons.mp hw).elim (fun e => e ▸ h5) (h w)
  have h3 : Cmp3.tab.before a s = true := unparts (wk q5 (.code Cmp3.yN Cmp3.yB 6 (some (.array .byte)))) (wks q5 (.initialized Cmp3.yN.cls :: Cmp3.site))
  have q3 : ∀ w ∈ Cmp3.tab :: CodL.tab :: words, w.before a s = true := fun w hw => (List.mem_cons.mp hw).elim (fun e => e ▸ h3) fun hw => (List.mem_cons.mp hw).elim (fun e => e ▸ hc) (h w)
  have h4 : New4.tab.before a s = true := unparts (wk q3 (.code New4.yN New4.yB 6 none)) (wks q3 (.initialized New4.yN.cls :: New4.site))
  have q4 : ∀ w ∈ New4.tab :: words, w.before a s = true := fun w hw => (List.mem_cons.mp hw).elim (fun e => e ▸ h4) (h w)
  exact unparts (wk q4 (.code New1.yN New1.yB 2 none)) (wks q4 (.initialized New1.yN.cls :: New1.site))
/-- the words ride from the start Z to the walk's own state -/
theorem moved {Z s : State} {a0 args : Array Value} (hZ : Z.Warmed39 s.vm) (hw : ∀ d ∈ words, d.before a0 Z = true) : ∀ d ∈ words, d.before args s = true := fun d hd => by
  have q := hw d hd
  have t : ∀ d ∈ words, d = .arrayClass .byte ∨ (d.onTables && d.keepsFace) = true := by decide +kernel
  rcases t d hd with rfl | t
  · exact RoadKit.mvA hZ q
  · exact RoadKit.mv hZ q t
/-- WHAT COMES BACK, over the tables of the start Z: h the heap at the call, h' behind it -/
def Q (Z : State) (x : Addr) (A : Cell) (h : Heap) (v : Option Value) (h' : Heap) (L : List Loc) : Prop := v = none ∧ (∀ y ∈ L, y.base = x) ∧ RoadKit.Keep h h' [x] ∧ h'.size = h.size + 1 ∧ RoadKit.Exa Z h' x ST ∧ RoadKit.Fld Z h' x ST "value" "[B" (.ref h.size) ∧ RoadKit.Fld Z h' x ST "coder" "B" (.int 0) ∧
  (∃ V : Cell, RoadKit.Arr Z h' h.size V .byte ∧ V.vm = .none ∧ Z.vm.findClass "[B" = some V.cls ∧ V.slots.size = A.slots.size ∧ ∀ j, j < A.slots.size → V.slots[j]? = some (.int (lo8 (cv A j)))) ∧
  ∀ (O n d : String) (w : Value), RoadKit.Fld Z h x O n d w → RoadKit.slotOf Z O n d ≠ RoadKit.slotOf Z ST "value" "[B" → RoadKit.slotOf Z O n d ≠ RoadKit.slotOf Z ST "coder" "B" → RoadKit.Fld Z h' x O n d w
/-- **new String(chars) AT A CALL, IN THE ROAD'S FORM**: for specialBack behind newO: x the fresh String, b the char[] with the cell A -/
theorem back {p : Program} {l : Launch} {e : Env} {R : Room} {s : State} {args : Array Value} {below : List Frame} {len W : Nat} {Z : State} {a0 : Array Value} {h : Heap} (hZ : Z.Warmed39 s.vm) (hw : ∀ d ∈ words, d.before a0 Z = true) {kI : Nat} (wi : (Jvm.Cond.instantiable ST kI).before a0 Z = true)
    {x b : Addr} {A : Cell} {z : Int32} {v0 c0 : Value} (E : RoadKit.Exa Z h x ST) (V : RoadKit.Fld Z h x ST "value" "[B" v0) (C : RoadKit.Fld Z h x ST "coder" "B" c0) (K : RoadKit.Arr Z h b A .char) (hty : Typed .char A) (S : RoadKit.Sta Z h ST "COMPACT_STRINGS" "Z" (.int z)) (hz : ¬ z = 0)
    (l0 : 0 < A.slots.size) (l2 : A.slots.size ≤ 536870912) (hp : ∀ i, i < A.slots.size → ¬ 255 < cv A i) (hfr : 4 ≤ R.frames) (hlo : W + 65 ≤ R.locals) :
    Back l R p e below s args New1.yN len W (fun P a => a = #[.ref x, .ref b] ∧ P.U.heap = h ∧ P.cells + 1 ≤ R.cells ∧ P.slots + A.slots.size ≤ R.slots)
      (fun P _ v B => ∃ L, Q Z x A h v B.U.heap L ∧ B.locs = P.locs ++ L ∧ B.cells = P.cells + 1 ∧ B.slots = P.slots + A.slots.size) := by
  intro m meth c P g ig mk a X hg hsize hdg hW hn hp'
  obtain ⟨rfl, rfl, r1, r2⟩ := hp'
  have al : Z.vm.Alike P.U.vm := hZ.alike.trans X.warmed.alike
  obtain ⟨D, cfV, kV, iV, fV, hD, gV, stV, knV, obV, asV, slV⟩ := id V
  obtain ⟨D', cfC, kC, iC, fC, hD', gC, stC, -, -, asC, slC⟩ := id C
  cases hD.symm.trans hD'
  obtain ⟨D2, kD, e1, e2, e3, e4, e5⟩ := id E
  cases hD.symm.trans e1
  obtain ⟨c2, k2, i1, i2, i3, -⟩ := Cond.instantiable_spec wi
  cases e2.symm.trans i1
  cases e3.symm.trans i2
  obtain ⟨kU, u1, u2⟩ := al.2.2 _ _ e3
  have hB : Blank ST x D P.U := ⟨hD, ⟨knV, fun q hq => by rw [hq] at obV; cases obV⟩, by rw [al.findClass]; exact e2, kU, u1, by rw [u2]; exact i3, by rw [u2]; exact e5 i3⟩
  have F1 : Found ST "value" "[B" fV P.U := ⟨SBG.found_only al ⟨cfV, kV, iV, gV⟩, stV⟩
  have F2 : Found ST "coder" "B" fC P.U := ⟨SBG.found_only al ⟨cfC, kC, iC, gC⟩, stC⟩
  have hA : Ch b A P.U := ⟨⟨K.1, State.isArrayOf_alike al K.2.1, K.2.2, by omega⟩, hty⟩
  have hS : StaticIs P.U ST "COMPACT_STRINGS" "Z" (.int z) := by
    obtain ⟨cfS, iS, kS, fS, st, cS, t1, t2, t3, t4, t5, t6, t7⟩ := S
    exact StaticIs.there (s := { Z with heap := P.U.heap }) ⟨cfS, iS, kS, fS, st, cS, t1, t2, t3, t4, t5, (fun q => by rw [q] at t6; cases t6), t7⟩ al rfl
  obtain ⟨v, B, X', ⟨⟨hv, E', V', q1, q2, q3, q4, q5, q6, q7, q8, q9, q10, q11⟩, hl, hc, hs⟩, st⟩ := New1.pays x D fV fC b A z (tab_of (moved hZ hw)) hfr hlo m meth c P g ig mk _ X hg hsize hdg hW hn ⟨r1, r2, rfl, hB, F1, F2, hA, hS, hz, l0, l2, hp⟩
  have al' : Z.vm.Alike B.U.vm := hZ.alike.trans X'.warmed.alike
  have hsz : E'.slots.size = D.slots.size := by
    obtain ⟨-, -, -, kB, w1, w2, w3⟩ := q1
    obtain ⟨kB', y1, y2⟩ := al'.2.2 _ _ e3
    rw [q2.2.1] at w1
    cases w1.symm.trans y1
    rw [w3, e5 i3, y2]
  refine ⟨v, B, X', ⟨_, ⟨hv, ?_, ⟨by omega, fun y cy hy hn' => q10 y cy (by simpa using hn') hy, fun y cy hy => ?_⟩, q11, ⟨E', _, q1.1, by rw [q2.2.1]; exact e2, by rw [q2.2.1]; exact e3, by rw [q2.1]; exact obV, fun _ => by rw [hsz]; exact e5 i3⟩,
    ⟨E', cfV, kV, iV, fV, q1.1, gV, stV, by rw [q2.1]; exact knV, by rw [q2.1]; exact obV, by rw [q2.2.1]; exact asV, q3⟩, ⟨E', cfC, kC, iC, fC, q1.1, gC, stC, by rw [q2.1]; exact knV, by rw [q2.1]; exact obV, by rw [q2.2.1]; exact asC, q4⟩,
    ⟨V', ⟨q5.1, State.isArrayOf_alike al'.symm q5.2.1, q5.2.2.1⟩, q6, by rw [← al'.findClass]; exact q7, q8, fun j hj => by have := q9 j hj; rwa [Nat.zero_add] at this⟩, fun O n d w F n1 n2 => ?_⟩, hl, hc, hs⟩, st⟩
  · intro y hy
    simp only [List.mem_cons, List.not_mem_nil, or_false] at hy
    rcases hy with rfl | rfl <;> rfl
  · by_cases q : y = x
    · subst q
      cases hD.symm.trans hy
      exact ⟨E', q1.1, q2.2.1, q2.1, hsz⟩
    · exact ⟨cy, q10 y cy q hy, rfl, rfl, rfl⟩
  · obtain ⟨D3, cf, k, i, f, g1, g2, g3, g4, g5, g6, g7⟩ := F
    cases hD.symm.trans g1
    simp only [RoadKit.slotOf, g2, gV, gC, Option.map_some, Option.getD_some] at n1 n2
    exact ⟨E', cf, k, i, f, q1.1, g2, g3, by rw [q2.1]; exact g4, by rw [q2.1]; exact g5, by rw [q2.2.1]; exact g6, by rw [q2.2.2 f.slot (by simp [n1, n2])]; exact g7⟩
end StrChars.Road
namespace StrChars.Road
open Jvm Sem ClassFile Op Lib Jvm.Stand Jvm.Free Jvm.Free.XT
/-- WHAT COMES BACK, the byte[] as a list of values -/
def QA (Z : State) (x : Addr) (zn : Int32) (cs : List Int32) (h : Heap) (v : Option Value) (h' : Heap) (L : List Loc) : Prop := v = none ∧ (∀ y ∈ L, y.base = x) ∧ RoadKit.Keep h h' [x] ∧ h'.size = h.size + 1 ∧ RoadKit.Exa Z h' x ST ∧ RoadKit.Fld Z h' x ST "value" "[B" (.ref h.size) ∧ RoadKit.Fld Z h' x ST "coder" "B" (.int 0) ∧
  (∃ kb, Z.vm.findClass "[B" = some kb ∧ RoadKit.Arv Z h' h.size kb .byte zn (cs.map fun c => .int (lo8 c)) (.int 0)) ∧
  ∀ (O n d : String) (w : Value), RoadKit.Fld Z h x O n d w → RoadKit.slotOf Z O n d ≠ RoadKit.slotOf Z ST "value" "[B" → RoadKit.slotOf Z O n d ≠ RoadKit.slotOf Z ST "coder" "B" → RoadKit.Fld Z h' x O n d w
/-- **new String(chars) AT A CALL, THE ARRAYS AS LISTS**: the char[] at b holds cs, not empty, no char above 255 -/
theorem backArv {p : Program} {l : Launch} {e : Env} {R : Room} {s : State} {args : Array Value} {below : List Frame} {len W : Nat} {Z : State} {a0 : Array Value} {h : Heap} (hZ : Z.Warmed39 s.vm) (hw : ∀ d ∈ words, d.before a0 Z = true) {kI : Nat} (wi : (Jvm.Cond.instantiable ST kI).before a0 Z = true)
    {x b : Addr} {k : ClassId} {zn z : Int32} {cs : List Int32} {dv v0 c0 : Value} (E : RoadKit.Exa Z h x ST) (V : RoadKit.Fld Z h x ST "value" "[B" v0) (C : RoadKit.Fld Z h x ST "coder" "B" c0) (K : RoadKit.Arv Z h b k .char zn (cs.map Value.int) dv) (S : RoadKit.Sta Z h ST "COMPACT_STRINGS" "Z" (.int z)) (hz : ¬ z = 0)
    (hlen : zn.toNatClampNeg = cs.length) (h0 : 0 < cs.length) (hbig : cs.length ≤ 536870912) (hall : ∀ c ∈ cs, ¬ 255 < c) (hfr : 4 ≤ R.frames) (hlo : W + 65 ≤ R.locals) :
    Back l R p e below s args New1.yN len W (fun P a => a = #[.ref x, .ref b] ∧ P.U.heap = h ∧ P.cells + 1 ≤ R.cells ∧ P.slots + cs.length ≤ R.slots)
      (fun P _ v B => ∃ L, QA Z x zn cs h v B.U.heap L ∧ B.locs = P.locs ++ L ∧ B.cells = P.cells + 1 ∧ B.slots = P.slots + cs.length) := by
  obtain ⟨A, K1, K2, K3, K4, K5, K6⟩ := K
  have e : A.slots.size = cs.length := K3.trans hlen
  have hat : ∀ (i : Nat) (hi : i < cs.length), A.slots[i]? = some (.int cs[i]) := fun i hi => by rw [K5 i (by omega)]; simp [List.getD_eq_getElem?_getD, hi]
  have hcv : ∀ (i : Nat) (hi : i < cs.length), cv A i = cs[i] := fun i hi => by unfold cv; rw [hat i hi]
  have hty : Typed .char A := fun i v hv => by
    have hi : i < A.slots.size := (Array.getElem?_eq_some_iff.mp hv).1
    have q := K5 i hi
    rw [hv] at q
    rw [Option.some.inj q]
    exact K6 i hi
  refine Back.mono (back hZ hw wi E V C K1 hty S hz (by omega) (by omega) (fun i hi => by rw [hcv i (by omega)]; exact hall _ (List.getElem_mem _)) hfr hlo) (fun P a hp => ⟨hp.1, hp.2.1, hp.2.2.1, by rw [e]; exact hp.2.2.2⟩) (fun P a v B hp hq => ?_)
  obtain ⟨L, ⟨q1, q2, q3, q4, q5, q6, q7, ⟨V', v1, v2, v3, v4, v5⟩, q9⟩, hl, hc, hs⟩ := hq
  refine ⟨L, ⟨q1, q2, q3, q4, q5, q6, q7, ⟨V'.cls, v3, V', v1, rfl, by rw [v4, e, hlen], K4, fun i hi => ?_, fun i hi => ?_⟩, q9⟩, hl, hc, by rw [hs, e]⟩
  · have hi' : i < cs.length := by omega
    rw [v5 i (by omega), hcv i hi']; simp [List.getD_eq_getElem?_getD, hi']
  · have hi' : i < cs.length := by omega
    simp only [List.getD_eq_getElem?_getD, List.getElem?_map, List.getElem?_eq_getElem hi', Option.map_some, Option.getD_some]
    exact fits_lo8 _
end StrChars.Road
namespace StrChars.Road
open Jvm Sem ClassFile Op Lib Jvm.Stand Jvm.Free Jvm.Free.XT
/-- WHAT COMES BACK, in the writer's own shape -/
def QV (Z : State) (x : Addr) (N : Int32) (bs : List Int32) (h : Heap) (n0 : Nat) (v : Option Value) (h' : Heap) (L : List Loc) : Prop := v = none ∧ RoadKit.Fr n0 L ∧ RoadKit.Keep h h' [x] ∧ RoadKit.Exa Z h' x ST ∧ RoadKit.Fld Z h' x ST "coder" "B" (.int 0) ∧
  ∃ (t : Addr) (kb : ClassId), n0 ≤ t ∧ h.size ≤ t ∧ ¬ t = x ∧ RoadKit.Fld Z h' x ST "value" "[B" (.ref t) ∧ RoadKit.Arv Z h' t kb .byte N (bs.map Value.int) (.int 0)
/-- **new String(chars) AT A CALL, FOR THE WRITER**: a char[] of n known ints, each 0 to 255 -/
theorem backV {p : Program} {l : Launch} {e : Env} {R : Room} {s : State} {args : Array Value} {below : List Frame} {len W : Nat} {Z : State} {a0 : Array Value} {h : Heap} (hZ : Z.Warmed39 s.vm) (hw : ∀ d ∈ words, d.before a0 Z = true) {kI : Nat} (wi : (Jvm.Cond.instantiable ST kI).before a0 Z = true)
    {x b : Addr} {kC : ClassId} {cs bs : List Int32} {d v0 c0 : Value} {z N : Int32} {n n0 : Nat} (hx0 : n0 ≤ x) (hh0 : n0 ≤ h.size) (E : RoadKit.Exa Z h x ST) (V : RoadKit.Fld Z h x ST "value" "[B" v0) (C : RoadKit.Fld Z h x ST "coder" "B" c0) (K : RoadKit.Arv Z h b kC .char N (cs.map Value.int) d) (S : RoadKit.Sta Z h ST "COMPACT_STRINGS" "Z" (.int z)) (hz : ¬ z = 0)
    (hn : cs.length = n) (hN : N = Int32.ofNat n) (l0 : 0 < n) (l2 : n ≤ 4000) (hp : ∀ c ∈ cs, ¬ c < 0 ∧ ¬ (255 : Int32) < c) (hb : bs = cs.map (fun c => c.toInt8.toInt32)) (hfr : 4 ≤ R.frames) (hlo : W + 65 ≤ R.locals) :
    Back l R p e below s args (⟨"java/lang/String", "<init>", "([C)V"⟩ : MethodName) len W (fun P a => a = #[.ref x, .ref b] ∧ P.U.heap = h ∧ P.cells + 1 ≤ R.cells ∧ P.slots + n ≤ R.slots)
      (fun P _ v B => ∃ L, QV Z x N bs h n0 v B.U.heap L ∧ B.locs = P.locs ++ L ∧ B.cells = P.cells + 1 ∧ B.slots = P.slots + n) := by
  subst hn hN hb
  refine Back.mono (backArv hZ hw wi E V C K S hz (n32 (by omega)) l0 (by omega) (fun c hc => (hp c hc).2) hfr hlo) (fun P a hp => hp) (fun P a v B hp hq => ?_)
  obtain ⟨L, ⟨q1, q2, q3, q4, q5, q6, q7, ⟨kb, v1, v2⟩, q9⟩, hl, hc, hs⟩ := hq
  exact ⟨L, ⟨q1, fun y hy => by rw [q2 y hy]; exact hx0, q3, q5, q7, h.size, kb, hh0, Nat.le_refl _, Nat.ne_of_gt E.lt, q6, by rw [List.map_map]; exact v2⟩, hl, hc, hs⟩
end StrChars.Road
namespace StrChars
open Jvm Sem ClassFile Op Lib Jvm.Stand Jvm.Free.XT Jvm.Free.ALB Jvm.Free.JM Jvm.Free
open Jvm.Lib.Cold (StaticIs)
def hi8 (x : Int32) : Int32 := lo8 (x >>> ((8 : Int32) &&& 31))
/-- what StringUTF16.getChar makes of two bytes -/
def pairCh (u v : Int32) : Int32 := (((u &&& 255) <<< ((0 : Int32) &&& 31)) ||| ((v &&& 255) <<< ((8 : Int32) &&& 31))).toUInt32.toUInt16.toUInt32.toInt32
theorem lo8_and (x : Int32) : (lo8 x &&& 255).toBitVec.toNat = x.toBitVec.toNat % 256 := by
  have h : (lo8 x).toBitVec = (x.toBitVec.signExtend 8).signExtend 32 := by rw [lo8, Int8.toBitVec_toInt32, Int32.toBitVec_toInt8]
  rw [Int32.toBitVec_and, BitVec.toNat_and, h]
  have e : ((x.toBitVec.signExtend 8).signExtend 32).toNat % 256 = x.toBitVec.toNat % 256 := by
    rw [BitVec.toNat_signExtend]
    have hlt := x.toBitVec.isLt
    simp only [BitVec.toNat_setWidth, BitVec.toNat_signExtend]
    split <;> split <;> omega
  rw [← e]
  exact Nat.and_two_pow_sub_one_eq_mod _ 8
theorem pair_says {c : Int32} (h0 : ¬ c < 0) (h1 : ¬ 65535 < c) : pairCh (lo8 c) (hi8 c) = c := by
  rw [Int32.lt_iff_toInt_lt] at h0 h1
  have e0 : (0 : Int32).toInt = 0 := rfl
  have e1 : (65535 : Int32).toInt = 65535 := rfl
  have hc : c.toInt = c.toBitVec.toNat := by
    have := c.toBitVec.isLt
    have e : c.toInt = c.toBitVec.toInt := rfl
    rw [e] at h0 h1
    rw [e]
    rw [BitVec.toInt_eq_toNat_cond] at h0 h1 ⊢
    split at h0 <;> split <;> omega
  have hn : c.toBitVec.toNat < 65536 := by omega
  have a1 := lo8_and c
  have a2 : (hi8 c &&& 255).toBitVec.toNat = c.toBitVec.toNat / 256 := by
    rw [hi8, lo8_and]
    have e : ((8 : Int32) &&& 31) = 8 := by decide
    rw [e, Int32.toBitVec_shiftRight]
    have e2 : ((8 : Int32).toBitVec.smod 32) = 8#32 := by decide
    rw [e2, BitVec.sshiftRight_eq', BitVec.toNat_sshiftRight_of_msb_false (by rw [BitVec.msb_eq_false_iff_two_mul_lt]; omega)]
    show c.toBitVec.toNat >>> 8 % 256 = _
    rw [Nat.shiftRight_eq_div_pow]
    omega
  unfold pairCh
  apply Int32.toBitVec_inj.mp
  apply BitVec.eq_of_toNat_eq
  have f0 : ((0 : Int32) &&& 31) = 0 := by decide
  have f8 : ((8 : Int32) &&& 31) = 8 := by decide
  rw [f0, f8]
  have g : (((lo8 c &&& 255) <<< (0 : Int32)) ||| ((hi8 c &&& 255) <<< (8 : Int32))).toBitVec.toNat = c.toBitVec.toNat := by
    rw [Int32.toBitVec_or, Int32.toBitVec_shiftLeft, Int32.toBitVec_shiftLeft]
    have s0 : ((0 : Int32).toBitVec.smod 32) = 0#32 := by decide
    have s8 : ((8 : Int32).toBitVec.smod 32) = 8#32 := by decide
    rw [s0, s8, BitVec.toNat_or]
    simp only [BitVec.shiftLeft_eq', BitVec.toNat_shiftLeft, a1, a2]
    show (c.toBitVec.toNat % 256) <<< 0 % 2 ^ 32 ||| (c.toBitVec.toNat / 256) <<< 8 % 2 ^ 32 = _
    rw [Nat.shiftLeft_zero, Nat.mod_eq_of_lt (show c.toBitVec.toNat % 256 < 2 ^ 32 by omega), Nat.mod_eq_of_lt (show (c.toBitVec.toNat / 256) <<< 8 < 2 ^ 32 by rw [Nat.shiftLeft_eq]; omega), Nat.or_comm, ← Nat.shiftLeft_add_eq_or_of_lt (by omega), Nat.shiftLeft_eq]
    omega
  show BitVec.toNat (((((lo8 c &&& 255) <<< (0 : Int32)) ||| ((hi8 c &&& 255) <<< (8 : Int32))).toBitVec.setWidth 16).setWidth 32) = _
  rw [BitVec.toNat_setWidth, BitVec.toNat_setWidth, g]
  omega
end StrChars
namespace StrChars
open Jvm Sem ClassFile Op Lib Jvm.Stand Jvm.Free.XT Jvm.Free.ALB Jvm.Free.JM Jvm.Free
open Jvm.Lib.Cold (StaticIs)
/-- the array's cell V codes the n chars f 0 .. f (n - 1) by the coder cd, as the JDK does: coder 1 just where some char is above 255 -/
def Cod (cd : Int32) (n : Nat) (f : Nat → Int32) (V : Cell) : Prop := (cd = 0 ∧ V.slots.size = n ∧ ∀ j, j < n → V.slots[j]? = some (.int (lo8 (f j))) ∧ ¬ 255 < f j) ∨ (cd = 1 ∧ V.slots.size = 2 * n ∧ (∀ j, j < n → V.slots[2 * j]? = some (.int (lo8 (f j))) ∧ V.slots[2 * j + 1]? = some (.int (hi8 (f j)))) ∧ ∃ j, j < n ∧ 255 < f j)
/-- **x is a String of the n chars f 0 .. f (n - 1)**, Latin-1 or UTF-16; its array at t has the cell V -/
def Txt (x t : Addr) (V : Cell) (cd : Int32) (n : Nat) (f : Nat → Int32) (U : State) : Prop := Exact "java/lang/String" x U ∧ Has x "java/lang/String" "value" "[B" (.ref t) U ∧ Has x "java/lang/String" "coder" "B" (.int cd) U ∧ XT.Arr .byte t V U ∧ Cod cd n f V ∧ ∀ j, j < n → ¬ f j < 0 ∧ ¬ 65535 < f j
theorem Txt.mv {x t : Addr} {V : Cell} {cd : Int32} {n : Nat} {f : Nat → Int32} {U U' : State} (h : Txt x t V cd n f U) (hal : U.vm.Alike U'.vm) (hh : U'.heap = U.heap) : Txt x t V cd n f U' := ⟨h.1.mv hal hh, h.2.1.mv hal hh, h.2.2.1.mv hal hh, h.2.2.2.1.mv hal hh, h.2.2.2.2⟩
end StrChars
namespace StrChars.Road
open Jvm Sem ClassFile Op Lib Jvm.Stand Jvm.Free Jvm.Free.XT
open Jvm.Lib.Cold (StaticIs)
theorem consq {a : Array Value} {s : State} {c : Jvm.Cond} {L : List Jvm.Cond} (h0 : c.before a s = true) (h : ∀ w ∈ L, w.before a s = true) : ∀ w ∈ c :: L, w.before a s = true := fun w hw => (List.mem_cons.mp hw).elim (fun e => e ▸ h0) (h w)
/-- the bytes of the chars cs, low before high -/
def wideBytes : List Int32 → List Value
  | [] => []
  | c :: cs => .int (lo8 c) :: .int (hi8 c) :: wideBytes cs
theorem wide_lo (d : Value) : ∀ (cs : List Int32) (j : Nat), j < cs.length → (wideBytes cs).getD (2 * j) d = .int (lo8 (cs.getD j 0))
  | [], j, h => absurd h (Nat.not_lt_zero j)
  | c :: cs, 0, _ => rfl
  | c :: cs, j + 1, h => by
    have q := wide_lo d cs j (by simpa using h)
    rw [show 2 * (j + 1) = 2 * j + 1 + 1 from by omega]
    simpa [wideBytes] using q
theorem wide_hi (d : Value) : ∀ (cs : List Int32) (j : Nat), j < cs.length → (wideBytes cs).getD (2 * j + 1) d = .int (hi8 (cs.getD j 0))
  | [], j, h => absurd h (Nat.not_lt_zero j)
  | c :: cs, 0, _ => rfl
  | c :: cs, j + 1, h => by
    have q := wide_hi d cs j (by simpa using h)
    rw [show 2 * (j + 1) + 1 = 2 * j + 1 + 1 + 1 from by omega]
    simpa [wideBytes] using q
theorem low_at (d : Value) (cs : List Int32) (j : Nat) (h : j < cs.length) : (cs.map fun c => Value.int (lo8 c)).getD j d = .int (lo8 (cs.getD j 0)) := by
  simp [List.getD_eq_getElem?_getD, h]
/-- an array of N2 bytes vs codes the chars cs by the coder cd -/
def CodA (cs : List Int32) (cd N2 : Int32) (vs : List Value) : Prop := (cd = 0 ∧ N2 = Int32.ofNat cs.length ∧ vs = (cs.map fun c => Value.int (lo8 c)) ∧ ∀ c ∈ cs, ¬ 255 < c) ∨ (cd = 1 ∧ N2 = Int32.ofNat (2 * cs.length) ∧ vs = wideBytes cs ∧ ∃ c ∈ cs, 255 < c)
theorem CodA.cod {cs : List Int32} {cd N2 : Int32} {vs : List Value} {V : Cell} (h : CodA cs cd N2 vs) (hn : 2 * cs.length < 2 ^ 31) (hs : V.slots.size = N2.toNatClampNeg) (hv : RoadKit.Has V vs (.int 0)) : Cod cd cs.length (fun j => cs.getD j 0) V := by
  rcases h with ⟨rfl, rfl, rfl, h⟩ | ⟨rfl, rfl, rfl, c, hc, hw⟩
  · rw [n32 (by omega)] at hs
    exact Or.inl ⟨rfl, hs, fun j hj => ⟨by rw [hv j (by omega), low_at _ _ _ hj], by
      have e : cs.getD j 0 = cs[j] := by simp [List.getD_eq_getElem?_getD, hj]
      show ¬ 255 < cs.getD j 0
      rw [e]; exact h _ (List.getElem_mem _)⟩⟩
  · rw [n32 (by omega)] at hs
    obtain ⟨j, hj, rfl⟩ := List.getElem_of_mem hc
    exact Or.inr ⟨rfl, hs, fun j hj => ⟨by rw [hv _ (by omega), wide_lo _ _ _ hj], by rw [hv _ (by omega), wide_hi _ _ _ hj]⟩, j, hj, by
      have e : cs.getD j 0 = cs[j] := by simp [List.getD_eq_getElem?_getD, hj]
      show 255 < cs.getD j 0
      rw [e]; exact hw⟩
/-- an object of exactly java/lang/String, its two fields found: as the laws ask it -/
theorem strObj {Z U : State} {a0 : Array Value} {kI : Nat} (wi : (Jvm.Cond.instantiable ST kI).before a0 Z = true) (al : Z.vm.Alike U.vm) {x : Addr} {v0 c0 : Value} (E : RoadKit.Exa Z U.heap x ST) (V : RoadKit.Fld Z U.heap x ST "value" "[B" v0) (C : RoadKit.Fld Z U.heap x ST "coder" "B" c0) :
    ∃ (D : Cell) (fV fC : Field), Blank ST x D U ∧ Found ST "value" "[B" fV U ∧ Found ST "coder" "B" fC U ∧ D.slots[fV.slot]? = some v0 ∧ D.slots[fC.slot]? = some c0 ∧ RoadKit.slotOf Z ST "value" "[B" = fV.slot ∧ RoadKit.slotOf Z ST "coder" "B" = fC.slot := by
  obtain ⟨D, cfV, kV, iV, fV, hD, gV, stV, knV, obV, asV, slV⟩ := V
  obtain ⟨D', cfC, kC, iC, fC, hD', gC, stC, -, -, asC, slC⟩ := C
  cases hD.symm.trans hD'
  obtain ⟨D2, kD, e1, e2, e3, e4, e5⟩ := E
  cases hD.symm.trans e1
  obtain ⟨c2, k2, i1, i2, i3, -⟩ := Cond.instantiable_spec wi
  cases e2.symm.trans i1
  cases e3.symm.trans i2
  obtain ⟨kU, u1, u2⟩ := al.2.2 _ _ e3
  exact ⟨D, fV, fC, ⟨hD, ⟨knV, fun q hq => by rw [hq] at obV; cases obV⟩, by rw [al.findClass]; exact e2, kU, u1, by rw [u2]; exact i3, by rw [u2]; exact e5 i3⟩, ⟨SBG.found_only al ⟨cfV, kV, iV, gV⟩, stV⟩, ⟨SBG.found_only al ⟨cfC, kC, iC, gC⟩, stC⟩, slV, slC, by simp [RoadKit.slotOf, gV], by simp [RoadKit.slotOf, gC]⟩
theorem sta_is {Z U : State} (al : Z.vm.Alike U.vm) {C n d : String} {v : Value} (S : RoadKit.Sta Z U.heap C n d v) : StaticIs U C n d v := by
  obtain ⟨cfS, iS, kS, fS, st, cS, t1, t2, t3, t4, t5, t6, t7⟩ := S
  exact StaticIs.there (s := { Z with heap := U.heap }) ⟨cfS, iS, kS, fS, st, cS, t1, t2, t3, t4, t5, (fun q => by rw [q] at t6; cases t6), t7⟩ al rfl
end StrChars.Road
namespace StrChars
open Jvm Sem ClassFile Op Lib Jvm.Stand Jvm.Free.XT Jvm.Free.ALB Jvm.Free.JM Jvm.Free
open Jvm.Lib.Cold (StaticIs)
/-- what place i of a byte[]'s cell holds -/
def yv (A : Cell) (i : Nat) : Int32 := match A.slots[i]? with | some (.int x) => x | _ => 0
theorem yv_get {a : Addr} {A : Cell} {U : State} (h : XT.Arr .byte a A U) (ht : Typed .byte A) {i : Nat} (hi : i < A.slots.size) : A.slots[i]? = some (.int (yv A i)) := by
  have e := Array.getElem?_eq_getElem hi
  have f := ht i _ e
  unfold yv; rw [e]
  generalize A.slots[i] = v at f
  cases v <;> simp [fits] at f ⊢
/-- the two arrays are equal, place for place -/
def EqC (A B : Cell) : Prop := A.slots.size = B.slots.size ∧ ∀ i, i < A.slots.size → yv A i = yv B i
/-- a boolean that says whether p -/
def Says01 (q : Prop) (r : Option Value) (s u : State) : Prop := ∃ v : Int32, r = some (.int v) ∧ u.heap = s.heap ∧ ((v = 1 ∧ q) ∨ (v = 0 ∧ ¬ q))
theorem Says01.mv {q : Prop} : ∀ r (U U' V V' : State), U'.heap = U.heap → V.vm.Alike V'.vm → V'.heap = V.heap → Says01 q r U V → Says01 q r U' V' :=
  fun r U U' V V' h1 _ h2 ⟨v, a, b, c⟩ => ⟨v, a, by rw [h1, h2]; exact b, c⟩
namespace LEq
def yN : MethodName := ⟨"java/lang/StringLatin1", "equals", "([B[B)Z"⟩
abbrev yB : ByteArray := jdk_43_method_13_code
theorem d0 : decode yB 0 = .ok (.aload_n 0, 1) := by decide +kernel
theorem d1 : decode yB 1 = .ok (.arraylength, 1) := by decide +kernel
theorem d2 : decode yB 2 = .ok (.aload_n 1, 1) := by decide +kernel
theorem d3 : decode yB 3 = .ok (.arraylength, 1) := by decide +kernel
theorem d4 : decode yB 4 = .ok (.if_icmp (.ne) 30, 3) := by decide +kernel
theorem d7 : decode yB 7 = .ok (.iconst 0, 1) := by decide +kernel
theorem d8 : decode yB 8 = .ok (.istore_n 2, 1) := by decide +kernel
theorem d9 : decode yB 9 = .ok (.iload_n 2, 1) := by decide +kernel
theorem d10 : decode yB 10 = .ok (.aload_n 0, 1) := by decide +kernel
theorem d11 : decode yB 11 = .ok (.arraylength, 1) := by decide +kernel
theorem d12 : decode yB 12 = .ok (.if_icmp (.ge) 20, 3) := by decide +kernel
theorem d15 : decode yB 15 = .ok (.aload_n 0, 1) := by decide +kernel
theorem d16 : decode yB 16 = .ok (.iload_n 2, 1) := by decide +kernel
theorem d17 : decode yB 17 = .ok (.baload, 1) := by decide +kernel
theorem d18 : decode yB 18 = .ok (.aload_n 1, 1) := by decide +kernel
theorem d19 : decode yB 19 = .ok (.iload_n 2, 1) := by decide +kernel
theorem d20 : decode yB 20 = .ok (.baload, 1) := by decide +kernel
theorem d21 : decode yB 21 = .ok (.if_icmp (.eq) 5, 3) := by decide +kernel
theorem d24 : decode yB 24 = .ok (.iconst 0, 1) := by decide +kernel
theorem d25 : decode yB 25 = .ok (.ireturn, 1) := by decide +kernel
theorem d26 : decode yB 26 = .ok (.iinc 2 1, 3) := by decide +kernel
theorem d29 : decode yB 29 = .ok (.goto (-20), 3) := by decide +kernel
theorem d32 : decode yB 32 = .ok (.iconst 1, 1) := by decide +kernel
theorem d33 : decode yB 33 = .ok (.ireturn, 1) := by decide +kernel
theorem d34 : decode yB 34 = .ok (.iconst 0, 1) := by decide +kernel
theorem d35 : decode yB 35 = .ok (.ireturn, 1) := by decide +kernel
def site : List Cond := []
def tab : Cond := tabOf yN yB 3 (some .boolean) site
def P (a : Addr) (A : Cell) (b : Addr) (B : Cell) (args : Array Value) (s : State) : Prop := args = #[.ref a, .ref b] ∧ XT.Arr .byte a A s ∧ Typed .byte A ∧ XT.Arr .byte b B s ∧ Typed .byte B
/-- whether two byte[] are equal, place for place -/
theorem law (l : Launch) (a : Addr) (A : Cell) (b : Addr) (B : Cell) : Law l yN 2 2 0 0 yB 3 (some .boolean) site (P a A b B) (Says01 (EqC A B)) [] 0 0 := by
  refine Law.of_walk (plainFor_of_name (by decide +kernel)) (by decide +kernel) (by decide +kernel) (by decide) (fun _ _ h => by rw [h.1]; rfl) (fun _ U U' hal hh h => ⟨h.1, h.2.1.mv hal hh, h.2.2.1, h.2.2.2.1.mv hal hh, h.2.2.2.2⟩) (fun r U U' V V' h1 hal h2 h => Says01.mv r U U' V V' h1 hal h2 h) ?_
  intro p e s m args below meth c s₁ X0 hexec hbytes hml hret hlk hnm hown hh0 W hP
  obtain ⟨rfl, hA, tA, hB, tB⟩ := hP
  have a31 := hA.2.2.2
  have b31 := hB.2.2.2
  have hA0 := hA.mv X0.warmed.alike hh0
  have hB0 := hB.mv X0.warmed.alike hh0
  have c1 : Steps p.tables e below (s₁.setTop (entryFrame m #[.ref a, .ref b] 3)) (s₁.setTop (mkF m 0 #[.val (.ref a), .val (.ref b), .unset] [])) := entry rfl
  have c2 : Steps p.tables e below (s₁.setTop (entryFrame m #[.ref a, .ref b] 3)) (s₁.setTop (mkF m 4 #[.val (.ref a), .val (.ref b), .unset] [.int (Int32.ofNat B.slots.size), .int (Int32.ofNat A.slots.size)])) := c1.trans (by
    refine XS.aloadN X0.here hexec rfl (hb hbytes d0) rfl rfl ?_
    refine X0.alen hexec hA0 rfl rfl (hb hbytes d1) ?_
    refine XS.aloadN X0.here hexec rfl (hb hbytes d2) rfl rfl ?_
    refine X0.alen hexec hB0 rfl rfl (hb hbytes d3) ?_
    exact Steps.refl _)
  by_cases hs : A.slots.size = B.slots.size
  · have c3 : Steps p.tables e below (s₁.setTop (entryFrame m #[.ref a, .ref b] 3)) (s₁.setTop (mkF m 9 #[.val (.ref a), .val (.ref b), .val (.int 0)] [])) := c2.trans (by
      refine XS.icmpNo X0.here hexec rfl (hb hbytes d4) rfl (ii_ne_f (by rw [hs])) ?_
      refine iconstV X0.here hexec rfl 0 (hb hbytes d7) (by decide) ?_
      refine XS.istoreN X0.here hexec rfl (hb hbytes d8) rfl rfl ?_
      exact Steps.refl _)
    have loop : ∀ (r i : Nat), i + r = A.slots.size → (∀ j, j < i → yv A j = yv B j) → Steps p.tables e below (s₁.setTop (entryFrame m #[.ref a, .ref b] 3)) (s₁.setTop (mkF m 9 #[.val (.ref a), .val (.ref b), .val (.int (Int32.ofNat i))] [])) → ∃ (pc : Nat) (Ls : Array Slot) (v : Int32), (pc = 25 ∨ pc = 33) ∧ ((v = 1 ∧ EqC A B) ∨ (v = 0 ∧ ¬ EqC A B)) ∧ Steps p.tables e below (s₁.setTop (entryFrame m #[.ref a, .ref b] 3)) (s₁.setTop (mkF m pc Ls [.int v])) := by
      intro r
      induction r with
      | zero =>
        intro i hi he cl
        exact ⟨33, _, 1, Or.inr rfl, Or.inl ⟨rfl, hs, fun j hj => he j (by omega)⟩, cl.trans (by
          refine XS.iloadN X0.here hexec rfl (hb hbytes d9) rfl ?_
          refine XS.aloadN X0.here hexec rfl (hb hbytes d10) rfl rfl ?_
          refine X0.alen hexec hA0 rfl rfl (hb hbytes d11) ?_
          refine XS.icmpYes X0.here hexec rfl (pc0 := 12) rfl (hb hbytes d12) rfl (ii_ge_t (nlt32 (by omega) (by omega))) (by decide) rfl ?_
          refine iconstV X0.here hexec rfl 1 (hb hbytes d32) (by decide) ?_
          exact Steps.refl _)⟩
      | succ r ih =>
        intro i hi he cl
        have c4 : Steps p.tables e below (s₁.setTop (entryFrame m #[.ref a, .ref b] 3)) (s₁.setTop (mkF m 21 #[.val (.ref a), .val (.ref b), .val (.int (Int32.ofNat i))] [.int (yv B i), .int (yv A i)])) := cl.trans (by
          refine XS.iloadN X0.here hexec rfl (hb hbytes d9) rfl ?_
          refine XS.aloadN X0.here hexec rfl (hb hbytes d10) rfl rfl ?_
          refine X0.alen hexec hA0 rfl rfl (hb hbytes d11) ?_
          refine XS.icmpNo X0.here hexec rfl (hb hbytes d12) rfl (ii_ge_f (lt32 (by omega) (by omega))) ?_
          refine XS.aloadN X0.here hexec rfl (hb hbytes d15) rfl rfl ?_
          refine XS.iloadN X0.here hexec rfl (hb hbytes d16) rfl ?_
          refine X0.aget hexec hA0 rfl (yv_get hA tA (i := i) (by omega)) rfl rfl (hb hbytes d17) ?_
          refine XS.aloadN X0.here hexec rfl (hb hbytes d18) rfl rfl ?_
          refine XS.iloadN X0.here hexec rfl (hb hbytes d19) rfl ?_
          refine X0.aget hexec hB0 rfl (yv_get hB tB (i := i) (by omega)) rfl rfl (hb hbytes d20) ?_
          exact Steps.refl _)
        by_cases hv : yv A i = yv B i
        · have c5 : Steps p.tables e below (s₁.setTop (entryFrame m #[.ref a, .ref b] 3)) (s₁.setTop (mkF m 9 #[.val (.ref a), .val (.ref b), .val (.int (Int32.ofNat i + 1))] [])) := c4.trans (by
            refine XS.icmpYes X0.here hexec rfl (pc0 := 21) rfl (hb hbytes d21) rfl (ii_eq_t hv) (by decide) rfl ?_
            refine iincV X0.here hexec rfl 1 (hb hbytes d26) (by decide) rfl rfl ?_
            refine XS.goto X0.here hexec rfl (pc0 := 29) rfl (hb hbytes d29) (by decide) rfl ?_
            exact Steps.refl _)
          rw [succ32] at c5
          exact ih (i + 1) (by omega) (fun j hj => by
            by_cases e : j = i
            · rw [e]; exact hv
            · exact he j (by omega)) c5
        · exact ⟨25, _, 0, Or.inl rfl, Or.inr ⟨rfl, fun q => hv (q.2 i (by omega))⟩, c4.trans (by
            refine XS.icmpNo X0.here hexec rfl (hb hbytes d21) rfl (ii_eq_f hv) ?_
            refine iconstV X0.here hexec rfl 0 (hb hbytes d24) (by decide) ?_
            exact Steps.refl _)⟩
    obtain ⟨pc, Ls, v, hpc, hv, cz⟩ := loop A.slots.size 0 (by omega) (fun j hj => absurd hj (Nat.not_lt_zero j)) c3
    have nv : narrow .boolean (.int v) = .int v := by rcases hv with ⟨rfl, -⟩ | ⟨rfl, -⟩ <;> rfl
    rcases hpc with rfl | rfl
    · exact ⟨s₁, some (.int v), _, _, _, X0, rfl, rfl, rfl, (fun h => by cases h), ⟨v, rfl, hh0, hv⟩, fun fs hl => cz.trans (X0.ireturnOut hexec hret nv (Or.inr (Or.inl rfl)) (hb hbytes d25) hl)⟩
    · exact ⟨s₁, some (.int v), _, _, _, X0, rfl, rfl, rfl, (fun h => by cases h), ⟨v, rfl, hh0, hv⟩, fun fs hl => cz.trans (X0.ireturnOut hexec hret nv (Or.inr (Or.inl rfl)) (hb hbytes d33) hl)⟩
  · have c3 : Steps p.tables e below (s₁.setTop (entryFrame m #[.ref a, .ref b] 3)) (s₁.setTop (mkF m 35 #[.val (.ref a), .val (.ref b), .unset] [.int 0])) := c2.trans (by
      refine XS.icmpYes X0.here hexec rfl (pc0 := 4) rfl (hb hbytes d4) rfl (ii_ne_t (ne32 a31 b31 hs)) (by decide) rfl ?_
      refine iconstV X0.here hexec rfl 0 (hb hbytes d34) (by decide) ?_
      exact Steps.refl _)
    exact ⟨s₁, some (.int 0), _, _, _, X0, rfl, rfl, rfl, (fun h => by cases h), ⟨0, rfl, hh0, Or.inr ⟨rfl, fun q => hs q.1⟩⟩, fun fs hl => c3.trans (X0.ireturnOut hexec hret rfl (Or.inr (Or.inl rfl)) (hb hbytes d35) hl)⟩
end LEq
theorem Cod.ty {cd : Int32} {n : Nat} {f : Nat → Int32} {V : Cell} (h : Cod cd n f V) : Typed .byte V := fun i v hv => by
  have hi : i < V.slots.size := (Array.getElem?_eq_some_iff.mp hv).1
  rcases h with ⟨-, k1, k2⟩ | ⟨-, k1, k2, -⟩
  · rw [(k2 i (by omega)).1] at hv; cases hv; exact fits_lo8 _
  · rcases Nat.mod_two_eq_zero_or_one i with e | e
    · obtain ⟨j, rfl⟩ : ∃ j, i = 2 * j := ⟨i / 2, by omega⟩
      rw [(k2 j (by omega)).1] at hv; cases hv; exact fits_lo8 _
    · obtain ⟨j, rfl⟩ : ∃ j, i = 2 * j + 1 := ⟨i / 2, by omega⟩
      rw [(k2 j (by omega)).2] at hv; cases hv; exact fits_lo8 _
/-- the same text -/
def SameT (n : Nat) (f : Nat → Int32) (k : Nat) (g : Nat → Int32) : Prop := n = k ∧ ∀ j, j < n → f j = g j
theorem lo8_inj {x y : Int32} (h0 : ¬ x < 0) (h1 : ¬ 255 < x) (k0 : ¬ y < 0) (k1 : ¬ 255 < y) (h : lo8 x = lo8 y) : x = y := by
  rw [← lo8_mask h0 h1, ← lo8_mask k0 k1, h]
/-- arrays coded by one coder are equal just where the texts are -/
theorem Cod.eqv {cd : Int32} {n k : Nat} {f g : Nat → Int32} {V V' : Cell} (h : Cod cd n f V) (h' : Cod cd k g V') (hf : ∀ j, j < n → ¬ f j < 0 ∧ ¬ 65535 < f j) (hg : ∀ j, j < k → ¬ g j < 0 ∧ ¬ 65535 < g j) : EqC V V' ↔ SameT n f k g := by
  have yvv : ∀ {W : Cell} {i : Nat} {x : Int32}, W.slots[i]? = some (.int x) → yv W i = x := fun q => by unfold yv; rw [q]
  rcases h with ⟨rfl, k1, k2⟩ | ⟨rfl, k1, k2, -⟩
  · rcases h' with ⟨-, m1, m2⟩ | ⟨e, -⟩
    · constructor
      · rintro ⟨e1, e2⟩
        refine ⟨by omega, fun j hj => ?_⟩
        have q := e2 j (by omega)
        rw [yvv (k2 j hj).1, yvv (m2 j (by omega)).1] at q
        exact lo8_inj (hf j hj).1 (k2 j hj).2 (hg j (by omega)).1 (m2 j (by omega)).2 q
      · rintro ⟨rfl, e2⟩
        refine ⟨by omega, fun j hj => ?_⟩
        rw [yvv (k2 j (by omega)).1, yvv (m2 j (by omega)).1, e2 j (by omega)]
    · exact absurd e (by decide)
  · rcases h' with ⟨e, -⟩ | ⟨-, m1, m2, -⟩
    · exact absurd e (by decide)
    · constructor
      · rintro ⟨e1, e2⟩
        refine ⟨by omega, fun j hj => ?_⟩
        have q1 := e2 (2 * j) (by omega)
        have q2 := e2 (2 * j + 1) (by omega)
        rw [yvv (k2 j hj).1, yvv (m2 j (by omega)).1] at q1
        rw [yvv (k2 j hj).2, yvv (m2 j (by omega)).2] at q2
        rw [← pair_says (hf j hj).1 (hf j hj).2, ← pair_says (hg j (by omega)).1 (hg j (by omega)).2, q1, q2]
      · rintro ⟨rfl, e2⟩
        refine ⟨by omega, fun i hi => ?_⟩
        rcases Nat.mod_two_eq_zero_or_one i with e | e
        · obtain ⟨j, rfl⟩ : ∃ j, i = 2 * j := ⟨i / 2, by omega⟩
          rw [yvv (k2 j (by omega)).1, yvv (m2 j (by omega)).1, e2 j (by omega)]
        · obtain ⟨j, rfl⟩ : ∃ j, i = 2 * j + 1 := ⟨i / 2, by omega⟩
          rw [yvv (k2 j (by omega)).2, yvv (m2 j (by omega)).2, e2 j (by omega)]
/-- two codings differ: so do the texts -/
theorem Cod.dif {cd cd' : Int32} {n k : Nat} {f g : Nat → Int32} {V V' : Cell} (h : Cod cd n f V) (h' : Cod cd' k g V') (hne : ¬ cd = cd') : ¬ SameT n f k g := by
  rintro ⟨rfl, e⟩
  rcases h with ⟨rfl, -, k2⟩ | ⟨rfl, -, -, j, hj, hw⟩
  · rcases h' with ⟨rfl, -⟩ | ⟨-, -, -, j, hj, hw⟩
    · exact hne rfl
    · exact (k2 j hj).2 (by rw [e j hj]; exact hw)
  · rcases h' with ⟨-, -, m2⟩ | ⟨rfl, -⟩
    · exact (m2 j hj).2 (by rw [← e j hj]; exact hw)
    · exact hne rfl
/-- an object of exactly C is an instance of C -/
theorem cinst {p : Program} {l : Launch} {e : Env} {R : Room} {s : State} {m : MethodId} {args : Array Value} {below : List Frame} {meth : Method} {c : Code} {T : State} {locs : List Loc} {cells slots : Nat} (X : Stand p l e R s m args below meth c T locs cells slots) (hexec : p.tables.exec = Jvm.exec) {own C : String} {index : Nat} (hown : s.vm.findClass own = some m.cls) (hlink : (Cond.classLink own index C).before args s = true) {a : Addr} (hE : Exact C a T)
    {g : JFrame} (hg : g.method = m) {rest : List Value} (hstack : g.stack = .ref a :: rest) (hdg : decode c.code g.pc = .ok (.instanceof index, 3)) :
    ∃ T', Stand p l e R s m args below meth c T' locs cells slots ∧ T'.heap = T.heap ∧ ∀ target, Steps p.tables e below (T'.setTop { g with pc := g.pc + 3, stack := .int 1 :: rest }) target → Steps p.tables e below (T.setTop g) target := by
  obtain ⟨cB, h1, D, h2, h3, h4⟩ := hE
  have h1' : s.vm.findClass C = some cB := by rw [← X.warmed.alike.findClass]; exact h1
  obtain ⟨vm', X', st⟩ := X.instanceofYes hexec hown hlink h2 h4 h1' (by rw [h3]; exact Jvm.Free.SB.assignable_self _ _) hg hstack hdg
  exact ⟨_, X', rfl, st⟩
theorem cself {p : Program} {l : Launch} {e : Env} {R : Room} {s : State} {m : MethodId} {args : Array Value} {below : List Frame} {meth : Method} {c : Code} {T : State} {locs : List Loc} {cells slots : Nat} (X : Stand p l e R s m args below meth c T locs cells slots) (hexec : p.tables.exec = Jvm.exec) {own C : String} {index : Nat} (hown : s.vm.findClass own = some m.cls) (hlink : (Cond.classLink own index C).before args s = true) {a : Addr} (hE : Exact C a T)
    {g : JFrame} (hg : g.method = m) {rest : List Value} (hstack : g.stack = .ref a :: rest) (hdg : decode c.code g.pc = .ok (.checkcast index, 3)) :
    ∃ T', Stand p l e R s m args below meth c T' locs cells slots ∧ T'.heap = T.heap ∧ ∀ target, Steps p.tables e below (T'.setTop { g with pc := g.pc + 3, stack := .ref a :: rest }) target → Steps p.tables e below (T.setTop g) target := by
  obtain ⟨cB, h1, D, h2, h3, h4⟩ := hE
  have h1' : s.vm.findClass C = some cB := by rw [← X.warmed.alike.findClass]; exact h1
  obtain ⟨vm', X', st⟩ := X.checkcastYes hexec hown hlink h2 h4 h1' (by rw [h3]; exact Jvm.Free.SB.assignable_self _ _) hg hstack hdg
  exact ⟨_, X', rfl, fun t h => st t (by rw [← hstack] at h; exact h)⟩
namespace SEq
def yN : MethodName := ⟨"java/lang/String", "equals", "(Ljava/lang/Object;)Z"⟩
abbrev yB : ByteArray := jdk_42_method_66_code
theorem d0 : decode yB 0 = .ok (.aload_n 0, 1) := by decide +kernel
theorem d1 : decode yB 1 = .ok (.aload_n 1, 1) := by decide +kernel
theorem d2 : decode yB 2 = .ok (.if_acmp (.ne) 5, 3) := by decide +kernel
theorem d5 : decode yB 5 = .ok (.iconst 1, 1) := by decide +kernel
theorem d6 : decode yB 6 = .ok (.ireturn, 1) := by decide +kernel
theorem d7 : decode yB 7 = .ok (.aload_n 1, 1) := by decide +kernel
theorem d8 : decode yB 8 = .ok (.instanceof 10, 3) := by decide +kernel
theorem d11 : decode yB 11 = .ok (.ifCond (.eq) 43, 3) := by decide +kernel
theorem d14 : decode yB 14 = .ok (.aload_n 1, 1) := by decide +kernel
theorem d15 : decode yB 15 = .ok (.checkcast 10, 3) := by decide +kernel
theorem d18 : decode yB 18 = .ok (.astore_n 2, 1) := by decide +kernel
theorem d19 : decode yB 19 = .ok (.getstatic 38, 3) := by decide +kernel
theorem d22 : decode yB 22 = .ok (.ifCond (.eq) 14, 3) := by decide +kernel
theorem d25 : decode yB 25 = .ok (.aload_n 0, 1) := by decide +kernel
theorem d26 : decode yB 26 = .ok (.getfield 15, 3) := by decide +kernel
theorem d29 : decode yB 29 = .ok (.aload_n 2, 1) := by decide +kernel
theorem d30 : decode yB 30 = .ok (.getfield 15, 3) := by decide +kernel
theorem d33 : decode yB 33 = .ok (.if_icmp (.ne) 21, 3) := by decide +kernel
theorem d36 : decode yB 36 = .ok (.aload_n 0, 1) := by decide +kernel
theorem d37 : decode yB 37 = .ok (.getfield 9, 3) := by decide +kernel
theorem d40 : decode yB 40 = .ok (.aload_n 2, 1) := by decide +kernel
theorem d41 : decode yB 41 = .ok (.getfield 9, 3) := by decide +kernel
theorem d44 : decode yB 44 = .ok (.invokestatic 541, 3) := by decide +kernel
theorem d47 : decode yB 47 = .ok (.ifCond (.eq) 7, 3) := by decide +kernel
theorem d50 : decode yB 50 = .ok (.iconst 1, 1) := by decide +kernel
theorem d51 : decode yB 51 = .ok (.goto 4, 3) := by decide +kernel
theorem d54 : decode yB 54 = .ok (.iconst 0, 1) := by decide +kernel
theorem d55 : decode yB 55 = .ok (.ireturn, 1) := by decide +kernel
def site : List Cond := [.classLink "java/lang/String" 10 "java/lang/String", .fieldLink "java/lang/String" 38 "java/lang/String" "COMPACT_STRINGS" "Z", .fieldLink "java/lang/String" 15 "java/lang/String" "coder" "B", .fieldLink "java/lang/String" 9 "java/lang/String" "value" "[B", LEq.tab] ++ staticW "java/lang/String" 541 LEq.yN
def tab : Cond := tabOf yN yB 3 (some .boolean) site
def P (x t : Addr) (V : Cell) (cd : Int32) (n : Nat) (f : Nat → Int32) (y t' : Addr) (V' : Cell) (cd' : Int32) (k : Nat) (g : Nat → Int32) (z : Int32) (args : Array Value) (s : State) : Prop := args = #[.ref x, .ref y] ∧ Txt x t V cd n f s ∧ Txt y t' V' cd' k g s ∧ StaticIs s "java/lang/String" "COMPACT_STRINGS" "Z" (.int z) ∧ ¬ z = 0
/-- equals(Object) of two Strings: whether the texts are the same -/
theorem law (l : Launch) (x t : Addr) (V : Cell) (cd : Int32) (n : Nat) (f : Nat → Int32) (y t' : Addr) (V' : Cell) (cd' : Int32) (k : Nat) (g : Nat → Int32) (z : Int32) : Law l yN 2 1 1 14 yB 3 (some .boolean) site (P x t V cd n f y t' V' cd' k g z) (Says01 (SameT n f k g)) [] 0 0 := by
  refine Law.of_walk (plainFor_of_name (by decide +kernel)) (by decide +kernel) (by decide +kernel) (by decide) (fun _ _ h => by rw [h.1]; rfl) (fun _ U U' hal hh h => ⟨h.1, h.2.1.mv hal hh, h.2.2.1.mv hal hh, h.2.2.2.1.there hal hh, h.2.2.2.2⟩) (fun r U U' V V' h1 hal h2 h => Says01.mv r U U' V V' h1 hal h2 h) ?_
  intro p e s m args below meth c s₁ X0 hexec hbytes hml hret hlk hnm hown hh0 W hP
  obtain ⟨rfl, hx, hy, s1, hz⟩ := hP
  have c1 : Steps p.tables e below (s₁.setTop (entryFrame m #[.ref x, .ref y] 3)) (s₁.setTop (mkF m 2 #[.val (.ref x), .val (.ref y), .unset] [.ref y, .ref x])) := Steps.trans (entry rfl) (by
    show Steps p.tables e below (s₁.setTop (mkF m 0 #[.val (.ref x), .val (.ref y), .unset] [])) _
    refine XS.aloadN X0.here hexec rfl (hb hbytes d0) rfl rfl ?_
    refine XS.aloadN X0.here hexec rfl (hb hbytes d1) rfl rfl ?_
    exact Steps.refl _)
  by_cases hxy : x = y
  · have c2 : Steps p.tables e below (s₁.setTop (entryFrame m #[.ref x, .ref y] 3)) (s₁.setTop (mkF m 6 #[.val (.ref x), .val (.ref y), .unset] [.int 1])) := c1.trans (by
      refine acmpNo X0.here hexec rfl (hb hbytes d2) rfl rfl rfl (by simp [acmp, hxy]) ?_
      refine iconstV X0.here hexec rfl 1 (hb hbytes d5) (by decide) ?_
      exact Steps.refl _)
    subst hxy
    have ec : cd = cd' := by
      obtain ⟨D, fd, a1, a2, a3⟩ := hx.2.2.1
      obtain ⟨D', fd', b1, b2, b3⟩ := hy.2.2.1
      cases a1.symm.trans b1
      obtain ⟨q1, q2, q3, q4⟩ := a2.1
      obtain ⟨r1, r2, r3, r4⟩ := b2.1
      cases q4.symm.trans r4
      cases a3.symm.trans b3; rfl
    have et : t = t' := by
      obtain ⟨D, fd, a1, a2, a3⟩ := hx.2.1
      obtain ⟨D', fd', b1, b2, b3⟩ := hy.2.1
      cases a1.symm.trans b1
      obtain ⟨q1, q2, q3, q4⟩ := a2.1
      obtain ⟨r1, r2, r3, r4⟩ := b2.1
      cases q4.symm.trans r4
      cases a3.symm.trans b3; rfl
    subst ec et
    have ev : V = V' := by cases hx.2.2.2.1.1.symm.trans hy.2.2.2.1.1; rfl
    subst ev
    have hs : SameT n f k g := (Cod.eqv hx.2.2.2.2.1 hy.2.2.2.2.1 hx.2.2.2.2.2 hy.2.2.2.2.2).mp ⟨rfl, fun _ _ => rfl⟩
    exact ⟨s₁, some (.int 1), _, _, _, X0, rfl, rfl, rfl, (fun h => by cases h), ⟨1, rfl, hh0, Or.inl ⟨rfl, hs⟩⟩, fun fs hl => c2.trans (X0.ireturnOut hexec hret rfl (Or.inr (Or.inl rfl)) (hb hbytes d6) hl)⟩
  · have c2 : Steps p.tables e below (s₁.setTop (entryFrame m #[.ref x, .ref y] 3)) (s₁.setTop (mkF m 8 #[.val (.ref x), .val (.ref y), .unset] [.ref y])) := c1.trans (by
      refine acmpYes X0.here hexec rfl (pc0 := 2) rfl (hb hbytes d2) rfl rfl rfl (by simp [acmp, hxy]) (by decide) rfl ?_
      refine XS.aloadN X0.here hexec rfl (hb hbytes d7) rfl rfl ?_
      exact Steps.refl _)
    obtain ⟨T3, X3, q3, st3⟩ := cinst X0 hexec hown (wk W (.classLink "java/lang/String" 10 "java/lang/String")) (hy.mv X0.warmed.alike hh0).1 (g := (mkF m 8 #[.val (.ref x), .val (.ref y), .unset] [.ref y])) rfl (rest := []) rfl (hb hbytes d8)
    have hh3 := q3.trans hh0
    have c4 : Steps p.tables e below (s₁.setTop (entryFrame m #[.ref x, .ref y] 3)) (T3.setTop (mkF m 15 #[.val (.ref x), .val (.ref y), .unset] [.ref y])) := (c2.trans (st3 _ (Steps.refl _))).trans (by
      refine XS.ifNo X3.here hexec rfl (hb hbytes d11) rfl (i0_eq_f (by decide)) ?_
      refine XS.aloadN X3.here hexec rfl (hb hbytes d14) rfl rfl ?_
      exact Steps.refl _)
    obtain ⟨T5, X5, q5, st5⟩ := cself X3 hexec hown (wk W (.classLink "java/lang/String" 10 "java/lang/String")) (hy.mv X3.warmed.alike hh3).1 (g := (mkF m 15 #[.val (.ref x), .val (.ref y), .unset] [.ref y])) rfl (rest := []) rfl (hb hbytes d15)
    have hh5 := q5.trans hh3
    have c6 : Steps p.tables e below (s₁.setTop (entryFrame m #[.ref x, .ref y] 3)) (T5.setTop (mkF m 19 #[.val (.ref x), .val (.ref y), .val (.ref y)] [])) := (c4.trans (st5 _ (Steps.refl _))).trans (by
      refine XS.astoreN X5.here hexec rfl (hb hbytes d18) rfl rfl rfl ?_
      exact Steps.refl _)
    obtain ⟨T7, X7, q7, st7⟩ := X5.sget hexec hown (wk W (.fieldLink "java/lang/String" 38 "java/lang/String" "COMPACT_STRINGS" "Z")) s1 (fun _ _ h => by rw [hh5]; exact h) (g := (mkF m 19 #[.val (.ref x), .val (.ref y), .val (.ref y)] [])) rfl (hb hbytes d19)
    have hh7 := q7.trans hh5
    have c8 : Steps p.tables e below (s₁.setTop (entryFrame m #[.ref x, .ref y] 3)) (T7.setTop (mkF m 26 #[.val (.ref x), .val (.ref y), .val (.ref y)] [.ref x])) := (c6.trans (st7 _ (Steps.refl _))).trans (by
      refine XS.ifNo X7.here hexec rfl (hb hbytes d22) rfl (i0_eq_f hz) ?_
      refine XS.aloadN X7.here hexec rfl (hb hbytes d25) rfl rfl ?_
      exact Steps.refl _)
    obtain ⟨T9, X9, q9, st9⟩ := X7.hget hexec hown (wk W (.fieldLink "java/lang/String" 15 "java/lang/String" "coder" "B")) (hx.mv X7.warmed.alike hh7).2.2.1 (g := (mkF m 26 #[.val (.ref x), .val (.ref y), .val (.ref y)] [.ref x])) rfl (rest := []) rfl (hb hbytes d26)
    have hh9 := q9.trans hh7
    have c10 : Steps p.tables e below (s₁.setTop (entryFrame m #[.ref x, .ref y] 3)) (T9.setTop (mkF m 30 #[.val (.ref x), .val (.ref y), .val (.ref y)] [.ref y, .int cd])) := (c8.trans (st9 _ (Steps.refl _))).trans (by
      refine XS.aloadN X9.here hexec rfl (hb hbytes d29) rfl rfl ?_
      exact Steps.refl _)
    obtain ⟨T11, X11, q11, st11⟩ := X9.hget hexec hown (wk W (.fieldLink "java/lang/String" 15 "java/lang/String" "coder" "B")) (hy.mv X9.warmed.alike hh9).2.2.1 (g := (mkF m 30 #[.val (.ref x), .val (.ref y), .val (.ref y)] [.ref y, .int cd])) rfl (rest := [.int cd]) rfl (hb hbytes d30)
    have hh11 := q11.trans hh9
    have c12 : Steps p.tables e below (s₁.setTop (entryFrame m #[.ref x, .ref y] 3)) (T11.setTop (mkF m 33 #[.val (.ref x), .val (.ref y), .val (.ref y)] [.int cd', .int cd])) := c10.trans (st11 _ (Steps.refl _))
    by_cases hcd : cd = cd'
    · subst hcd
      have c13 : Steps p.tables e below (s₁.setTop (entryFrame m #[.ref x, .ref y] 3)) (T11.setTop (mkF m 37 #[.val (.ref x), .val (.ref y), .val (.ref y)] [.ref x])) := c12.trans (by
        refine XS.icmpNo X11.here hexec rfl (hb hbytes d33) rfl (ii_ne_f rfl) ?_
        refine XS.aloadN X11.here hexec rfl (hb hbytes d36) rfl rfl ?_
        exact Steps.refl _)
      obtain ⟨T14, X14, q14, st14⟩ := X11.hget hexec hown (wk W (.fieldLink "java/lang/String" 9 "java/lang/String" "value" "[B")) (hx.mv X11.warmed.alike hh11).2.1 (g := (mkF m 37 #[.val (.ref x), .val (.ref y), .val (.ref y)] [.ref x])) rfl (rest := []) rfl (hb hbytes d37)
      have hh14 := q14.trans hh11
      have c15 : Steps p.tables e below (s₁.setTop (entryFrame m #[.ref x, .ref y] 3)) (T14.setTop (mkF m 41 #[.val (.ref x), .val (.ref y), .val (.ref y)] [.ref y, .ref t])) := (c13.trans (st14 _ (Steps.refl _))).trans (by
        refine XS.aloadN X14.here hexec rfl (hb hbytes d40) rfl rfl ?_
        exact Steps.refl _)
      obtain ⟨T16, X16, q16, st16⟩ := X14.hget hexec hown (wk W (.fieldLink "java/lang/String" 9 "java/lang/String" "value" "[B")) (hy.mv X14.warmed.alike hh14).2.1 (g := (mkF m 41 #[.val (.ref x), .val (.ref y), .val (.ref y)] [.ref y, .ref t])) rfl (rest := [.ref t]) rfl (hb hbytes d41)
      have hh16 := q16.trans hh14
      have c17 : Steps p.tables e below (s₁.setTop (entryFrame m #[.ref x, .ref y] 3)) (T16.setTop (mkF m 44 #[.val (.ref x), .val (.ref y), .val (.ref y)] [.ref t', .ref t])) := c15.trans (st16 _ (Steps.refl _))
      obtain ⟨v18, T18, X18, E18, g18⟩ := X16.callS hexec (LEq.law l t V t' V') hown (wks W (staticW "java/lang/String" 541 LEq.yN)) (wk W LEq.tab) (W := 0) (Nat.le_of_ble_eq_true rfl) (Nat.le_of_ble_eq_true rfl) (Nat.le_refl _) (Nat.le_refl _) (g := (mkF m 44 #[.val (.ref x), .val (.ref y), .val (.ref y)] [.ref t', .ref t])) rfl (by rw [hml]; rfl) c17 (argsL := [.ref t, .ref t']) (rest := []) rfl rfl (by show 2 * 0 + 0 ≤ _; decide) (hb hbytes d44) (⟨rfl, hx.2.2.2.1.mv X16.warmed.alike hh16, hx.2.2.2.2.1.ty, hy.2.2.2.1.mv X16.warmed.alike hh16, hy.2.2.2.2.1.ty⟩)
      obtain ⟨v, rfl, q18, hv⟩ := E18
      have iff := Cod.eqv hx.2.2.2.2.1 hy.2.2.2.2.1 hx.2.2.2.2.2 hy.2.2.2.2.2
      rcases hv with ⟨rfl, he⟩ | ⟨rfl, he⟩
      · have c19 : Steps p.tables e below (s₁.setTop (entryFrame m #[.ref x, .ref y] 3)) (T18.setTop (mkF m 55 #[.val (.ref x), .val (.ref y), .val (.ref y)] [.int 1])) := Steps.trans g18 (by
          refine XS.ifNo X18.here hexec rfl (hb hbytes d47) rfl (i0_eq_f (by decide)) ?_
          refine iconstV X18.here hexec rfl 1 (hb hbytes d50) (by decide) ?_
          refine XS.goto X18.here hexec rfl (pc0 := 51) rfl (hb hbytes d51) (by decide) rfl ?_
          exact Steps.refl _)
        exact ⟨T18, some (.int 1), _, _, _, X18, rfl, rfl, rfl, (fun h => by cases h), ⟨1, rfl, q18.trans hh16, Or.inl ⟨rfl, iff.mp he⟩⟩, fun fs hl => c19.trans (X18.ireturnOut hexec hret rfl (Or.inr (Or.inl rfl)) (hb hbytes d55) hl)⟩
      · have c19 : Steps p.tables e below (s₁.setTop (entryFrame m #[.ref x, .ref y] 3)) (T18.setTop (mkF m 55 #[.val (.ref x), .val (.ref y), .val (.ref y)] [.int 0])) := Steps.trans g18 (by
          refine XS.ifYes X18.here hexec rfl (pc0 := 47) rfl (hb hbytes d47) rfl (i0_eq_t rfl) (by decide) rfl ?_
          refine iconstV X18.here hexec rfl 0 (hb hbytes d54) (by decide) ?_
          exact Steps.refl _)
        exact ⟨T18, some (.int 0), _, _, _, X18, rfl, rfl, rfl, (fun h => by cases h), ⟨0, rfl, q18.trans hh16, Or.inr ⟨rfl, fun q => he (iff.mpr q)⟩⟩, fun fs hl => c19.trans (X18.ireturnOut hexec hret rfl (Or.inr (Or.inl rfl)) (hb hbytes d55) hl)⟩
    · have c13 : Steps p.tables e below (s₁.setTop (entryFrame m #[.ref x, .ref y] 3)) (T11.setTop (mkF m 55 #[.val (.ref x), .val (.ref y), .val (.ref y)] [.int 0])) := c12.trans (by
        refine XS.icmpYes X11.here hexec rfl (pc0 := 33) rfl (hb hbytes d33) rfl (ii_ne_t hcd) (by decide) rfl ?_
        refine iconstV X11.here hexec rfl 0 (hb hbytes d54) (by decide) ?_
        exact Steps.refl _)
      exact ⟨T11, some (.int 0), _, _, _, X11, rfl, rfl, rfl, (fun h => by cases h), ⟨0, rfl, hh11, Or.inr ⟨rfl, Cod.dif hx.2.2.2.2.1 hy.2.2.2.2.1 hcd⟩⟩, fun fs hl => c13.trans (X11.ireturnOut hexec hret rfl (Or.inr (Or.inl rfl)) (hb hbytes d55) hl)⟩
theorem pays {l : Launch} {R : Room} {p : Program} {e : Env} {below : List Frame} {s : State} {sargs : Array Value} {len W : Nat} (x t : Addr) (V : Cell) (cd : Int32) (n : Nat) (f : Nat → Int32) (y t' : Addr) (V' : Cell) (cd' : Int32) (k : Nat) (g : Nat → Int32) (z : Int32) (htab : tab.before sargs s = true) (hfr : 2 ≤ R.frames) (hlo : W + 28 ≤ R.locals) :
    Back l R p e below s sargs yN len W (fun A₁ a₁ => A₁.cells + 0 ≤ R.cells ∧ A₁.slots + 0 ≤ R.slots ∧ P x t V cd n f y t' V' cd' k g z a₁ A₁.U) (fun A₁ _ v₁ B₁ => Says01 (SameT n f k g) v₁ A₁.U B₁.U ∧ B₁.locs = A₁.locs ++ [] ∧ B₁.cells = A₁.cells + 0 ∧ B₁.slots = A₁.slots + 0) :=
  (law l x t V cd n f y t' V' cd' k g z).pays htab hfr (by omega)
end SEq
end StrChars
namespace StrChars.Road
open Jvm Sem ClassFile Op Lib Jvm.Stand Jvm.Free Jvm.Free.XT
open Jvm.Lib.Cold (StaticIs)
/-- the words of String.equals(Object) -/
abbrev wordsEq : List Jvm.Cond := [.code SEq.yN SEq.yB 3 (some .boolean), .initialized ST, .classLink ST 10 ST, .fieldLink ST 38 ST "COMPACT_STRINGS" "Z", .fieldLink ST 15 ST "coder" "B", .fieldLink ST 9 ST "value" "[B", .methodLink ST 541 LEq.yN, .static LEq.yN, .code LEq.yN LEq.yB 3 (some .boolean), .initialized "java/lang/StringLatin1"]
theorem tabEq_of {a : Array Value} {s : State} (h : ∀ w ∈ wordsEq, w.before a s = true) : SEq.tab.before a s = true := by
  have hl : LEq.tab.before a s = true := unparts (wk h (.code LEq.yN LEq.yB 3 (some .boolean))) (wks h (.initialized LEq.yN.cls :: LEq.site))
  have q := consq hl h
  exact unparts (wk q (.code SEq.yN SEq.yB 3 (some .boolean))) (wks q (.initialized SEq.yN.cls :: SEq.site))
theorem movedEq {Z s : State} {a0 args : Array Value} (hZ : Z.Warmed39 s.vm) (hw : ∀ d ∈ wordsEq, d.before a0 Z = true) : ∀ d ∈ wordsEq, d.before args s = true := fun d hd => by
  have t : ∀ d ∈ wordsEq, (d.onTables && d.keepsFace) = true := by decide +kernel
  exact RoadKit.mv hZ (hw d hd) (t d hd)
/-- the road's facts of a String, as the laws ask it -/
theorem txt_of {Z U : State} {a0 : Array Value} {kI : Nat} (wi : (Jvm.Cond.instantiable ST kI).before a0 Z = true) (al : Z.vm.Alike U.vm) {x t : Addr} {kb : ClassId} {cs : List Int32} {cd N2 : Int32} {vs : List Value} (E : RoadKit.Exa Z U.heap x ST) (V : RoadKit.Fld Z U.heap x ST "value" "[B" (.ref t)) (C : RoadKit.Fld Z U.heap x ST "coder" "B" (.int cd)) (K : RoadKit.Arv Z U.heap t kb .byte N2 vs (.int 0)) (hc : CodA cs cd N2 vs) (hb : ∀ c ∈ cs, ¬ c < 0 ∧ ¬ (65535 : Int32) < c) (l2 : cs.length ≤ 4000) :
    ∃ A, Txt x t A cd cs.length (fun j => cs.getD j 0) U := by
  obtain ⟨A, K1, K2, K3, K4, K5, K6⟩ := K
  have hcod := hc.cod (by omega) K3 K5
  obtain ⟨D, fV, fC, hB, F1, F2, g1, g2, -, -⟩ := strObj wi al E V C
  exact ⟨A, ⟨_, hB.2.2.1, D, hB.1, rfl, by cases q : D.vm <;> first | rfl | exact absurd q (hB.2.1.2 _)⟩, Has.of hB F1 g1, Has.of hB F2 g2, ⟨K1.1, State.isArrayOf_alike al K1.2.1, K1.2.2, by rcases hcod with ⟨-, q, -⟩ | ⟨-, q, -⟩ <;> omega⟩, hcod, fun j hj => by
    have e : cs.getD j 0 = cs[j] := by simp [List.getD_eq_getElem?_getD, hj]
    show ¬ cs.getD j 0 < 0 ∧ ¬ 65535 < cs.getD j 0
    rw [e]; exact hb _ (List.getElem_mem _)⟩
theorem same_list (cs ds : List Int32) : SameT cs.length (fun j => cs.getD j 0) ds.length (fun j => ds.getD j 0) ↔ cs = ds := by
  constructor
  · rintro ⟨e, q⟩
    refine List.ext_getElem e fun j h1 h2 => ?_
    have := q j h1
    simpa [List.getD_eq_getElem?_getD, h1, h2] using this
  · rintro rfl
    exact ⟨rfl, fun _ _ => rfl⟩
/-- **equals(Object) OF TWO SUCH STRINGS**: 1 just where the chars are the same -/
theorem eqW {p : Program} {l : Launch} {e : Env} {R : Room} {s : State} {args : Array Value} {below : List Frame} {len W : Nat} {Z : State} {a0 : Array Value} {h : Heap} (hZ : Z.Warmed39 s.vm) (hw : ∀ d ∈ wordsEq, d.before a0 Z = true) {kI : Nat} (wi : (Jvm.Cond.instantiable ST kI).before a0 Z = true)
    {x t : Addr} {kb : ClassId} {cs : List Int32} {cd N2 : Int32} {vs : List Value} (E : RoadKit.Exa Z h x ST) (V : RoadKit.Fld Z h x ST "value" "[B" (.ref t)) (C : RoadKit.Fld Z h x ST "coder" "B" (.int cd)) (K : RoadKit.Arv Z h t kb .byte N2 vs (.int 0)) (hc : CodA cs cd N2 vs) (hb : ∀ c ∈ cs, ¬ c < 0 ∧ ¬ (65535 : Int32) < c) (l2 : cs.length ≤ 4000)
    {y t' : Addr} {kb' : ClassId} {ds : List Int32} {cd' N2' : Int32} {vs' : List Value} (E' : RoadKit.Exa Z h y ST) (V' : RoadKit.Fld Z h y ST "value" "[B" (.ref t')) (C' : RoadKit.Fld Z h y ST "coder" "B" (.int cd')) (K' : RoadKit.Arv Z h t' kb' .byte N2' vs' (.int 0)) (hc' : CodA ds cd' N2' vs') (hb' : ∀ c ∈ ds, ¬ c < 0 ∧ ¬ (65535 : Int32) < c) (l2' : ds.length ≤ 4000)
    {z : Int32} (S : RoadKit.Sta Z h ST "COMPACT_STRINGS" "Z" (.int z)) (hz : ¬ z = 0) (hfr : 2 ≤ R.frames) (hlo : W + 28 ≤ R.locals) :
    Back l R p e below s args (⟨"java/lang/String", "equals", "(Ljava/lang/Object;)Z"⟩ : MethodName) len W (fun P a => a = #[.ref x, .ref y] ∧ P.U.heap = h ∧ P.cells + 0 ≤ R.cells ∧ P.slots + 0 ≤ R.slots)
      (fun P _ v B => ∃ L, (((v = some (.int 1) ∧ cs = ds) ∨ (v = some (.int 0) ∧ ¬ cs = ds)) ∧ L = [] ∧ B.U.heap = h) ∧ B.locs = P.locs ++ L ∧ B.cells = P.cells + 0 ∧ B.slots = P.slots + 0) := by
  intro m meth c P g ig mk a X hg hsize hdg hW hn hp'
  obtain ⟨rfl, rfl, r1, r2⟩ := hp'
  have al : Z.vm.Alike P.U.vm := hZ.alike.trans X.warmed.alike
  obtain ⟨A, hx⟩ := txt_of wi al E V C K hc hb l2
  obtain ⟨A', hy⟩ := txt_of wi al E' V' C' K' hc' hb' l2'
  obtain ⟨v, B, X', ⟨⟨w, hv, hh, hq⟩, hl, hk, hs⟩, st⟩ := SEq.pays x t A cd cs.length (fun j => cs.getD j 0) y t' A' cd' ds.length (fun j => ds.getD j 0) z (tabEq_of (movedEq hZ hw)) hfr hlo m meth c P g ig mk _ X hg hsize hdg hW hn ⟨r1, r2, rfl, hx, hy, sta_is al S, hz⟩
  refine ⟨v, B, X', ⟨[], ⟨?_, rfl, hh⟩, hl, hk, hs⟩, st⟩
  rcases hq with ⟨rfl, q⟩ | ⟨rfl, q⟩
  · exact Or.inl ⟨hv, (same_list cs ds).mp q⟩
  · exact Or.inr ⟨hv, fun e => q ((same_list cs ds).mpr e)⟩
end StrChars.Road
namespace StrChars.Road
open Jvm Sem ClassFile Op Lib Jvm.Stand Jvm.Free Jvm.Free.XT
open Jvm.Lib.Cold (StaticIs)
/-- what backV says of its String, as the contracts of this text ask it: cs's low bytes, coder 0 -/
theorem codOf {cs : List Int32} {n : Nat} (hn : cs.length = n) (hb : ∀ c ∈ cs, ¬ 255 < c) : CodA cs 0 (Int32.ofNat n) ((cs.map lo8).map Value.int) := Or.inl ⟨rfl, by rw [hn], by simp [List.map_map, Function.comp_def], hb⟩
end StrChars.Road
end Jvm.Pilot.@@N@@
namespace Jvm.Pilot.@@N@@
open Jvm Jvm.ClassFile Sem Op Lib Jvm.Free Jvm.Stand Jvm.LawKit Jvm.RoadKit Bundle Jvm.Pilot.@@N@@.Jvm.D
/-- a String of known chars, Latin-1, at a -/
def StrV (Z : State) (h : Heap) (a : Addr) (cs : List Int32) : Prop := ∃ (b : Addr) (kb : ClassId) (N : Int32) (vs : List Value), Exa Z h a "java/lang/String" ∧ Fld Z h a "java/lang/String" "value" "[B" (.ref b) ∧ Fld Z h a "java/lang/String" "coder" "B" (.int 0) ∧ Arv Z h b kb .byte N vs (.int 0) ∧ StrChars.Road.CodA cs 0 N vs ∧ (∀ c ∈ cs, ¬ c < 0 ∧ ¬ (65535 : Int32) < c)
theorem StrV.exa {Z : State} {h : Heap} {a : Addr} {cs : List Int32} (S : StrV Z h a cs) : Exa Z h a "java/lang/String" := by obtain ⟨_, _, _, _, e, -⟩ := S; exact e
theorem StrV.lt {Z : State} {h : Heap} {a : Addr} {cs : List Int32} (S : StrV Z h a cs) : a < h.size := S.exa.lt
theorem StrV.ext {Z : State} {h h' : Heap} {a : Addr} {cs : List Int32} (S : StrV Z h a cs) (E : Ext h h') : StrV Z h' a cs := by
  obtain ⟨b, kb, N, vs, e, f, c, v, q⟩ := S
  exact ⟨b, kb, N, vs, e.ext E, f.ext E, c.ext E, v.ext E, q⟩
theorem StrV.keep0 {Z : State} {h h' : Heap} {a : Addr} {cs : List Int32} (S : StrV Z h a cs) (K : Keep h h' []) : StrV Z h' a cs := by
  obtain ⟨b, kb, N, vs, e, f, c, v, q⟩ := S
  exact ⟨b, kb, N, vs, e.keep K, f.keep K nin0, c.keep K nin0, v.keep K nin0, q⟩
/-- neither a String nor an array -/
def NStr (Z : State) (h : Heap) (x : Addr) : Prop := ∃ (C : String) (n : Nat) (a0 : Array Value), Exa Z h x C ∧ C ≠ "java/lang/String" ∧ (Jvm.Cond.instantiable C n).before a0 Z = true
theorem NStr.of {Z : State} {h : Heap} {x : Addr} {C : String} {n : Nat} {a0 : Array Value} (E : Exa Z h x C) (w : (Jvm.Cond.instantiable C n).before a0 Z = true) (q : C ≠ "java/lang/String") : NStr Z h x := ⟨C, n, a0, E, q, w⟩
theorem StrV.keepN {Z : State} {h h' : Heap} {a : Addr} {cs : List Int32} {ws : List Addr} (S : StrV Z h a cs) (K : Keep h h' ws) (hs : ∀ x ∈ ws, NStr Z h x) : StrV Z h' a cs := by
  obtain ⟨b, kb, N, vs, e, f, c, v, q⟩ := S
  have ha : a ∉ ws := fun m => by
    obtain ⟨C, n, a0, E, hne, w⟩ := hs a m
    exact Exa.ne E e hne rfl
  have hb : b ∉ ws := fun m => by
    obtain ⟨C, n, a0, E, hne, w⟩ := hs b m
    exact Exa.neArv E v w rfl
  exact ⟨b, kb, N, vs, e.keep K, f.keep K ha, c.keep K ha, v.keep K hb, q⟩
theorem own_keep {h h' : Heap} (e : h' = h) (ws : List Addr) : Keep h h' ws := by rw [e]; exact Keep.refl _ _
def own_c (x : Int32) : Int32 := ((x &&& (255 : Int32)).toUInt32.toUInt16.toUInt32.toInt32)
def own_k (x : Int32) : Int32 := nar .char (own_c x)
theorem own_k_lat (x : Int32) : ¬ own_k x < 0 ∧ ¬ (255 : Int32) < own_k x := by
  have t : ∀ k : Fin 256, ¬ nar .char ((Int32.ofNat k.val).toUInt32.toUInt16.toUInt32.toInt32) < 0 ∧ ¬ (255 : Int32) < nar .char ((Int32.ofNat k.val).toUInt32.toUInt16.toUInt32.toInt32) := by decide +kernel
  have h : (x &&& 255).toBitVec.toNat < 256 := by
    simp only [Int32.toBitVec_and, BitVec.toNat_and]
    exact Nat.lt_succ_of_le Nat.and_le_right
  have e : (x &&& 255) = Int32.ofNat (x &&& 255).toBitVec.toNat := by
    apply Int32.toBitVec_inj.mp
    show _ = BitVec.ofNat 32 _
    rw [BitVec.ofNat_toNat]; simp
  show ¬ nar .char ((x &&& (255 : Int32)).toUInt32.toUInt16.toUInt32.toInt32) < 0 ∧ ¬ (255 : Int32) < nar .char ((x &&& (255 : Int32)).toUInt32.toUInt16.toUInt32.toInt32)
  rw [e]
  exact t ⟨_, h⟩
theorem own_up (cs : List Int32) (h : ∀ c ∈ cs, ¬ c < 0 ∧ ¬ (255 : Int32) < c) : ∀ c ∈ cs, ¬ c < 0 ∧ ¬ (65535 : Int32) < c := fun c hc => ⟨(h c hc).1, fun q => (h c hc).2 (by rw [Int32.lt_iff_toInt_lt] at q ⊢; have e1 : (65535 : Int32).toInt = 65535 := rfl; have e2 : (255 : Int32).toInt = 255 := rfl; omega)⟩
/-- out of what backV answers -/
theorem own_mkStr {Z : State} {h : Heap} {a t : Addr} {kb : ClassId} {cs : List Int32} {n : Nat} (hn : cs.length = n) (hp : ∀ c ∈ cs, ¬ c < 0 ∧ ¬ (255 : Int32) < c) (E : Exa Z h a "java/lang/String") (C : Fld Z h a "java/lang/String" "coder" "B" (.int 0)) (V : Fld Z h a "java/lang/String" "value" "[B" (.ref t)) (A : Arv Z h t kb .byte (Int32.ofNat n) ((cs.map (fun c => c.toInt8.toInt32)).map Value.int) (.int 0)) : StrV Z h a cs :=
  ⟨t, kb, Int32.ofNat n, _, E, V, C, A, StrChars.Road.codOf hn (fun c hc => (hp c hc).2), own_up cs hp⟩
def own_EL : List (String × Nat) := [("com/example/mudskipper/mudskipper/jpql/Token", 7), ("com/example/mudskipper/mudskipper/jpql/Token", 22), ("java/lang/String", 7)]
theorem own_wS {Z : State} {a0 : Array Value} (hw : ∀ d ∈ tables_1, d.before a0 Z = true) : ∀ a ∈ Bundle.stringAtoms, a.before a0 Z = true := fun d hd => hw d ((by decide +kernel : ∀ d ∈ Bundle.stringAtoms, d ∈ tables_1) d hd)
theorem own_safeV {Z : State} {EL : List (String × Nat)} {vm : Vm} {h : Heap} {x : Addr} {k : ClassId} {ty : FieldType} {z : Int32} {vs : List Value} {dv : Value} (hal : Z.vm.Alike vm) (A : Arv Z h x k ty z vs dv) (ht : ty ≠ .byte) : Safe Z EL vm h x := by obtain ⟨c, B, -⟩ := A; exact Safe.arr hal B ht
/-- a call of a callee that may intern and that writes the object x -/
theorem own_backSHs {l : Launch} {p : Program} {e : Env} {R : Room} {s : State} {args : Array Value} {below : List Frame} {Z : State} {a0 : Array Value} {EL : List (String × Nat)} {h : Heap} {vm0 : Vm} {y : MethodName} {bytes : ByteArray} {maxL : Nat} {ret : Option FieldType} {rm : Room} {len W : Nat} {as' : Array Value} {Q : Option Value → Heap → List Loc → Prop} {x : Addr}
    (hM : MetFree l y (head1 [Jvm.Cond.code y bytes maxL ret] rm) (fun a U => a = as' ∧ Z.Warmed39 U.vm ∧ U.heap = h ∧ CHv Z EL U.vm h ∧ Safe Z EL U.vm h x) (fun _ _ _ _ _ => True) (fun _ U o U' => ∃ v L, o = .returned v ∧ Q v U'.heap L ∧ CHr Z EL U.vm U.heap U'.vm U'.heap ∧ ReturnedEndW U o U' L rm.cells rm.slots))
    (hZ : Z.Warmed39 vm0) (wc : (Jvm.Cond.code y bytes maxL ret).before a0 Z = true) (wz : (Jvm.Cond.initialized y.cls).before a0 Z = true) (hf : rm.frames + 1 ≤ R.frames) (hl : W + (maxL + 11) + rm.locals ≤ R.locals) (hEL : EW Z a0 EL) (H : CHv Z EL vm0 h) (hlt : x < h.size) (Sx : Safe Z EL vm0 h x) :
    BackS l R p e below (s.setVm vm0) args y len W (fun A a => a = as' ∧ A.U.heap = h ∧ A.cells + rm.cells ≤ R.cells ∧ A.slots + rm.slots ≤ R.slots)
      (fun A _ v B => ∃ L, Q v B.U.heap L ∧ B.locs = A.locs ++ L ∧ B.cells = A.cells + rm.cells ∧ B.slots = A.slots + rm.slots ∧ CHr Z EL vm0 h B.U.vm B.U.heap) := by
  refine BackS.of_freeW (bytes := bytes) (maxL := maxL) (ret := ret) (E := fun _ first o t L k n => k = rm.cells ∧ n = rm.slots ∧ (∃ v, o = .returned v ∧ Q v t.heap L) ∧ CHr Z EL first.vm first.heap t.vm t.heap) hM hf hl ?_ ?_ (fun _ _ _ _ _ _ _ _ _ => trivial) ?_ ?_
  · intro m meth c A a Y hp
    have hU : Z.Warmed39 A.U.vm := wtrans (s := s.setVm vm0) hZ Y.warmed
    refine ⟨?_, mv hU wc, mv hU wz, hp.2.2.1, hp.2.2.2⟩
    show (Jvm.Cond.and _ .tt).before a A.U = true
    rw [Cond.before_and, mv hU wc]; rfl
  · intro m meth c A a g mk Y hp
    have C := CHv.at Y hZ hEL H
    exact ⟨hp.1, wtrans (s := s.setVm vm0) hZ Y.warmed, hp.2.1, C.1, C.safe hlt Sx⟩
  · rintro _ _ _ _ ⟨v, L, h1, h2, h3, h4⟩
    exact ⟨L, _, _, h4, rfl, rfl, ⟨v, h1, h2⟩, h3⟩
  · rintro m meth c A a g mk v t L k n Y hp _ _ ⟨e1, e2, ⟨v', e3, e4⟩, e5⟩
    cases e3; subst e1 e2
    refine ⟨L, e4, rfl, rfl, rfl, (CHv.at Y hZ hEL H).trans ?_⟩
    rw [← hp.2.1]; exact e5
def QE (Z : State) (a1 : Addr) (h0 : Heap) (n0 : Nat) (v : Option Value) (h : Heap) (L : List Loc) : Prop := v = none ∧ Fr n0 L ∧ Keep h0 h [a1] ∧ StrV Z h a1 []
theorem own_hws {Z : State} {a0 : Array Value} (hw : ∀ d ∈ tables_1, d.before a0 Z = true) : ∀ d ∈ StrChars.Road.words, d.before a0 Z = true := fun d hd => hw d ((by decide +kernel : ∀ d ∈ StrChars.Road.words, d ∈ tables_1) d hd)
theorem own_heq {Z : State} {a0 : Array Value} (hw : ∀ d ∈ tables_1, d.before a0 Z = true) : ∀ d ∈ StrChars.Road.wordsEq, d.before a0 Z = true := fun d hd => hw d ((by decide +kernel : ∀ d ∈ StrChars.Road.wordsEq, d ∈ tables_1) d hd)
theorem own_d_jdk_42_method_149_code_0 : decode jdk_42_method_149_code 0 = .ok (.aload_n 0, 1) := by decide +kernel
theorem own_d_jdk_42_method_149_code_1 : decode jdk_42_method_149_code 1 = .ok (.invokespecial 1, 3) := by decide +kernel
theorem own_d_jdk_42_method_149_code_4 : decode jdk_42_method_149_code 4 = .ok (.iload_n 3, 1) := by decide +kernel
theorem own_d_jdk_42_method_149_code_5 : decode jdk_42_method_149_code 5 = .ok (.ifCond .ne 22, 3) := by decide +kernel
theorem own_d_jdk_42_method_149_code_8 : decode jdk_42_method_149_code 8 = .ok (.aload_n 0, 1) := by decide +kernel
theorem own_d_jdk_42_method_149_code_9 : decode jdk_42_method_149_code 9 = .ok (.ldc 7, 2) := by decide +kernel
theorem own_d_jdk_42_method_149_code_11 : decode jdk_42_method_149_code 11 = .ok (.getfield 9, 3) := by decide +kernel
theorem own_d_jdk_42_method_149_code_14 : decode jdk_42_method_149_code 14 = .ok (.putfield 9, 3) := by decide +kernel
theorem own_d_jdk_42_method_149_code_17 : decode jdk_42_method_149_code 17 = .ok (.aload_n 0, 1) := by decide +kernel
theorem own_d_jdk_42_method_149_code_18 : decode jdk_42_method_149_code 18 = .ok (.ldc 7, 2) := by decide +kernel
theorem own_d_jdk_42_method_149_code_20 : decode jdk_42_method_149_code 20 = .ok (.getfield 15, 3) := by decide +kernel
theorem own_d_jdk_42_method_149_code_23 : decode jdk_42_method_149_code 23 = .ok (.putfield 15, 3) := by decide +kernel
theorem own_d_jdk_42_method_149_code_26 : decode jdk_42_method_149_code 26 = .ok (.return_, 1) := by decide +kernel
theorem own_lit_empty : (∀ c ∈ ("" : String).toList, c.toNat < 256) ∧ ("" : String).toList.map (fun c => Value.int (Jvm.Lit.byteI c.toNat.toUInt16)) = [] := by decide +kernel
theorem own_pn_java_lang_String : plainName "java/lang/String" = true := by first | (simp [plainName, overriddenIn]; done) | decide +kernel
theorem own_ef_jdk_42_method_149_code_xxxxn (m : MethodId) (x0 : Addr) (x1 : Addr) (x2 : Int32) (x3 : Int32) : entryFrame m #[(.ref x0), (.ref x1), (.int x2), (.int x3), .null] 6 = mkF m 0 #[.val (.ref x0), .val (.ref x1), .val (.int x2), .val (.int x3), .val .null, .unset] [] := by first | (simp [entryFrame, mkF, argsToLocals, Value.category]; done) | rfl
set_option maxRecDepth 65536 in
set_option maxHeartbeats 40000000 in
theorem rmE4 (l : Launch) (Z : State) (a0 : Array Value) (hw : ∀ d ∈ tables_1, d.before a0 Z = true) (ws : List Jvm.Cond) (hEL : EW Z a0 own_EL) (a1 a2 : Addr) (uv uc : Value) (h0 : Heap) (n0 : Nat) (Z0 : n0 ≤ h0.size) (E_a1 : Exa Z h0 a1 "java/lang/String") (F_value_a1 : Fld Z h0 a1 "java/lang/String" "value" "[B" uv) (F_coder_a1 : Fld Z h0 a1 "java/lang/String" "coder" "B" uc) (g_a1 : n0 ≤ a1) :
    MetFree l (⟨"java/lang/String", "<init>", "([CIILjava/lang/Void;)V"⟩ : MethodName) (head1 (Jvm.Cond.code (⟨"java/lang/String", "<init>", "([CIILjava/lang/Void;)V"⟩ : MethodName) jdk_42_method_149_code 6 none :: ws) ({ frames := 1, cells := 2, slots := 4, locals := 12 } : Room)) (fun a U => a = #[(.ref a1), (.ref a2), (.int (0 : Int32)), (.int (0 : Int32)), .null] ∧ Z.Warmed39 U.vm ∧ U.heap = h0 ∧ CHv Z own_EL U.vm h0 ∧ Safe Z own_EL U.vm h0 a1) (fun _ _ _ _ _ => True) (fun _ U o U' => ∃ v L, o = .returned v ∧ QE Z a1 h0 n0 v U'.heap L ∧ CHr Z own_EL U.vm U.heap U'.vm U'.heap ∧ ReturnedEndW U o U' L 2 4) := by
  refine MetFree.of_bodySF (plainFor_of_name own_pn_java_lang_String) hisR ?_
  intro p e s m args below meth c s₁ Bd hml0 hP hK
  obtain ⟨rfl, hZ, hh, hCH0, Sf_a1⟩ := hP
  have hx := Bd.exec
  have hby := Bd.bytes
  have hml : c.maxLocals = 6 := hml0
  have hown : s.vm.findClass "java/lang/String" = some m.cls := findClass_of_methodNamed Bd.named
  have hnm := (name_of_methodNamed Bd.named Bd.method).1
  have X0 : Stand p l e ({ frames := 1, cells := 2, slots := 4, locals := 12 } : Room) (s.setVm s.vm) m #[(.ref a1), (.ref a2), (.int (0 : Int32)), (.int (0 : Int32)), .null] below meth c s₁ [] 0 0 := Stand.of_body Bd
  have e0 : s₁.heap = h0 := by rw [← hh, Bd.state]; rfl
  have N0 := Fr.nil n0
  have CH0 : CHr Z own_EL s.vm h0 s.vm h0 := CHr.refl hCH0
  have hS0 : s.Since s.vm 0 := State.WarmedH.since (State.WarmedH.refl s) 0
  have pre0 : ∀ t, Steps p.tables e below (s₁.setTop (mkF m 0 #[.val (.ref a1), .val (.ref a2), .val (.int (0 : Int32)), .val (.int (0 : Int32)), .val .null, .unset] [])) t → Steps p.tables e below (s₁.setTop (entryFrame m #[(.ref a1), (.ref a2), (.int (0 : Int32)), (.int (0 : Int32)), .null] 6)) t := fun t k => castTop (own_ef_jdk_42_method_149_code_xxxxn m a1 a2 (0 : Int32) (0 : Int32)) k
  obtain ⟨T1, X1, e1, st1⟩ := initO X0 hx hZ hown (hw _ (List.mem_of_getElem? (i := 24) rfl)) (hw _ (List.mem_of_getElem? (i := 25) rfl)) (hw _ (List.mem_of_getElem? (i := 26) rfl)) e0 (g := (mkF m 1 #[.val (.ref a1), .val (.ref a2), .val (.int (0 : Int32)), .val (.int (0 : Int32)), .val .null, .unset] [(.ref a1)])) rfl (by rw [hml]; rfl) rfl (hb hby own_d_jdk_42_method_149_code_1) (by decide) (W := 0) (by show 2 * 0 + _ ≤ _; exact Nat.le_of_eq rfl) (by decide)
  obtain ⟨lit2, T2, h2, kl2, lba2, kk2, X2, e2, E2, hS2, hk2, hZ2, hown2, Ea2, Fc2, Fv2, V2, la2, lb2, C2, Lt2, sf2, st2⟩ := ldcCH X1 hx hZ hown (hw _ (List.mem_of_getElem? (i := 27) rfl)) (own_wS hw) e1 hS0 (Nat.zero_le _) hEL (by decide : ("java/lang/String", 7) ∈ own_EL) CH0.1 (vs := []) (z := (0 : Int32)) own_lit_empty (by decide) (by decide) (g := (mkF m 9 #[.val (.ref a1), .val (.ref a2), .val (.int (0 : Int32)), .val (.int (0 : Int32)), .val .null, .unset] [(.ref a1)])) rfl (hb hby own_d_jdk_42_method_149_code_9) (n := 0) (by decide) (by decide) (by decide) (by decide)
  have CH1 : CHr Z own_EL s.vm h0 T2.vm h2 := CH0.trans C2
  have K1 : Keep h0 h2 [a1] := (Keep.refl h0 [a1]).ext E2
  have f3 : Safe Z own_EL T2.vm h2 a1 := (C2.safe E_a1.lt Sf_a1)
  have ne2_a1 := sf2 a1 f3
  obtain ⟨T4, X4, e4, st4⟩ := getF X2 hx hZ2 hown2 (host := "") (Or.inl (hw _ (List.mem_of_getElem? (i := 33) rfl))) Via.refl e2 Fv2 (g := (mkF m 11 #[.val (.ref a1), .val (.ref a2), .val (.int (0 : Int32)), .val (.int (0 : Int32)), .val .null, .unset] [(.ref lit2), (.ref a1)])) rfl rfl (hb hby own_d_jdk_42_method_149_code_11)
  have f5 : Fld Z h2 a1 "java/lang/String" "value" "[B" uv := (F_value_a1.ext E2)
  have f6 : Exa Z h2 a1 "java/lang/String" := (E_a1.ext E2)
  obtain ⟨T7, h7, X7, e7, W7, st7⟩ := putF X4 hx hZ2 hown2 (host := "") (Or.inl (hw _ (List.mem_of_getElem? (i := 33) rfl))) Via.refl e4 f5 f6 (Or.inr ⟨(hw _ (List.mem_of_getElem? (i := 29) rfl)), rfl, hnm⟩) (hw _ (List.mem_of_getElem? (i := 14) rfl)) (ty := (.array .byte)) (by decide) rfl rfl (g := (mkF m 14 #[.val (.ref a1), .val (.ref a2), .val (.int (0 : Int32)), .val (.int (0 : Int32)), .val .null, .unset] [(.ref lba2), (.ref a1)])) rfl rfl (hb hby own_d_jdk_42_method_149_code_14)
  have Fw7 := f5.same W7
  have Nf7 := Fr.snoc X7 N0 g_a1
  have CH2 : CHr Z own_EL s.vm h0 T2.vm h7 := CH1.trans (CHr.wr W7 f3 CH1.1)
  have K2 : Keep h0 h7 [a1] := K1.wr W7 (Or.inl (List.mem_of_getElem? (i := 0) rfl))
  have f8 : Fld Z h7 lit2 "java/lang/String" "coder" "B" (.int 0) := (Fc2.other W7 (Or.inl (Ne.symm ne2_a1.1)))
  obtain ⟨T9, X9, e9, st9⟩ := getF X7 hx hZ2 hown2 (host := "") (Or.inl (hw _ (List.mem_of_getElem? (i := 34) rfl))) Via.refl e7 f8 (g := (mkF m 20 #[.val (.ref a1), .val (.ref a2), .val (.int (0 : Int32)), .val (.int (0 : Int32)), .val .null, .unset] [(.ref lit2), (.ref a1)])) rfl rfl (hb hby own_d_jdk_42_method_149_code_20)
  have f10 : Fld Z h7 a1 "java/lang/String" "coder" "B" uc := ((F_coder_a1.ext E2).other W7 (Or.inr (slot_ne (Or.inr (hw _ (List.mem_of_getElem? (i := 30) rfl))) (Or.inr (hw _ (List.mem_of_getElem? (i := 29) rfl))) (by decide) (t := .byte) (t' := (.array .byte)) (by decide) (by decide))))
  have f11 : Exa Z h7 a1 "java/lang/String" := (f6.wr W7)
  obtain ⟨T12, h12, X12, e12, W12, st12⟩ := putFN X9 hx hZ2 hown2 (hw _ (List.mem_of_getElem? (i := 34) rfl)) Via.refl e9 f10 f11 (Or.inr ⟨(hw _ (List.mem_of_getElem? (i := 30) rfl)), rfl, hnm⟩) (hw _ (List.mem_of_getElem? (i := 14) rfl)) (ty := .byte) (v' := (.int 0)) (by decide) rfl rfl (g := (mkF m 23 #[.val (.ref a1), .val (.ref a2), .val (.int (0 : Int32)), .val (.int (0 : Int32)), .val .null, .unset] [(.int 0), (.ref a1)])) rfl rfl (hb hby own_d_jdk_42_method_149_code_23)
  have Fw12 := f10.same W12
  have Nf12 := Fr.snoc X12 Nf7 g_a1
  have f13 : Safe Z own_EL T2.vm h7 a1 := (Safe.wr W7 f3 CH1.1 f3)
  have CH3 : CHr Z own_EL s.vm h0 T2.vm h12 := CH2.trans (CHr.wr W12 f13 CH2.1)
  have K3 : Keep h0 h12 [a1] := K2.wr W12 (Or.inl (List.mem_of_getElem? (i := 0) rfl))
  have f14 : Exa Z h12 a1 "java/lang/String" := (f11.wr W12)
  have f15 : Fld Z h12 a1 "java/lang/String" "value" "[B" (.ref lba2) := (Fw7.other W12 (Or.inr (slot_ne (Or.inr (hw _ (List.mem_of_getElem? (i := 29) rfl))) (Or.inr (hw _ (List.mem_of_getElem? (i := 30) rfl))) (by decide) (t := (.array .byte)) (t' := .byte) (by decide) (by decide))))
  have f16 : Arv Z h12 lba2 kk2 .byte (0 : Int32) [] (.int 0) := ((V2.other W7 (Ne.symm ne2_a1.2)).other W12 (Ne.symm ne2_a1.2))
  have hk_17 := Nat.le_trans hk2 (((Keep.refl h2 [a1]).wr W7 (Or.inl (List.mem_of_getElem? (i := 0) rfl))).wr W12 (Or.inl (List.mem_of_getElem? (i := 0) rfl))).1
  obtain ⟨fs, hr, hrun, hended, hend⟩ := X12.leaveW hS2 (by rw [e12]; exact hk_17) (v := none) (fun _ => rfl)
  refine ⟨_, _, pre0 _ ?_, hrun, hended, _, _, rfl, ?_, ?_, hend.1, hend.2.1, hend.2.2.1, hend.2.2.2.mono (by decide) (by decide)⟩
  · show Steps p.tables e below (s₁.setTop (mkF m 0 #[.val (.ref a1), .val (.ref a2), .val (.int (0 : Int32)), .val (.int (0 : Int32)), .val .null, .unset] [])) _
    refine XS.aloadN X0.here hx rfl (hb hby own_d_jdk_42_method_149_code_0) rfl rfl ?_
    show Steps p.tables e below (s₁.setTop (mkF m 1 #[.val (.ref a1), .val (.ref a2), .val (.int (0 : Int32)), .val (.int (0 : Int32)), .val .null, .unset] [(.ref a1)])) _
    refine st1 _ ?_
    refine XS.iloadN X1.here hx rfl (hb hby own_d_jdk_42_method_149_code_4) rfl ?_
    show Steps p.tables e below (T1.setTop (mkF m 5 #[.val (.ref a1), .val (.ref a2), .val (.int (0 : Int32)), .val (.int (0 : Int32)), .val .null, .unset] [(.int (0 : Int32))])) _
    refine XS.ifNo X1.here hx rfl (hb hby own_d_jdk_42_method_149_code_5) rfl ((if0 _ _).trans (teq (rfl : (0 : Int32) = (0 : Int32))).2) ?_
    refine XS.aloadN X1.here hx rfl (hb hby own_d_jdk_42_method_149_code_8) rfl rfl ?_
    show Steps p.tables e below (T1.setTop (mkF m 9 #[.val (.ref a1), .val (.ref a2), .val (.int (0 : Int32)), .val (.int (0 : Int32)), .val .null, .unset] [(.ref a1)])) _
    refine st2 _ ?_
    show Steps p.tables e below (T2.setTop (mkF m 11 #[.val (.ref a1), .val (.ref a2), .val (.int (0 : Int32)), .val (.int (0 : Int32)), .val .null, .unset] [(.ref lit2), (.ref a1)])) _
    refine st4 _ ?_
    show Steps p.tables e below (T4.setTop (mkF m 14 #[.val (.ref a1), .val (.ref a2), .val (.int (0 : Int32)), .val (.int (0 : Int32)), .val .null, .unset] [(.ref lba2), (.ref a1)])) _
    refine st7 _ ?_
    refine XS.aloadN X7.here hx rfl (hb hby own_d_jdk_42_method_149_code_17) rfl rfl ?_
    show Steps p.tables e below (T7.setTop (mkF m 18 #[.val (.ref a1), .val (.ref a2), .val (.int (0 : Int32)), .val (.int (0 : Int32)), .val .null, .unset] [(.ref a1)])) _
    refine ldcAgain X7 hx hZ2 hown2 (hw _ (List.mem_of_getElem? (i := 27) rfl)) Lt2 (g := (mkF m 18 #[.val (.ref a1), .val (.ref a2), .val (.int (0 : Int32)), .val (.int (0 : Int32)), .val .null, .unset] [(.ref a1)])) rfl (hb hby own_d_jdk_42_method_149_code_18) _ ?_
    show Steps p.tables e below (T7.setTop (mkF m 20 #[.val (.ref a1), .val (.ref a2), .val (.int (0 : Int32)), .val (.int (0 : Int32)), .val .null, .unset] [(.ref lit2), (.ref a1)])) _
    refine st9 _ ?_
    show Steps p.tables e below (T9.setTop (mkF m 23 #[.val (.ref a1), .val (.ref a2), .val (.int (0 : Int32)), .val (.int (0 : Int32)), .val .null, .unset] [(.int 0), (.ref a1)])) _
    refine st12 _ ?_
    show Steps p.tables e below (T12.setTop (mkF m 26 #[.val (.ref a1), .val (.ref a2), .val (.int (0 : Int32)), .val (.int (0 : Int32)), .val .null, .unset] [])) _
    exact X12.returnOut hx Bd.returns (hb hby own_d_jdk_42_method_149_code_26) hr
  · show QE Z a1 h0 n0 _ T12.heap _
    rw [e12]
    exact ⟨rfl, Nf12, K3, lba2, kk2, (0 : Int32), [], f14, f15, Fw12, f16, StrChars.Road.codOf (cs := []) (n := 0) rfl (fun c hc => nomatch hc), fun c hc => nomatch hc⟩
  · show CHr Z own_EL s.vm s.heap T12.vm T12.heap
    rw [hh, e12]
    exact CH3.trans (CHv.at X12 hZ2 hEL CH3.1)
theorem own_d_jdk_42_method_3_code_0 : decode jdk_42_method_3_code 0 = .ok (.aload_n 0, 1) := by decide +kernel
theorem own_d_jdk_42_method_3_code_1 : decode jdk_42_method_3_code 1 = .ok (.aload_n 1, 1) := by decide +kernel
theorem own_d_jdk_42_method_3_code_2 : decode jdk_42_method_3_code 2 = .ok (.iconst 0, 1) := by decide +kernel
theorem own_d_jdk_42_method_3_code_3 : decode jdk_42_method_3_code 3 = .ok (.aload_n 1, 1) := by decide +kernel
theorem own_d_jdk_42_method_3_code_4 : decode jdk_42_method_3_code 4 = .ok (.arraylength, 1) := by decide +kernel
theorem own_d_jdk_42_method_3_code_5 : decode jdk_42_method_3_code 5 = .ok (.aconst_null, 1) := by decide +kernel
theorem own_d_jdk_42_method_3_code_6 : decode jdk_42_method_3_code 6 = .ok (.invokespecial 27, 3) := by decide +kernel
theorem own_d_jdk_42_method_3_code_9 : decode jdk_42_method_3_code 9 = .ok (.return_, 1) := by decide +kernel
theorem own_pd___CIILjava_lang_Void__V : parseMethodDescriptor "([CIILjava/lang/Void;)V" = some ⟨[(.array .char), .int, .int, (.object "java/lang/Void")], none⟩ := by decide +kernel
theorem own_ef_jdk_42_method_3_code_xx (m : MethodId) (x0 : Addr) (x1 : Addr) : entryFrame m #[(.ref x0), (.ref x1)] 2 = mkF m 0 #[.val (.ref x0), .val (.ref x1)] [] := by first | (simp [entryFrame, mkF, argsToLocals, Value.category]; done) | rfl
set_option maxRecDepth 65536 in
set_option maxHeartbeats 40000000 in
theorem rmE1 (l : Launch) (Z : State) (a0 : Array Value) (hw : ∀ d ∈ tables_1, d.before a0 Z = true) (ws : List Jvm.Cond) (hEL : EW Z a0 own_EL) (a1 a2 : Addr) (uv uc : Value) (k2 : ClassId) (vs2 : List Value) (dv2 : Value) (h0 : Heap) (n0 : Nat) (Z0 : n0 ≤ h0.size) (E_a1 : Exa Z h0 a1 "java/lang/String") (F_value_a1 : Fld Z h0 a1 "java/lang/String" "value" "[B" uv) (F_coder_a1 : Fld Z h0 a1 "java/lang/String" "coder" "B" uc) (g_a1 : n0 ≤ a1) (V_a2 : Arv Z h0 a2 k2 .char (0 : Int32) vs2 dv2) :
    MetFree l (⟨"java/lang/String", "<init>", "([C)V"⟩ : MethodName) (head1 (Jvm.Cond.code (⟨"java/lang/String", "<init>", "([C)V"⟩ : MethodName) jdk_42_method_3_code 2 none :: ws) ({ frames := 2, cells := 2, slots := 4, locals := 29 } : Room)) (fun a U => a = #[(.ref a1), (.ref a2)] ∧ Z.Warmed39 U.vm ∧ U.heap = h0 ∧ CHv Z own_EL U.vm h0 ∧ Safe Z own_EL U.vm h0 a1) (fun _ _ _ _ _ => True) (fun _ U o U' => ∃ v L, o = .returned v ∧ QE Z a1 h0 n0 v U'.heap L ∧ CHr Z own_EL U.vm U.heap U'.vm U'.heap ∧ ReturnedEndW U o U' L 2 4) := by
  refine MetFree.of_bodySF (plainFor_of_name own_pn_java_lang_String) hisR ?_
  intro p e s m args below meth c s₁ Bd hml0 hP hK
  obtain ⟨rfl, hZ, hh, hCH0, Sf_a1⟩ := hP
  have hx := Bd.exec
  have hby := Bd.bytes
  have hml : c.maxLocals = 2 := hml0
  have hown : s.vm.findClass "java/lang/String" = some m.cls := findClass_of_methodNamed Bd.named
  have hnm := (name_of_methodNamed Bd.named Bd.method).1
  have X0 : Stand p l e ({ frames := 2, cells := 2, slots := 4, locals := 29 } : Room) (s.setVm s.vm) m #[(.ref a1), (.ref a2)] below meth c s₁ [] 0 0 := Stand.of_body Bd
  have e0 : s₁.heap = h0 := by rw [← hh, Bd.state]; rfl
  have N0 := Fr.nil n0
  have CH0 : CHr Z own_EL s.vm h0 s.vm h0 := CHr.refl hCH0
  have hS0 : s.Since s.vm 0 := State.WarmedH.since (State.WarmedH.refl s) 0
  have pre0 : ∀ t, Steps p.tables e below (s₁.setTop (mkF m 0 #[.val (.ref a1), .val (.ref a2)] [])) t → Steps p.tables e below (s₁.setTop (entryFrame m #[(.ref a1), (.ref a2)] 2)) t := fun t k => castTop (own_ef_jdk_42_method_3_code_xx m a1 a2) k
  obtain ⟨cl1, Ar1, q1, S1, N_1, H_1, G1⟩ := id V_a2
  obtain ⟨_, _, ⟨T2, L2, k2, n2⟩, -, X2', hs2, hg2, ⟨Lc2, hQ2, l2, y2, z2, C2⟩, st2⟩ := X0.specialBackS hx (y := (⟨"java/lang/String", "<init>", "([CIILjava/lang/Void;)V"⟩ : MethodName)) rfl hown (mvT hZ (hw _ (List.mem_of_getElem? (i := 20) rfl))) (mvT hZ (hw _ (List.mem_of_getElem? (i := 21) rfl))) (mvT hZ (hw _ (List.mem_of_getElem? (i := 23) rfl))) (by decide) (own_backSHs (x := a1) (W := 0) (rmE4 l Z a0 hw [] hEL a1 a2 uv uc h0 n0 Z0 E_a1 F_value_a1 F_coder_a1 g_a1) hZ (hw _ (List.mem_of_getElem? (i := 23) rfl)) (hw _ (List.mem_of_getElem? (i := 15) rfl)) (by decide) (by decide) hEL CH0.1 E_a1.lt Sf_a1) (g := (mkF m 6 #[.val (.ref a1), .val (.ref a2)] [.null, (.int (0 : Int32)), (.int (0 : Int32)), (.ref a2), (.ref a1)])) rfl (by rw [hml]; rfl) (Steps.refl _) (a := a1) (argsL := [(.ref a2), (.int (0 : Int32)), (.int (0 : Int32)), .null]) (rest := []) (lenOf own_pd___CIILjava_lang_Void__V rfl) rfl (by show 2 * 0 + _ ≤ _; exact Nat.le_of_eq rfl) (hb hby own_d_jdk_42_method_3_code_6) (fun _ _ => ⟨rfl, e0, (by decide : 0 + 2 ≤ _), (by decide : 0 + 4 ≤ _)⟩)
  dsimp only [Pt.U, Pt.locs, Pt.cells, Pt.slots] at X2' l2 y2 z2 st2 hQ2 C2 hs2 hg2
  subst l2 y2 z2
  obtain ⟨X2, hS2, hZ2, hown2⟩ := rebS hS0 (by rw [e0]; exact (Nat.zero_le _)) X2' hs2 hg2 hZ hown
  obtain ⟨rfl, N2q, K2q, SV2⟩ := hQ2
  have N2a := Fr.app N0 N2q
  have CH1 : CHr Z own_EL s.vm h0 T2.vm T2.heap := CH0.trans C2
  have K1 : Keep h0 T2.heap [a1] := (Keep.refl h0 [a1]).trans K2q (allS (Or.inl (List.mem_of_getElem? (i := 0) rfl)) all0)
  obtain ⟨fs, hr, hrun, hended, hend⟩ := X2.leaveW hS2 (Nat.le_refl _) (v := none) (fun _ => rfl)
  refine ⟨_, _, pre0 _ ?_, hrun, hended, _, _, rfl, ?_, ?_, hend.1, hend.2.1, hend.2.2.1, hend.2.2.2.mono (by decide) (by decide)⟩
  · show Steps p.tables e below (s₁.setTop (mkF m 0 #[.val (.ref a1), .val (.ref a2)] [])) _
    refine XS.aloadN X0.here hx rfl (hb hby own_d_jdk_42_method_3_code_0) rfl rfl ?_
    refine XS.aloadN X0.here hx rfl (hb hby own_d_jdk_42_method_3_code_1) rfl rfl ?_
    refine XS.iconst X0.here hx rfl (hb hby own_d_jdk_42_method_3_code_2) ?_
    show Steps p.tables e below (s₁.setTop (mkF m 3 #[.val (.ref a1), .val (.ref a2)] [(.int (0 : Int32)), (.ref a2), (.ref a1)])) _
    refine XS.aloadN X0.here hx rfl (hb hby own_d_jdk_42_method_3_code_3) rfl rfl ?_
    show Steps p.tables e below (s₁.setTop (mkF m 4 #[.val (.ref a1), .val (.ref a2)] [(.ref a2), (.int (0 : Int32)), (.ref a2), (.ref a1)])) _
    refine X0.arraylength hx (by rw [e0]; exact Ar1.1) (State.isArrayOf_alike hZ.alike Ar1.2.1) (g := (mkF m 4 #[.val (.ref a1), .val (.ref a2)] [(.ref a2), (.int (0 : Int32)), (.ref a2), (.ref a1)])) rfl rfl (hb hby own_d_jdk_42_method_3_code_4) _ ?_
    rw [len_of S1 N_1]
    refine XS.aconstNull X0.here hx rfl (hb hby own_d_jdk_42_method_3_code_5) ?_
    show Steps p.tables e below (s₁.setTop (mkF m 6 #[.val (.ref a1), .val (.ref a2)] [.null, (.int (0 : Int32)), (.int (0 : Int32)), (.ref a2), (.ref a1)])) _
    refine st2.trans ?_
    show Steps p.tables e below (T2.setTop (mkF m 9 #[.val (.ref a1), .val (.ref a2)] [])) _
    exact X2.returnOut hx Bd.returns (hb hby own_d_jdk_42_method_3_code_9) hr
  · show QE Z a1 h0 n0 _ T2.heap _
    exact ⟨rfl, N2a, K1, SV2⟩
  · show CHr Z own_EL s.vm s.heap T2.vm T2.heap
    rw [hh]
    exact CH1.trans (CHv.at X2 hZ2 hEL CH1.1)
def own_cs (p1 p2 p3 : Int32) : List Int32 := if p1 = 0 then [] else if p1 = 1 then [nar .char p2] else [nar .char p2, nar .char p3]
def QS (Z : State) (cs : List Int32) (h0 : Heap) (n0 : Nat) (v : Option Value) (h : Heap) (L : List Loc) : Prop := ∃ b : Addr, v = some (.ref b) ∧ Fr n0 L ∧ Keep h0 h [] ∧ h0.size ≤ b ∧ StrV Z h b cs
def Lat (c : Int32) : Prop := ¬ c < 0 ∧ ¬ (255 : Int32) < c
theorem own_hp1 {a : Int32} (ha : Lat a) : ∀ c ∈ ([a] : List Int32), ¬ c < 0 ∧ ¬ (255 : Int32) < c := by
  intro c hc; simp only [List.mem_cons, List.not_mem_nil, or_false] at hc; subst hc; exact ha
theorem own_hp2 {a b : Int32} (ha : Lat a) (hb : Lat b) : ∀ c ∈ ([a, b] : List Int32), ¬ c < 0 ∧ ¬ (255 : Int32) < c := by
  intro c hc; simp only [List.mem_cons, List.not_mem_nil, or_false] at hc; rcases hc with rfl | rfl
  · exact ha
  · exact hb
theorem own_d_method_3_code_0 : decode method_3_code 0 = .ok (.iload_n 0, 1) := by decide +kernel
theorem own_d_method_3_code_1 : decode method_3_code 1 = .ok (.ifCond .ne 14, 3) := by decide +kernel
theorem own_d_method_3_code_4 : decode method_3_code 4 = .ok (.new 31, 3) := by decide +kernel
theorem own_d_method_3_code_7 : decode method_3_code 7 = .ok (.dup, 1) := by decide +kernel
theorem own_d_method_3_code_8 : decode method_3_code 8 = .ok (.iconst 0, 1) := by decide +kernel
theorem own_d_method_3_code_9 : decode method_3_code 9 = .ok (.newarray .char, 2) := by decide +kernel
theorem own_d_method_3_code_11 : decode method_3_code 11 = .ok (.invokespecial 33, 3) := by decide +kernel
theorem own_d_method_3_code_14 : decode method_3_code 14 = .ok (.areturn, 1) := by decide +kernel
theorem own_pd___C_V : parseMethodDescriptor "([C)V" = some ⟨[(.array .char)], none⟩ := by decide +kernel
theorem own_pn_com_example_mudskipper_mudskipper_jpql_TokenEqualsPinLaw : plainName "com/example/mudskipper/mudskipper/jpql/TokenEqualsPinLaw" = true := by first | (simp [plainName, overriddenIn]; done) | decide +kernel
theorem own_ef_method_3_code_xxx (m : MethodId) (x0 : Int32) (x1 : Int32) (x2 : Int32) : entryFrame m #[(.int x0), (.int x1), (.int x2)] 4 = mkF m 0 #[.val (.int x0), .val (.int x1), .val (.int x2), .unset] [] := by first | (simp [entryFrame, mkF, argsToLocals, Value.category]; done) | rfl
set_option maxRecDepth 65536 in
set_option maxHeartbeats 40000000 in
theorem rs0 (l : Launch) (Z : State) (a0 : Array Value) (hw : ∀ d ∈ tables_1, d.before a0 Z = true) (ws : List Jvm.Cond) (hEL : EW Z a0 own_EL) (p1 p2 p3 : Int32) (G1 : Int32) (h0 : Heap) (n0 : Nat) (Z0 : n0 ≤ h0.size) (O2 : Sta Z Z.heap "java/lang/String" "COMPACT_STRINGS" "Z" (.int G1)) (P5 : ¬ (G1 = (0 : Int32))) (O0 : Old Z n0 h0) (hq2 : Lat (nar .char p2)) (hq3 : Lat (nar .char p3)) (hc1 : p1 = (0 : Int32)) :
    MetFree l (⟨"com/example/mudskipper/mudskipper/jpql/TokenEqualsPinLaw", "str", "(ICC)Ljava/lang/String;"⟩ : MethodName) (head1 (Jvm.Cond.code (⟨"com/example/mudskipper/mudskipper/jpql/TokenEqualsPinLaw", "str", "(ICC)Ljava/lang/String;"⟩ : MethodName) method_3_code 4 (some (.object "java/lang/String")) :: ws) ({ frames := 4, cells := 4, slots := 8, locals := 66 } : Room)) (fun a U => a = #[(.int p1), (.int p2), (.int p3)] ∧ Z.Warmed39 U.vm ∧ U.heap = h0 ∧ CHv Z own_EL U.vm h0) (fun _ _ _ _ _ => True) (fun _ U o U' => ∃ v L, o = .returned v ∧ QS Z [] h0 n0 v U'.heap L ∧ CHr Z own_EL U.vm U.heap U'.vm U'.heap ∧ ReturnedEndW U o U' L 4 8) := by
  refine MetFree.of_bodySF (plainFor_of_name own_pn_com_example_mudskipper_mudskipper_jpql_TokenEqualsPinLaw) hisR ?_
  intro p e s m args below meth c s₁ Bd hml0 hP hK
  obtain ⟨rfl, hZ, hh, hCH0⟩ := hP
  have hx := Bd.exec
  have hby := Bd.bytes
  have hml : c.maxLocals = 4 := hml0
  have hown : s.vm.findClass "com/example/mudskipper/mudskipper/jpql/TokenEqualsPinLaw" = some m.cls := findClass_of_methodNamed Bd.named
  have hnm := (name_of_methodNamed Bd.named Bd.method).1
  have X0 : Stand p l e ({ frames := 4, cells := 4, slots := 8, locals := 66 } : Room) (s.setVm s.vm) m #[(.int p1), (.int p2), (.int p3)] below meth c s₁ [] 0 0 := Stand.of_body Bd
  have e0 : s₁.heap = h0 := by rw [← hh, Bd.state]; rfl
  have N0 := Fr.nil n0
  have CH0 : CHr Z own_EL s.vm h0 s.vm h0 := CHr.refl hCH0
  have hS0 : s.Since s.vm 0 := State.WarmedH.since (State.WarmedH.refl s) 0
  have pre0 : ∀ t, Steps p.tables e below (s₁.setTop (mkF m 0 #[.val (.int p1), .val (.int p2), .val (.int p3), .unset] [])) t → Steps p.tables e below (s₁.setTop (entryFrame m #[(.int p1), (.int p2), (.int p3)] 4)) t := fun t k => castTop (own_ef_method_3_code_xxx m p1 p2 p3) k
  obtain ⟨T1, h1, X1, e1, E1, A1, D1, -, st1⟩ := newO X0 hx hZ hown (hw _ (List.mem_of_getElem? (i := 13) rfl)) (hw _ (List.mem_of_getElem? (i := 14) rfl)) (hw _ (List.mem_of_getElem? (i := 15) rfl)) e0 (g := (mkF m 4 #[.val (.int p1), .val (.int p2), .val (.int p3), .unset] [])) rfl (hb hby own_d_method_3_code_4) (by decide) (by decide)
  obtain ⟨b1, g1⟩ : ∃ z, z = h0.size := ⟨_, rfl⟩
  rw [← g1] at A1 D1 st1
  have sz_b1 : h0.size ≤ b1 := Nat.le_trans (Keep.refl h0 []).1 (Nat.le_of_eq g1.symm)
  have g_b1 : n0 ≤ b1 := Nat.le_trans Z0 sz_b1
  have CH1 : CHr Z own_EL s.vm h0 s.vm h1 := CH0.trans (CHr.ext E1 CH0.1)
  have K1 : Keep h0 h1 [] := (Keep.refl h0 []).ext E1
  have F_value_b1 : Fld Z h1 b1 "java/lang/String" "value" "[B" .null := D1 (Or.inr (hw _ (List.mem_of_getElem? (i := 29) rfl))) (ty := (.array .byte)) (by decide)
  have F_coder_b1 : Fld Z h1 b1 "java/lang/String" "coder" "B" (.int (0 : Int32)) := D1 (Or.inr (hw _ (List.mem_of_getElem? (i := 30) rfl))) (ty := .byte) (by decide)
  have Sf1 : Safe Z own_EL s.vm h1 b1 := Safe.ext E1 CH0.1 (Safe.new (Nat.le_of_eq g1.symm))
  obtain ⟨T2, h2, ka2, X2, e2, E2, A2, st2⟩ := newP X1 hx hZ (hw _ (List.mem_of_getElem? (i := 16) rfl)) e1 (g := (mkF m 9 #[.val (.int p1), .val (.int p2), .val (.int p3), .unset] [(.int (0 : Int32)), (.ref b1), (.ref b1)])) rfl (hb hby own_d_method_3_code_9) rfl (by decide) (cap := 0) (by decide) (by decide) (by decide) (by decide)
  obtain ⟨b2, g2⟩ : ∃ z, z = h1.size := ⟨_, rfl⟩
  rw [← g2] at A2 st2
  have sz_b2 : h0.size ≤ b2 := Nat.le_trans K1.1 (Nat.le_of_eq g2.symm)
  have g_b2 : n0 ≤ b2 := Nat.le_trans Z0 sz_b2
  have CH2 : CHr Z own_EL s.vm h0 s.vm h2 := CH1.trans (CHr.ext E2 CH1.1)
  have K2 : Keep h0 h2 [] := K1.ext E2
  have V_b2 : Arv Z h2 b2 ka2 .char (0 : Int32) [] (.int (0 : Int32)) := (Arv.new A2 (by decide)).pad (pad_rep [] (.int (0 : Int32)) 0)
  have f4 : Exa Z h2 b1 "java/lang/String" := (A1.ext E2)
  have f5 : Fld Z h2 b1 "java/lang/String" "value" "[B" .null := (F_value_b1.ext E2)
  have f6 : Fld Z h2 b1 "java/lang/String" "coder" "B" (.int (0 : Int32)) := (F_coder_b1.ext E2)
  have f7 : Safe Z own_EL s.vm h2 b1 := (Safe.ext E2 CH1.1 Sf1)
  obtain ⟨_, _, ⟨T3, L3, k3, n3⟩, -, X3', hs3, hg3, ⟨Lc3, hQ3, l3, y3, z3, C3⟩, st3⟩ := X2.specialBackS hx (y := (⟨"java/lang/String", "<init>", "([C)V"⟩ : MethodName)) rfl hown (mvT hZ (hw _ (List.mem_of_getElem? (i := 17) rfl))) (mvT hZ (hw _ (List.mem_of_getElem? (i := 18) rfl))) (mvT hZ (hw _ (List.mem_of_getElem? (i := 19) rfl))) (by decide) (own_backSHs (x := b1) (W := 1) (rmE1 l Z a0 hw [] hEL b1 b2 .null (.int (0 : Int32)) ka2 [] (.int (0 : Int32)) h2 n0 (Nat.le_trans Z0 K2.1) f4 f5 f6 g_b1 V_b2) hZ (hw _ (List.mem_of_getElem? (i := 19) rfl)) (hw _ (List.mem_of_getElem? (i := 15) rfl)) (by decide) (by decide) hEL CH2.1 f4.lt f7) (g := (mkF m 11 #[.val (.int p1), .val (.int p2), .val (.int p3), .unset] [(.ref b2), (.ref b1), (.ref b1)])) rfl (by rw [hml]; rfl) (Steps.refl _) (a := b1) (argsL := [(.ref b2)]) (rest := [(.ref b1)]) (lenOf own_pd___C_V rfl) rfl (by show 2 * 0 + _ ≤ _; exact Nat.le_of_eq rfl) (hb hby own_d_method_3_code_11) (fun _ _ => ⟨rfl, e2, (by decide : 2 + 2 ≤ _), (by decide : 4 + 4 ≤ _)⟩)
  dsimp only [Pt.U, Pt.locs, Pt.cells, Pt.slots] at X3' l3 y3 z3 st3 hQ3 C3 hs3 hg3
  subst l3 y3 z3
  obtain ⟨X3, hS3, hZ3, hown3⟩ := rebS hS0 (by rw [e2]; exact (Nat.zero_le _)) X3' hs3 hg3 hZ hown
  obtain ⟨rfl, N3q, K3q, SV3⟩ := hQ3
  have N3a := Fr.app N0 N3q
  have CH3 : CHr Z own_EL s.vm h0 T3.vm T3.heap := CH2.trans C3
  have K3 : Keep h0 T3.heap [] := K2.trans K3q (allS (Or.inr sz_b1) all0)
  obtain ⟨fs, hr, hrun, hended, hend⟩ := X3.leaveW hS3 (Nat.le_refl _) (v := some (.ref b1)) (fun h => by rw [Bd.returns] at h; cases h)
  refine ⟨_, _, pre0 _ ?_, hrun, hended, _, _, rfl, ?_, ?_, hend.1, hend.2.1, hend.2.2.1, hend.2.2.2.mono (by decide) (by decide)⟩
  · show Steps p.tables e below (s₁.setTop (mkF m 0 #[.val (.int p1), .val (.int p2), .val (.int p3), .unset] [])) _
    refine XS.iloadN X0.here hx rfl (hb hby own_d_method_3_code_0) rfl ?_
    show Steps p.tables e below (s₁.setTop (mkF m 1 #[.val (.int p1), .val (.int p2), .val (.int p3), .unset] [(.int p1)])) _
    refine XS.ifNo X0.here hx rfl (hb hby own_d_method_3_code_1) rfl ((if0 _ _).trans (teq hc1).2) ?_
    show Steps p.tables e below (s₁.setTop (mkF m 4 #[.val (.int p1), .val (.int p2), .val (.int p3), .unset] [])) _
    refine st1 _ ?_
    refine XS.dup X1.here hx rfl (hb hby own_d_method_3_code_7) rfl rfl ?_
    refine XS.iconst X1.here hx rfl (hb hby own_d_method_3_code_8) ?_
    show Steps p.tables e below (T1.setTop (mkF m 9 #[.val (.int p1), .val (.int p2), .val (.int p3), .unset] [(.int (0 : Int32)), (.ref b1), (.ref b1)])) _
    refine st2 _ ?_
    show Steps p.tables e below (T2.setTop (mkF m 11 #[.val (.int p1), .val (.int p2), .val (.int p3), .unset] [(.ref b2), (.ref b1), (.ref b1)])) _
    refine st3.trans ?_
    show Steps p.tables e below (T3.setTop (mkF m 14 #[.val (.int p1), .val (.int p2), .val (.int p3), .unset] [(.ref b1)])) _
    jvm_step X3.here [X3.here.top, hx, (hb hby own_d_method_3_code_14), X3.method', Bd.returns, Value.isRef, FieldType.isReference]
    first | (intro acts; rw [hr _ acts rfl rfl rfl]) | rw [hr _ _ rfl rfl rfl]
    exact Steps.refl _
  · show QS Z [] h0 n0 _ T3.heap _
    exact ⟨b1, rfl, N3a, K3, sz_b1, SV3⟩
  · show CHr Z own_EL s.vm s.heap T3.vm T3.heap
    rw [hh]
    exact CH3.trans (CHv.at X3 hZ3 hEL CH3.1)
theorem own_d_method_3_code_15 : decode method_3_code 15 = .ok (.iload_n 0, 1) := by decide +kernel
theorem own_d_method_3_code_16 : decode method_3_code 16 = .ok (.iconst 1, 1) := by decide +kernel
theorem own_d_method_3_code_17 : decode method_3_code 17 = .ok (.if_icmp .ne 20, 3) := by decide +kernel
theorem own_d_method_3_code_20 : decode method_3_code 20 = .ok (.iconst 1, 1) := by decide +kernel
theorem own_d_method_3_code_21 : decode method_3_code 21 = .ok (.newarray .char, 2) := by decide +kernel
theorem own_d_method_3_code_23 : decode method_3_code 23 = .ok (.astore_n 3, 1) := by decide +kernel
theorem own_d_method_3_code_24 : decode method_3_code 24 = .ok (.aload_n 3, 1) := by decide +kernel
theorem own_d_method_3_code_25 : decode method_3_code 25 = .ok (.iconst 0, 1) := by decide +kernel
theorem own_d_method_3_code_26 : decode method_3_code 26 = .ok (.iload_n 1, 1) := by decide +kernel
theorem own_d_method_3_code_27 : decode method_3_code 27 = .ok (.castore, 1) := by decide +kernel
theorem own_d_method_3_code_28 : decode method_3_code 28 = .ok (.new 31, 3) := by decide +kernel
theorem own_d_method_3_code_31 : decode method_3_code 31 = .ok (.dup, 1) := by decide +kernel
theorem own_d_method_3_code_32 : decode method_3_code 32 = .ok (.aload_n 3, 1) := by decide +kernel
theorem own_d_method_3_code_33 : decode method_3_code 33 = .ok (.invokespecial 33, 3) := by decide +kernel
theorem own_d_method_3_code_36 : decode method_3_code 36 = .ok (.areturn, 1) := by decide +kernel
set_option maxRecDepth 65536 in
set_option maxHeartbeats 40000000 in
theorem rs1 (l : Launch) (Z : State) (a0 : Array Value) (hw : ∀ d ∈ tables_1, d.before a0 Z = true) (ws : List Jvm.Cond) (hEL : EW Z a0 own_EL) (p1 p2 p3 : Int32) (G1 : Int32) (h0 : Heap) (n0 : Nat) (Z0 : n0 ≤ h0.size) (O2 : Sta Z Z.heap "java/lang/String" "COMPACT_STRINGS" "Z" (.int G1)) (P5 : ¬ (G1 = (0 : Int32))) (O0 : Old Z n0 h0) (hq2 : Lat (nar .char p2)) (hq3 : Lat (nar .char p3)) (hc1 : ¬ (p1 = (0 : Int32))) (hc17 : p1 = (1 : Int32)) :
    MetFree l (⟨"com/example/mudskipper/mudskipper/jpql/TokenEqualsPinLaw", "str", "(ICC)Ljava/lang/String;"⟩ : MethodName) (head1 (Jvm.Cond.code (⟨"com/example/mudskipper/mudskipper/jpql/TokenEqualsPinLaw", "str", "(ICC)Ljava/lang/String;"⟩ : MethodName) method_3_code 4 (some (.object "java/lang/String")) :: ws) ({ frames := 4, cells := 4, slots := 8, locals := 66 } : Room)) (fun a U => a = #[(.int p1), (.int p2), (.int p3)] ∧ Z.Warmed39 U.vm ∧ U.heap = h0 ∧ CHv Z own_EL U.vm h0) (fun _ _ _ _ _ => True) (fun _ U o U' => ∃ v L, o = .returned v ∧ QS Z [(nar .char p2)] h0 n0 v U'.heap L ∧ CHr Z own_EL U.vm U.heap U'.vm U'.heap ∧ ReturnedEndW U o U' L 4 8) := by
  refine MetFree.of_bodySF (plainFor_of_name own_pn_com_example_mudskipper_mudskipper_jpql_TokenEqualsPinLaw) hisR ?_
  intro p e s m args below meth c s₁ Bd hml0 hP hK
  obtain ⟨rfl, hZ, hh, hCH0⟩ := hP
  have hx := Bd.exec
  have hby := Bd.bytes
  have hml : c.maxLocals = 4 := hml0
  have hown : s.vm.findClass "com/example/mudskipper/mudskipper/jpql/TokenEqualsPinLaw" = some m.cls := findClass_of_methodNamed Bd.named
  have hnm := (name_of_methodNamed Bd.named Bd.method).1
  have X0 : Stand p l e ({ frames := 4, cells := 4, slots := 8, locals := 66 } : Room) (s.setVm s.vm) m #[(.int p1), (.int p2), (.int p3)] below meth c s₁ [] 0 0 := Stand.of_body Bd
  have e0 : s₁.heap = h0 := by rw [← hh, Bd.state]; rfl
  have N0 := Fr.nil n0
  have CH0 : CHr Z own_EL s.vm h0 s.vm h0 := CHr.refl hCH0
  have hS0 : s.Since s.vm 0 := State.WarmedH.since (State.WarmedH.refl s) 0
  have pre0 : ∀ t, Steps p.tables e below (s₁.setTop (mkF m 0 #[.val (.int p1), .val (.int p2), .val (.int p3), .unset] [])) t → Steps p.tables e below (s₁.setTop (entryFrame m #[(.int p1), (.int p2), (.int p3)] 4)) t := fun t k => castTop (own_ef_method_3_code_xxx m p1 p2 p3) k
  obtain ⟨T1, h1, ka1, X1, e1, E1, A1, st1⟩ := newP X0 hx hZ (hw _ (List.mem_of_getElem? (i := 16) rfl)) e0 (g := (mkF m 21 #[.val (.int p1), .val (.int p2), .val (.int p3), .unset] [(.int (1 : Int32))])) rfl (hb hby own_d_method_3_code_21) rfl (by decide) (cap := 1) (by decide) (by decide) (by decide) (by decide)
  obtain ⟨b1, g1⟩ : ∃ z, z = h0.size := ⟨_, rfl⟩
  rw [← g1] at A1 st1
  have sz_b1 : h0.size ≤ b1 := Nat.le_trans (Keep.refl h0 []).1 (Nat.le_of_eq g1.symm)
  have g_b1 : n0 ≤ b1 := Nat.le_trans Z0 sz_b1
  have CH1 : CHr Z own_EL s.vm h0 s.vm h1 := CH0.trans (CHr.ext E1 CH0.1)
  have K1 : Keep h0 h1 [] := (Keep.refl h0 []).ext E1
  have V_b1 : Arv Z h1 b1 ka1 .char (1 : Int32) [(.int (0 : Int32))] (.int (0 : Int32)) := (Arv.new A1 (by decide)).pad (pad_rep [] (.int (0 : Int32)) 1)
  obtain ⟨cl2, Ar2, q2, S2, N_2, H_2, G2⟩ := id V_b1
  obtain ⟨T3, h3, X3, e3, W3, st3⟩ := stC X1 hx hZ e1 Ar2 (j := (0 : Int32)) (inb_of S2 ⟨by decide, by decide⟩) (g := (mkF m 27 #[.val (.int p1), .val (.int p2), .val (.int p3), .val (.ref b1)] [(.int p2), (.int (0 : Int32)), (.ref b1)])) rfl rfl (hb hby own_d_method_3_code_27)
  have V3_b1 : Arv Z h3 b1 ka1 .char (1 : Int32) [(.int (nar .char p2))] (.int (0 : Int32)) := Arv.set Ar2 q2 S2 N_2 H_2 G2 (fits_nar_char _) W3 0 rfl (Nat.le_of_ble_eq_true rfl)
  have Nf3 := Fr.snoc X3 N0 g_b1
  have CH2 : CHr Z own_EL s.vm h0 s.vm h3 := CH1.trans (CHr.wr W3 (own_safeV (hZ : Z.Warmed39 s.vm).alike V_b1 (by decide)) CH1.1)
  have K2 : Keep h0 h3 [] := K1.wr W3 (Or.inr sz_b1)
  obtain ⟨T4, h4, X4, e4, E4, A4, D4, -, st4⟩ := newO X3 hx hZ hown (hw _ (List.mem_of_getElem? (i := 13) rfl)) (hw _ (List.mem_of_getElem? (i := 14) rfl)) (hw _ (List.mem_of_getElem? (i := 15) rfl)) e3 (g := (mkF m 28 #[.val (.int p1), .val (.int p2), .val (.int p3), .val (.ref b1)] [])) rfl (hb hby own_d_method_3_code_28) (by decide) (by decide)
  obtain ⟨b4, g4⟩ : ∃ z, z = h3.size := ⟨_, rfl⟩
  rw [← g4] at A4 D4 st4
  have sz_b4 : h0.size ≤ b4 := Nat.le_trans K2.1 (Nat.le_of_eq g4.symm)
  have g_b4 : n0 ≤ b4 := Nat.le_trans Z0 sz_b4
  have CH3 : CHr Z own_EL s.vm h0 s.vm h4 := CH2.trans (CHr.ext E4 CH2.1)
  have K3 : Keep h0 h4 [] := K2.ext E4
  have F_value_b4 : Fld Z h4 b4 "java/lang/String" "value" "[B" .null := D4 (Or.inr (hw _ (List.mem_of_getElem? (i := 29) rfl))) (ty := (.array .byte)) (by decide)
  have F_coder_b4 : Fld Z h4 b4 "java/lang/String" "coder" "B" (.int (0 : Int32)) := D4 (Or.inr (hw _ (List.mem_of_getElem? (i := 30) rfl))) (ty := .byte) (by decide)
  have Sf4 : Safe Z own_EL s.vm h4 b4 := Safe.ext E4 CH2.1 (Safe.new (Nat.le_of_eq g4.symm))
  have f6 : Arv Z h4 b1 ka1 .char (1 : Int32) [(.int (nar .char p2))] (.int (0 : Int32)) := (V3_b1.ext E4)
  have f7 : Old Z n0 h4 := (((O0.ext E1).wr W3 g_b1).ext E4)
  obtain ⟨_, _, ⟨T5, L5, k5, n5⟩, -, X5, ⟨Lc5, hQ5, l5, y5, z5⟩, st5⟩ := X4.specialBack hx (y := (⟨"java/lang/String", "<init>", "([C)V"⟩ : MethodName)) rfl hown (mvT hZ (hw _ (List.mem_of_getElem? (i := 17) rfl))) (mvT hZ (hw _ (List.mem_of_getElem? (i := 18) rfl))) (mvT hZ (hw _ (List.mem_of_getElem? (i := 19) rfl))) (by decide) (StrChars.Road.backV (W := 1) hZ (own_hws hw) (kI := 4) (hw _ (List.mem_of_getElem? (i := 14) rfl)) (cs := ([(nar .char p2)] : List Int32)) (bs := (([(nar .char p2)] : List Int32)).map (fun c => c.toInt8.toInt32)) (n := 1) g_b4 (Nat.le_trans Z0 K3.1) A4 F_value_b4 F_coder_b4 (f6 : Arv Z h4 b1 ka1 .char (Int32.ofNat 1) (([(nar .char p2)] : List Int32).map Value.int) _) (O2.ext f7.2) P5 rfl rfl (by decide) (by decide) (own_hp1 hq2) rfl (by decide) (by decide)) (g := (mkF m 33 #[.val (.int p1), .val (.int p2), .val (.int p3), .val (.ref b1)] [(.ref b1), (.ref b4), (.ref b4)])) rfl (by rw [hml]; rfl) (Steps.refl _) (a := b4) (argsL := [(.ref b1)]) (rest := [(.ref b4)]) (lenOf own_pd___C_V rfl) rfl (by show 2 * 0 + _ ≤ _; exact Nat.le_of_eq rfl) (hb hby own_d_method_3_code_33) (fun _ _ => ⟨rfl, e4, (by decide : 2 + 1 ≤ _), (by decide : 5 + 1 ≤ _)⟩)
  dsimp only [Pt.U, Pt.locs, Pt.cells, Pt.slots] at X5 l5 y5 z5 st5 hQ5
  subst l5 y5 z5
  obtain ⟨rfl, N5q, K5q, E5q, gc5, t5, kb5, -, -, -, gv5, ga5⟩ := hQ5
  have N5a := Fr.app Nf3 N5q
  have CH4 : CHr Z own_EL s.vm h0 s.vm T5.heap := CH3.trans (CHr.keep K5q (allS Sf4 all0) CH3.1)
  have K4 : Keep h0 T5.heap [] := K3.trans K5q (allS (Or.inr sz_b4) all0)
  have SV5 : StrV Z T5.heap b4 ([(nar .char p2)] : List Int32) := own_mkStr rfl (own_hp1 hq2) E5q gc5 gv5 ga5
  obtain ⟨fs, hr, hrun, hended, hend⟩ := X5.leaveW hS0 (Nat.zero_le _) (v := some (.ref b4)) (fun h => by rw [Bd.returns] at h; cases h)
  refine ⟨_, _, pre0 _ ?_, hrun, hended, _, _, rfl, ?_, ?_, hend.1, hend.2.1, hend.2.2.1, hend.2.2.2.mono (by decide) (by decide)⟩
  · show Steps p.tables e below (s₁.setTop (mkF m 0 #[.val (.int p1), .val (.int p2), .val (.int p3), .unset] [])) _
    refine XS.iloadN X0.here hx rfl (hb hby own_d_method_3_code_0) rfl ?_
    show Steps p.tables e below (s₁.setTop (mkF m 1 #[.val (.int p1), .val (.int p2), .val (.int p3), .unset] [(.int p1)])) _
    refine XS.ifYes X0.here hx rfl (pc0 := 1) (pc' := 15) rfl (hb hby own_d_method_3_code_1) rfl ((if0 _ _).trans (feq hc1).2) (by decide) (by decide) ?_
    refine XS.iloadN X0.here hx rfl (hb hby own_d_method_3_code_15) rfl ?_
    refine XS.iconst X0.here hx rfl (hb hby own_d_method_3_code_16) ?_
    show Steps p.tables e below (s₁.setTop (mkF m 17 #[.val (.int p1), .val (.int p2), .val (.int p3), .unset] [(.int (1 : Int32)), (.int p1)])) _
    refine XS.icmpNo X0.here hx rfl (hb hby own_d_method_3_code_17) rfl (teq hc17).2 ?_
    refine XS.iconst X0.here hx rfl (hb hby own_d_method_3_code_20) ?_
    show Steps p.tables e below (s₁.setTop (mkF m 21 #[.val (.int p1), .val (.int p2), .val (.int p3), .unset] [(.int (1 : Int32))])) _
    refine st1 _ ?_
    refine XS.astoreN X1.here hx rfl (hb hby own_d_method_3_code_23) rfl rfl (l' := #[.val (.int p1), .val (.int p2), .val (.int p3), .val (.ref b1)]) rfl ?_
    refine XS.aloadN X1.here hx rfl (hb hby own_d_method_3_code_24) rfl rfl ?_
    show Steps p.tables e below (T1.setTop (mkF m 25 #[.val (.int p1), .val (.int p2), .val (.int p3), .val (.ref b1)] [(.ref b1)])) _
    refine XS.iconst X1.here hx rfl (hb hby own_d_method_3_code_25) ?_
    refine XS.iloadN X1.here hx rfl (hb hby own_d_method_3_code_26) rfl ?_
    show Steps p.tables e below (T1.setTop (mkF m 27 #[.val (.int p1), .val (.int p2), .val (.int p3), .val (.ref b1)] [(.int p2), (.int (0 : Int32)), (.ref b1)])) _
    refine st3 _ ?_
    show Steps p.tables e below (T3.setTop (mkF m 28 #[.val (.int p1), .val (.int p2), .val (.int p3), .val (.ref b1)] [])) _
    refine st4 _ ?_
    refine XS.dup X4.here hx rfl (hb hby own_d_method_3_code_31) rfl rfl ?_
    refine XS.aloadN X4.here hx rfl (hb hby own_d_method_3_code_32) rfl rfl ?_
    show Steps p.tables e below (T4.setTop (mkF m 33 #[.val (.int p1), .val (.int p2), .val (.int p3), .val (.ref b1)] [(.ref b1), (.ref b4), (.ref b4)])) _
    refine st5.trans ?_
    show Steps p.tables e below (T5.setTop (mkF m 36 #[.val (.int p1), .val (.int p2), .val (.int p3), .val (.ref b1)] [(.ref b4)])) _
    jvm_step X5.here [X5.here.top, hx, (hb hby own_d_method_3_code_36), X5.method', Bd.returns, Value.isRef, FieldType.isReference]
    first | (intro acts; rw [hr _ acts rfl rfl rfl]) | rw [hr _ _ rfl rfl rfl]
    exact Steps.refl _
  · show QS Z [(nar .char p2)] h0 n0 _ T5.heap _
    exact ⟨b4, rfl, N5a, K4, sz_b4, SV5⟩
  · show CHr Z own_EL s.vm s.heap T5.vm T5.heap
    rw [hh]
    exact CH4.trans (CHv.at X5 hZ hEL CH4.1)
theorem own_d_method_3_code_37 : decode method_3_code 37 = .ok (.iconst 2, 1) := by decide +kernel
theorem own_d_method_3_code_38 : decode method_3_code 38 = .ok (.newarray .char, 2) := by decide +kernel
theorem own_d_method_3_code_40 : decode method_3_code 40 = .ok (.astore_n 3, 1) := by decide +kernel
theorem own_d_method_3_code_41 : decode method_3_code 41 = .ok (.aload_n 3, 1) := by decide +kernel
theorem own_d_method_3_code_42 : decode method_3_code 42 = .ok (.iconst 0, 1) := by decide +kernel
theorem own_d_method_3_code_43 : decode method_3_code 43 = .ok (.iload_n 1, 1) := by decide +kernel
theorem own_d_method_3_code_44 : decode method_3_code 44 = .ok (.castore, 1) := by decide +kernel
theorem own_d_method_3_code_45 : decode method_3_code 45 = .ok (.aload_n 3, 1) := by decide +kernel
theorem own_d_method_3_code_46 : decode method_3_code 46 = .ok (.iconst 1, 1) := by decide +kernel
theorem own_d_method_3_code_47 : decode method_3_code 47 = .ok (.iload_n 2, 1) := by decide +kernel
theorem own_d_method_3_code_48 : decode method_3_code 48 = .ok (.castore, 1) := by decide +kernel
theorem own_d_method_3_code_49 : decode method_3_code 49 = .ok (.new 31, 3) := by decide +kernel
theorem own_d_method_3_code_52 : decode method_3_code 52 = .ok (.dup, 1) := by decide +kernel
theorem own_d_method_3_code_53 : decode method_3_code 53 = .ok (.aload_n 3, 1) := by decide +kernel
theorem own_d_method_3_code_54 : decode method_3_code 54 = .ok (.invokespecial 33, 3) := by decide +kernel
theorem own_d_method_3_code_57 : decode method_3_code 57 = .ok (.areturn, 1) := by decide +kernel
set_option maxRecDepth 65536 in
set_option maxHeartbeats 40000000 in
theorem rs2 (l : Launch) (Z : State) (a0 : Array Value) (hw : ∀ d ∈ tables_1, d.before a0 Z = true) (ws : List Jvm.Cond) (hEL : EW Z a0 own_EL) (p1 p2 p3 : Int32) (G1 : Int32) (h0 : Heap) (n0 : Nat) (Z0 : n0 ≤ h0.size) (O2 : Sta Z Z.heap "java/lang/String" "COMPACT_STRINGS" "Z" (.int G1)) (P5 : ¬ (G1 = (0 : Int32))) (O0 : Old Z n0 h0) (hq2 : Lat (nar .char p2)) (hq3 : Lat (nar .char p3)) (hc1 : ¬ (p1 = (0 : Int32))) (hc17 : ¬ (p1 = (1 : Int32))) :
    MetFree l (⟨"com/example/mudskipper/mudskipper/jpql/TokenEqualsPinLaw", "str", "(ICC)Ljava/lang/String;"⟩ : MethodName) (head1 (Jvm.Cond.code (⟨"com/example/mudskipper/mudskipper/jpql/TokenEqualsPinLaw", "str", "(ICC)Ljava/lang/String;"⟩ : MethodName) method_3_code 4 (some (.object "java/lang/String")) :: ws) ({ frames := 4, cells := 4, slots := 8, locals := 66 } : Room)) (fun a U => a = #[(.int p1), (.int p2), (.int p3)] ∧ Z.Warmed39 U.vm ∧ U.heap = h0 ∧ CHv Z own_EL U.vm h0) (fun _ _ _ _ _ => True) (fun _ U o U' => ∃ v L, o = .returned v ∧ QS Z [(nar .char p2), (nar .char p3)] h0 n0 v U'.heap L ∧ CHr Z own_EL U.vm U.heap U'.vm U'.heap ∧ ReturnedEndW U o U' L 4 8) := by
  refine MetFree.of_bodySF (plainFor_of_name own_pn_com_example_mudskipper_mudskipper_jpql_TokenEqualsPinLaw) hisR ?_
  intro p e s m args below meth c s₁ Bd hml0 hP hK
  obtain ⟨rfl, hZ, hh, hCH0⟩ := hP
  have hx := Bd.exec
  have hby := Bd.bytes
  have hml : c.maxLocals = 4 := hml0
  have hown : s.vm.findClass "com/example/mudskipper/mudskipper/jpql/TokenEqualsPinLaw" = some m.cls := findClass_of_methodNamed Bd.named
  have hnm := (name_of_methodNamed Bd.named Bd.method).1
  have X0 : Stand p l e ({ frames := 4, cells := 4, slots := 8, locals := 66 } : Room) (s.setVm s.vm) m #[(.int p1), (.int p2), (.int p3)] below meth c s₁ [] 0 0 := Stand.of_body Bd
  have e0 : s₁.heap = h0 := by rw [← hh, Bd.state]; rfl
  have N0 := Fr.nil n0
  have CH0 : CHr Z own_EL s.vm h0 s.vm h0 := CHr.refl hCH0
  have hS0 : s.Since s.vm 0 := State.WarmedH.since (State.WarmedH.refl s) 0
  have pre0 : ∀ t, Steps p.tables e below (s₁.setTop (mkF m 0 #[.val (.int p1), .val (.int p2), .val (.int p3), .unset] [])) t → Steps p.tables e below (s₁.setTop (entryFrame m #[(.int p1), (.int p2), (.int p3)] 4)) t := fun t k => castTop (own_ef_method_3_code_xxx m p1 p2 p3) k
  obtain ⟨T1, h1, ka1, X1, e1, E1, A1, st1⟩ := newP X0 hx hZ (hw _ (List.mem_of_getElem? (i := 16) rfl)) e0 (g := (mkF m 38 #[.val (.int p1), .val (.int p2), .val (.int p3), .unset] [(.int (2 : Int32))])) rfl (hb hby own_d_method_3_code_38) rfl (by decide) (cap := 2) (by decide) (by decide) (by decide) (by decide)
  obtain ⟨b1, g1⟩ : ∃ z, z = h0.size := ⟨_, rfl⟩
  rw [← g1] at A1 st1
  have sz_b1 : h0.size ≤ b1 := Nat.le_trans (Keep.refl h0 []).1 (Nat.le_of_eq g1.symm)
  have g_b1 : n0 ≤ b1 := Nat.le_trans Z0 sz_b1
  have CH1 : CHr Z own_EL s.vm h0 s.vm h1 := CH0.trans (CHr.ext E1 CH0.1)
  have K1 : Keep h0 h1 [] := (Keep.refl h0 []).ext E1
  have V_b1 : Arv Z h1 b1 ka1 .char (2 : Int32) [(.int (0 : Int32)), (.int (0 : Int32))] (.int (0 : Int32)) := (Arv.new A1 (by decide)).pad (pad_rep [] (.int (0 : Int32)) 2)
  obtain ⟨cl2, Ar2, q2, S2, N_2, H_2, G2⟩ := id V_b1
  obtain ⟨T3, h3, X3, e3, W3, st3⟩ := stC X1 hx hZ e1 Ar2 (j := (0 : Int32)) (inb_of S2 ⟨by decide, by decide⟩) (g := (mkF m 44 #[.val (.int p1), .val (.int p2), .val (.int p3), .val (.ref b1)] [(.int p2), (.int (0 : Int32)), (.ref b1)])) rfl rfl (hb hby own_d_method_3_code_44)
  have V3_b1 : Arv Z h3 b1 ka1 .char (2 : Int32) [(.int (nar .char p2)), (.int (0 : Int32))] (.int (0 : Int32)) := Arv.set Ar2 q2 S2 N_2 H_2 G2 (fits_nar_char _) W3 0 rfl (Nat.le_of_ble_eq_true rfl)
  have Nf3 := Fr.snoc X3 N0 g_b1
  have CH2 : CHr Z own_EL s.vm h0 s.vm h3 := CH1.trans (CHr.wr W3 (own_safeV (hZ : Z.Warmed39 s.vm).alike V_b1 (by decide)) CH1.1)
  have K2 : Keep h0 h3 [] := K1.wr W3 (Or.inr sz_b1)
  obtain ⟨cl4, Ar4, q4, S4, N_4, H_4, G4⟩ := id V3_b1
  obtain ⟨T5, h5, X5, e5, W5, st5⟩ := stC X3 hx hZ e3 Ar4 (j := (1 : Int32)) (inb_of S4 ⟨by decide, by decide⟩) (g := (mkF m 48 #[.val (.int p1), .val (.int p2), .val (.int p3), .val (.ref b1)] [(.int p3), (.int (1 : Int32)), (.ref b1)])) rfl rfl (hb hby own_d_method_3_code_48)
  have V5_b1 : Arv Z h5 b1 ka1 .char (2 : Int32) [(.int (nar .char p2)), (.int (nar .char p3))] (.int (0 : Int32)) := Arv.set Ar4 q4 S4 N_4 H_4 G4 (fits_nar_char _) W5 1 rfl (Nat.le_of_ble_eq_true rfl)
  have Nf5 := Fr.snoc X5 Nf3 g_b1
  have CH3 : CHr Z own_EL s.vm h0 s.vm h5 := CH2.trans (CHr.wr W5 (own_safeV (hZ : Z.Warmed39 s.vm).alike V3_b1 (by decide)) CH2.1)
  have K3 : Keep h0 h5 [] := K2.wr W5 (Or.inr sz_b1)
  obtain ⟨T6, h6, X6, e6, E6, A6, D6, -, st6⟩ := newO X5 hx hZ hown (hw _ (List.mem_of_getElem? (i := 13) rfl)) (hw _ (List.mem_of_getElem? (i := 14) rfl)) (hw _ (List.mem_of_getElem? (i := 15) rfl)) e5 (g := (mkF m 49 #[.val (.int p1), .val (.int p2), .val (.int p3), .val (.ref b1)] [])) rfl (hb hby own_d_method_3_code_49) (by decide) (by decide)
  obtain ⟨b6, g6⟩ : ∃ z, z = h5.size := ⟨_, rfl⟩
  rw [← g6] at A6 D6 st6
  have sz_b6 : h0.size ≤ b6 := Nat.le_trans K3.1 (Nat.le_of_eq g6.symm)
  have g_b6 : n0 ≤ b6 := Nat.le_trans Z0 sz_b6
  have CH4 : CHr Z own_EL s.vm h0 s.vm h6 := CH3.trans (CHr.ext E6 CH3.1)
  have K4 : Keep h0 h6 [] := K3.ext E6
  have F_value_b6 : Fld Z h6 b6 "java/lang/String" "value" "[B" .null := D6 (Or.inr (hw _ (List.mem_of_getElem? (i := 29) rfl))) (ty := (.array .byte)) (by decide)
  have F_coder_b6 : Fld Z h6 b6 "java/lang/String" "coder" "B" (.int (0 : Int32)) := D6 (Or.inr (hw _ (List.mem_of_getElem? (i := 30) rfl))) (ty := .byte) (by decide)
  have Sf6 : Safe Z own_EL s.vm h6 b6 := Safe.ext E6 CH3.1 (Safe.new (Nat.le_of_eq g6.symm))
  have f8 : Arv Z h6 b1 ka1 .char (2 : Int32) [(.int (nar .char p2)), (.int (nar .char p3))] (.int (0 : Int32)) := (V5_b1.ext E6)
  have f9 : Old Z n0 h6 := ((((O0.ext E1).wr W3 g_b1).wr W5 g_b1).ext E6)
  obtain ⟨_, _, ⟨T7, L7, k7, n7⟩, -, X7, ⟨Lc7, hQ7, l7, y7, z7⟩, st7⟩ := X6.specialBack hx (y := (⟨"java/lang/String", "<init>", "([C)V"⟩ : MethodName)) rfl hown (mvT hZ (hw _ (List.mem_of_getElem? (i := 17) rfl))) (mvT hZ (hw _ (List.mem_of_getElem? (i := 18) rfl))) (mvT hZ (hw _ (List.mem_of_getElem? (i := 19) rfl))) (by decide) (StrChars.Road.backV (W := 1) hZ (own_hws hw) (kI := 4) (hw _ (List.mem_of_getElem? (i := 14) rfl)) (cs := ([(nar .char p2), (nar .char p3)] : List Int32)) (bs := (([(nar .char p2), (nar .char p3)] : List Int32)).map (fun c => c.toInt8.toInt32)) (n := 2) g_b6 (Nat.le_trans Z0 K4.1) A6 F_value_b6 F_coder_b6 (f8 : Arv Z h6 b1 ka1 .char (Int32.ofNat 2) (([(nar .char p2), (nar .char p3)] : List Int32).map Value.int) _) (O2.ext f9.2) P5 rfl rfl (by decide) (by decide) (own_hp2 hq2 hq3) rfl (by decide) (by decide)) (g := (mkF m 54 #[.val (.int p1), .val (.int p2), .val (.int p3), .val (.ref b1)] [(.ref b1), (.ref b6), (.ref b6)])) rfl (by rw [hml]; rfl) (Steps.refl _) (a := b6) (argsL := [(.ref b1)]) (rest := [(.ref b6)]) (lenOf own_pd___C_V rfl) rfl (by show 2 * 0 + _ ≤ _; exact Nat.le_of_eq rfl) (hb hby own_d_method_3_code_54) (fun _ _ => ⟨rfl, e6, (by decide : 2 + 1 ≤ _), (by decide : 6 + 2 ≤ _)⟩)
  dsimp only [Pt.U, Pt.locs, Pt.cells, Pt.slots] at X7 l7 y7 z7 st7 hQ7
  subst l7 y7 z7
  obtain ⟨rfl, N7q, K7q, E7q, gc7, t7, kb7, -, -, -, gv7, ga7⟩ := hQ7
  have N7a := Fr.app Nf5 N7q
  have CH5 : CHr Z own_EL s.vm h0 s.vm T7.heap := CH4.trans (CHr.keep K7q (allS Sf6 all0) CH4.1)
  have K5 : Keep h0 T7.heap [] := K4.trans K7q (allS (Or.inr sz_b6) all0)
  have SV7 : StrV Z T7.heap b6 ([(nar .char p2), (nar .char p3)] : List Int32) := own_mkStr rfl (own_hp2 hq2 hq3) E7q gc7 gv7 ga7
  obtain ⟨fs, hr, hrun, hended, hend⟩ := X7.leaveW hS0 (Nat.zero_le _) (v := some (.ref b6)) (fun h => by rw [Bd.returns] at h; cases h)
  refine ⟨_, _, pre0 _ ?_, hrun, hended, _, _, rfl, ?_, ?_, hend.1, hend.2.1, hend.2.2.1, hend.2.2.2.mono (by decide) (by decide)⟩
  · show Steps p.tables e below (s₁.setTop (mkF m 0 #[.val (.int p1), .val (.int p2), .val (.int p3), .unset] [])) _
    refine XS.iloadN X0.here hx rfl (hb hby own_d_method_3_code_0) rfl ?_
    show Steps p.tables e below (s₁.setTop (mkF m 1 #[.val (.int p1), .val (.int p2), .val (.int p3), .unset] [(.int p1)])) _
    refine XS.ifYes X0.here hx rfl (pc0 := 1) (pc' := 15) rfl (hb hby own_d_method_3_code_1) rfl ((if0 _ _).trans (feq hc1).2) (by decide) (by decide) ?_
    refine XS.iloadN X0.here hx rfl (hb hby own_d_method_3_code_15) rfl ?_
    refine XS.iconst X0.here hx rfl (hb hby own_d_method_3_code_16) ?_
    show Steps p.tables e below (s₁.setTop (mkF m 17 #[.val (.int p1), .val (.int p2), .val (.int p3), .unset] [(.int (1 : Int32)), (.int p1)])) _
    refine XS.icmpYes X0.here hx rfl (pc0 := 17) (pc' := 37) rfl (hb hby own_d_method_3_code_17) rfl (feq hc17).2 (by decide) (by decide) ?_
    refine XS.iconst X0.here hx rfl (hb hby own_d_method_3_code_37) ?_
    show Steps p.tables e below (s₁.setTop (mkF m 38 #[.val (.int p1), .val (.int p2), .val (.int p3), .unset] [(.int (2 : Int32))])) _
    refine st1 _ ?_
    refine XS.astoreN X1.here hx rfl (hb hby own_d_method_3_code_40) rfl rfl (l' := #[.val (.int p1), .val (.int p2), .val (.int p3), .val (.ref b1)]) rfl ?_
    refine XS.aloadN X1.here hx rfl (hb hby own_d_method_3_code_41) rfl rfl ?_
    show Steps p.tables e below (T1.setTop (mkF m 42 #[.val (.int p1), .val (.int p2), .val (.int p3), .val (.ref b1)] [(.ref b1)])) _
    refine XS.iconst X1.here hx rfl (hb hby own_d_method_3_code_42) ?_
    refine XS.iloadN X1.here hx rfl (hb hby own_d_method_3_code_43) rfl ?_
    show Steps p.tables e below (T1.setTop (mkF m 44 #[.val (.int p1), .val (.int p2), .val (.int p3), .val (.ref b1)] [(.int p2), (.int (0 : Int32)), (.ref b1)])) _
    refine st3 _ ?_
    refine XS.aloadN X3.here hx rfl (hb hby own_d_method_3_code_45) rfl rfl ?_
    refine XS.iconst X3.here hx rfl (hb hby own_d_method_3_code_46) ?_
    show Steps p.tables e below (T3.setTop (mkF m 47 #[.val (.int p1), .val (.int p2), .val (.int p3), .val (.ref b1)] [(.int (1 : Int32)), (.ref b1)])) _
    refine XS.iloadN X3.here hx rfl (hb hby own_d_method_3_code_47) rfl ?_
    show Steps p.tables e below (T3.setTop (mkF m 48 #[.val (.int p1), .val (.int p2), .val (.int p3), .val (.ref b1)] [(.int p3), (.int (1 : Int32)), (.ref b1)])) _
    refine st5 _ ?_
    show Steps p.tables e below (T5.setTop (mkF m 49 #[.val (.int p1), .val (.int p2), .val (.int p3), .val (.ref b1)] [])) _
    refine st6 _ ?_
    refine XS.dup X6.here hx rfl (hb hby own_d_method_3_code_52) rfl rfl ?_
    refine XS.aloadN X6.here hx rfl (hb hby own_d_method_3_code_53) rfl rfl ?_
    show Steps p.tables e below (T6.setTop (mkF m 54 #[.val (.int p1), .val (.int p2), .val (.int p3), .val (.ref b1)] [(.ref b1), (.ref b6), (.ref b6)])) _
    refine st7.trans ?_
    show Steps p.tables e below (T7.setTop (mkF m 57 #[.val (.int p1), .val (.int p2), .val (.int p3), .val (.ref b1)] [(.ref b6)])) _
    jvm_step X7.here [X7.here.top, hx, (hb hby own_d_method_3_code_57), X7.method', Bd.returns, Value.isRef, FieldType.isReference]
    first | (intro acts; rw [hr _ acts rfl rfl rfl]) | rw [hr _ _ rfl rfl rfl]
    exact Steps.refl _
  · show QS Z [(nar .char p2), (nar .char p3)] h0 n0 _ T7.heap _
    exact ⟨b6, rfl, N7a, K5, sz_b6, SV7⟩
  · show CHr Z own_EL s.vm s.heap T7.vm T7.heap
    rw [hh]
    exact CH5.trans (CHv.at X7 hZ hEL CH5.1)
theorem rmS (l : Launch) (Z : State) (a0 : Array Value) (hw : ∀ d ∈ tables_1, d.before a0 Z = true) (ws : List Jvm.Cond) (hEL : EW Z a0 own_EL) (p1 p2 p3 : Int32) (G1 : Int32) (h0 : Heap) (n0 : Nat) (Z0 : n0 ≤ h0.size) (O2 : Sta Z Z.heap "java/lang/String" "COMPACT_STRINGS" "Z" (.int G1)) (P5 : ¬ (G1 = (0 : Int32))) (O0 : Old Z n0 h0) (q2 : Lat (nar .char p2)) (q3 : Lat (nar .char p3)) :
    MetFree l (⟨"com/example/mudskipper/mudskipper/jpql/TokenEqualsPinLaw", "str", "(ICC)Ljava/lang/String;"⟩ : MethodName) (head1 (Jvm.Cond.code (⟨"com/example/mudskipper/mudskipper/jpql/TokenEqualsPinLaw", "str", "(ICC)Ljava/lang/String;"⟩ : MethodName) method_3_code 4 (some (.object "java/lang/String")) :: ws) ({ frames := 4, cells := 4, slots := 8, locals := 66 } : Room)) (fun a U => a = #[(.int p1), (.int p2), (.int p3)] ∧ Z.Warmed39 U.vm ∧ U.heap = h0 ∧ CHv Z own_EL U.vm h0) (fun _ _ _ _ _ => True) (fun _ U o U' => ∃ v L, o = .returned v ∧ QS Z (own_cs p1 p2 p3) h0 n0 v U'.heap L ∧ CHr Z own_EL U.vm U.heap U'.vm U'.heap ∧ ReturnedEndW U o U' L 4 8) := by
  by_cases c0 : p1 = 0
  · have e : own_cs p1 p2 p3 = [] := by rw [own_cs, if_pos c0]
    rw [e]; exact rs0 l Z a0 hw ws hEL p1 p2 p3 G1 h0 n0 Z0 O2 P5 O0 q2 q3 c0
  · by_cases c1 : p1 = 1
    · have e : own_cs p1 p2 p3 = [nar .char p2] := by rw [own_cs, if_neg c0, if_pos c1]
      rw [e]; exact rs1 l Z a0 hw ws hEL p1 p2 p3 G1 h0 n0 Z0 O2 P5 O0 q2 q3 c0 c1
    · have e : own_cs p1 p2 p3 = [nar .char p2, nar .char p3] := by rw [own_cs, if_neg c0, if_neg c1]
      rw [e]; exact rs2 l Z a0 hw ws hEL p1 p2 p3 G1 h0 n0 Z0 O2 P5 O0 q2 q3 c0 c1
theorem own_cs_len (p1 p2 p3 : Int32) : (own_cs p1 p2 p3).length ≤ 4000 := by unfold own_cs; split <;> (try split) <;> simp
def own_kd (t0 t1 t2 t3 t4 t5 t6 : Addr) (i : Int32) : Addr := if i = 0 then t0 else if i = 1 then t1 else if i = 2 then t2 else if i = 3 then t3 else if i = 4 then t4 else if i = 5 then t5 else t6
def KSt (Z : State) (t0 t1 t2 t3 t4 t5 t6 : Addr) : Prop := Sta Z Z.heap "com/example/mudskipper/mudskipper/jpql/TokenKind" "IDENTIFIER" "Lcom/example/mudskipper/mudskipper/jpql/TokenKind;" (.ref t0) ∧ Sta Z Z.heap "com/example/mudskipper/mudskipper/jpql/TokenKind" "STRING" "Lcom/example/mudskipper/mudskipper/jpql/TokenKind;" (.ref t1) ∧ Sta Z Z.heap "com/example/mudskipper/mudskipper/jpql/TokenKind" "NUMBER" "Lcom/example/mudskipper/mudskipper/jpql/TokenKind;" (.ref t2) ∧ Sta Z Z.heap "com/example/mudskipper/mudskipper/jpql/TokenKind" "NAMED_PARAMETER" "Lcom/example/mudskipper/mudskipper/jpql/TokenKind;" (.ref t3) ∧ Sta Z Z.heap "com/example/mudskipper/mudskipper/jpql/TokenKind" "POSITIONAL_PARAMETER" "Lcom/example/mudskipper/mudskipper/jpql/TokenKind;" (.ref t4) ∧ Sta Z Z.heap "com/example/mudskipper/mudskipper/jpql/TokenKind" "SYMBOL" "Lcom/example/mudskipper/mudskipper/jpql/TokenKind;" (.ref t5) ∧ Sta Z Z.heap "com/example/mudskipper/mudskipper/jpql/TokenKind" "END" "Lcom/example/mudskipper/mudskipper/jpql/TokenKind;" (.ref t6)
def QN (a : Addr) (h0 : Heap) (n0 : Nat) (v : Option Value) (h : Heap) (L : List Loc) : Prop := v = some (.ref a) ∧ Fr n0 L ∧ h = h0
theorem own_d_method_2_code_0 : decode method_2_code 0 = .ok (.iload_n 0, 1) := by decide +kernel
theorem own_d_method_2_code_1 : decode method_2_code 1 = .ok (.ifCond .ne 7, 3) := by decide +kernel
theorem own_d_method_2_code_4 : decode method_2_code 4 = .ok (.getstatic 7, 3) := by decide +kernel
theorem own_d_method_2_code_7 : decode method_2_code 7 = .ok (.areturn, 1) := by decide +kernel
theorem own_ef_method_2_code_x (m : MethodId) (x0 : Int32) : entryFrame m #[(.int x0)] 1 = mkF m 0 #[.val (.int x0)] [] := by first | (simp [entryFrame, mkF, argsToLocals, Value.category]; done) | rfl
set_option maxRecDepth 65536 in
set_option maxHeartbeats 40000000 in
theorem rk0 (l : Launch) (Z : State) (a0 : Array Value) (hw : ∀ d ∈ tables_1, d.before a0 Z = true) (ws : List Jvm.Cond) (p1 : Int32) (t0 t1 t2 t3 t4 t5 t6 : Addr) (h0 : Heap) (n0 : Nat) (Z0 : n0 ≤ h0.size) (KS : KSt Z t0 t1 t2 t3 t4 t5 t6) (O0 : Old Z n0 h0) (hc1 : p1 = (0 : Int32)) :
    MetFree l (⟨"com/example/mudskipper/mudskipper/jpql/TokenEqualsPinLaw", "kindOf", "(I)Lcom/example/mudskipper/mudskipper/jpql/TokenKind;"⟩ : MethodName) (head1 (Jvm.Cond.code (⟨"com/example/mudskipper/mudskipper/jpql/TokenEqualsPinLaw", "kindOf", "(I)Lcom/example/mudskipper/mudskipper/jpql/TokenKind;"⟩ : MethodName) method_2_code 1 (some (.object "com/example/mudskipper/mudskipper/jpql/TokenKind")) :: ws) ({ frames := 0, cells := 0, slots := 0, locals := 0 } : Room)) (fun a U => a = #[(.int p1)] ∧ Z.Warmed39 U.vm ∧ U.heap = h0) (fun _ _ _ _ _ => True) (fun _ U o U' => ∃ v L, o = .returned v ∧ QN t0 h0 n0 v U'.heap L ∧ FrameEnd U o U' L 0 0) := by
  refine MetFree.of_bodySF (plainFor_of_name own_pn_com_example_mudskipper_mudskipper_jpql_TokenEqualsPinLaw) hisR ?_
  intro p e s m args below meth c s₁ Bd hml0 hP hK
  obtain ⟨rfl, hZ, hh⟩ := hP
  have hx := Bd.exec
  have hby := Bd.bytes
  have hml : c.maxLocals = 1 := hml0
  have hown : s.vm.findClass "com/example/mudskipper/mudskipper/jpql/TokenEqualsPinLaw" = some m.cls := findClass_of_methodNamed Bd.named
  have hnm := (name_of_methodNamed Bd.named Bd.method).1
  have X0 : Stand p l e ({ frames := 0, cells := 0, slots := 0, locals := 0 } : Room) s m #[(.int p1)] below meth c s₁ [] 0 0 := Stand.of_body Bd
  have e0 : s₁.heap = h0 := by rw [← hh, Bd.state]; rfl
  have N0 := Fr.nil n0
  have pre0 : ∀ t, Steps p.tables e below (s₁.setTop (mkF m 0 #[.val (.int p1)] [])) t → Steps p.tables e below (s₁.setTop (entryFrame m #[(.int p1)] 1)) t := fun t k => castTop (own_ef_method_2_code_x m p1) k
  obtain ⟨T1, X1, e1, st1⟩ := getS2 X0 hx hZ hown (host := "") (Or.inl (hw _ (List.mem_of_getElem? (i := 7) rfl))) Via.refl e0 (KS.1.ext O0.2) (g := (mkF m 4 #[.val (.int p1)] [])) rfl (hb hby own_d_method_2_code_4)
  obtain ⟨fs, hr, hrun, hended, hW, hsame⟩ := X1.leave (v := some (.ref t0)) (fun h => by rw [Bd.returns] at h; cases h)
  refine ⟨_, _, pre0 _ ?_, hrun, hended, _, _, rfl, ?_, ⟨_, rfl⟩, hW, hsame.mono (by decide) (by decide)⟩
  · show Steps p.tables e below (s₁.setTop (mkF m 0 #[.val (.int p1)] [])) _
    refine XS.iloadN X0.here hx rfl (hb hby own_d_method_2_code_0) rfl ?_
    show Steps p.tables e below (s₁.setTop (mkF m 1 #[.val (.int p1)] [(.int p1)])) _
    refine XS.ifNo X0.here hx rfl (hb hby own_d_method_2_code_1) rfl ((if0 _ _).trans (teq hc1).2) ?_
    show Steps p.tables e below (s₁.setTop (mkF m 4 #[.val (.int p1)] [])) _
    refine st1 _ ?_
    show Steps p.tables e below (T1.setTop (mkF m 7 #[.val (.int p1)] [(.ref t0)])) _
    jvm_step X1.here [X1.here.top, hx, (hb hby own_d_method_2_code_7), X1.method', Bd.returns, Value.isRef, FieldType.isReference]
    first | (intro acts; rw [hr _ acts rfl rfl rfl]) | rw [hr _ _ rfl rfl rfl]
    exact Steps.refl _
  · show QN t0 h0 n0 _ T1.heap _
    rw [e1]
    exact ⟨rfl, N0, rfl⟩
theorem own_d_method_2_code_8 : decode method_2_code 8 = .ok (.iload_n 0, 1) := by decide +kernel
theorem own_d_method_2_code_9 : decode method_2_code 9 = .ok (.iconst 1, 1) := by decide +kernel
theorem own_d_method_2_code_10 : decode method_2_code 10 = .ok (.if_icmp .ne 7, 3) := by decide +kernel
theorem own_d_method_2_code_13 : decode method_2_code 13 = .ok (.getstatic 13, 3) := by decide +kernel
theorem own_d_method_2_code_16 : decode method_2_code 16 = .ok (.areturn, 1) := by decide +kernel
set_option maxRecDepth 65536 in
set_option maxHeartbeats 40000000 in
theorem rk1 (l : Launch) (Z : State) (a0 : Array Value) (hw : ∀ d ∈ tables_1, d.before a0 Z = true) (ws : List Jvm.Cond) (p1 : Int32) (t0 t1 t2 t3 t4 t5 t6 : Addr) (h0 : Heap) (n0 : Nat) (Z0 : n0 ≤ h0.size) (KS : KSt Z t0 t1 t2 t3 t4 t5 t6) (O0 : Old Z n0 h0) (hc1 : ¬ (p1 = (0 : Int32))) (hc10 : p1 = (1 : Int32)) :
    MetFree l (⟨"com/example/mudskipper/mudskipper/jpql/TokenEqualsPinLaw", "kindOf", "(I)Lcom/example/mudskipper/mudskipper/jpql/TokenKind;"⟩ : MethodName) (head1 (Jvm.Cond.code (⟨"com/example/mudskipper/mudskipper/jpql/TokenEqualsPinLaw", "kindOf", "(I)Lcom/example/mudskipper/mudskipper/jpql/TokenKind;"⟩ : MethodName) method_2_code 1 (some (.object "com/example/mudskipper/mudskipper/jpql/TokenKind")) :: ws) ({ frames := 0, cells := 0, slots := 0, locals := 0 } : Room)) (fun a U => a = #[(.int p1)] ∧ Z.Warmed39 U.vm ∧ U.heap = h0) (fun _ _ _ _ _ => True) (fun _ U o U' => ∃ v L, o = .returned v ∧ QN t1 h0 n0 v U'.heap L ∧ FrameEnd U o U' L 0 0) := by
  refine MetFree.of_bodySF (plainFor_of_name own_pn_com_example_mudskipper_mudskipper_jpql_TokenEqualsPinLaw) hisR ?_
  intro p e s m args below meth c s₁ Bd hml0 hP hK
  obtain ⟨rfl, hZ, hh⟩ := hP
  have hx := Bd.exec
  have hby := Bd.bytes
  have hml : c.maxLocals = 1 := hml0
  have hown : s.vm.findClass "com/example/mudskipper/mudskipper/jpql/TokenEqualsPinLaw" = some m.cls := findClass_of_methodNamed Bd.named
  have hnm := (name_of_methodNamed Bd.named Bd.method).1
  have X0 : Stand p l e ({ frames := 0, cells := 0, slots := 0, locals := 0 } : Room) s m #[(.int p1)] below meth c s₁ [] 0 0 := Stand.of_body Bd
  have e0 : s₁.heap = h0 := by rw [← hh, Bd.state]; rfl
  have N0 := Fr.nil n0
  have pre0 : ∀ t, Steps p.tables e below (s₁.setTop (mkF m 0 #[.val (.int p1)] [])) t → Steps p.tables e below (s₁.setTop (entryFrame m #[(.int p1)] 1)) t := fun t k => castTop (own_ef_method_2_code_x m p1) k
  obtain ⟨T1, X1, e1, st1⟩ := getS2 X0 hx hZ hown (host := "") (Or.inl (hw _ (List.mem_of_getElem? (i := 94) rfl))) Via.refl e0 (KS.2.1.ext O0.2) (g := (mkF m 13 #[.val (.int p1)] [])) rfl (hb hby own_d_method_2_code_13)
  obtain ⟨fs, hr, hrun, hended, hW, hsame⟩ := X1.leave (v := some (.ref t1)) (fun h => by rw [Bd.returns] at h; cases h)
  refine ⟨_, _, pre0 _ ?_, hrun, hended, _, _, rfl, ?_, ⟨_, rfl⟩, hW, hsame.mono (by decide) (by decide)⟩
  · show Steps p.tables e below (s₁.setTop (mkF m 0 #[.val (.int p1)] [])) _
    refine XS.iloadN X0.here hx rfl (hb hby own_d_method_2_code_0) rfl ?_
    show Steps p.tables e below (s₁.setTop (mkF m 1 #[.val (.int p1)] [(.int p1)])) _
    refine XS.ifYes X0.here hx rfl (pc0 := 1) (pc' := 8) rfl (hb hby own_d_method_2_code_1) rfl ((if0 _ _).trans (feq hc1).2) (by decide) (by decide) ?_
    refine XS.iloadN X0.here hx rfl (hb hby own_d_method_2_code_8) rfl ?_
    refine XS.iconst X0.here hx rfl (hb hby own_d_method_2_code_9) ?_
    show Steps p.tables e below (s₁.setTop (mkF m 10 #[.val (.int p1)] [(.int (1 : Int32)), (.int p1)])) _
    refine XS.icmpNo X0.here hx rfl (hb hby own_d_method_2_code_10) rfl (teq hc10).2 ?_
    show Steps p.tables e below (s₁.setTop (mkF m 13 #[.val (.int p1)] [])) _
    refine st1 _ ?_
    show Steps p.tables e below (T1.setTop (mkF m 16 #[.val (.int p1)] [(.ref t1)])) _
    jvm_step X1.here [X1.here.top, hx, (hb hby own_d_method_2_code_16), X1.method', Bd.returns, Value.isRef, FieldType.isReference]
    first | (intro acts; rw [hr _ acts rfl rfl rfl]) | rw [hr _ _ rfl rfl rfl]
    exact Steps.refl _
  · show QN t1 h0 n0 _ T1.heap _
    rw [e1]
    exact ⟨rfl, N0, rfl⟩
theorem own_d_method_2_code_17 : decode method_2_code 17 = .ok (.iload_n 0, 1) := by decide +kernel
theorem own_d_method_2_code_18 : decode method_2_code 18 = .ok (.iconst 2, 1) := by decide +kernel
theorem own_d_method_2_code_19 : decode method_2_code 19 = .ok (.if_icmp .ne 7, 3) := by decide +kernel
theorem own_d_method_2_code_22 : decode method_2_code 22 = .ok (.getstatic 16, 3) := by decide +kernel
theorem own_d_method_2_code_25 : decode method_2_code 25 = .ok (.areturn, 1) := by decide +kernel
set_option maxRecDepth 65536 in
set_option maxHeartbeats 40000000 in
theorem rk2 (l : Launch) (Z : State) (a0 : Array Value) (hw : ∀ d ∈ tables_1, d.before a0 Z = true) (ws : List Jvm.Cond) (p1 : Int32) (t0 t1 t2 t3 t4 t5 t6 : Addr) (h0 : Heap) (n0 : Nat) (Z0 : n0 ≤ h0.size) (KS : KSt Z t0 t1 t2 t3 t4 t5 t6) (O0 : Old Z n0 h0) (hc1 : ¬ (p1 = (0 : Int32))) (hc10 : ¬ (p1 = (1 : Int32))) (hc19 : p1 = (2 : Int32)) :
    MetFree l (⟨"com/example/mudskipper/mudskipper/jpql/TokenEqualsPinLaw", "kindOf", "(I)Lcom/example/mudskipper/mudskipper/jpql/TokenKind;"⟩ : MethodName) (head1 (Jvm.Cond.code (⟨"com/example/mudskipper/mudskipper/jpql/TokenEqualsPinLaw", "kindOf", "(I)Lcom/example/mudskipper/mudskipper/jpql/TokenKind;"⟩ : MethodName) method_2_code 1 (some (.object "com/example/mudskipper/mudskipper/jpql/TokenKind")) :: ws) ({ frames := 0, cells := 0, slots := 0, locals := 0 } : Room)) (fun a U => a = #[(.int p1)] ∧ Z.Warmed39 U.vm ∧ U.heap = h0) (fun _ _ _ _ _ => True) (fun _ U o U' => ∃ v L, o = .returned v ∧ QN t2 h0 n0 v U'.heap L ∧ FrameEnd U o U' L 0 0) := by
  refine MetFree.of_bodySF (plainFor_of_name own_pn_com_example_mudskipper_mudskipper_jpql_TokenEqualsPinLaw) hisR ?_
  intro p e s m args below meth c s₁ Bd hml0 hP hK
  obtain ⟨rfl, hZ, hh⟩ := hP
  have hx := Bd.exec
  have hby := Bd.bytes
  have hml : c.maxLocals = 1 := hml0
  have hown : s.vm.findClass "com/example/mudskipper/mudskipper/jpql/TokenEqualsPinLaw" = some m.cls := findClass_of_methodNamed Bd.named
  have hnm := (name_of_methodNamed Bd.named Bd.method).1
  have X0 : Stand p l e ({ frames := 0, cells := 0, slots := 0, locals := 0 } : Room) s m #[(.int p1)] below meth c s₁ [] 0 0 := Stand.of_body Bd
  have e0 : s₁.heap = h0 := by rw [← hh, Bd.state]; rfl
  have N0 := Fr.nil n0
  have pre0 : ∀ t, Steps p.tables e below (s₁.setTop (mkF m 0 #[.val (.int p1)] [])) t → Steps p.tables e below (s₁.setTop (entryFrame m #[(.int p1)] 1)) t := fun t k => castTop (own_ef_method_2_code_x m p1) k
  obtain ⟨T1, X1, e1, st1⟩ := getS2 X0 hx hZ hown (host := "") (Or.inl (hw _ (List.mem_of_getElem? (i := 76) rfl))) Via.refl e0 (KS.2.2.1.ext O0.2) (g := (mkF m 22 #[.val (.int p1)] [])) rfl (hb hby own_d_method_2_code_22)
  obtain ⟨fs, hr, hrun, hended, hW, hsame⟩ := X1.leave (v := some (.ref t2)) (fun h => by rw [Bd.returns] at h; cases h)
  refine ⟨_, _, pre0 _ ?_, hrun, hended, _, _, rfl, ?_, ⟨_, rfl⟩, hW, hsame.mono (by decide) (by decide)⟩
  · show Steps p.tables e below (s₁.setTop (mkF m 0 #[.val (.int p1)] [])) _
    refine XS.iloadN X0.here hx rfl (hb hby own_d_method_2_code_0) rfl ?_
    show Steps p.tables e below (s₁.setTop (mkF m 1 #[.val (.int p1)] [(.int p1)])) _
    refine XS.ifYes X0.here hx rfl (pc0 := 1) (pc' := 8) rfl (hb hby own_d_method_2_code_1) rfl ((if0 _ _).trans (feq hc1).2) (by decide) (by decide) ?_
    refine XS.iloadN X0.here hx rfl (hb hby own_d_method_2_code_8) rfl ?_
    refine XS.iconst X0.here hx rfl (hb hby own_d_method_2_code_9) ?_
    show Steps p.tables e below (s₁.setTop (mkF m 10 #[.val (.int p1)] [(.int (1 : Int32)), (.int p1)])) _
    refine XS.icmpYes X0.here hx rfl (pc0 := 10) (pc' := 17) rfl (hb hby own_d_method_2_code_10) rfl (feq hc10).2 (by decide) (by decide) ?_
    refine XS.iloadN X0.here hx rfl (hb hby own_d_method_2_code_17) rfl ?_
    refine XS.iconst X0.here hx rfl (hb hby own_d_method_2_code_18) ?_
    show Steps p.tables e below (s₁.setTop (mkF m 19 #[.val (.int p1)] [(.int (2 : Int32)), (.int p1)])) _
    refine XS.icmpNo X0.here hx rfl (hb hby own_d_method_2_code_19) rfl (teq hc19).2 ?_
    show Steps p.tables e below (s₁.setTop (mkF m 22 #[.val (.int p1)] [])) _
    refine st1 _ ?_
    show Steps p.tables e below (T1.setTop (mkF m 25 #[.val (.int p1)] [(.ref t2)])) _
    jvm_step X1.here [X1.here.top, hx, (hb hby own_d_method_2_code_25), X1.method', Bd.returns, Value.isRef, FieldType.isReference]
    first | (intro acts; rw [hr _ acts rfl rfl rfl]) | rw [hr _ _ rfl rfl rfl]
    exact Steps.refl _
  · show QN t2 h0 n0 _ T1.heap _
    rw [e1]
    exact ⟨rfl, N0, rfl⟩
theorem own_d_method_2_code_26 : decode method_2_code 26 = .ok (.iload_n 0, 1) := by decide +kernel
theorem own_d_method_2_code_27 : decode method_2_code 27 = .ok (.iconst 3, 1) := by decide +kernel
theorem own_d_method_2_code_28 : decode method_2_code 28 = .ok (.if_icmp .ne 7, 3) := by decide +kernel
theorem own_d_method_2_code_31 : decode method_2_code 31 = .ok (.getstatic 19, 3) := by decide +kernel
theorem own_d_method_2_code_34 : decode method_2_code 34 = .ok (.areturn, 1) := by decide +kernel
set_option maxRecDepth 65536 in
set_option maxHeartbeats 40000000 in
theorem rk3 (l : Launch) (Z : State) (a0 : Array Value) (hw : ∀ d ∈ tables_1, d.before a0 Z = true) (ws : List Jvm.Cond) (p1 : Int32) (t0 t1 t2 t3 t4 t5 t6 : Addr) (h0 : Heap) (n0 : Nat) (Z0 : n0 ≤ h0.size) (KS : KSt Z t0 t1 t2 t3 t4 t5 t6) (O0 : Old Z n0 h0) (hc1 : ¬ (p1 = (0 : Int32))) (hc10 : ¬ (p1 = (1 : Int32))) (hc19 : ¬ (p1 = (2 : Int32))) (hc28 : p1 = (3 : Int32)) :
    MetFree l (⟨"com/example/mudskipper/mudskipper/jpql/TokenEqualsPinLaw", "kindOf", "(I)Lcom/example/mudskipper/mudskipper/jpql/TokenKind;"⟩ : MethodName) (head1 (Jvm.Cond.code (⟨"com/example/mudskipper/mudskipper/jpql/TokenEqualsPinLaw", "kindOf", "(I)Lcom/example/mudskipper/mudskipper/jpql/TokenKind;"⟩ : MethodName) method_2_code 1 (some (.object "com/example/mudskipper/mudskipper/jpql/TokenKind")) :: ws) ({ frames := 0, cells := 0, slots := 0, locals := 0 } : Room)) (fun a U => a = #[(.int p1)] ∧ Z.Warmed39 U.vm ∧ U.heap = h0) (fun _ _ _ _ _ => True) (fun _ U o U' => ∃ v L, o = .returned v ∧ QN t3 h0 n0 v U'.heap L ∧ FrameEnd U o U' L 0 0) := by
  refine MetFree.of_bodySF (plainFor_of_name own_pn_com_example_mudskipper_mudskipper_jpql_TokenEqualsPinLaw) hisR ?_
  intro p e s m args below meth c s₁ Bd hml0 hP hK
  obtain ⟨rfl, hZ, hh⟩ := hP
  have hx := Bd.exec
  have hby := Bd.bytes
  have hml : c.maxLocals = 1 := hml0
  have hown : s.vm.findClass "com/example/mudskipper/mudskipper/jpql/TokenEqualsPinLaw" = some m.cls := findClass_of_methodNamed Bd.named
  have hnm := (name_of_methodNamed Bd.named Bd.method).1
  have X0 : Stand p l e ({ frames := 0, cells := 0, slots := 0, locals := 0 } : Room) s m #[(.int p1)] below meth c s₁ [] 0 0 := Stand.of_body Bd
  have e0 : s₁.heap = h0 := by rw [← hh, Bd.state]; rfl
  have N0 := Fr.nil n0
  have pre0 : ∀ t, Steps p.tables e below (s₁.setTop (mkF m 0 #[.val (.int p1)] [])) t → Steps p.tables e below (s₁.setTop (entryFrame m #[(.int p1)] 1)) t := fun t k => castTop (own_ef_method_2_code_x m p1) k
  obtain ⟨T1, X1, e1, st1⟩ := getS2 X0 hx hZ hown (host := "") (Or.inl (hw _ (List.mem_of_getElem? (i := 54) rfl))) Via.refl e0 (KS.2.2.2.1.ext O0.2) (g := (mkF m 31 #[.val (.int p1)] [])) rfl (hb hby own_d_method_2_code_31)
  obtain ⟨fs, hr, hrun, hended, hW, hsame⟩ := X1.leave (v := some (.ref t3)) (fun h => by rw [Bd.returns] at h; cases h)
  refine ⟨_, _, pre0 _ ?_, hrun, hended, _, _, rfl, ?_, ⟨_, rfl⟩, hW, hsame.mono (by decide) (by decide)⟩
  · show Steps p.tables e below (s₁.setTop (mkF m 0 #[.val (.int p1)] [])) _
    refine XS.iloadN X0.here hx rfl (hb hby own_d_method_2_code_0) rfl ?_
    show Steps p.tables e below (s₁.setTop (mkF m 1 #[.val (.int p1)] [(.int p1)])) _
    refine XS.ifYes X0.here hx rfl (pc0 := 1) (pc' := 8) rfl (hb hby own_d_method_2_code_1) rfl ((if0 _ _).trans (feq hc1).2) (by decide) (by decide) ?_
    refine XS.iloadN X0.here hx rfl (hb hby own_d_method_2_code_8) rfl ?_
    refine XS.iconst X0.here hx rfl (hb hby own_d_method_2_code_9) ?_
    show Steps p.tables e below (s₁.setTop (mkF m 10 #[.val (.int p1)] [(.int (1 : Int32)), (.int p1)])) _
    refine XS.icmpYes X0.here hx rfl (pc0 := 10) (pc' := 17) rfl (hb hby own_d_method_2_code_10) rfl (feq hc10).2 (by decide) (by decide) ?_
    refine XS.iloadN X0.here hx rfl (hb hby own_d_method_2_code_17) rfl ?_
    refine XS.iconst X0.here hx rfl (hb hby own_d_method_2_code_18) ?_
    show Steps p.tables e below (s₁.setTop (mkF m 19 #[.val (.int p1)] [(.int (2 : Int32)), (.int p1)])) _
    refine XS.icmpYes X0.here hx rfl (pc0 := 19) (pc' := 26) rfl (hb hby own_d_method_2_code_19) rfl (feq hc19).2 (by decide) (by decide) ?_
    refine XS.iloadN X0.here hx rfl (hb hby own_d_method_2_code_26) rfl ?_
    refine XS.iconst X0.here hx rfl (hb hby own_d_method_2_code_27) ?_
    show Steps p.tables e below (s₁.setTop (mkF m 28 #[.val (.int p1)] [(.int (3 : Int32)), (.int p1)])) _
    refine XS.icmpNo X0.here hx rfl (hb hby own_d_method_2_code_28) rfl (teq hc28).2 ?_
    show Steps p.tables e below (s₁.setTop (mkF m 31 #[.val (.int p1)] [])) _
    refine st1 _ ?_
    show Steps p.tables e below (T1.setTop (mkF m 34 #[.val (.int p1)] [(.ref t3)])) _
    jvm_step X1.here [X1.here.top, hx, (hb hby own_d_method_2_code_34), X1.method', Bd.returns, Value.isRef, FieldType.isReference]
    first | (intro acts; rw [hr _ acts rfl rfl rfl]) | rw [hr _ _ rfl rfl rfl]
    exact Steps.refl _
  · show QN t3 h0 n0 _ T1.heap _
    rw [e1]
    exact ⟨rfl, N0, rfl⟩
theorem own_d_method_2_code_35 : decode method_2_code 35 = .ok (.iload_n 0, 1) := by decide +kernel
theorem own_d_method_2_code_36 : decode method_2_code 36 = .ok (.iconst 4, 1) := by decide +kernel
theorem own_d_method_2_code_37 : decode method_2_code 37 = .ok (.if_icmp .ne 7, 3) := by decide +kernel
theorem own_d_method_2_code_40 : decode method_2_code 40 = .ok (.getstatic 22, 3) := by decide +kernel
theorem own_d_method_2_code_43 : decode method_2_code 43 = .ok (.areturn, 1) := by decide +kernel
set_option maxRecDepth 65536 in
set_option maxHeartbeats 40000000 in
theorem rk4 (l : Launch) (Z : State) (a0 : Array Value) (hw : ∀ d ∈ tables_1, d.before a0 Z = true) (ws : List Jvm.Cond) (p1 : Int32) (t0 t1 t2 t3 t4 t5 t6 : Addr) (h0 : Heap) (n0 : Nat) (Z0 : n0 ≤ h0.size) (KS : KSt Z t0 t1 t2 t3 t4 t5 t6) (O0 : Old Z n0 h0) (hc1 : ¬ (p1 = (0 : Int32))) (hc10 : ¬ (p1 = (1 : Int32))) (hc19 : ¬ (p1 = (2 : Int32))) (hc28 : ¬ (p1 = (3 : Int32))) (hc37 : p1 = (4 : Int32)) :
    MetFree l (⟨"com/example/mudskipper/mudskipper/jpql/TokenEqualsPinLaw", "kindOf", "(I)Lcom/example/mudskipper/mudskipper/jpql/TokenKind;"⟩ : MethodName) (head1 (Jvm.Cond.code (⟨"com/example/mudskipper/mudskipper/jpql/TokenEqualsPinLaw", "kindOf", "(I)Lcom/example/mudskipper/mudskipper/jpql/TokenKind;"⟩ : MethodName) method_2_code 1 (some (.object "com/example/mudskipper/mudskipper/jpql/TokenKind")) :: ws) ({ frames := 0, cells := 0, slots := 0, locals := 0 } : Room)) (fun a U => a = #[(.int p1)] ∧ Z.Warmed39 U.vm ∧ U.heap = h0) (fun _ _ _ _ _ => True) (fun _ U o U' => ∃ v L, o = .returned v ∧ QN t4 h0 n0 v U'.heap L ∧ FrameEnd U o U' L 0 0) := by
  refine MetFree.of_bodySF (plainFor_of_name own_pn_com_example_mudskipper_mudskipper_jpql_TokenEqualsPinLaw) hisR ?_
  intro p e s m args below meth c s₁ Bd hml0 hP hK
  obtain ⟨rfl, hZ, hh⟩ := hP
  have hx := Bd.exec
  have hby := Bd.bytes
  have hml : c.maxLocals = 1 := hml0
  have hown : s.vm.findClass "com/example/mudskipper/mudskipper/jpql/TokenEqualsPinLaw" = some m.cls := findClass_of_methodNamed Bd.named
  have hnm := (name_of_methodNamed Bd.named Bd.method).1
  have X0 : Stand p l e ({ frames := 0, cells := 0, slots := 0, locals := 0 } : Room) s m #[(.int p1)] below meth c s₁ [] 0 0 := Stand.of_body Bd
  have e0 : s₁.heap = h0 := by rw [← hh, Bd.state]; rfl
  have N0 := Fr.nil n0
  have pre0 : ∀ t, Steps p.tables e below (s₁.setTop (mkF m 0 #[.val (.int p1)] [])) t → Steps p.tables e below (s₁.setTop (entryFrame m #[(.int p1)] 1)) t := fun t k => castTop (own_ef_method_2_code_x m p1) k
  obtain ⟨T1, X1, e1, st1⟩ := getS2 X0 hx hZ hown (host := "") (Or.inl (hw _ (List.mem_of_getElem? (i := 92) rfl))) Via.refl e0 (KS.2.2.2.2.1.ext O0.2) (g := (mkF m 40 #[.val (.int p1)] [])) rfl (hb hby own_d_method_2_code_40)
  obtain ⟨fs, hr, hrun, hended, hW, hsame⟩ := X1.leave (v := some (.ref t4)) (fun h => by rw [Bd.returns] at h; cases h)
  refine ⟨_, _, pre0 _ ?_, hrun, hended, _, _, rfl, ?_, ⟨_, rfl⟩, hW, hsame.mono (by decide) (by decide)⟩
  · show Steps p.tables e below (s₁.setTop (mkF m 0 #[.val (.int p1)] [])) _
    refine XS.iloadN X0.here hx rfl (hb hby own_d_method_2_code_0) rfl ?_
    show Steps p.tables e below (s₁.setTop (mkF m 1 #[.val (.int p1)] [(.int p1)])) _
    refine XS.ifYes X0.here hx rfl (pc0 := 1) (pc' := 8) rfl (hb hby own_d_method_2_code_1) rfl ((if0 _ _).trans (feq hc1).2) (by decide) (by decide) ?_
    refine XS.iloadN X0.here hx rfl (hb hby own_d_method_2_code_8) rfl ?_
    refine XS.iconst X0.here hx rfl (hb hby own_d_method_2_code_9) ?_
    show Steps p.tables e below (s₁.setTop (mkF m 10 #[.val (.int p1)] [(.int (1 : Int32)), (.int p1)])) _
    refine XS.icmpYes X0.here hx rfl (pc0 := 10) (pc' := 17) rfl (hb hby own_d_method_2_code_10) rfl (feq hc10).2 (by decide) (by decide) ?_
    refine XS.iloadN X0.here hx rfl (hb hby own_d_method_2_code_17) rfl ?_
    refine XS.iconst X0.here hx rfl (hb hby own_d_method_2_code_18) ?_
    show Steps p.tables e below (s₁.setTop (mkF m 19 #[.val (.int p1)] [(.int (2 : Int32)), (.int p1)])) _
    refine XS.icmpYes X0.here hx rfl (pc0 := 19) (pc' := 26) rfl (hb hby own_d_method_2_code_19) rfl (feq hc19).2 (by decide) (by decide) ?_
    refine XS.iloadN X0.here hx rfl (hb hby own_d_method_2_code_26) rfl ?_
    refine XS.iconst X0.here hx rfl (hb hby own_d_method_2_code_27) ?_
    show Steps p.tables e below (s₁.setTop (mkF m 28 #[.val (.int p1)] [(.int (3 : Int32)), (.int p1)])) _
    refine XS.icmpYes X0.here hx rfl (pc0 := 28) (pc' := 35) rfl (hb hby own_d_method_2_code_28) rfl (feq hc28).2 (by decide) (by decide) ?_
    refine XS.iloadN X0.here hx rfl (hb hby own_d_method_2_code_35) rfl ?_
    refine XS.iconst X0.here hx rfl (hb hby own_d_method_2_code_36) ?_
    show Steps p.tables e below (s₁.setTop (mkF m 37 #[.val (.int p1)] [(.int (4 : Int32)), (.int p1)])) _
    refine XS.icmpNo X0.here hx rfl (hb hby own_d_method_2_code_37) rfl (teq hc37).2 ?_
    show Steps p.tables e below (s₁.setTop (mkF m 40 #[.val (.int p1)] [])) _
    refine st1 _ ?_
    show Steps p.tables e below (T1.setTop (mkF m 43 #[.val (.int p1)] [(.ref t4)])) _
    jvm_step X1.here [X1.here.top, hx, (hb hby own_d_method_2_code_43), X1.method', Bd.returns, Value.isRef, FieldType.isReference]
    first | (intro acts; rw [hr _ acts rfl rfl rfl]) | rw [hr _ _ rfl rfl rfl]
    exact Steps.refl _
  · show QN t4 h0 n0 _ T1.heap _
    rw [e1]
    exact ⟨rfl, N0, rfl⟩
theorem own_d_method_2_code_44 : decode method_2_code 44 = .ok (.iload_n 0, 1) := by decide +kernel
theorem own_d_method_2_code_45 : decode method_2_code 45 = .ok (.iconst 5, 1) := by decide +kernel
theorem own_d_method_2_code_46 : decode method_2_code 46 = .ok (.if_icmp .ne 7, 3) := by decide +kernel
theorem own_d_method_2_code_49 : decode method_2_code 49 = .ok (.getstatic 25, 3) := by decide +kernel
theorem own_d_method_2_code_52 : decode method_2_code 52 = .ok (.areturn, 1) := by decide +kernel
set_option maxRecDepth 65536 in
set_option maxHeartbeats 40000000 in
theorem rk5 (l : Launch) (Z : State) (a0 : Array Value) (hw : ∀ d ∈ tables_1, d.before a0 Z = true) (ws : List Jvm.Cond) (p1 : Int32) (t0 t1 t2 t3 t4 t5 t6 : Addr) (h0 : Heap) (n0 : Nat) (Z0 : n0 ≤ h0.size) (KS : KSt Z t0 t1 t2 t3 t4 t5 t6) (O0 : Old Z n0 h0) (hc1 : ¬ (p1 = (0 : Int32))) (hc10 : ¬ (p1 = (1 : Int32))) (hc19 : ¬ (p1 = (2 : Int32))) (hc28 : ¬ (p1 = (3 : Int32))) (hc37 : ¬ (p1 = (4 : Int32))) (hc46 : p1 = (5 : Int32)) :
    MetFree l (⟨"com/example/mudskipper/mudskipper/jpql/TokenEqualsPinLaw", "kindOf", "(I)Lcom/example/mudskipper/mudskipper/jpql/TokenKind;"⟩ : MethodName) (head1 (Jvm.Cond.code (⟨"com/example/mudskipper/mudskipper/jpql/TokenEqualsPinLaw", "kindOf", "(I)Lcom/example/mudskipper/mudskipper/jpql/TokenKind;"⟩ : MethodName) method_2_code 1 (some (.object "com/example/mudskipper/mudskipper/jpql/TokenKind")) :: ws) ({ frames := 0, cells := 0, slots := 0, locals := 0 } : Room)) (fun a U => a = #[(.int p1)] ∧ Z.Warmed39 U.vm ∧ U.heap = h0) (fun _ _ _ _ _ => True) (fun _ U o U' => ∃ v L, o = .returned v ∧ QN t5 h0 n0 v U'.heap L ∧ FrameEnd U o U' L 0 0) := by
  refine MetFree.of_bodySF (plainFor_of_name own_pn_com_example_mudskipper_mudskipper_jpql_TokenEqualsPinLaw) hisR ?_
  intro p e s m args below meth c s₁ Bd hml0 hP hK
  obtain ⟨rfl, hZ, hh⟩ := hP
  have hx := Bd.exec
  have hby := Bd.bytes
  have hml : c.maxLocals = 1 := hml0
  have hown : s.vm.findClass "com/example/mudskipper/mudskipper/jpql/TokenEqualsPinLaw" = some m.cls := findClass_of_methodNamed Bd.named
  have hnm := (name_of_methodNamed Bd.named Bd.method).1
  have X0 : Stand p l e ({ frames := 0, cells := 0, slots := 0, locals := 0 } : Room) s m #[(.int p1)] below meth c s₁ [] 0 0 := Stand.of_body Bd
  have e0 : s₁.heap = h0 := by rw [← hh, Bd.state]; rfl
  have N0 := Fr.nil n0
  have pre0 : ∀ t, Steps p.tables e below (s₁.setTop (mkF m 0 #[.val (.int p1)] [])) t → Steps p.tables e below (s₁.setTop (entryFrame m #[(.int p1)] 1)) t := fun t k => castTop (own_ef_method_2_code_x m p1) k
  obtain ⟨T1, X1, e1, st1⟩ := getS2 X0 hx hZ hown (host := "") (Or.inl (hw _ (List.mem_of_getElem? (i := 90) rfl))) Via.refl e0 (KS.2.2.2.2.2.1.ext O0.2) (g := (mkF m 49 #[.val (.int p1)] [])) rfl (hb hby own_d_method_2_code_49)
  obtain ⟨fs, hr, hrun, hended, hW, hsame⟩ := X1.leave (v := some (.ref t5)) (fun h => by rw [Bd.returns] at h; cases h)
  refine ⟨_, _, pre0 _ ?_, hrun, hended, _, _, rfl, ?_, ⟨_, rfl⟩, hW, hsame.mono (by decide) (by decide)⟩
  · show Steps p.tables e below (s₁.setTop (mkF m 0 #[.val (.int p1)] [])) _
    refine XS.iloadN X0.here hx rfl (hb hby own_d_method_2_code_0) rfl ?_
    show Steps p.tables e below (s₁.setTop (mkF m 1 #[.val (.int p1)] [(.int p1)])) _
    refine XS.ifYes X0.here hx rfl (pc0 := 1) (pc' := 8) rfl (hb hby own_d_method_2_code_1) rfl ((if0 _ _).trans (feq hc1).2) (by decide) (by decide) ?_
    refine XS.iloadN X0.here hx rfl (hb hby own_d_method_2_code_8) rfl ?_
    refine XS.iconst X0.here hx rfl (hb hby own_d_method_2_code_9) ?_
    show Steps p.tables e below (s₁.setTop (mkF m 10 #[.val (.int p1)] [(.int (1 : Int32)), (.int p1)])) _
    refine XS.icmpYes X0.here hx rfl (pc0 := 10) (pc' := 17) rfl (hb hby own_d_method_2_code_10) rfl (feq hc10).2 (by decide) (by decide) ?_
    refine XS.iloadN X0.here hx rfl (hb hby own_d_method_2_code_17) rfl ?_
    refine XS.iconst X0.here hx rfl (hb hby own_d_method_2_code_18) ?_
    show Steps p.tables e below (s₁.setTop (mkF m 19 #[.val (.int p1)] [(.int (2 : Int32)), (.int p1)])) _
    refine XS.icmpYes X0.here hx rfl (pc0 := 19) (pc' := 26) rfl (hb hby own_d_method_2_code_19) rfl (feq hc19).2 (by decide) (by decide) ?_
    refine XS.iloadN X0.here hx rfl (hb hby own_d_method_2_code_26) rfl ?_
    refine XS.iconst X0.here hx rfl (hb hby own_d_method_2_code_27) ?_
    show Steps p.tables e below (s₁.setTop (mkF m 28 #[.val (.int p1)] [(.int (3 : Int32)), (.int p1)])) _
    refine XS.icmpYes X0.here hx rfl (pc0 := 28) (pc' := 35) rfl (hb hby own_d_method_2_code_28) rfl (feq hc28).2 (by decide) (by decide) ?_
    refine XS.iloadN X0.here hx rfl (hb hby own_d_method_2_code_35) rfl ?_
    refine XS.iconst X0.here hx rfl (hb hby own_d_method_2_code_36) ?_
    show Steps p.tables e below (s₁.setTop (mkF m 37 #[.val (.int p1)] [(.int (4 : Int32)), (.int p1)])) _
    refine XS.icmpYes X0.here hx rfl (pc0 := 37) (pc' := 44) rfl (hb hby own_d_method_2_code_37) rfl (feq hc37).2 (by decide) (by decide) ?_
    refine XS.iloadN X0.here hx rfl (hb hby own_d_method_2_code_44) rfl ?_
    refine XS.iconst X0.here hx rfl (hb hby own_d_method_2_code_45) ?_
    show Steps p.tables e below (s₁.setTop (mkF m 46 #[.val (.int p1)] [(.int (5 : Int32)), (.int p1)])) _
    refine XS.icmpNo X0.here hx rfl (hb hby own_d_method_2_code_46) rfl (teq hc46).2 ?_
    show Steps p.tables e below (s₁.setTop (mkF m 49 #[.val (.int p1)] [])) _
    refine st1 _ ?_
    show Steps p.tables e below (T1.setTop (mkF m 52 #[.val (.int p1)] [(.ref t5)])) _
    jvm_step X1.here [X1.here.top, hx, (hb hby own_d_method_2_code_52), X1.method', Bd.returns, Value.isRef, FieldType.isReference]
    first | (intro acts; rw [hr _ acts rfl rfl rfl]) | rw [hr _ _ rfl rfl rfl]
    exact Steps.refl _
  · show QN t5 h0 n0 _ T1.heap _
    rw [e1]
    exact ⟨rfl, N0, rfl⟩
theorem own_d_method_2_code_53 : decode method_2_code 53 = .ok (.getstatic 28, 3) := by decide +kernel
theorem own_d_method_2_code_56 : decode method_2_code 56 = .ok (.areturn, 1) := by decide +kernel
set_option maxRecDepth 65536 in
set_option maxHeartbeats 40000000 in
theorem rk6 (l : Launch) (Z : State) (a0 : Array Value) (hw : ∀ d ∈ tables_1, d.before a0 Z = true) (ws : List Jvm.Cond) (p1 : Int32) (t0 t1 t2 t3 t4 t5 t6 : Addr) (h0 : Heap) (n0 : Nat) (Z0 : n0 ≤ h0.size) (KS : KSt Z t0 t1 t2 t3 t4 t5 t6) (O0 : Old Z n0 h0) (hc1 : ¬ (p1 = (0 : Int32))) (hc10 : ¬ (p1 = (1 : Int32))) (hc19 : ¬ (p1 = (2 : Int32))) (hc28 : ¬ (p1 = (3 : Int32))) (hc37 : ¬ (p1 = (4 : Int32))) (hc46 : ¬ (p1 = (5 : Int32))) :
    MetFree l (⟨"com/example/mudskipper/mudskipper/jpql/TokenEqualsPinLaw", "kindOf", "(I)Lcom/example/mudskipper/mudskipper/jpql/TokenKind;"⟩ : MethodName) (head1 (Jvm.Cond.code (⟨"com/example/mudskipper/mudskipper/jpql/TokenEqualsPinLaw", "kindOf", "(I)Lcom/example/mudskipper/mudskipper/jpql/TokenKind;"⟩ : MethodName) method_2_code 1 (some (.object "com/example/mudskipper/mudskipper/jpql/TokenKind")) :: ws) ({ frames := 0, cells := 0, slots := 0, locals := 0 } : Room)) (fun a U => a = #[(.int p1)] ∧ Z.Warmed39 U.vm ∧ U.heap = h0) (fun _ _ _ _ _ => True) (fun _ U o U' => ∃ v L, o = .returned v ∧ QN t6 h0 n0 v U'.heap L ∧ FrameEnd U o U' L 0 0) := by
  refine MetFree.of_bodySF (plainFor_of_name own_pn_com_example_mudskipper_mudskipper_jpql_TokenEqualsPinLaw) hisR ?_
  intro p e s m args below meth c s₁ Bd hml0 hP hK
  obtain ⟨rfl, hZ, hh⟩ := hP
  have hx := Bd.exec
  have hby := Bd.bytes
  have hml : c.maxLocals = 1 := hml0
  have hown : s.vm.findClass "com/example/mudskipper/mudskipper/jpql/TokenEqualsPinLaw" = some m.cls := findClass_of_methodNamed Bd.named
  have hnm := (name_of_methodNamed Bd.named Bd.method).1
  have X0 : Stand p l e ({ frames := 0, cells := 0, slots := 0, locals := 0 } : Room) s m #[(.int p1)] below meth c s₁ [] 0 0 := Stand.of_body Bd
  have e0 : s₁.heap = h0 := by rw [← hh, Bd.state]; rfl
  have N0 := Fr.nil n0
  have pre0 : ∀ t, Steps p.tables e below (s₁.setTop (mkF m 0 #[.val (.int p1)] [])) t → Steps p.tables e below (s₁.setTop (entryFrame m #[(.int p1)] 1)) t := fun t k => castTop (own_ef_method_2_code_x m p1) k
  obtain ⟨T1, X1, e1, st1⟩ := getS2 X0 hx hZ hown (host := "") (Or.inl (hw _ (List.mem_of_getElem? (i := 88) rfl))) Via.refl e0 (KS.2.2.2.2.2.2.ext O0.2) (g := (mkF m 53 #[.val (.int p1)] [])) rfl (hb hby own_d_method_2_code_53)
  obtain ⟨fs, hr, hrun, hended, hW, hsame⟩ := X1.leave (v := some (.ref t6)) (fun h => by rw [Bd.returns] at h; cases h)
  refine ⟨_, _, pre0 _ ?_, hrun, hended, _, _, rfl, ?_, ⟨_, rfl⟩, hW, hsame.mono (by decide) (by decide)⟩
  · show Steps p.tables e below (s₁.setTop (mkF m 0 #[.val (.int p1)] [])) _
    refine XS.iloadN X0.here hx rfl (hb hby own_d_method_2_code_0) rfl ?_
    show Steps p.tables e below (s₁.setTop (mkF m 1 #[.val (.int p1)] [(.int p1)])) _
    refine XS.ifYes X0.here hx rfl (pc0 := 1) (pc' := 8) rfl (hb hby own_d_method_2_code_1) rfl ((if0 _ _).trans (feq hc1).2) (by decide) (by decide) ?_
    refine XS.iloadN X0.here hx rfl (hb hby own_d_method_2_code_8) rfl ?_
    refine XS.iconst X0.here hx rfl (hb hby own_d_method_2_code_9) ?_
    show Steps p.tables e below (s₁.setTop (mkF m 10 #[.val (.int p1)] [(.int (1 : Int32)), (.int p1)])) _
    refine XS.icmpYes X0.here hx rfl (pc0 := 10) (pc' := 17) rfl (hb hby own_d_method_2_code_10) rfl (feq hc10).2 (by decide) (by decide) ?_
    refine XS.iloadN X0.here hx rfl (hb hby own_d_method_2_code_17) rfl ?_
    refine XS.iconst X0.here hx rfl (hb hby own_d_method_2_code_18) ?_
    show Steps p.tables e below (s₁.setTop (mkF m 19 #[.val (.int p1)] [(.int (2 : Int32)), (.int p1)])) _
    refine XS.icmpYes X0.here hx rfl (pc0 := 19) (pc' := 26) rfl (hb hby own_d_method_2_code_19) rfl (feq hc19).2 (by decide) (by decide) ?_
    refine XS.iloadN X0.here hx rfl (hb hby own_d_method_2_code_26) rfl ?_
    refine XS.iconst X0.here hx rfl (hb hby own_d_method_2_code_27) ?_
    show Steps p.tables e below (s₁.setTop (mkF m 28 #[.val (.int p1)] [(.int (3 : Int32)), (.int p1)])) _
    refine XS.icmpYes X0.here hx rfl (pc0 := 28) (pc' := 35) rfl (hb hby own_d_method_2_code_28) rfl (feq hc28).2 (by decide) (by decide) ?_
    refine XS.iloadN X0.here hx rfl (hb hby own_d_method_2_code_35) rfl ?_
    refine XS.iconst X0.here hx rfl (hb hby own_d_method_2_code_36) ?_
    show Steps p.tables e below (s₁.setTop (mkF m 37 #[.val (.int p1)] [(.int (4 : Int32)), (.int p1)])) _
    refine XS.icmpYes X0.here hx rfl (pc0 := 37) (pc' := 44) rfl (hb hby own_d_method_2_code_37) rfl (feq hc37).2 (by decide) (by decide) ?_
    refine XS.iloadN X0.here hx rfl (hb hby own_d_method_2_code_44) rfl ?_
    refine XS.iconst X0.here hx rfl (hb hby own_d_method_2_code_45) ?_
    show Steps p.tables e below (s₁.setTop (mkF m 46 #[.val (.int p1)] [(.int (5 : Int32)), (.int p1)])) _
    refine XS.icmpYes X0.here hx rfl (pc0 := 46) (pc' := 53) rfl (hb hby own_d_method_2_code_46) rfl (feq hc46).2 (by decide) (by decide) ?_
    show Steps p.tables e below (s₁.setTop (mkF m 53 #[.val (.int p1)] [])) _
    refine st1 _ ?_
    show Steps p.tables e below (T1.setTop (mkF m 56 #[.val (.int p1)] [(.ref t6)])) _
    jvm_step X1.here [X1.here.top, hx, (hb hby own_d_method_2_code_56), X1.method', Bd.returns, Value.isRef, FieldType.isReference]
    first | (intro acts; rw [hr _ acts rfl rfl rfl]) | rw [hr _ _ rfl rfl rfl]
    exact Steps.refl _
  · show QN t6 h0 n0 _ T1.heap _
    rw [e1]
    exact ⟨rfl, N0, rfl⟩
theorem rmK (l : Launch) (Z : State) (a0 : Array Value) (hw : ∀ d ∈ tables_1, d.before a0 Z = true) (ws : List Jvm.Cond) (p1 : Int32) (t0 t1 t2 t3 t4 t5 t6 : Addr) (h0 : Heap) (n0 : Nat) (Z0 : n0 ≤ h0.size) (KS : KSt Z t0 t1 t2 t3 t4 t5 t6) (O0 : Old Z n0 h0) :
    MetFree l (⟨"com/example/mudskipper/mudskipper/jpql/TokenEqualsPinLaw", "kindOf", "(I)Lcom/example/mudskipper/mudskipper/jpql/TokenKind;"⟩ : MethodName) (head1 (Jvm.Cond.code (⟨"com/example/mudskipper/mudskipper/jpql/TokenEqualsPinLaw", "kindOf", "(I)Lcom/example/mudskipper/mudskipper/jpql/TokenKind;"⟩ : MethodName) method_2_code 1 (some (.object "com/example/mudskipper/mudskipper/jpql/TokenKind")) :: ws) ({ frames := 0, cells := 0, slots := 0, locals := 0 } : Room)) (fun a U => a = #[(.int p1)] ∧ Z.Warmed39 U.vm ∧ U.heap = h0) (fun _ _ _ _ _ => True) (fun _ U o U' => ∃ v L, o = .returned v ∧ QN (own_kd t0 t1 t2 t3 t4 t5 t6 p1) h0 n0 v U'.heap L ∧ FrameEnd U o U' L 0 0) := by
  by_cases c0 : p1 = 0
  · have e : own_kd t0 t1 t2 t3 t4 t5 t6 p1 = t0 := by rw [own_kd, if_pos c0]
    rw [e]; exact rk0 l Z a0 hw ws p1 t0 t1 t2 t3 t4 t5 t6 h0 n0 Z0 KS O0 c0
  · skip
    by_cases c1 : p1 = 1
    · have e : own_kd t0 t1 t2 t3 t4 t5 t6 p1 = t1 := by rw [own_kd, if_neg c0, if_pos c1]
      rw [e]; exact rk1 l Z a0 hw ws p1 t0 t1 t2 t3 t4 t5 t6 h0 n0 Z0 KS O0 c0 c1
    · skip
      by_cases c2 : p1 = 2
      · have e : own_kd t0 t1 t2 t3 t4 t5 t6 p1 = t2 := by rw [own_kd, if_neg c0, if_neg c1, if_pos c2]
        rw [e]; exact rk2 l Z a0 hw ws p1 t0 t1 t2 t3 t4 t5 t6 h0 n0 Z0 KS O0 c0 c1 c2
      · skip
        by_cases c3 : p1 = 3
        · have e : own_kd t0 t1 t2 t3 t4 t5 t6 p1 = t3 := by rw [own_kd, if_neg c0, if_neg c1, if_neg c2, if_pos c3]
          rw [e]; exact rk3 l Z a0 hw ws p1 t0 t1 t2 t3 t4 t5 t6 h0 n0 Z0 KS O0 c0 c1 c2 c3
        · skip
          by_cases c4 : p1 = 4
          · have e : own_kd t0 t1 t2 t3 t4 t5 t6 p1 = t4 := by rw [own_kd, if_neg c0, if_neg c1, if_neg c2, if_neg c3, if_pos c4]
            rw [e]; exact rk4 l Z a0 hw ws p1 t0 t1 t2 t3 t4 t5 t6 h0 n0 Z0 KS O0 c0 c1 c2 c3 c4
          · skip
            by_cases c5 : p1 = 5
            · have e : own_kd t0 t1 t2 t3 t4 t5 t6 p1 = t5 := by rw [own_kd, if_neg c0, if_neg c1, if_neg c2, if_neg c3, if_neg c4, if_pos c5]
              rw [e]; exact rk5 l Z a0 hw ws p1 t0 t1 t2 t3 t4 t5 t6 h0 n0 Z0 KS O0 c0 c1 c2 c3 c4 c5
            · skip
              have e : own_kd t0 t1 t2 t3 t4 t5 t6 p1 = t6 := by rw [own_kd, if_neg c0, if_neg c1, if_neg c2, if_neg c3, if_neg c4, if_neg c5]
              rw [e]; exact rk6 l Z a0 hw ws p1 t0 t1 t2 t3 t4 t5 t6 h0 n0 Z0 KS O0 c0 c1 c2 c3 c4 c5
theorem own_d_jdk_31_method_11_code_0 : decode jdk_31_method_11_code 0 = .ok (.aload_n 0, 1) := by decide +kernel
theorem own_d_jdk_31_method_11_code_1 : decode jdk_31_method_11_code 1 = .ok (.ifnonnull 12, 3) := by decide +kernel
theorem own_d_jdk_31_method_11_code_13 : decode jdk_31_method_11_code 13 = .ok (.aload_n 0, 1) := by decide +kernel
theorem own_d_jdk_31_method_11_code_14 : decode jdk_31_method_11_code 14 = .ok (.areturn, 1) := by decide +kernel
theorem own_pn_java_util_Objects : plainName "java/util/Objects" = true := by first | (simp [plainName, overriddenIn]; done) | decide +kernel
theorem own_ef_jdk_31_method_11_code_xx (m : MethodId) (x0 : Addr) (x1 : Addr) : entryFrame m #[(.ref x0), (.ref x1)] 2 = mkF m 0 #[.val (.ref x0), .val (.ref x1)] [] := by first | (simp [entryFrame, mkF, argsToLocals, Value.category]; done) | rfl
set_option maxRecDepth 65536 in
set_option maxHeartbeats 40000000 in
theorem rmN (l : Launch) (Z : State) (a0 : Array Value) (hw : ∀ d ∈ tables_1, d.before a0 Z = true) (ws : List Jvm.Cond) (a1 a2 : Addr) (h0 : Heap) (n0 : Nat) (Z0 : n0 ≤ h0.size)  :
    MetFree l (⟨"java/util/Objects", "requireNonNull", "(Ljava/lang/Object;Ljava/lang/String;)Ljava/lang/Object;"⟩ : MethodName) (head1 (Jvm.Cond.code (⟨"java/util/Objects", "requireNonNull", "(Ljava/lang/Object;Ljava/lang/String;)Ljava/lang/Object;"⟩ : MethodName) jdk_31_method_11_code 2 (some (.object "java/lang/Object")) :: ws) ({ frames := 0, cells := 0, slots := 0, locals := 0 } : Room)) (fun a U => a = #[(.ref a1), (.ref a2)] ∧ Z.Warmed39 U.vm ∧ U.heap = h0) (fun _ _ _ _ _ => True) (fun _ U o U' => ∃ v L, o = .returned v ∧ QN a1 h0 n0 v U'.heap L ∧ FrameEnd U o U' L 0 0) := by
  refine MetFree.of_bodySF (plainFor_of_name own_pn_java_util_Objects) hisR ?_
  intro p e s m args below meth c s₁ Bd hml0 hP hK
  obtain ⟨rfl, hZ, hh⟩ := hP
  have hx := Bd.exec
  have hby := Bd.bytes
  have hml : c.maxLocals = 2 := hml0
  have hown : s.vm.findClass "java/util/Objects" = some m.cls := findClass_of_methodNamed Bd.named
  have hnm := (name_of_methodNamed Bd.named Bd.method).1
  have X0 : Stand p l e ({ frames := 0, cells := 0, slots := 0, locals := 0 } : Room) s m #[(.ref a1), (.ref a2)] below meth c s₁ [] 0 0 := Stand.of_body Bd
  have e0 : s₁.heap = h0 := by rw [← hh, Bd.state]; rfl
  have N0 := Fr.nil n0
  have pre0 : ∀ t, Steps p.tables e below (s₁.setTop (mkF m 0 #[.val (.ref a1), .val (.ref a2)] [])) t → Steps p.tables e below (s₁.setTop (entryFrame m #[(.ref a1), (.ref a2)] 2)) t := fun t k => castTop (own_ef_jdk_31_method_11_code_xx m a1 a2) k
  obtain ⟨fs, hr, hrun, hended, hW, hsame⟩ := X0.leave (v := some (.ref a1)) (fun h => by rw [Bd.returns] at h; cases h)
  refine ⟨_, _, pre0 _ ?_, hrun, hended, _, _, rfl, ?_, ⟨_, rfl⟩, hW, hsame.mono (by decide) (by decide)⟩
  · show Steps p.tables e below (s₁.setTop (mkF m 0 #[.val (.ref a1), .val (.ref a2)] [])) _
    refine XS.aloadN X0.here hx rfl (hb hby own_d_jdk_31_method_11_code_0) rfl rfl ?_
    show Steps p.tables e below (s₁.setTop (mkF m 1 #[.val (.ref a1), .val (.ref a2)] [(.ref a1)])) _
    refine XS.ifnonnullYes X0.here hx rfl (pc0 := 1) (pc' := 13) rfl (hb hby own_d_jdk_31_method_11_code_1) rfl (by decide) (by decide) ?_
    refine XS.aloadN X0.here hx rfl (hb hby own_d_jdk_31_method_11_code_13) rfl rfl ?_
    show Steps p.tables e below (s₁.setTop (mkF m 14 #[.val (.ref a1), .val (.ref a2)] [(.ref a1)])) _
    jvm_step X0.here [X0.here.top, hx, (hb hby own_d_jdk_31_method_11_code_14), X0.method', Bd.returns, Value.isRef, FieldType.isReference]
    first | (intro acts; rw [hr _ acts rfl rfl rfl]) | rw [hr _ _ rfl rfl rfl]
    exact Steps.refl _
  · show QN a1 h0 n0 _ s₁.heap _
    rw [e0]
    exact ⟨rfl, N0, rfl⟩
def QT (Z : State) (a1 a2 a3 : Addr) (p4 : Int32) (h0 : Heap) (n0 : Nat) (v : Option Value) (h : Heap) (L : List Loc) : Prop := v = none ∧ Fr n0 L ∧ Keep h0 h [a1] ∧ Fld Z h a1 "com/example/mudskipper/mudskipper/jpql/Token" "kind" "Lcom/example/mudskipper/mudskipper/jpql/TokenKind;" (.ref a2) ∧ Fld Z h a1 "com/example/mudskipper/mudskipper/jpql/Token" "text" "Ljava/lang/String;" (.ref a3) ∧ Fld Z h a1 "com/example/mudskipper/mudskipper/jpql/Token" "position" "I" (.int p4)
theorem own_d_prog_32_method_1_code_0 : decode prog_32_method_1_code 0 = .ok (.aload_n 0, 1) := by decide +kernel
theorem own_d_prog_32_method_1_code_1 : decode prog_32_method_1_code 1 = .ok (.invokespecial 1, 3) := by decide +kernel
theorem own_d_prog_32_method_1_code_4 : decode prog_32_method_1_code 4 = .ok (.aload_n 0, 1) := by decide +kernel
theorem own_d_prog_32_method_1_code_5 : decode prog_32_method_1_code 5 = .ok (.aload_n 1, 1) := by decide +kernel
theorem own_d_prog_32_method_1_code_6 : decode prog_32_method_1_code 6 = .ok (.ldc 7, 2) := by decide +kernel
theorem own_d_prog_32_method_1_code_8 : decode prog_32_method_1_code 8 = .ok (.invokestatic 9, 3) := by decide +kernel
theorem own_d_prog_32_method_1_code_11 : decode prog_32_method_1_code 11 = .ok (.checkcast 15, 3) := by decide +kernel
theorem own_d_prog_32_method_1_code_14 : decode prog_32_method_1_code 14 = .ok (.putfield 17, 3) := by decide +kernel
theorem own_d_prog_32_method_1_code_17 : decode prog_32_method_1_code 17 = .ok (.aload_n 0, 1) := by decide +kernel
theorem own_d_prog_32_method_1_code_18 : decode prog_32_method_1_code 18 = .ok (.aload_n 2, 1) := by decide +kernel
theorem own_d_prog_32_method_1_code_19 : decode prog_32_method_1_code 19 = .ok (.ldc 22, 2) := by decide +kernel
theorem own_d_prog_32_method_1_code_21 : decode prog_32_method_1_code 21 = .ok (.invokestatic 9, 3) := by decide +kernel
theorem own_d_prog_32_method_1_code_24 : decode prog_32_method_1_code 24 = .ok (.checkcast 24, 3) := by decide +kernel
theorem own_d_prog_32_method_1_code_27 : decode prog_32_method_1_code 27 = .ok (.putfield 26, 3) := by decide +kernel
theorem own_d_prog_32_method_1_code_30 : decode prog_32_method_1_code 30 = .ok (.aload_n 0, 1) := by decide +kernel
theorem own_d_prog_32_method_1_code_31 : decode prog_32_method_1_code 31 = .ok (.iload_n 3, 1) := by decide +kernel
theorem own_d_prog_32_method_1_code_32 : decode prog_32_method_1_code 32 = .ok (.putfield 29, 3) := by decide +kernel
theorem own_d_prog_32_method_1_code_35 : decode prog_32_method_1_code 35 = .ok (.return_, 1) := by decide +kernel
theorem own_lit_kind : (∀ c ∈ ("kind" : String).toList, c.toNat < 256) ∧ ("kind" : String).toList.map (fun c => Value.int (Jvm.Lit.byteI c.toNat.toUInt16)) = [.int (107 : Int32), .int (105 : Int32), .int (110 : Int32), .int (100 : Int32)] := by decide +kernel
theorem own_pd__Ljava_lang_Object_Ljava_lang_String__Ljava_lang_Object_ : parseMethodDescriptor "(Ljava/lang/Object;Ljava/lang/String;)Ljava/lang/Object;" = some ⟨[(.object "java/lang/Object"), (.object "java/lang/String")], some (.object "java/lang/Object")⟩ := by decide +kernel
theorem own_lit_text : (∀ c ∈ ("text" : String).toList, c.toNat < 256) ∧ ("text" : String).toList.map (fun c => Value.int (Jvm.Lit.byteI c.toNat.toUInt16)) = [.int (116 : Int32), .int (101 : Int32), .int (120 : Int32), .int (116 : Int32)] := by decide +kernel
theorem own_pn_com_example_mudskipper_mudskipper_jpql_Token : plainName "com/example/mudskipper/mudskipper/jpql/Token" = true := by first | (simp [plainName, overriddenIn]; done) | decide +kernel
theorem own_ef_prog_32_method_1_code_xxxx (m : MethodId) (x0 : Addr) (x1 : Addr) (x2 : Addr) (x3 : Int32) : entryFrame m #[(.ref x0), (.ref x1), (.ref x2), (.int x3)] 4 = mkF m 0 #[.val (.ref x0), .val (.ref x1), .val (.ref x2), .val (.int x3)] [] := by first | (simp [entryFrame, mkF, argsToLocals, Value.category]; done) | rfl
set_option maxRecDepth 65536 in
set_option maxHeartbeats 40000000 in
theorem rmT (l : Launch) (Z : State) (a0 : Array Value) (hw : ∀ d ∈ tables_1, d.before a0 Z = true) (ws : List Jvm.Cond) (hEL : EW Z a0 own_EL) (a1 a2 a3 : Addr) (p4 : Int32) (cs : List Int32) (h0 : Heap) (n0 : Nat) (Z0 : n0 ≤ h0.size) (E_a1 : Exa Z h0 a1 "com/example/mudskipper/mudskipper/jpql/Token") (F_kind_a1 : Fld Z h0 a1 "com/example/mudskipper/mudskipper/jpql/Token" "kind" "Lcom/example/mudskipper/mudskipper/jpql/TokenKind;" .null) (F_text_a1 : Fld Z h0 a1 "com/example/mudskipper/mudskipper/jpql/Token" "text" "Ljava/lang/String;" .null) (F_position_a1 : Fld Z h0 a1 "com/example/mudskipper/mudskipper/jpql/Token" "position" "I" (.int (0 : Int32))) (E_a2 : Exa Z h0 a2 "com/example/mudskipper/mudskipper/jpql/TokenKind") (S_a3 : StrV Z h0 a3 cs) (g_a1 : n0 ≤ a1) :
    MetFree l (⟨"com/example/mudskipper/mudskipper/jpql/Token", "<init>", "(Lcom/example/mudskipper/mudskipper/jpql/TokenKind;Ljava/lang/String;I)V"⟩ : MethodName) (head1 (Jvm.Cond.code (⟨"com/example/mudskipper/mudskipper/jpql/Token", "<init>", "(Lcom/example/mudskipper/mudskipper/jpql/TokenKind;Ljava/lang/String;I)V"⟩ : MethodName) prog_32_method_1_code 4 none :: ws) ({ frames := 1, cells := 4, slots := 40, locals := 15 } : Room)) (fun a U => a = #[(.ref a1), (.ref a2), (.ref a3), (.int p4)] ∧ Z.Warmed39 U.vm ∧ U.heap = h0 ∧ CHv Z own_EL U.vm h0) (fun _ _ _ _ _ => True) (fun _ U o U' => ∃ v L, o = .returned v ∧ QT Z a1 a2 a3 p4 h0 n0 v U'.heap L ∧ CHr Z own_EL U.vm U.heap U'.vm U'.heap ∧ ReturnedEndW U o U' L 4 40) := by
  refine MetFree.of_bodySF (plainFor_of_name own_pn_com_example_mudskipper_mudskipper_jpql_Token) hisR ?_
  intro p e s m args below meth c s₁ Bd hml0 hP hK
  obtain ⟨rfl, hZ, hh, hCH0⟩ := hP
  have hx := Bd.exec
  have hby := Bd.bytes
  have hml : c.maxLocals = 4 := hml0
  have hown : s.vm.findClass "com/example/mudskipper/mudskipper/jpql/Token" = some m.cls := findClass_of_methodNamed Bd.named
  have hnm := (name_of_methodNamed Bd.named Bd.method).1
  have X0 : Stand p l e ({ frames := 1, cells := 4, slots := 40, locals := 15 } : Room) (s.setVm s.vm) m #[(.ref a1), (.ref a2), (.ref a3), (.int p4)] below meth c s₁ [] 0 0 := Stand.of_body Bd
  have e0 : s₁.heap = h0 := by rw [← hh, Bd.state]; rfl
  have N0 := Fr.nil n0
  have CH0 : CHr Z own_EL s.vm h0 s.vm h0 := CHr.refl hCH0
  have hS0 : s.Since s.vm 0 := State.WarmedH.since (State.WarmedH.refl s) 0
  have pre0 : ∀ t, Steps p.tables e below (s₁.setTop (mkF m 0 #[.val (.ref a1), .val (.ref a2), .val (.ref a3), .val (.int p4)] [])) t → Steps p.tables e below (s₁.setTop (entryFrame m #[(.ref a1), (.ref a2), (.ref a3), (.int p4)] 4)) t := fun t k => castTop (own_ef_prog_32_method_1_code_xxxx m a1 a2 a3 p4) k
  obtain ⟨T1, X1, e1, st1⟩ := initO X0 hx hZ hown (hw _ (List.mem_of_getElem? (i := 38) rfl)) (hw _ (List.mem_of_getElem? (i := 25) rfl)) (hw _ (List.mem_of_getElem? (i := 26) rfl)) e0 (g := (mkF m 1 #[.val (.ref a1), .val (.ref a2), .val (.ref a3), .val (.int p4)] [(.ref a1)])) rfl (by rw [hml]; rfl) rfl (hb hby own_d_prog_32_method_1_code_1) (by decide) (W := 0) (by show 2 * 0 + _ ≤ _; exact Nat.le_of_eq rfl) (by decide)
  obtain ⟨lit2, T2, h2, kl2, lba2, kk2, X2, e2, E2, hS2, hk2, hZ2, hown2, Ea2, Fc2, Fv2, V2, la2, lb2, C2, Lt2, sf2, st2⟩ := ldcCH X1 hx hZ hown (hw _ (List.mem_of_getElem? (i := 39) rfl)) (own_wS hw) e1 hS0 (Nat.zero_le _) hEL (by decide : ("com/example/mudskipper/mudskipper/jpql/Token", 7) ∈ own_EL) CH0.1 (vs := [.int (107 : Int32), .int (105 : Int32), .int (110 : Int32), .int (100 : Int32)]) (z := (4 : Int32)) own_lit_kind (by decide) (by decide) (g := (mkF m 6 #[.val (.ref a1), .val (.ref a2), .val (.ref a3), .val (.int p4)] [(.ref a2), (.ref a1)])) rfl (hb hby own_d_prog_32_method_1_code_6) (n := 16) (by decide) (by decide) (by decide) (by decide)
  have CH1 : CHr Z own_EL s.vm h0 T2.vm h2 := CH0.trans C2
  have K1 : Keep h0 h2 [a1] := (Keep.refl h0 [a1]).ext E2
  obtain ⟨_, _, ⟨T3, L3, k3, n3⟩, -, X3, ⟨Lc3, hQ3, l3, y3, z3⟩, st3⟩ := Jvm.LawKit.callS X2 hx (y := (⟨"java/util/Objects", "requireNonNull", "(Ljava/lang/Object;Ljava/lang/String;)Ljava/lang/Object;"⟩ : MethodName)) hown2 (mvT hZ2 (hw _ (List.mem_of_getElem? (i := 40) rfl))) (mvT hZ2 (hw _ (List.mem_of_getElem? (i := 41) rfl))) (mvT hZ2 (hw _ (List.mem_of_getElem? (i := 42) rfl))) (mvT hZ2 (hw _ (List.mem_of_getElem? (i := 43) rfl))) (by decide) (backOf (W := 1) (rmN l Z a0 hw [] a2 lit2 h2 n0 (Nat.le_trans Z0 K1.1)) hZ2 (hw _ (List.mem_of_getElem? (i := 43) rfl)) (hw _ (List.mem_of_getElem? (i := 42) rfl)) (by decide) (by decide)) (g := (mkF m 8 #[.val (.ref a1), .val (.ref a2), .val (.ref a3), .val (.int p4)] [(.ref lit2), (.ref a2), (.ref a1)])) rfl (by rw [hml]; rfl) (argsL := [(.ref a2), (.ref lit2)]) (rest := [(.ref a1)]) (lenOf own_pd__Ljava_lang_Object_Ljava_lang_String__Ljava_lang_Object_ rfl) rfl (by show 2 * 0 + _ ≤ _; exact Nat.le_of_eq rfl) (hb hby own_d_prog_32_method_1_code_8) (fun _ _ => ⟨rfl, e2, (by decide : 2 + 0 ≤ _), (by decide : 20 + 0 ≤ _)⟩)
  dsimp only [Pt.U, Pt.locs, Pt.cells, Pt.slots] at X3 l3 y3 z3 st3 hQ3
  subst l3 y3 z3
  obtain ⟨rfl, N3q, e3q⟩ := hQ3
  have N3a := Fr.app N0 N3q
  have f4 : Exa Z h2 a2 "com/example/mudskipper/mudskipper/jpql/TokenKind" := (E_a2.ext E2)
  obtain ⟨T5, X5, e5, st5⟩ := castY X3 hx hZ2 hown2 (hw _ (List.mem_of_getElem? (i := 44) rfl)) e3q (Ins.self f4) (g := (mkF m 11 #[.val (.ref a1), .val (.ref a2), .val (.ref a3), .val (.int p4)] [(.ref a2), (.ref a1)])) rfl rfl (hb hby own_d_prog_32_method_1_code_11)
  have f6 : Fld Z h2 a1 "com/example/mudskipper/mudskipper/jpql/Token" "kind" "Lcom/example/mudskipper/mudskipper/jpql/TokenKind;" .null := (F_kind_a1.ext E2)
  have f7 : Exa Z h2 a1 "com/example/mudskipper/mudskipper/jpql/Token" := (E_a1.ext E2)
  obtain ⟨T8, h8, X8, e8, W8, st8⟩ := putF X5 hx hZ2 hown2 (host := "") (Or.inl (hw _ (List.mem_of_getElem? (i := 46) rfl))) Via.refl e5 f6 f7 (Or.inr ⟨(hw _ (List.mem_of_getElem? (i := 47) rfl)), rfl, hnm⟩) (hw _ (List.mem_of_getElem? (i := 1) rfl)) (ty := (.object "com/example/mudskipper/mudskipper/jpql/TokenKind")) (by decide) rfl rfl (g := (mkF m 14 #[.val (.ref a1), .val (.ref a2), .val (.ref a3), .val (.int p4)] [(.ref a2), (.ref a1)])) rfl rfl (hb hby own_d_prog_32_method_1_code_14)
  have Fw8 := f6.same W8
  have Nf8 := Fr.snoc X8 N3a g_a1
  have CH2 : CHr Z own_EL s.vm h0 T2.vm h8 := CH1.trans (CHr.wr W8 (Safe.exa (hZ2 : Z.Warmed39 T2.vm).alike f7 (by decide) (by decide)) CH1.1)
  have K2 : Keep h0 h8 [a1] := K1.wr W8 (Or.inl (List.mem_of_getElem? (i := 0) rfl))
  have hk_10 := Nat.le_trans hk2 ((Keep.refl h2 [a1]).wr W8 (Or.inl (List.mem_of_getElem? (i := 0) rfl))).1
  obtain ⟨lit9, T9, h9, kl9, lba9, kk9, X9, e9, E9, hS9, hk9, hZ9, hown9, Ea9, Fc9, Fv9, V9, la9, lb9, C9, Lt9, sf9, st9⟩ := ldcCH X8 hx hZ2 hown2 (hw _ (List.mem_of_getElem? (i := 48) rfl)) (own_wS hw) e8 hS2 hk_10 hEL (by decide : ("com/example/mudskipper/mudskipper/jpql/Token", 22) ∈ own_EL) CH2.1 (vs := [.int (116 : Int32), .int (101 : Int32), .int (120 : Int32), .int (116 : Int32)]) (z := (4 : Int32)) own_lit_text (by decide) (by decide) (g := (mkF m 19 #[.val (.ref a1), .val (.ref a2), .val (.ref a3), .val (.int p4)] [(.ref a3), (.ref a1)])) rfl (hb hby own_d_prog_32_method_1_code_19) (n := 16) (by decide) (by decide) (by decide) (by decide)
  have CH3 : CHr Z own_EL s.vm h0 T9.vm h9 := CH2.trans C9
  have K3 : Keep h0 h9 [a1] := K2.ext E9
  obtain ⟨_, _, ⟨T11, L11, k11, n11⟩, -, X11, ⟨Lc11, hQ11, l11, y11, z11⟩, st11⟩ := Jvm.LawKit.callS X9 hx (y := (⟨"java/util/Objects", "requireNonNull", "(Ljava/lang/Object;Ljava/lang/String;)Ljava/lang/Object;"⟩ : MethodName)) hown9 (mvT hZ9 (hw _ (List.mem_of_getElem? (i := 40) rfl))) (mvT hZ9 (hw _ (List.mem_of_getElem? (i := 41) rfl))) (mvT hZ9 (hw _ (List.mem_of_getElem? (i := 42) rfl))) (mvT hZ9 (hw _ (List.mem_of_getElem? (i := 43) rfl))) (by decide) (backOf (W := 1) (rmN l Z a0 hw [] a3 lit9 h9 n0 (Nat.le_trans Z0 K3.1)) hZ9 (hw _ (List.mem_of_getElem? (i := 43) rfl)) (hw _ (List.mem_of_getElem? (i := 42) rfl)) (by decide) (by decide)) (g := (mkF m 21 #[.val (.ref a1), .val (.ref a2), .val (.ref a3), .val (.int p4)] [(.ref lit9), (.ref a3), (.ref a1)])) rfl (by rw [hml]; rfl) (argsL := [(.ref a3), (.ref lit9)]) (rest := [(.ref a1)]) (lenOf own_pd__Ljava_lang_Object_Ljava_lang_String__Ljava_lang_Object_ rfl) rfl (by show 2 * 0 + _ ≤ _; exact Nat.le_of_eq rfl) (hb hby own_d_prog_32_method_1_code_21) (fun _ _ => ⟨rfl, e9, (by decide : 4 + 0 ≤ _), (by decide : 40 + 0 ≤ _)⟩)
  dsimp only [Pt.U, Pt.locs, Pt.cells, Pt.slots] at X11 l11 y11 z11 st11 hQ11
  subst l11 y11 z11
  obtain ⟨rfl, N11q, e11q⟩ := hQ11
  have N11a := Fr.app Nf8 N11q
  have f12 : StrV Z h9 a3 cs := (S_a3.keepN ((((Keep.refl h0 [a1]).ext E2).wr W8 (Or.inl (List.mem_of_getElem? (i := 0) rfl))).ext E9) (allS (NStr.of E_a1 (hw _ (List.mem_of_getElem? (i := 1) rfl)) (by decide)) all0))
  obtain ⟨T13, X13, e13, st13⟩ := castY X11 hx hZ9 hown9 (hw _ (List.mem_of_getElem? (i := 49) rfl)) e11q (Ins.self f12.exa) (g := (mkF m 24 #[.val (.ref a1), .val (.ref a2), .val (.ref a3), .val (.int p4)] [(.ref a3), (.ref a1)])) rfl rfl (hb hby own_d_prog_32_method_1_code_24)
  have f14 : Fld Z h9 a1 "com/example/mudskipper/mudskipper/jpql/Token" "text" "Ljava/lang/String;" .null := (((F_text_a1.ext E2).other W8 (Or.inr (slot_ne (Or.inr (hw _ (List.mem_of_getElem? (i := 51) rfl))) (Or.inr (hw _ (List.mem_of_getElem? (i := 47) rfl))) (by decide) (t := (.object "java/lang/String")) (t' := (.object "com/example/mudskipper/mudskipper/jpql/TokenKind")) (by decide) (by decide)))).ext E9)
  have f15 : Exa Z h9 a1 "com/example/mudskipper/mudskipper/jpql/Token" := ((f7.wr W8).ext E9)
  obtain ⟨T16, h16, X16, e16, W16, st16⟩ := putF X13 hx hZ9 hown9 (host := "") (Or.inl (hw _ (List.mem_of_getElem? (i := 50) rfl))) Via.refl e13 f14 f15 (Or.inr ⟨(hw _ (List.mem_of_getElem? (i := 51) rfl)), rfl, hnm⟩) (hw _ (List.mem_of_getElem? (i := 1) rfl)) (ty := (.object "java/lang/String")) (by decide) rfl rfl (g := (mkF m 27 #[.val (.ref a1), .val (.ref a2), .val (.ref a3), .val (.int p4)] [(.ref a3), (.ref a1)])) rfl rfl (hb hby own_d_prog_32_method_1_code_27)
  have Fw16 := f14.same W16
  have Nf16 := Fr.snoc X16 N11a g_a1
  have CH4 : CHr Z own_EL s.vm h0 T9.vm h16 := CH3.trans (CHr.wr W16 (Safe.exa (hZ9 : Z.Warmed39 T9.vm).alike f15 (by decide) (by decide)) CH3.1)
  have K4 : Keep h0 h16 [a1] := K3.wr W16 (Or.inl (List.mem_of_getElem? (i := 0) rfl))
  have f17 : Fld Z h16 a1 "com/example/mudskipper/mudskipper/jpql/Token" "position" "I" (.int (0 : Int32)) := ((((F_position_a1.ext E2).other W8 (Or.inr (slot_ne (Or.inr (hw _ (List.mem_of_getElem? (i := 53) rfl))) (Or.inr (hw _ (List.mem_of_getElem? (i := 47) rfl))) (by decide) (t := .int) (t' := (.object "com/example/mudskipper/mudskipper/jpql/TokenKind")) (by decide) (by decide)))).ext E9).other W16 (Or.inr (slot_ne (Or.inr (hw _ (List.mem_of_getElem? (i := 53) rfl))) (Or.inr (hw _ (List.mem_of_getElem? (i := 51) rfl))) (by decide) (t := .int) (t' := (.object "java/lang/String")) (by decide) (by decide))))
  have f18 : Exa Z h16 a1 "com/example/mudskipper/mudskipper/jpql/Token" := (f15.wr W16)
  obtain ⟨T19, h19, X19, e19, W19, st19⟩ := putF X16 hx hZ9 hown9 (host := "") (Or.inl (hw _ (List.mem_of_getElem? (i := 52) rfl))) Via.refl e16 f17 f18 (Or.inr ⟨(hw _ (List.mem_of_getElem? (i := 53) rfl)), rfl, hnm⟩) (hw _ (List.mem_of_getElem? (i := 1) rfl)) (ty := .int) (by decide) rfl rfl (g := (mkF m 32 #[.val (.ref a1), .val (.ref a2), .val (.ref a3), .val (.int p4)] [(.int p4), (.ref a1)])) rfl rfl (hb hby own_d_prog_32_method_1_code_32)
  have Fw19 := f17.same W19
  have Nf19 := Fr.snoc X19 Nf16 g_a1
  have CH5 : CHr Z own_EL s.vm h0 T9.vm h19 := CH4.trans (CHr.wr W19 (Safe.exa (hZ9 : Z.Warmed39 T9.vm).alike f18 (by decide) (by decide)) CH4.1)
  have K5 : Keep h0 h19 [a1] := K4.wr W19 (Or.inl (List.mem_of_getElem? (i := 0) rfl))
  have f20 : Fld Z h19 a1 "com/example/mudskipper/mudskipper/jpql/Token" "kind" "Lcom/example/mudskipper/mudskipper/jpql/TokenKind;" (.ref a2) := (((Fw8.ext E9).other W16 (Or.inr (slot_ne (Or.inr (hw _ (List.mem_of_getElem? (i := 47) rfl))) (Or.inr (hw _ (List.mem_of_getElem? (i := 51) rfl))) (by decide) (t := (.object "com/example/mudskipper/mudskipper/jpql/TokenKind")) (t' := (.object "java/lang/String")) (by decide) (by decide)))).other W19 (Or.inr (slot_ne (Or.inr (hw _ (List.mem_of_getElem? (i := 47) rfl))) (Or.inr (hw _ (List.mem_of_getElem? (i := 53) rfl))) (by decide) (t := (.object "com/example/mudskipper/mudskipper/jpql/TokenKind")) (t' := .int) (by decide) (by decide))))
  have f21 : Fld Z h19 a1 "com/example/mudskipper/mudskipper/jpql/Token" "text" "Ljava/lang/String;" (.ref a3) := (Fw16.other W19 (Or.inr (slot_ne (Or.inr (hw _ (List.mem_of_getElem? (i := 51) rfl))) (Or.inr (hw _ (List.mem_of_getElem? (i := 53) rfl))) (by decide) (t := (.object "java/lang/String")) (t' := .int) (by decide) (by decide))))
  have hk_22 := Nat.le_trans hk9 (((Keep.refl h9 [a1]).wr W16 (Or.inl (List.mem_of_getElem? (i := 0) rfl))).wr W19 (Or.inl (List.mem_of_getElem? (i := 0) rfl))).1
  obtain ⟨fs, hr, hrun, hended, hend⟩ := X19.leaveW hS9 (by rw [e19]; exact hk_22) (v := none) (fun _ => rfl)
  refine ⟨_, _, pre0 _ ?_, hrun, hended, _, _, rfl, ?_, ?_, hend.1, hend.2.1, hend.2.2.1, hend.2.2.2.mono (by decide) (by decide)⟩
  · show Steps p.tables e below (s₁.setTop (mkF m 0 #[.val (.ref a1), .val (.ref a2), .val (.ref a3), .val (.int p4)] [])) _
    refine XS.aloadN X0.here hx rfl (hb hby own_d_prog_32_method_1_code_0) rfl rfl ?_
    show Steps p.tables e below (s₁.setTop (mkF m 1 #[.val (.ref a1), .val (.ref a2), .val (.ref a3), .val (.int p4)] [(.ref a1)])) _
    refine st1 _ ?_
    refine XS.aloadN X1.here hx rfl (hb hby own_d_prog_32_method_1_code_4) rfl rfl ?_
    refine XS.aloadN X1.here hx rfl (hb hby own_d_prog_32_method_1_code_5) rfl rfl ?_
    show Steps p.tables e below (T1.setTop (mkF m 6 #[.val (.ref a1), .val (.ref a2), .val (.ref a3), .val (.int p4)] [(.ref a2), (.ref a1)])) _
    refine st2 _ ?_
    show Steps p.tables e below (T2.setTop (mkF m 8 #[.val (.ref a1), .val (.ref a2), .val (.ref a3), .val (.int p4)] [(.ref lit2), (.ref a2), (.ref a1)])) _
    refine st3 _ ?_
    show Steps p.tables e below (T3.setTop (mkF m 11 #[.val (.ref a1), .val (.ref a2), .val (.ref a3), .val (.int p4)] [(.ref a2), (.ref a1)])) _
    refine st5 _ ?_
    show Steps p.tables e below (T5.setTop (mkF m 14 #[.val (.ref a1), .val (.ref a2), .val (.ref a3), .val (.int p4)] [(.ref a2), (.ref a1)])) _
    refine st8 _ ?_
    refine XS.aloadN X8.here hx rfl (hb hby own_d_prog_32_method_1_code_17) rfl rfl ?_
    refine XS.aloadN X8.here hx rfl (hb hby own_d_prog_32_method_1_code_18) rfl rfl ?_
    show Steps p.tables e below (T8.setTop (mkF m 19 #[.val (.ref a1), .val (.ref a2), .val (.ref a3), .val (.int p4)] [(.ref a3), (.ref a1)])) _
    refine st9 _ ?_
    show Steps p.tables e below (T9.setTop (mkF m 21 #[.val (.ref a1), .val (.ref a2), .val (.ref a3), .val (.int p4)] [(.ref lit9), (.ref a3), (.ref a1)])) _
    refine st11 _ ?_
    show Steps p.tables e below (T11.setTop (mkF m 24 #[.val (.ref a1), .val (.ref a2), .val (.ref a3), .val (.int p4)] [(.ref a3), (.ref a1)])) _
    refine st13 _ ?_
    show Steps p.tables e below (T13.setTop (mkF m 27 #[.val (.ref a1), .val (.ref a2), .val (.ref a3), .val (.int p4)] [(.ref a3), (.ref a1)])) _
    refine st16 _ ?_
    refine XS.aloadN X16.here hx rfl (hb hby own_d_prog_32_method_1_code_30) rfl rfl ?_
    refine XS.iloadN X16.here hx rfl (hb hby own_d_prog_32_method_1_code_31) rfl ?_
    show Steps p.tables e below (T16.setTop (mkF m 32 #[.val (.ref a1), .val (.ref a2), .val (.ref a3), .val (.int p4)] [(.int p4), (.ref a1)])) _
    refine st19 _ ?_
    show Steps p.tables e below (T19.setTop (mkF m 35 #[.val (.ref a1), .val (.ref a2), .val (.ref a3), .val (.int p4)] [])) _
    exact X19.returnOut hx Bd.returns (hb hby own_d_prog_32_method_1_code_35) hr
  · show QT Z a1 a2 a3 p4 h0 n0 _ T19.heap _
    rw [e19]
    exact ⟨rfl, Nf19, K5, f20, f21, Fw19⟩
  · show CHr Z own_EL s.vm s.heap T19.vm T19.heap
    rw [hh, e19]
    exact CH5.trans (CHv.at X19 hZ9 hEL CH5.1)
def QB (b : Int32) (h0 : Heap) (n0 : Nat) (v : Option Value) (h : Heap) (L : List Loc) : Prop := v = some (.int b) ∧ Fr n0 L ∧ h = h0
theorem own_notTok {Z : State} {a0 : Array Value} {n : Nat} (w : (Jvm.Cond.superclass "java/lang/String" "java/lang/Object").before a0 Z = true) (wo : (Jvm.Cond.noSuperclass "java/lang/Object").before a0 Z = true) (wi : (Jvm.Cond.instantiable "com/example/mudskipper/mudskipper/jpql/Token" n).before a0 Z = true) : ∃ c t, Z.vm.findClass "java/lang/String" = some c ∧ Z.vm.findClass "com/example/mudskipper/mudskipper/jpql/Token" = some t ∧ Z.vm.assignable c t = false := by
  obtain ⟨t, kt, g1, g2, g3, g4, g5, -⟩ := Cond.instantiable_spec wi
  obtain ⟨c, h0⟩ := found_sup w
  obtain ⟨q, k, kq, h1, h2, h3, h4, h5, -, h7⟩ := Cond.superclass_spec h0 w
  obtain ⟨o, ko, o1, o2, o3, -, -⟩ := Cond.noSuperclass_spec wo
  cases h1.symm.trans o1
  have ne := ids_ne h0 g1 (by decide)
  have ne2 := ids_ne o1 g1 (by decide)
  have sub : ∀ fuel, Z.vm.isSubclassAux fuel c t = false := fun fuel => by
    cases fuel with
    | zero => rfl
    | succ f =>
      cases f with
      | zero => simp [Vm.isSubclassAux, ne, h2, h4]
      | succ f => simp [Vm.isSubclassAux, ne, ne2, h2, h4, o2, o3]
  refine ⟨c, t, h0, g1, ?_⟩
  show Z.vm.assignableAux (255 + 1) c t = false
  have gi : kt.isInterface = false := (Bool.or_eq_false_iff.1 g4).1
  simp [Vm.assignableAux, ne, h2, g2, h5, g3, gi, g5, Vm.isSubclass, sub]
theorem own_monoE {l : Launch} {R : Room} {p : Program} {e : Env} {below : List Frame} {s : State} {args : Array Value} {y : MethodName} {len W : Nat} {P : Pt → Array Value → Prop} {h : Heap} {cs ds : List Int32} (B : Back l R p e below s args y len W P (fun A _ v B => ∃ L, (((v = some (.int 1) ∧ cs = ds) ∨ (v = some (.int 0) ∧ ¬ cs = ds)) ∧ L = [] ∧ B.U.heap = h) ∧ B.locs = A.locs ++ L ∧ B.cells = A.cells + 0 ∧ B.slots = A.slots + 0)) (q : cs = ds) :
    Back l R p e below s args y len W P (fun A _ v B => ∃ L, (v = some (.int (1 : Int32)) ∧ L = [] ∧ B.U.heap = h) ∧ B.locs = A.locs ++ L ∧ B.cells = A.cells + 0 ∧ B.slots = A.slots + 0) :=
  Back.mono B (fun _ _ hp => hp) (fun _ _ _ _ _ ⟨L, ⟨hv, h2, h3⟩, h4⟩ => ⟨L, ⟨hv.elim (fun z => z.1) (fun z => absurd q z.2), h2, h3⟩, h4⟩)
theorem own_monoN {l : Launch} {R : Room} {p : Program} {e : Env} {below : List Frame} {s : State} {args : Array Value} {y : MethodName} {len W : Nat} {P : Pt → Array Value → Prop} {h : Heap} {cs ds : List Int32} (B : Back l R p e below s args y len W P (fun A _ v B => ∃ L, (((v = some (.int 1) ∧ cs = ds) ∨ (v = some (.int 0) ∧ ¬ cs = ds)) ∧ L = [] ∧ B.U.heap = h) ∧ B.locs = A.locs ++ L ∧ B.cells = A.cells + 0 ∧ B.slots = A.slots + 0)) (q : ¬ cs = ds) :
    Back l R p e below s args y len W P (fun A _ v B => ∃ L, (v = some (.int (0 : Int32)) ∧ L = [] ∧ B.U.heap = h) ∧ B.locs = A.locs ++ L ∧ B.cells = A.cells + 0 ∧ B.slots = A.slots + 0) :=
  Back.mono B (fun _ _ hp => hp) (fun _ _ _ _ _ ⟨L, ⟨hv, h2, h3⟩, h4⟩ => ⟨L, ⟨hv.elim (fun z => absurd z.2 q) (fun z => z.1), h2, h3⟩, h4⟩)
theorem own_d_prog_32_method_5_code_0 : decode prog_32_method_5_code 0 = .ok (.aload_n 1, 1) := by decide +kernel
theorem own_d_prog_32_method_5_code_1 : decode prog_32_method_5_code 1 = .ok (.instanceof 18, 3) := by decide +kernel
theorem own_d_prog_32_method_5_code_4 : decode prog_32_method_5_code 4 = .ok (.ifCond .eq 11, 3) := by decide +kernel
theorem own_d_prog_32_method_5_code_15 : decode prog_32_method_5_code 15 = .ok (.iconst 0, 1) := by decide +kernel
theorem own_d_prog_32_method_5_code_16 : decode prog_32_method_5_code 16 = .ok (.ireturn, 1) := by decide +kernel
theorem own_ef_prog_32_method_5_code_xn (m : MethodId) (x0 : Addr) : entryFrame m #[(.ref x0), .null] 3 = mkF m 0 #[.val (.ref x0), .val .null, .unset] [] := by first | (simp [entryFrame, mkF, argsToLocals, Value.category]; done) | rfl
set_option maxRecDepth 65536 in
set_option maxHeartbeats 40000000 in
theorem re_null (l : Launch) (Z : State) (a0 : Array Value) (hw : ∀ d ∈ tables_1, d.before a0 Z = true) (ws : List Jvm.Cond) (a1 : Addr) (h0 : Heap) (n0 : Nat) (Z0 : n0 ≤ h0.size)  :
    MetFree l (⟨"com/example/mudskipper/mudskipper/jpql/Token", "equals", "(Ljava/lang/Object;)Z"⟩ : MethodName) (head1 (Jvm.Cond.code (⟨"com/example/mudskipper/mudskipper/jpql/Token", "equals", "(Ljava/lang/Object;)Z"⟩ : MethodName) prog_32_method_5_code 3 (some .boolean) :: ws) ({ frames := 2, cells := 0, slots := 0, locals := 28 } : Room)) (fun a U => a = #[(.ref a1), .null] ∧ Z.Warmed39 U.vm ∧ U.heap = h0) (fun _ _ _ _ _ => True) (fun _ U o U' => ∃ v L, o = .returned v ∧ QB 0 h0 n0 v U'.heap L ∧ FrameEnd U o U' L 0 0) := by
  refine MetFree.of_bodySF (plainFor_of_name own_pn_com_example_mudskipper_mudskipper_jpql_Token) hisR ?_
  intro p e s m args below meth c s₁ Bd hml0 hP hK
  obtain ⟨rfl, hZ, hh⟩ := hP
  have hx := Bd.exec
  have hby := Bd.bytes
  have hml : c.maxLocals = 3 := hml0
  have hown : s.vm.findClass "com/example/mudskipper/mudskipper/jpql/Token" = some m.cls := findClass_of_methodNamed Bd.named
  have hnm := (name_of_methodNamed Bd.named Bd.method).1
  have X0 : Stand p l e ({ frames := 2, cells := 0, slots := 0, locals := 28 } : Room) s m #[(.ref a1), .null] below meth c s₁ [] 0 0 := Stand.of_body Bd
  have e0 : s₁.heap = h0 := by rw [← hh, Bd.state]; rfl
  have N0 := Fr.nil n0
  have pre0 : ∀ t, Steps p.tables e below (s₁.setTop (mkF m 0 #[.val (.ref a1), .val .null, .unset] [])) t → Steps p.tables e below (s₁.setTop (entryFrame m #[(.ref a1), .null] 3)) t := fun t k => castTop (own_ef_prog_32_method_5_code_xn m a1) k
  obtain ⟨fs, hr, hrun, hended, hW, hsame⟩ := X0.leave (v := some (.int (0 : Int32))) (fun h => by rw [Bd.returns] at h; cases h)
  refine ⟨_, _, pre0 _ ?_, hrun, hended, _, _, rfl, ?_, ⟨_, rfl⟩, hW, hsame.mono (by decide) (by decide)⟩
  · show Steps p.tables e below (s₁.setTop (mkF m 0 #[.val (.ref a1), .val .null, .unset] [])) _
    refine XS.aloadN X0.here hx rfl (hb hby own_d_prog_32_method_5_code_0) rfl rfl ?_
    show Steps p.tables e below (s₁.setTop (mkF m 1 #[.val (.ref a1), .val .null, .unset] [.null])) _
    refine X0.instanceofNull hx (g := (mkF m 1 #[.val (.ref a1), .val .null, .unset] [.null])) rfl rfl (hb hby own_d_prog_32_method_5_code_1) _ ?_
    show Steps p.tables e below (s₁.setTop (mkF m 4 #[.val (.ref a1), .val .null, .unset] [(.int (0 : Int32))])) _
    refine XS.ifYes X0.here hx rfl (pc0 := 4) (pc' := 15) rfl (hb hby own_d_prog_32_method_5_code_4) rfl ((if0 _ _).trans (teq (by decide : (0 : Int32) = (0 : Int32))).1) (by decide) (by decide) ?_
    refine XS.iconst X0.here hx rfl (hb hby own_d_prog_32_method_5_code_15) ?_
    show Steps p.tables e below (s₁.setTop (mkF m 16 #[.val (.ref a1), .val .null, .unset] [(.int (0 : Int32))])) _
    exact retN X0 hx (t := .boolean) Bd.returns (by simp) (hb hby own_d_prog_32_method_5_code_16) hr
  · show QB 0 h0 n0 _ s₁.heap _
    rw [e0]
    exact ⟨rfl, N0, rfl⟩
theorem own_ef_prog_32_method_5_code_xx (m : MethodId) (x0 : Addr) (x1 : Addr) : entryFrame m #[(.ref x0), (.ref x1)] 3 = mkF m 0 #[.val (.ref x0), .val (.ref x1), .unset] [] := by first | (simp [entryFrame, mkF, argsToLocals, Value.category]; done) | rfl
set_option maxRecDepth 65536 in
set_option maxHeartbeats 40000000 in
theorem re_str (l : Launch) (Z : State) (a0 : Array Value) (hw : ∀ d ∈ tables_1, d.before a0 Z = true) (ws : List Jvm.Cond) (a1 a2 : Addr) (cs : List Int32) (h0 : Heap) (n0 : Nat) (Z0 : n0 ≤ h0.size) (S_a2 : StrV Z h0 a2 cs) :
    MetFree l (⟨"com/example/mudskipper/mudskipper/jpql/Token", "equals", "(Ljava/lang/Object;)Z"⟩ : MethodName) (head1 (Jvm.Cond.code (⟨"com/example/mudskipper/mudskipper/jpql/Token", "equals", "(Ljava/lang/Object;)Z"⟩ : MethodName) prog_32_method_5_code 3 (some .boolean) :: ws) ({ frames := 2, cells := 0, slots := 0, locals := 28 } : Room)) (fun a U => a = #[(.ref a1), (.ref a2)] ∧ Z.Warmed39 U.vm ∧ U.heap = h0) (fun _ _ _ _ _ => True) (fun _ U o U' => ∃ v L, o = .returned v ∧ QB 0 h0 n0 v U'.heap L ∧ FrameEnd U o U' L 0 0) := by
  refine MetFree.of_bodySF (plainFor_of_name own_pn_com_example_mudskipper_mudskipper_jpql_Token) hisR ?_
  intro p e s m args below meth c s₁ Bd hml0 hP hK
  obtain ⟨rfl, hZ, hh⟩ := hP
  have hx := Bd.exec
  have hby := Bd.bytes
  have hml : c.maxLocals = 3 := hml0
  have hown : s.vm.findClass "com/example/mudskipper/mudskipper/jpql/Token" = some m.cls := findClass_of_methodNamed Bd.named
  have hnm := (name_of_methodNamed Bd.named Bd.method).1
  have X0 : Stand p l e ({ frames := 2, cells := 0, slots := 0, locals := 28 } : Room) s m #[(.ref a1), (.ref a2)] below meth c s₁ [] 0 0 := Stand.of_body Bd
  have e0 : s₁.heap = h0 := by rw [← hh, Bd.state]; rfl
  have N0 := Fr.nil n0
  have pre0 : ∀ t, Steps p.tables e below (s₁.setTop (mkF m 0 #[.val (.ref a1), .val (.ref a2), .unset] [])) t → Steps p.tables e below (s₁.setTop (entryFrame m #[(.ref a1), (.ref a2)] 3)) t := fun t k => castTop (own_ef_prog_32_method_5_code_xx m a1 a2) k
  obtain ⟨T1, X1, e1, st1⟩ := instNo X0 hx hZ hown (hw _ (List.mem_of_getElem? (i := 61) rfl)) e0 S_a2.exa (own_notTok (hw _ (List.mem_of_getElem? (i := 74) rfl)) (hw _ (List.mem_of_getElem? (i := 75) rfl)) (hw _ (List.mem_of_getElem? (i := 1) rfl))) (g := (mkF m 1 #[.val (.ref a1), .val (.ref a2), .unset] [(.ref a2)])) rfl rfl (hb hby own_d_prog_32_method_5_code_1)
  obtain ⟨fs, hr, hrun, hended, hW, hsame⟩ := X1.leave (v := some (.int (0 : Int32))) (fun h => by rw [Bd.returns] at h; cases h)
  refine ⟨_, _, pre0 _ ?_, hrun, hended, _, _, rfl, ?_, ⟨_, rfl⟩, hW, hsame.mono (by decide) (by decide)⟩
  · show Steps p.tables e below (s₁.setTop (mkF m 0 #[.val (.ref a1), .val (.ref a2), .unset] [])) _
    refine XS.aloadN X0.here hx rfl (hb hby own_d_prog_32_method_5_code_0) rfl rfl ?_
    show Steps p.tables e below (s₁.setTop (mkF m 1 #[.val (.ref a1), .val (.ref a2), .unset] [(.ref a2)])) _
    refine st1 _ ?_
    show Steps p.tables e below (T1.setTop (mkF m 4 #[.val (.ref a1), .val (.ref a2), .unset] [(.int (0 : Int32))])) _
    refine XS.ifYes X1.here hx rfl (pc0 := 4) (pc' := 15) rfl (hb hby own_d_prog_32_method_5_code_4) rfl ((if0 _ _).trans (teq (by decide : (0 : Int32) = (0 : Int32))).1) (by decide) (by decide) ?_
    refine XS.iconst X1.here hx rfl (hb hby own_d_prog_32_method_5_code_15) ?_
    show Steps p.tables e below (T1.setTop (mkF m 16 #[.val (.ref a1), .val (.ref a2), .unset] [(.int (0 : Int32))])) _
    exact retN X1 hx (t := .boolean) Bd.returns (by simp) (hb hby own_d_prog_32_method_5_code_16) hr
  · show QB 0 h0 n0 _ T1.heap _
    rw [e1]
    exact ⟨rfl, N0, rfl⟩
theorem own_d_prog_32_method_5_code_7 : decode prog_32_method_5_code 7 = .ok (.aload_n 1, 1) := by decide +kernel
theorem own_d_prog_32_method_5_code_8 : decode prog_32_method_5_code 8 = .ok (.checkcast 18, 3) := by decide +kernel
theorem own_d_prog_32_method_5_code_11 : decode prog_32_method_5_code 11 = .ok (.astore_n 2, 1) := by decide +kernel
theorem own_d_prog_32_method_5_code_12 : decode prog_32_method_5_code 12 = .ok (.goto 5, 3) := by decide +kernel
theorem own_d_prog_32_method_5_code_17 : decode prog_32_method_5_code 17 = .ok (.aload_n 0, 1) := by decide +kernel
theorem own_d_prog_32_method_5_code_18 : decode prog_32_method_5_code 18 = .ok (.getfield 17, 3) := by decide +kernel
theorem own_d_prog_32_method_5_code_21 : decode prog_32_method_5_code 21 = .ok (.aload_n 2, 1) := by decide +kernel
theorem own_d_prog_32_method_5_code_22 : decode prog_32_method_5_code 22 = .ok (.getfield 17, 3) := by decide +kernel
theorem own_d_prog_32_method_5_code_25 : decode prog_32_method_5_code 25 = .ok (.if_acmp .ne 32, 3) := by decide +kernel
theorem own_d_prog_32_method_5_code_57 : decode prog_32_method_5_code 57 = .ok (.iconst 0, 1) := by decide +kernel
theorem own_d_prog_32_method_5_code_58 : decode prog_32_method_5_code 58 = .ok (.ireturn, 1) := by decide +kernel
set_option maxRecDepth 65536 in
set_option maxHeartbeats 40000000 in
theorem re_k (l : Launch) (Z : State) (a0 : Array Value) (hw : ∀ d ∈ tables_1, d.before a0 Z = true) (ws : List Jvm.Cond) (a1 a2 b1 b2 s1 s2 : Addr) (cs ds : List Int32) (x1 x2 : Int32) (G1 : Int32) (h0 : Heap) (n0 : Nat) (Z0 : n0 ≤ h0.size) (E_a1 : Exa Z h0 a1 "com/example/mudskipper/mudskipper/jpql/Token") (F_kind_a1 : Fld Z h0 a1 "com/example/mudskipper/mudskipper/jpql/Token" "kind" "Lcom/example/mudskipper/mudskipper/jpql/TokenKind;" (.ref b1)) (F_text_a1 : Fld Z h0 a1 "com/example/mudskipper/mudskipper/jpql/Token" "text" "Ljava/lang/String;" (.ref s1)) (F_position_a1 : Fld Z h0 a1 "com/example/mudskipper/mudskipper/jpql/Token" "position" "I" (.int x1)) (S_s1 : StrV Z h0 s1 cs) (E_a2 : Exa Z h0 a2 "com/example/mudskipper/mudskipper/jpql/Token") (F_kind_a2 : Fld Z h0 a2 "com/example/mudskipper/mudskipper/jpql/Token" "kind" "Lcom/example/mudskipper/mudskipper/jpql/TokenKind;" (.ref b2)) (F_text_a2 : Fld Z h0 a2 "com/example/mudskipper/mudskipper/jpql/Token" "text" "Ljava/lang/String;" (.ref s2)) (F_position_a2 : Fld Z h0 a2 "com/example/mudskipper/mudskipper/jpql/Token" "position" "I" (.int x2)) (S_s2 : StrV Z h0 s2 ds) (O2 : Sta Z Z.heap "java/lang/String" "COMPACT_STRINGS" "Z" (.int G1)) (P5 : ¬ (G1 = (0 : Int32))) (O0 : Old Z n0 h0) (hl1 : cs.length ≤ 4000) (hl2 : ds.length ≤ 4000) (hk : ¬ (b1 = b2)) :
    MetFree l (⟨"com/example/mudskipper/mudskipper/jpql/Token", "equals", "(Ljava/lang/Object;)Z"⟩ : MethodName) (head1 (Jvm.Cond.code (⟨"com/example/mudskipper/mudskipper/jpql/Token", "equals", "(Ljava/lang/Object;)Z"⟩ : MethodName) prog_32_method_5_code 3 (some .boolean) :: ws) ({ frames := 3, cells := 0, slots := 0, locals := 42 } : Room)) (fun a U => a = #[(.ref a1), (.ref a2)] ∧ Z.Warmed39 U.vm ∧ U.heap = h0) (fun _ _ _ _ _ => True) (fun _ U o U' => ∃ v L, o = .returned v ∧ QB 0 h0 n0 v U'.heap L ∧ FrameEnd U o U' L 0 0) := by
  refine MetFree.of_bodySF (plainFor_of_name own_pn_com_example_mudskipper_mudskipper_jpql_Token) hisR ?_
  intro p e s m args below meth c s₁ Bd hml0 hP hK
  obtain ⟨rfl, hZ, hh⟩ := hP
  have hx := Bd.exec
  have hby := Bd.bytes
  have hml : c.maxLocals = 3 := hml0
  have hown : s.vm.findClass "com/example/mudskipper/mudskipper/jpql/Token" = some m.cls := findClass_of_methodNamed Bd.named
  have hnm := (name_of_methodNamed Bd.named Bd.method).1
  have X0 : Stand p l e ({ frames := 3, cells := 0, slots := 0, locals := 42 } : Room) s m #[(.ref a1), (.ref a2)] below meth c s₁ [] 0 0 := Stand.of_body Bd
  have e0 : s₁.heap = h0 := by rw [← hh, Bd.state]; rfl
  have N0 := Fr.nil n0
  have pre0 : ∀ t, Steps p.tables e below (s₁.setTop (mkF m 0 #[.val (.ref a1), .val (.ref a2), .unset] [])) t → Steps p.tables e below (s₁.setTop (entryFrame m #[(.ref a1), (.ref a2)] 3)) t := fun t k => castTop (own_ef_prog_32_method_5_code_xx m a1 a2) k
  obtain ⟨T1, X1, e1, st1⟩ := instY X0 hx hZ hown (hw _ (List.mem_of_getElem? (i := 61) rfl)) e0 (Ins.self E_a2) (g := (mkF m 1 #[.val (.ref a1), .val (.ref a2), .unset] [(.ref a2)])) rfl rfl (hb hby own_d_prog_32_method_5_code_1)
  obtain ⟨T2, X2, e2, st2⟩ := castY X1 hx hZ hown (hw _ (List.mem_of_getElem? (i := 61) rfl)) e1 (Ins.self E_a2) (g := (mkF m 8 #[.val (.ref a1), .val (.ref a2), .unset] [(.ref a2)])) rfl rfl (hb hby own_d_prog_32_method_5_code_8)
  obtain ⟨T3, X3, e3, st3⟩ := getF X2 hx hZ hown (host := "") (Or.inl (hw _ (List.mem_of_getElem? (i := 46) rfl))) Via.refl e2 F_kind_a1 (g := (mkF m 18 #[.val (.ref a1), .val (.ref a2), .val (.ref a2)] [(.ref a1)])) rfl rfl (hb hby own_d_prog_32_method_5_code_18)
  obtain ⟨T4, X4, e4, st4⟩ := getF X3 hx hZ hown (host := "") (Or.inl (hw _ (List.mem_of_getElem? (i := 46) rfl))) Via.refl e3 F_kind_a2 (g := (mkF m 22 #[.val (.ref a1), .val (.ref a2), .val (.ref a2)] [(.ref a2), (.ref b1)])) rfl rfl (hb hby own_d_prog_32_method_5_code_22)
  obtain ⟨fs, hr, hrun, hended, hW, hsame⟩ := X4.leave (v := some (.int (0 : Int32))) (fun h => by rw [Bd.returns] at h; cases h)
  refine ⟨_, _, pre0 _ ?_, hrun, hended, _, _, rfl, ?_, ⟨_, rfl⟩, hW, hsame.mono (by decide) (by decide)⟩
  · show Steps p.tables e below (s₁.setTop (mkF m 0 #[.val (.ref a1), .val (.ref a2), .unset] [])) _
    refine XS.aloadN X0.here hx rfl (hb hby own_d_prog_32_method_5_code_0) rfl rfl ?_
    show Steps p.tables e below (s₁.setTop (mkF m 1 #[.val (.ref a1), .val (.ref a2), .unset] [(.ref a2)])) _
    refine st1 _ ?_
    show Steps p.tables e below (T1.setTop (mkF m 4 #[.val (.ref a1), .val (.ref a2), .unset] [(.int (1 : Int32))])) _
    refine XS.ifNo X1.here hx rfl (hb hby own_d_prog_32_method_5_code_4) rfl ((if0 _ _).trans (feq (by decide : ¬ ((1 : Int32) = (0 : Int32)))).1) ?_
    refine XS.aloadN X1.here hx rfl (hb hby own_d_prog_32_method_5_code_7) rfl rfl ?_
    show Steps p.tables e below (T1.setTop (mkF m 8 #[.val (.ref a1), .val (.ref a2), .unset] [(.ref a2)])) _
    refine st2 _ ?_
    refine XS.astoreN X2.here hx rfl (hb hby own_d_prog_32_method_5_code_11) rfl rfl (l' := #[.val (.ref a1), .val (.ref a2), .val (.ref a2)]) rfl ?_
    refine XS.goto X2.here hx rfl (pc0 := 12) (pc' := 17) rfl (hb hby own_d_prog_32_method_5_code_12) (by decide) (by decide) ?_
    show Steps p.tables e below (T2.setTop (mkF m 17 #[.val (.ref a1), .val (.ref a2), .val (.ref a2)] [])) _
    refine XS.aloadN X2.here hx rfl (hb hby own_d_prog_32_method_5_code_17) rfl rfl ?_
    show Steps p.tables e below (T2.setTop (mkF m 18 #[.val (.ref a1), .val (.ref a2), .val (.ref a2)] [(.ref a1)])) _
    refine st3 _ ?_
    refine XS.aloadN X3.here hx rfl (hb hby own_d_prog_32_method_5_code_21) rfl rfl ?_
    show Steps p.tables e below (T3.setTop (mkF m 22 #[.val (.ref a1), .val (.ref a2), .val (.ref a2)] [(.ref a2), (.ref b1)])) _
    refine st4 _ ?_
    show Steps p.tables e below (T4.setTop (mkF m 25 #[.val (.ref a1), .val (.ref a2), .val (.ref a2)] [(.ref b2), (.ref b1)])) _
    refine Jvm.RoadKit.acmp (g := (mkF m 25 #[.val (.ref a1), .val (.ref a2), .val (.ref a2)] [(.ref b2), (.ref b1)])) X4 hx rfl rfl rfl (pc0 := 25) (pc' := 57) (same := false) rfl (hb hby own_d_prog_32_method_5_code_25) rfl (decide_eq_false fun q => hk (Value.ref.inj q)) (by decide) (by decide) ?_
    refine XS.iconst X4.here hx rfl (hb hby own_d_prog_32_method_5_code_57) ?_
    show Steps p.tables e below (T4.setTop (mkF m 58 #[.val (.ref a1), .val (.ref a2), .val (.ref a2)] [(.int (0 : Int32))])) _
    exact retN X4 hx (t := .boolean) Bd.returns (by simp) (hb hby own_d_prog_32_method_5_code_58) hr
  · show QB 0 h0 n0 _ T4.heap _
    rw [e4]
    exact ⟨rfl, N0, rfl⟩
theorem own_d_prog_32_method_5_code_28 : decode prog_32_method_5_code 28 = .ok (.aload_n 0, 1) := by decide +kernel
theorem own_d_prog_32_method_5_code_29 : decode prog_32_method_5_code 29 = .ok (.getfield 26, 3) := by decide +kernel
theorem own_d_prog_32_method_5_code_32 : decode prog_32_method_5_code 32 = .ok (.aload_n 2, 1) := by decide +kernel
theorem own_d_prog_32_method_5_code_33 : decode prog_32_method_5_code 33 = .ok (.getfield 26, 3) := by decide +kernel
theorem own_d_prog_32_method_5_code_36 : decode prog_32_method_5_code 36 = .ok (.invokevirtual 33, 3) := by decide +kernel
theorem own_d_prog_32_method_5_code_39 : decode prog_32_method_5_code 39 = .ok (.ifCond .eq 18, 3) := by decide +kernel
theorem own_pd__Ljava_lang_Object__Z : parseMethodDescriptor "(Ljava/lang/Object;)Z" = some ⟨[(.object "java/lang/Object")], some .boolean⟩ := by decide +kernel
set_option maxRecDepth 65536 in
set_option maxHeartbeats 40000000 in
theorem re_c (l : Launch) (Z : State) (a0 : Array Value) (hw : ∀ d ∈ tables_1, d.before a0 Z = true) (ws : List Jvm.Cond) (a1 a2 b1 b2 s1 s2 : Addr) (cs ds : List Int32) (x1 x2 : Int32) (G1 : Int32) (h0 : Heap) (n0 : Nat) (Z0 : n0 ≤ h0.size) (E_a1 : Exa Z h0 a1 "com/example/mudskipper/mudskipper/jpql/Token") (F_kind_a1 : Fld Z h0 a1 "com/example/mudskipper/mudskipper/jpql/Token" "kind" "Lcom/example/mudskipper/mudskipper/jpql/TokenKind;" (.ref b1)) (F_text_a1 : Fld Z h0 a1 "com/example/mudskipper/mudskipper/jpql/Token" "text" "Ljava/lang/String;" (.ref s1)) (F_position_a1 : Fld Z h0 a1 "com/example/mudskipper/mudskipper/jpql/Token" "position" "I" (.int x1)) (S_s1 : StrV Z h0 s1 cs) (E_a2 : Exa Z h0 a2 "com/example/mudskipper/mudskipper/jpql/Token") (F_kind_a2 : Fld Z h0 a2 "com/example/mudskipper/mudskipper/jpql/Token" "kind" "Lcom/example/mudskipper/mudskipper/jpql/TokenKind;" (.ref b2)) (F_text_a2 : Fld Z h0 a2 "com/example/mudskipper/mudskipper/jpql/Token" "text" "Ljava/lang/String;" (.ref s2)) (F_position_a2 : Fld Z h0 a2 "com/example/mudskipper/mudskipper/jpql/Token" "position" "I" (.int x2)) (S_s2 : StrV Z h0 s2 ds) (O2 : Sta Z Z.heap "java/lang/String" "COMPACT_STRINGS" "Z" (.int G1)) (P5 : ¬ (G1 = (0 : Int32))) (O0 : Old Z n0 h0) (hl1 : cs.length ≤ 4000) (hl2 : ds.length ≤ 4000) (hk : b1 = b2) (hcs : ¬ cs = ds) :
    MetFree l (⟨"com/example/mudskipper/mudskipper/jpql/Token", "equals", "(Ljava/lang/Object;)Z"⟩ : MethodName) (head1 (Jvm.Cond.code (⟨"com/example/mudskipper/mudskipper/jpql/Token", "equals", "(Ljava/lang/Object;)Z"⟩ : MethodName) prog_32_method_5_code 3 (some .boolean) :: ws) ({ frames := 3, cells := 0, slots := 0, locals := 42 } : Room)) (fun a U => a = #[(.ref a1), (.ref a2)] ∧ Z.Warmed39 U.vm ∧ U.heap = h0) (fun _ _ _ _ _ => True) (fun _ U o U' => ∃ v L, o = .returned v ∧ QB 0 h0 n0 v U'.heap L ∧ FrameEnd U o U' L 0 0) := by
  refine MetFree.of_bodySF (plainFor_of_name own_pn_com_example_mudskipper_mudskipper_jpql_Token) hisR ?_
  intro p e s m args below meth c s₁ Bd hml0 hP hK
  obtain ⟨rfl, hZ, hh⟩ := hP
  have hx := Bd.exec
  have hby := Bd.bytes
  have hml : c.maxLocals = 3 := hml0
  have hown : s.vm.findClass "com/example/mudskipper/mudskipper/jpql/Token" = some m.cls := findClass_of_methodNamed Bd.named
  have hnm := (name_of_methodNamed Bd.named Bd.method).1
  have X0 : Stand p l e ({ frames := 3, cells := 0, slots := 0, locals := 42 } : Room) s m #[(.ref a1), (.ref a2)] below meth c s₁ [] 0 0 := Stand.of_body Bd
  have e0 : s₁.heap = h0 := by rw [← hh, Bd.state]; rfl
  have N0 := Fr.nil n0
  have pre0 : ∀ t, Steps p.tables e below (s₁.setTop (mkF m 0 #[.val (.ref a1), .val (.ref a2), .unset] [])) t → Steps p.tables e below (s₁.setTop (entryFrame m #[(.ref a1), (.ref a2)] 3)) t := fun t k => castTop (own_ef_prog_32_method_5_code_xx m a1 a2) k
  obtain ⟨T1, X1, e1, st1⟩ := instY X0 hx hZ hown (hw _ (List.mem_of_getElem? (i := 61) rfl)) e0 (Ins.self E_a2) (g := (mkF m 1 #[.val (.ref a1), .val (.ref a2), .unset] [(.ref a2)])) rfl rfl (hb hby own_d_prog_32_method_5_code_1)
  obtain ⟨T2, X2, e2, st2⟩ := castY X1 hx hZ hown (hw _ (List.mem_of_getElem? (i := 61) rfl)) e1 (Ins.self E_a2) (g := (mkF m 8 #[.val (.ref a1), .val (.ref a2), .unset] [(.ref a2)])) rfl rfl (hb hby own_d_prog_32_method_5_code_8)
  obtain ⟨T3, X3, e3, st3⟩ := getF X2 hx hZ hown (host := "") (Or.inl (hw _ (List.mem_of_getElem? (i := 46) rfl))) Via.refl e2 F_kind_a1 (g := (mkF m 18 #[.val (.ref a1), .val (.ref a2), .val (.ref a2)] [(.ref a1)])) rfl rfl (hb hby own_d_prog_32_method_5_code_18)
  obtain ⟨T4, X4, e4, st4⟩ := getF X3 hx hZ hown (host := "") (Or.inl (hw _ (List.mem_of_getElem? (i := 46) rfl))) Via.refl e3 F_kind_a2 (g := (mkF m 22 #[.val (.ref a1), .val (.ref a2), .val (.ref a2)] [(.ref a2), (.ref b1)])) rfl rfl (hb hby own_d_prog_32_method_5_code_22)
  obtain ⟨T5, X5, e5, st5⟩ := getF X4 hx hZ hown (host := "") (Or.inl (hw _ (List.mem_of_getElem? (i := 50) rfl))) Via.refl e4 F_text_a1 (g := (mkF m 29 #[.val (.ref a1), .val (.ref a2), .val (.ref a2)] [(.ref a1)])) rfl rfl (hb hby own_d_prog_32_method_5_code_29)
  obtain ⟨T6, X6, e6, st6⟩ := getF X5 hx hZ hown (host := "") (Or.inl (hw _ (List.mem_of_getElem? (i := 50) rfl))) Via.refl e5 F_text_a2 (g := (mkF m 33 #[.val (.ref a1), .val (.ref a2), .val (.ref a2)] [(.ref a2), (.ref s1)])) rfl rfl (hb hby own_d_prog_32_method_5_code_33)
  obtain ⟨sb8, sk8, sN8, sv8, sE8, sV8, sC8, sA8, sc8, su8⟩ := id S_s1
  obtain ⟨sb9, sk9, sN9, sv9, sE9, sV9, sC9, sA9, sc9, su9⟩ := id S_s2
  obtain ⟨cq7, kq7, q7a, q7b, q7c⟩ := isOf hZ e6 S_s1.exa
  obtain ⟨_, _, ⟨T7, L7, k7, n7⟩, -, X7, ⟨Lc7, hQ7, l7, y7, z7⟩, st7⟩ := X6.virtualBack hx (y := (⟨"java/lang/String", "equals", "(Ljava/lang/Object;)Z"⟩ : MethodName)) (z := (⟨"java/lang/String", "equals", "(Ljava/lang/Object;)Z"⟩ : MethodName)) hown (mvT hZ (hw _ (List.mem_of_getElem? (i := 63) rfl))) (mvT hZ (hw _ (List.mem_of_getElem? (i := 64) rfl))) (notFace_of_selects (args := #[]) (mvT hZ (hw _ (List.mem_of_getElem? (i := 66) rfl)))) (mvT hZ (hw _ (List.mem_of_getElem? (i := 66) rfl))) (mvT hZ (hw _ (List.mem_of_getElem? (i := 65) rfl))) (by decide) (own_monoN (StrChars.Road.eqW (W := 0) hZ (own_heq hw) (kI := 4) (hw _ (List.mem_of_getElem? (i := 14) rfl)) sE8 sV8 sC8 sA8 sc8 su8 hl1 sE9 sV9 sC9 sA9 sc9 su9 hl2 (O2.ext O0.2) P5 (by decide) (by decide)) hcs) q7a q7c (g := (mkF m 36 #[.val (.ref a1), .val (.ref a2), .val (.ref a2)] [(.ref s2), (.ref s1)])) rfl (by rw [hml]; rfl) (Steps.refl _) (argsL := [(.ref s2)]) (rest := []) (lenOf own_pd__Ljava_lang_Object__Z rfl) rfl (by show 2 * 0 + _ ≤ _; exact Nat.le_of_eq rfl) (hb hby own_d_prog_32_method_5_code_36) (fun _ _ => ⟨rfl, e6, (by decide : 0 + 0 ≤ _), (by decide : 0 + 0 ≤ _)⟩)
  dsimp only [Pt.U, Pt.locs, Pt.cells, Pt.slots] at X7 l7 y7 z7 st7 hQ7
  subst l7 y7 z7
  obtain ⟨rfl, rfl, e7q⟩ := hQ7
  have N7a := Fr.app N0 (Fr.nil n0)
  obtain ⟨fs, hr, hrun, hended, hW, hsame⟩ := X7.leave (v := some (.int (0 : Int32))) (fun h => by rw [Bd.returns] at h; cases h)
  refine ⟨_, _, pre0 _ ?_, hrun, hended, _, _, rfl, ?_, ⟨_, rfl⟩, hW, hsame.mono (by decide) (by decide)⟩
  · show Steps p.tables e below (s₁.setTop (mkF m 0 #[.val (.ref a1), .val (.ref a2), .unset] [])) _
    refine XS.aloadN X0.here hx rfl (hb hby own_d_prog_32_method_5_code_0) rfl rfl ?_
    show Steps p.tables e below (s₁.setTop (mkF m 1 #[.val (.ref a1), .val (.ref a2), .unset] [(.ref a2)])) _
    refine st1 _ ?_
    show Steps p.tables e below (T1.setTop (mkF m 4 #[.val (.ref a1), .val (.ref a2), .unset] [(.int (1 : Int32))])) _
    refine XS.ifNo X1.here hx rfl (hb hby own_d_prog_32_method_5_code_4) rfl ((if0 _ _).trans (feq (by decide : ¬ ((1 : Int32) = (0 : Int32)))).1) ?_
    refine XS.aloadN X1.here hx rfl (hb hby own_d_prog_32_method_5_code_7) rfl rfl ?_
    show Steps p.tables e below (T1.setTop (mkF m 8 #[.val (.ref a1), .val (.ref a2), .unset] [(.ref a2)])) _
    refine st2 _ ?_
    refine XS.astoreN X2.here hx rfl (hb hby own_d_prog_32_method_5_code_11) rfl rfl (l' := #[.val (.ref a1), .val (.ref a2), .val (.ref a2)]) rfl ?_
    refine XS.goto X2.here hx rfl (pc0 := 12) (pc' := 17) rfl (hb hby own_d_prog_32_method_5_code_12) (by decide) (by decide) ?_
    show Steps p.tables e below (T2.setTop (mkF m 17 #[.val (.ref a1), .val (.ref a2), .val (.ref a2)] [])) _
    refine XS.aloadN X2.here hx rfl (hb hby own_d_prog_32_method_5_code_17) rfl rfl ?_
    show Steps p.tables e below (T2.setTop (mkF m 18 #[.val (.ref a1), .val (.ref a2), .val (.ref a2)] [(.ref a1)])) _
    refine st3 _ ?_
    refine XS.aloadN X3.here hx rfl (hb hby own_d_prog_32_method_5_code_21) rfl rfl ?_
    show Steps p.tables e below (T3.setTop (mkF m 22 #[.val (.ref a1), .val (.ref a2), .val (.ref a2)] [(.ref a2), (.ref b1)])) _
    refine st4 _ ?_
    show Steps p.tables e below (T4.setTop (mkF m 25 #[.val (.ref a1), .val (.ref a2), .val (.ref a2)] [(.ref b2), (.ref b1)])) _
    refine Jvm.RoadKit.acmp (g := (mkF m 25 #[.val (.ref a1), .val (.ref a2), .val (.ref a2)] [(.ref b2), (.ref b1)])) X4 hx rfl rfl rfl (pc0 := 25) (pc' := 28) (same := true) rfl (hb hby own_d_prog_32_method_5_code_25) rfl (decide_eq_true (congrArg Value.ref hk)) (by decide) (by decide) ?_
    refine XS.aloadN X4.here hx rfl (hb hby own_d_prog_32_method_5_code_28) rfl rfl ?_
    show Steps p.tables e below (T4.setTop (mkF m 29 #[.val (.ref a1), .val (.ref a2), .val (.ref a2)] [(.ref a1)])) _
    refine st5 _ ?_
    refine XS.aloadN X5.here hx rfl (hb hby own_d_prog_32_method_5_code_32) rfl rfl ?_
    show Steps p.tables e below (T5.setTop (mkF m 33 #[.val (.ref a1), .val (.ref a2), .val (.ref a2)] [(.ref a2), (.ref s1)])) _
    refine st6 _ ?_
    show Steps p.tables e below (T6.setTop (mkF m 36 #[.val (.ref a1), .val (.ref a2), .val (.ref a2)] [(.ref s2), (.ref s1)])) _
    refine st7.trans ?_
    show Steps p.tables e below (T7.setTop (mkF m 39 #[.val (.ref a1), .val (.ref a2), .val (.ref a2)] [(.int (0 : Int32))])) _
    refine XS.ifYes X7.here hx rfl (pc0 := 39) (pc' := 57) rfl (hb hby own_d_prog_32_method_5_code_39) rfl ((if0 _ _).trans (teq (by decide : (0 : Int32) = (0 : Int32))).1) (by decide) (by decide) ?_
    refine XS.iconst X7.here hx rfl (hb hby own_d_prog_32_method_5_code_57) ?_
    show Steps p.tables e below (T7.setTop (mkF m 58 #[.val (.ref a1), .val (.ref a2), .val (.ref a2)] [(.int (0 : Int32))])) _
    exact retN X7 hx (t := .boolean) Bd.returns (by simp) (hb hby own_d_prog_32_method_5_code_58) hr
  · show QB 0 h0 n0 _ T7.heap _
    rw [e7q]
    exact ⟨rfl, N7a, rfl⟩
theorem own_d_prog_32_method_5_code_42 : decode prog_32_method_5_code 42 = .ok (.aload_n 0, 1) := by decide +kernel
theorem own_d_prog_32_method_5_code_43 : decode prog_32_method_5_code 43 = .ok (.getfield 29, 3) := by decide +kernel
theorem own_d_prog_32_method_5_code_46 : decode prog_32_method_5_code 46 = .ok (.aload_n 2, 1) := by decide +kernel
theorem own_d_prog_32_method_5_code_47 : decode prog_32_method_5_code 47 = .ok (.getfield 29, 3) := by decide +kernel
theorem own_d_prog_32_method_5_code_50 : decode prog_32_method_5_code 50 = .ok (.if_icmp .ne 7, 3) := by decide +kernel
set_option maxRecDepth 65536 in
set_option maxHeartbeats 40000000 in
theorem re_p (l : Launch) (Z : State) (a0 : Array Value) (hw : ∀ d ∈ tables_1, d.before a0 Z = true) (ws : List Jvm.Cond) (a1 a2 b1 b2 s1 s2 : Addr) (cs ds : List Int32) (x1 x2 : Int32) (G1 : Int32) (h0 : Heap) (n0 : Nat) (Z0 : n0 ≤ h0.size) (E_a1 : Exa Z h0 a1 "com/example/mudskipper/mudskipper/jpql/Token") (F_kind_a1 : Fld Z h0 a1 "com/example/mudskipper/mudskipper/jpql/Token" "kind" "Lcom/example/mudskipper/mudskipper/jpql/TokenKind;" (.ref b1)) (F_text_a1 : Fld Z h0 a1 "com/example/mudskipper/mudskipper/jpql/Token" "text" "Ljava/lang/String;" (.ref s1)) (F_position_a1 : Fld Z h0 a1 "com/example/mudskipper/mudskipper/jpql/Token" "position" "I" (.int x1)) (S_s1 : StrV Z h0 s1 cs) (E_a2 : Exa Z h0 a2 "com/example/mudskipper/mudskipper/jpql/Token") (F_kind_a2 : Fld Z h0 a2 "com/example/mudskipper/mudskipper/jpql/Token" "kind" "Lcom/example/mudskipper/mudskipper/jpql/TokenKind;" (.ref b2)) (F_text_a2 : Fld Z h0 a2 "com/example/mudskipper/mudskipper/jpql/Token" "text" "Ljava/lang/String;" (.ref s2)) (F_position_a2 : Fld Z h0 a2 "com/example/mudskipper/mudskipper/jpql/Token" "position" "I" (.int x2)) (S_s2 : StrV Z h0 s2 ds) (O2 : Sta Z Z.heap "java/lang/String" "COMPACT_STRINGS" "Z" (.int G1)) (P5 : ¬ (G1 = (0 : Int32))) (O0 : Old Z n0 h0) (hl1 : cs.length ≤ 4000) (hl2 : ds.length ≤ 4000) (hk : b1 = b2) (hcs : cs = ds) (hp : ¬ (x1 = x2)) :
    MetFree l (⟨"com/example/mudskipper/mudskipper/jpql/Token", "equals", "(Ljava/lang/Object;)Z"⟩ : MethodName) (head1 (Jvm.Cond.code (⟨"com/example/mudskipper/mudskipper/jpql/Token", "equals", "(Ljava/lang/Object;)Z"⟩ : MethodName) prog_32_method_5_code 3 (some .boolean) :: ws) ({ frames := 3, cells := 0, slots := 0, locals := 42 } : Room)) (fun a U => a = #[(.ref a1), (.ref a2)] ∧ Z.Warmed39 U.vm ∧ U.heap = h0) (fun _ _ _ _ _ => True) (fun _ U o U' => ∃ v L, o = .returned v ∧ QB 0 h0 n0 v U'.heap L ∧ FrameEnd U o U' L 0 0) := by
  refine MetFree.of_bodySF (plainFor_of_name own_pn_com_example_mudskipper_mudskipper_jpql_Token) hisR ?_
  intro p e s m args below meth c s₁ Bd hml0 hP hK
  obtain ⟨rfl, hZ, hh⟩ := hP
  have hx := Bd.exec
  have hby := Bd.bytes
  have hml : c.maxLocals = 3 := hml0
  have hown : s.vm.findClass "com/example/mudskipper/mudskipper/jpql/Token" = some m.cls := findClass_of_methodNamed Bd.named
  have hnm := (name_of_methodNamed Bd.named Bd.method).1
  have X0 : Stand p l e ({ frames := 3, cells := 0, slots := 0, locals := 42 } : Room) s m #[(.ref a1), (.ref a2)] below meth c s₁ [] 0 0 := Stand.of_body Bd
  have e0 : s₁.heap = h0 := by rw [← hh, Bd.state]; rfl
  have N0 := Fr.nil n0
  have pre0 : ∀ t, Steps p.tables e below (s₁.setTop (mkF m 0 #[.val (.ref a1), .val (.ref a2), .unset] [])) t → Steps p.tables e below (s₁.setTop (entryFrame m #[(.ref a1), (.ref a2)] 3)) t := fun t k => castTop (own_ef_prog_32_method_5_code_xx m a1 a2) k
  obtain ⟨T1, X1, e1, st1⟩ := instY X0 hx hZ hown (hw _ (List.mem_of_getElem? (i := 61) rfl)) e0 (Ins.self E_a2) (g := (mkF m 1 #[.val (.ref a1), .val (.ref a2), .unset] [(.ref a2)])) rfl rfl (hb hby own_d_prog_32_method_5_code_1)
  obtain ⟨T2, X2, e2, st2⟩ := castY X1 hx hZ hown (hw _ (List.mem_of_getElem? (i := 61) rfl)) e1 (Ins.self E_a2) (g := (mkF m 8 #[.val (.ref a1), .val (.ref a2), .unset] [(.ref a2)])) rfl rfl (hb hby own_d_prog_32_method_5_code_8)
  obtain ⟨T3, X3, e3, st3⟩ := getF X2 hx hZ hown (host := "") (Or.inl (hw _ (List.mem_of_getElem? (i := 46) rfl))) Via.refl e2 F_kind_a1 (g := (mkF m 18 #[.val (.ref a1), .val (.ref a2), .val (.ref a2)] [(.ref a1)])) rfl rfl (hb hby own_d_prog_32_method_5_code_18)
  obtain ⟨T4, X4, e4, st4⟩ := getF X3 hx hZ hown (host := "") (Or.inl (hw _ (List.mem_of_getElem? (i := 46) rfl))) Via.refl e3 F_kind_a2 (g := (mkF m 22 #[.val (.ref a1), .val (.ref a2), .val (.ref a2)] [(.ref a2), (.ref b1)])) rfl rfl (hb hby own_d_prog_32_method_5_code_22)
  obtain ⟨T5, X5, e5, st5⟩ := getF X4 hx hZ hown (host := "") (Or.inl (hw _ (List.mem_of_getElem? (i := 50) rfl))) Via.refl e4 F_text_a1 (g := (mkF m 29 #[.val (.ref a1), .val (.ref a2), .val (.ref a2)] [(.ref a1)])) rfl rfl (hb hby own_d_prog_32_method_5_code_29)
  obtain ⟨T6, X6, e6, st6⟩ := getF X5 hx hZ hown (host := "") (Or.inl (hw _ (List.mem_of_getElem? (i := 50) rfl))) Via.refl e5 F_text_a2 (g := (mkF m 33 #[.val (.ref a1), .val (.ref a2), .val (.ref a2)] [(.ref a2), (.ref s1)])) rfl rfl (hb hby own_d_prog_32_method_5_code_33)
  obtain ⟨sb8, sk8, sN8, sv8, sE8, sV8, sC8, sA8, sc8, su8⟩ := id S_s1
  obtain ⟨sb9, sk9, sN9, sv9, sE9, sV9, sC9, sA9, sc9, su9⟩ := id S_s2
  obtain ⟨cq7, kq7, q7a, q7b, q7c⟩ := isOf hZ e6 S_s1.exa
  obtain ⟨_, _, ⟨T7, L7, k7, n7⟩, -, X7, ⟨Lc7, hQ7, l7, y7, z7⟩, st7⟩ := X6.virtualBack hx (y := (⟨"java/lang/String", "equals", "(Ljava/lang/Object;)Z"⟩ : MethodName)) (z := (⟨"java/lang/String", "equals", "(Ljava/lang/Object;)Z"⟩ : MethodName)) hown (mvT hZ (hw _ (List.mem_of_getElem? (i := 63) rfl))) (mvT hZ (hw _ (List.mem_of_getElem? (i := 64) rfl))) (notFace_of_selects (args := #[]) (mvT hZ (hw _ (List.mem_of_getElem? (i := 66) rfl)))) (mvT hZ (hw _ (List.mem_of_getElem? (i := 66) rfl))) (mvT hZ (hw _ (List.mem_of_getElem? (i := 65) rfl))) (by decide) (own_monoE (StrChars.Road.eqW (W := 0) hZ (own_heq hw) (kI := 4) (hw _ (List.mem_of_getElem? (i := 14) rfl)) sE8 sV8 sC8 sA8 sc8 su8 hl1 sE9 sV9 sC9 sA9 sc9 su9 hl2 (O2.ext O0.2) P5 (by decide) (by decide)) hcs) q7a q7c (g := (mkF m 36 #[.val (.ref a1), .val (.ref a2), .val (.ref a2)] [(.ref s2), (.ref s1)])) rfl (by rw [hml]; rfl) (Steps.refl _) (argsL := [(.ref s2)]) (rest := []) (lenOf own_pd__Ljava_lang_Object__Z rfl) rfl (by show 2 * 0 + _ ≤ _; exact Nat.le_of_eq rfl) (hb hby own_d_prog_32_method_5_code_36) (fun _ _ => ⟨rfl, e6, (by decide : 0 + 0 ≤ _), (by decide : 0 + 0 ≤ _)⟩)
  dsimp only [Pt.U, Pt.locs, Pt.cells, Pt.slots] at X7 l7 y7 z7 st7 hQ7
  subst l7 y7 z7
  obtain ⟨rfl, rfl, e7q⟩ := hQ7
  have N7a := Fr.app N0 (Fr.nil n0)
  obtain ⟨T10, X10, e10, st10⟩ := getF X7 hx hZ hown (host := "") (Or.inl (hw _ (List.mem_of_getElem? (i := 52) rfl))) Via.refl e7q F_position_a1 (g := (mkF m 43 #[.val (.ref a1), .val (.ref a2), .val (.ref a2)] [(.ref a1)])) rfl rfl (hb hby own_d_prog_32_method_5_code_43)
  obtain ⟨T11, X11, e11, st11⟩ := getF X10 hx hZ hown (host := "") (Or.inl (hw _ (List.mem_of_getElem? (i := 52) rfl))) Via.refl e10 F_position_a2 (g := (mkF m 47 #[.val (.ref a1), .val (.ref a2), .val (.ref a2)] [(.ref a2), (.int x1)])) rfl rfl (hb hby own_d_prog_32_method_5_code_47)
  obtain ⟨fs, hr, hrun, hended, hW, hsame⟩ := X11.leave (v := some (.int (0 : Int32))) (fun h => by rw [Bd.returns] at h; cases h)
  refine ⟨_, _, pre0 _ ?_, hrun, hended, _, _, rfl, ?_, ⟨_, rfl⟩, hW, hsame.mono (by decide) (by decide)⟩
  · show Steps p.tables e below (s₁.setTop (mkF m 0 #[.val (.ref a1), .val (.ref a2), .unset] [])) _
    refine XS.aloadN X0.here hx rfl (hb hby own_d_prog_32_method_5_code_0) rfl rfl ?_
    show Steps p.tables e below (s₁.setTop (mkF m 1 #[.val (.ref a1), .val (.ref a2), .unset] [(.ref a2)])) _
    refine st1 _ ?_
    show Steps p.tables e below (T1.setTop (mkF m 4 #[.val (.ref a1), .val (.ref a2), .unset] [(.int (1 : Int32))])) _
    refine XS.ifNo X1.here hx rfl (hb hby own_d_prog_32_method_5_code_4) rfl ((if0 _ _).trans (feq (by decide : ¬ ((1 : Int32) = (0 : Int32)))).1) ?_
    refine XS.aloadN X1.here hx rfl (hb hby own_d_prog_32_method_5_code_7) rfl rfl ?_
    show Steps p.tables e below (T1.setTop (mkF m 8 #[.val (.ref a1), .val (.ref a2), .unset] [(.ref a2)])) _
    refine st2 _ ?_
    refine XS.astoreN X2.here hx rfl (hb hby own_d_prog_32_method_5_code_11) rfl rfl (l' := #[.val (.ref a1), .val (.ref a2), .val (.ref a2)]) rfl ?_
    refine XS.goto X2.here hx rfl (pc0 := 12) (pc' := 17) rfl (hb hby own_d_prog_32_method_5_code_12) (by decide) (by decide) ?_
    show Steps p.tables e below (T2.setTop (mkF m 17 #[.val (.ref a1), .val (.ref a2), .val (.ref a2)] [])) _
    refine XS.aloadN X2.here hx rfl (hb hby own_d_prog_32_method_5_code_17) rfl rfl ?_
    show Steps p.tables e below (T2.setTop (mkF m 18 #[.val (.ref a1), .val (.ref a2), .val (.ref a2)] [(.ref a1)])) _
    refine st3 _ ?_
    refine XS.aloadN X3.here hx rfl (hb hby own_d_prog_32_method_5_code_21) rfl rfl ?_
    show Steps p.tables e below (T3.setTop (mkF m 22 #[.val (.ref a1), .val (.ref a2), .val (.ref a2)] [(.ref a2), (.ref b1)])) _
    refine st4 _ ?_
    show Steps p.tables e below (T4.setTop (mkF m 25 #[.val (.ref a1), .val (.ref a2), .val (.ref a2)] [(.ref b2), (.ref b1)])) _
    refine Jvm.RoadKit.acmp (g := (mkF m 25 #[.val (.ref a1), .val (.ref a2), .val (.ref a2)] [(.ref b2), (.ref b1)])) X4 hx rfl rfl rfl (pc0 := 25) (pc' := 28) (same := true) rfl (hb hby own_d_prog_32_method_5_code_25) rfl (decide_eq_true (congrArg Value.ref hk)) (by decide) (by decide) ?_
    refine XS.aloadN X4.here hx rfl (hb hby own_d_prog_32_method_5_code_28) rfl rfl ?_
    show Steps p.tables e below (T4.setTop (mkF m 29 #[.val (.ref a1), .val (.ref a2), .val (.ref a2)] [(.ref a1)])) _
    refine st5 _ ?_
    refine XS.aloadN X5.here hx rfl (hb hby own_d_prog_32_method_5_code_32) rfl rfl ?_
    show Steps p.tables e below (T5.setTop (mkF m 33 #[.val (.ref a1), .val (.ref a2), .val (.ref a2)] [(.ref a2), (.ref s1)])) _
    refine st6 _ ?_
    show Steps p.tables e below (T6.setTop (mkF m 36 #[.val (.ref a1), .val (.ref a2), .val (.ref a2)] [(.ref s2), (.ref s1)])) _
    refine st7.trans ?_
    show Steps p.tables e below (T7.setTop (mkF m 39 #[.val (.ref a1), .val (.ref a2), .val (.ref a2)] [(.int (1 : Int32))])) _
    refine XS.ifNo X7.here hx rfl (hb hby own_d_prog_32_method_5_code_39) rfl ((if0 _ _).trans (feq (by decide : ¬ ((1 : Int32) = (0 : Int32)))).1) ?_
    refine XS.aloadN X7.here hx rfl (hb hby own_d_prog_32_method_5_code_42) rfl rfl ?_
    show Steps p.tables e below (T7.setTop (mkF m 43 #[.val (.ref a1), .val (.ref a2), .val (.ref a2)] [(.ref a1)])) _
    refine st10 _ ?_
    refine XS.aloadN X10.here hx rfl (hb hby own_d_prog_32_method_5_code_46) rfl rfl ?_
    show Steps p.tables e below (T10.setTop (mkF m 47 #[.val (.ref a1), .val (.ref a2), .val (.ref a2)] [(.ref a2), (.int x1)])) _
    refine st11 _ ?_
    show Steps p.tables e below (T11.setTop (mkF m 50 #[.val (.ref a1), .val (.ref a2), .val (.ref a2)] [(.int x2), (.int x1)])) _
    refine XS.icmpYes X11.here hx rfl (pc0 := 50) (pc' := 57) rfl (hb hby own_d_prog_32_method_5_code_50) rfl (feq (hp : ¬ (x1 = x2))).2 (by decide) (by decide) ?_
    refine XS.iconst X11.here hx rfl (hb hby own_d_prog_32_method_5_code_57) ?_
    show Steps p.tables e below (T11.setTop (mkF m 58 #[.val (.ref a1), .val (.ref a2), .val (.ref a2)] [(.int (0 : Int32))])) _
    exact retN X11 hx (t := .boolean) Bd.returns (by simp) (hb hby own_d_prog_32_method_5_code_58) hr
  · show QB 0 h0 n0 _ T11.heap _
    rw [e11]
    exact ⟨rfl, N7a, rfl⟩
theorem own_d_prog_32_method_5_code_53 : decode prog_32_method_5_code 53 = .ok (.iconst 1, 1) := by decide +kernel
theorem own_d_prog_32_method_5_code_54 : decode prog_32_method_5_code 54 = .ok (.goto 4, 3) := by decide +kernel
set_option maxRecDepth 65536 in
set_option maxHeartbeats 40000000 in
theorem re_y (l : Launch) (Z : State) (a0 : Array Value) (hw : ∀ d ∈ tables_1, d.before a0 Z = true) (ws : List Jvm.Cond) (a1 a2 b1 b2 s1 s2 : Addr) (cs ds : List Int32) (x1 x2 : Int32) (G1 : Int32) (h0 : Heap) (n0 : Nat) (Z0 : n0 ≤ h0.size) (E_a1 : Exa Z h0 a1 "com/example/mudskipper/mudskipper/jpql/Token") (F_kind_a1 : Fld Z h0 a1 "com/example/mudskipper/mudskipper/jpql/Token" "kind" "Lcom/example/mudskipper/mudskipper/jpql/TokenKind;" (.ref b1)) (F_text_a1 : Fld Z h0 a1 "com/example/mudskipper/mudskipper/jpql/Token" "text" "Ljava/lang/String;" (.ref s1)) (F_position_a1 : Fld Z h0 a1 "com/example/mudskipper/mudskipper/jpql/Token" "position" "I" (.int x1)) (S_s1 : StrV Z h0 s1 cs) (E_a2 : Exa Z h0 a2 "com/example/mudskipper/mudskipper/jpql/Token") (F_kind_a2 : Fld Z h0 a2 "com/example/mudskipper/mudskipper/jpql/Token" "kind" "Lcom/example/mudskipper/mudskipper/jpql/TokenKind;" (.ref b2)) (F_text_a2 : Fld Z h0 a2 "com/example/mudskipper/mudskipper/jpql/Token" "text" "Ljava/lang/String;" (.ref s2)) (F_position_a2 : Fld Z h0 a2 "com/example/mudskipper/mudskipper/jpql/Token" "position" "I" (.int x2)) (S_s2 : StrV Z h0 s2 ds) (O2 : Sta Z Z.heap "java/lang/String" "COMPACT_STRINGS" "Z" (.int G1)) (P5 : ¬ (G1 = (0 : Int32))) (O0 : Old Z n0 h0) (hl1 : cs.length ≤ 4000) (hl2 : ds.length ≤ 4000) (hk : b1 = b2) (hcs : cs = ds) (hp : x1 = x2) :
    MetFree l (⟨"com/example/mudskipper/mudskipper/jpql/Token", "equals", "(Ljava/lang/Object;)Z"⟩ : MethodName) (head1 (Jvm.Cond.code (⟨"com/example/mudskipper/mudskipper/jpql/Token", "equals", "(Ljava/lang/Object;)Z"⟩ : MethodName) prog_32_method_5_code 3 (some .boolean) :: ws) ({ frames := 3, cells := 0, slots := 0, locals := 42 } : Room)) (fun a U => a = #[(.ref a1), (.ref a2)] ∧ Z.Warmed39 U.vm ∧ U.heap = h0) (fun _ _ _ _ _ => True) (fun _ U o U' => ∃ v L, o = .returned v ∧ QB 1 h0 n0 v U'.heap L ∧ FrameEnd U o U' L 0 0) := by
  refine MetFree.of_bodySF (plainFor_of_name own_pn_com_example_mudskipper_mudskipper_jpql_Token) hisR ?_
  intro p e s m args below meth c s₁ Bd hml0 hP hK
  obtain ⟨rfl, hZ, hh⟩ := hP
  have hx := Bd.exec
  have hby := Bd.bytes
  have hml : c.maxLocals = 3 := hml0
  have hown : s.vm.findClass "com/example/mudskipper/mudskipper/jpql/Token" = some m.cls := findClass_of_methodNamed Bd.named
  have hnm := (name_of_methodNamed Bd.named Bd.method).1
  have X0 : Stand p l e ({ frames := 3, cells := 0, slots := 0, locals := 42 } : Room) s m #[(.ref a1), (.ref a2)] below meth c s₁ [] 0 0 := Stand.of_body Bd
  have e0 : s₁.heap = h0 := by rw [← hh, Bd.state]; rfl
  have N0 := Fr.nil n0
  have pre0 : ∀ t, Steps p.tables e below (s₁.setTop (mkF m 0 #[.val (.ref a1), .val (.ref a2), .unset] [])) t → Steps p.tables e below (s₁.setTop (entryFrame m #[(.ref a1), (.ref a2)] 3)) t := fun t k => castTop (own_ef_prog_32_method_5_code_xx m a1 a2) k
  obtain ⟨T1, X1, e1, st1⟩ := instY X0 hx hZ hown (hw _ (List.mem_of_getElem? (i := 61) rfl)) e0 (Ins.self E_a2) (g := (mkF m 1 #[.val (.ref a1), .val (.ref a2), .unset] [(.ref a2)])) rfl rfl (hb hby own_d_prog_32_method_5_code_1)
  obtain ⟨T2, X2, e2, st2⟩ := castY X1 hx hZ hown (hw _ (List.mem_of_getElem? (i := 61) rfl)) e1 (Ins.self E_a2) (g := (mkF m 8 #[.val (.ref a1), .val (.ref a2), .unset] [(.ref a2)])) rfl rfl (hb hby own_d_prog_32_method_5_code_8)
  obtain ⟨T3, X3, e3, st3⟩ := getF X2 hx hZ hown (host := "") (Or.inl (hw _ (List.mem_of_getElem? (i := 46) rfl))) Via.refl e2 F_kind_a1 (g := (mkF m 18 #[.val (.ref a1), .val (.ref a2), .val (.ref a2)] [(.ref a1)])) rfl rfl (hb hby own_d_prog_32_method_5_code_18)
  obtain ⟨T4, X4, e4, st4⟩ := getF X3 hx hZ hown (host := "") (Or.inl (hw _ (List.mem_of_getElem? (i := 46) rfl))) Via.refl e3 F_kind_a2 (g := (mkF m 22 #[.val (.ref a1), .val (.ref a2), .val (.ref a2)] [(.ref a2), (.ref b1)])) rfl rfl (hb hby own_d_prog_32_method_5_code_22)
  obtain ⟨T5, X5, e5, st5⟩ := getF X4 hx hZ hown (host := "") (Or.inl (hw _ (List.mem_of_getElem? (i := 50) rfl))) Via.refl e4 F_text_a1 (g := (mkF m 29 #[.val (.ref a1), .val (.ref a2), .val (.ref a2)] [(.ref a1)])) rfl rfl (hb hby own_d_prog_32_method_5_code_29)
  obtain ⟨T6, X6, e6, st6⟩ := getF X5 hx hZ hown (host := "") (Or.inl (hw _ (List.mem_of_getElem? (i := 50) rfl))) Via.refl e5 F_text_a2 (g := (mkF m 33 #[.val (.ref a1), .val (.ref a2), .val (.ref a2)] [(.ref a2), (.ref s1)])) rfl rfl (hb hby own_d_prog_32_method_5_code_33)
  obtain ⟨sb8, sk8, sN8, sv8, sE8, sV8, sC8, sA8, sc8, su8⟩ := id S_s1
  obtain ⟨sb9, sk9, sN9, sv9, sE9, sV9, sC9, sA9, sc9, su9⟩ := id S_s2
  obtain ⟨cq7, kq7, q7a, q7b, q7c⟩ := isOf hZ e6 S_s1.exa
  obtain ⟨_, _, ⟨T7, L7, k7, n7⟩, -, X7, ⟨Lc7, hQ7, l7, y7, z7⟩, st7⟩ := X6.virtualBack hx (y := (⟨"java/lang/String", "equals", "(Ljava/lang/Object;)Z"⟩ : MethodName)) (z := (⟨"java/lang/String", "equals", "(Ljava/lang/Object;)Z"⟩ : MethodName)) hown (mvT hZ (hw _ (List.mem_of_getElem? (i := 63) rfl))) (mvT hZ (hw _ (List.mem_of_getElem? (i := 64) rfl))) (notFace_of_selects (args := #[]) (mvT hZ (hw _ (List.mem_of_getElem? (i := 66) rfl)))) (mvT hZ (hw _ (List.mem_of_getElem? (i := 66) rfl))) (mvT hZ (hw _ (List.mem_of_getElem? (i := 65) rfl))) (by decide) (own_monoE (StrChars.Road.eqW (W := 0) hZ (own_heq hw) (kI := 4) (hw _ (List.mem_of_getElem? (i := 14) rfl)) sE8 sV8 sC8 sA8 sc8 su8 hl1 sE9 sV9 sC9 sA9 sc9 su9 hl2 (O2.ext O0.2) P5 (by decide) (by decide)) hcs) q7a q7c (g := (mkF m 36 #[.val (.ref a1), .val (.ref a2), .val (.ref a2)] [(.ref s2), (.ref s1)])) rfl (by rw [hml]; rfl) (Steps.refl _) (argsL := [(.ref s2)]) (rest := []) (lenOf own_pd__Ljava_lang_Object__Z rfl) rfl (by show 2 * 0 + _ ≤ _; exact Nat.le_of_eq rfl) (hb hby own_d_prog_32_method_5_code_36) (fun _ _ => ⟨rfl, e6, (by decide : 0 + 0 ≤ _), (by decide : 0 + 0 ≤ _)⟩)
  dsimp only [Pt.U, Pt.locs, Pt.cells, Pt.slots] at X7 l7 y7 z7 st7 hQ7
  subst l7 y7 z7
  obtain ⟨rfl, rfl, e7q⟩ := hQ7
  have N7a := Fr.app N0 (Fr.nil n0)
  obtain ⟨T10, X10, e10, st10⟩ := getF X7 hx hZ hown (host := "") (Or.inl (hw _ (List.mem_of_getElem? (i := 52) rfl))) Via.refl e7q F_position_a1 (g := (mkF m 43 #[.val (.ref a1), .val (.ref a2), .val (.ref a2)] [(.ref a1)])) rfl rfl (hb hby own_d_prog_32_method_5_code_43)
  obtain ⟨T11, X11, e11, st11⟩ := getF X10 hx hZ hown (host := "") (Or.inl (hw _ (List.mem_of_getElem? (i := 52) rfl))) Via.refl e10 F_position_a2 (g := (mkF m 47 #[.val (.ref a1), .val (.ref a2), .val (.ref a2)] [(.ref a2), (.int x1)])) rfl rfl (hb hby own_d_prog_32_method_5_code_47)
  obtain ⟨fs, hr, hrun, hended, hW, hsame⟩ := X11.leave (v := some (.int (1 : Int32))) (fun h => by rw [Bd.returns] at h; cases h)
  refine ⟨_, _, pre0 _ ?_, hrun, hended, _, _, rfl, ?_, ⟨_, rfl⟩, hW, hsame.mono (by decide) (by decide)⟩
  · show Steps p.tables e below (s₁.setTop (mkF m 0 #[.val (.ref a1), .val (.ref a2), .unset] [])) _
    refine XS.aloadN X0.here hx rfl (hb hby own_d_prog_32_method_5_code_0) rfl rfl ?_
    show Steps p.tables e below (s₁.setTop (mkF m 1 #[.val (.ref a1), .val (.ref a2), .unset] [(.ref a2)])) _
    refine st1 _ ?_
    show Steps p.tables e below (T1.setTop (mkF m 4 #[.val (.ref a1), .val (.ref a2), .unset] [(.int (1 : Int32))])) _
    refine XS.ifNo X1.here hx rfl (hb hby own_d_prog_32_method_5_code_4) rfl ((if0 _ _).trans (feq (by decide : ¬ ((1 : Int32) = (0 : Int32)))).1) ?_
    refine XS.aloadN X1.here hx rfl (hb hby own_d_prog_32_method_5_code_7) rfl rfl ?_
    show Steps p.tables e below (T1.setTop (mkF m 8 #[.val (.ref a1), .val (.ref a2), .unset] [(.ref a2)])) _
    refine st2 _ ?_
    refine XS.astoreN X2.here hx rfl (hb hby own_d_prog_32_method_5_code_11) rfl rfl (l' := #[.val (.ref a1), .val (.ref a2), .val (.ref a2)]) rfl ?_
    refine XS.goto X2.here hx rfl (pc0 := 12) (pc' := 17) rfl (hb hby own_d_prog_32_method_5_code_12) (by decide) (by decide) ?_
    show Steps p.tables e below (T2.setTop (mkF m 17 #[.val (.ref a1), .val (.ref a2), .val (.ref a2)] [])) _
    refine XS.aloadN X2.here hx rfl (hb hby own_d_prog_32_method_5_code_17) rfl rfl ?_
    show Steps p.tables e below (T2.setTop (mkF m 18 #[.val (.ref a1), .val (.ref a2), .val (.ref a2)] [(.ref a1)])) _
    refine st3 _ ?_
    refine XS.aloadN X3.here hx rfl (hb hby own_d_prog_32_method_5_code_21) rfl rfl ?_
    show Steps p.tables e below (T3.setTop (mkF m 22 #[.val (.ref a1), .val (.ref a2), .val (.ref a2)] [(.ref a2), (.ref b1)])) _
    refine st4 _ ?_
    show Steps p.tables e below (T4.setTop (mkF m 25 #[.val (.ref a1), .val (.ref a2), .val (.ref a2)] [(.ref b2), (.ref b1)])) _
    refine Jvm.RoadKit.acmp (g := (mkF m 25 #[.val (.ref a1), .val (.ref a2), .val (.ref a2)] [(.ref b2), (.ref b1)])) X4 hx rfl rfl rfl (pc0 := 25) (pc' := 28) (same := true) rfl (hb hby own_d_prog_32_method_5_code_25) rfl (decide_eq_true (congrArg Value.ref hk)) (by decide) (by decide) ?_
    refine XS.aloadN X4.here hx rfl (hb hby own_d_prog_32_method_5_code_28) rfl rfl ?_
    show Steps p.tables e below (T4.setTop (mkF m 29 #[.val (.ref a1), .val (.ref a2), .val (.ref a2)] [(.ref a1)])) _
    refine st5 _ ?_
    refine XS.aloadN X5.here hx rfl (hb hby own_d_prog_32_method_5_code_32) rfl rfl ?_
    show Steps p.tables e below (T5.setTop (mkF m 33 #[.val (.ref a1), .val (.ref a2), .val (.ref a2)] [(.ref a2), (.ref s1)])) _
    refine st6 _ ?_
    show Steps p.tables e below (T6.setTop (mkF m 36 #[.val (.ref a1), .val (.ref a2), .val (.ref a2)] [(.ref s2), (.ref s1)])) _
    refine st7.trans ?_
    show Steps p.tables e below (T7.setTop (mkF m 39 #[.val (.ref a1), .val (.ref a2), .val (.ref a2)] [(.int (1 : Int32))])) _
    refine XS.ifNo X7.here hx rfl (hb hby own_d_prog_32_method_5_code_39) rfl ((if0 _ _).trans (feq (by decide : ¬ ((1 : Int32) = (0 : Int32)))).1) ?_
    refine XS.aloadN X7.here hx rfl (hb hby own_d_prog_32_method_5_code_42) rfl rfl ?_
    show Steps p.tables e below (T7.setTop (mkF m 43 #[.val (.ref a1), .val (.ref a2), .val (.ref a2)] [(.ref a1)])) _
    refine st10 _ ?_
    refine XS.aloadN X10.here hx rfl (hb hby own_d_prog_32_method_5_code_46) rfl rfl ?_
    show Steps p.tables e below (T10.setTop (mkF m 47 #[.val (.ref a1), .val (.ref a2), .val (.ref a2)] [(.ref a2), (.int x1)])) _
    refine st11 _ ?_
    show Steps p.tables e below (T11.setTop (mkF m 50 #[.val (.ref a1), .val (.ref a2), .val (.ref a2)] [(.int x2), (.int x1)])) _
    refine XS.icmpNo X11.here hx rfl (hb hby own_d_prog_32_method_5_code_50) rfl (teq (hp : x1 = x2)).2 ?_
    refine XS.iconst X11.here hx rfl (hb hby own_d_prog_32_method_5_code_53) ?_
    refine XS.goto X11.here hx rfl (pc0 := 54) (pc' := 58) rfl (hb hby own_d_prog_32_method_5_code_54) (by decide) (by decide) ?_
    show Steps p.tables e below (T11.setTop (mkF m 58 #[.val (.ref a1), .val (.ref a2), .val (.ref a2)] [(.int (1 : Int32))])) _
    exact retN X11 hx (t := .boolean) Bd.returns (by simp) (hb hby own_d_prog_32_method_5_code_58) hr
  · show QB 1 h0 n0 _ T11.heap _
    rw [e11]
    exact ⟨rfl, N7a, rfl⟩
def own_teq (b1 b2 : Addr) (cs ds : List Int32) (x1 x2 : Int32) : Int32 := if b1 = b2 ∧ cs = ds ∧ x1 = x2 then 1 else 0
theorem rmE (l : Launch) (Z : State) (a0 : Array Value) (hw : ∀ d ∈ tables_1, d.before a0 Z = true) (ws : List Jvm.Cond) (a1 a2 b1 b2 s1 s2 : Addr) (cs ds : List Int32) (x1 x2 : Int32) (G1 : Int32) (h0 : Heap) (n0 : Nat) (Z0 : n0 ≤ h0.size) (E_a1 : Exa Z h0 a1 "com/example/mudskipper/mudskipper/jpql/Token") (F_kind_a1 : Fld Z h0 a1 "com/example/mudskipper/mudskipper/jpql/Token" "kind" "Lcom/example/mudskipper/mudskipper/jpql/TokenKind;" (.ref b1)) (F_text_a1 : Fld Z h0 a1 "com/example/mudskipper/mudskipper/jpql/Token" "text" "Ljava/lang/String;" (.ref s1)) (F_position_a1 : Fld Z h0 a1 "com/example/mudskipper/mudskipper/jpql/Token" "position" "I" (.int x1)) (S_s1 : StrV Z h0 s1 cs) (E_a2 : Exa Z h0 a2 "com/example/mudskipper/mudskipper/jpql/Token") (F_kind_a2 : Fld Z h0 a2 "com/example/mudskipper/mudskipper/jpql/Token" "kind" "Lcom/example/mudskipper/mudskipper/jpql/TokenKind;" (.ref b2)) (F_text_a2 : Fld Z h0 a2 "com/example/mudskipper/mudskipper/jpql/Token" "text" "Ljava/lang/String;" (.ref s2)) (F_position_a2 : Fld Z h0 a2 "com/example/mudskipper/mudskipper/jpql/Token" "position" "I" (.int x2)) (S_s2 : StrV Z h0 s2 ds) (O2 : Sta Z Z.heap "java/lang/String" "COMPACT_STRINGS" "Z" (.int G1)) (P5 : ¬ (G1 = (0 : Int32))) (O0 : Old Z n0 h0) (hl1 : cs.length ≤ 4000) (hl2 : ds.length ≤ 4000) :
    MetFree l (⟨"com/example/mudskipper/mudskipper/jpql/Token", "equals", "(Ljava/lang/Object;)Z"⟩ : MethodName) (head1 (Jvm.Cond.code (⟨"com/example/mudskipper/mudskipper/jpql/Token", "equals", "(Ljava/lang/Object;)Z"⟩ : MethodName) prog_32_method_5_code 3 (some .boolean) :: ws) ({ frames := 3, cells := 0, slots := 0, locals := 42 } : Room)) (fun a U => a = #[(.ref a1), (.ref a2)] ∧ Z.Warmed39 U.vm ∧ U.heap = h0) (fun _ _ _ _ _ => True) (fun _ U o U' => ∃ v L, o = .returned v ∧ QB (own_teq b1 b2 cs ds x1 x2) h0 n0 v U'.heap L ∧ FrameEnd U o U' L 0 0) := by
  by_cases hk : b1 = b2
  · by_cases hcs : cs = ds
    · by_cases hp : x1 = x2
      · have e : own_teq b1 b2 cs ds x1 x2 = 1 := if_pos ⟨hk, hcs, hp⟩
        rw [e]; exact re_y l Z a0 hw ws a1 a2 b1 b2 s1 s2 cs ds x1 x2 G1 h0 n0 Z0 E_a1 F_kind_a1 F_text_a1 F_position_a1 S_s1 E_a2 F_kind_a2 F_text_a2 F_position_a2 S_s2 O2 P5 O0 hl1 hl2 hk hcs hp
      · have e : own_teq b1 b2 cs ds x1 x2 = 0 := if_neg fun q => hp q.2.2
        rw [e]; exact re_p l Z a0 hw ws a1 a2 b1 b2 s1 s2 cs ds x1 x2 G1 h0 n0 Z0 E_a1 F_kind_a1 F_text_a1 F_position_a1 S_s1 E_a2 F_kind_a2 F_text_a2 F_position_a2 S_s2 O2 P5 O0 hl1 hl2 hk hcs hp
    · have e : own_teq b1 b2 cs ds x1 x2 = 0 := if_neg fun q => hcs q.2.1
      rw [e]; exact re_c l Z a0 hw ws a1 a2 b1 b2 s1 s2 cs ds x1 x2 G1 h0 n0 Z0 E_a1 F_kind_a1 F_text_a1 F_position_a1 S_s1 E_a2 F_kind_a2 F_text_a2 F_position_a2 S_s2 O2 P5 O0 hl1 hl2 hk hcs
  · have e : own_teq b1 b2 cs ds x1 x2 = 0 := if_neg fun q => hk q.1
    rw [e]; exact re_k l Z a0 hw ws a1 a2 b1 b2 s1 s2 cs ds x1 x2 G1 h0 n0 Z0 E_a1 F_kind_a1 F_text_a1 F_position_a1 S_s1 E_a2 F_kind_a2 F_text_a2 F_position_a2 S_s2 O2 P5 O0 hl1 hl2 hk
def own_kk (p1 : Int32) : Int32 := ((p1 &&& (7 : Int32)) - ((p1 &&& (7 : Int32)) / (7 : Int32)) * (7 : Int32))
def own_ll (p1 : Int32) : Int32 := ((((p1.toUInt32 >>> ((3 : Int32) &&& 31).toUInt32).toInt32) &&& (3 : Int32)) - ((((p1.toUInt32 >>> ((3 : Int32) &&& 31).toUInt32).toInt32) &&& (3 : Int32)) / (3 : Int32)) * (3 : Int32))
def own_c0 (p1 : Int32) : Int32 := ((((p1.toUInt32 >>> ((8 : Int32) &&& 31).toUInt32).toInt32) &&& (255 : Int32)).toUInt32.toUInt16.toUInt32.toInt32)
def own_c1 (p1 : Int32) : Int32 := ((((p1.toUInt32 >>> ((16 : Int32) &&& 31).toUInt32).toInt32) &&& (255 : Int32)).toUInt32.toUInt16.toUInt32.toInt32)
def own_bit1 (p5 : Int32) : Int32 := (p5 &&& (1 : Int32))
def own_bit2 (p5 : Int32) : Int32 := (p5 &&& (2 : Int32))
def own_bit4 (p5 : Int32) : Int32 := (p5 &&& (4 : Int32))
def own_mode (p5 : Int32) : Int32 := (((p5.toUInt32 >>> ((3 : Int32) &&& 31).toUInt32).toInt32) &&& (3 : Int32))
def own_b (x : Int32) : Int32 := if x = 0 then 0 else 1
def own_if (x a b : Int32) : Int32 := if x = 0 then b else a
def own_exp (k1 k2 l1 l2 x0 y0 x1 y1 p q : Int32) : Int32 := if k1 = k2 then (if l1 = l2 then (if l1 < 1 then (if l1 < 2 then (if p = q then 1 else 0) else if x1 = y1 then (if p = q then 1 else 0) else 0) else if x0 = y0 then (if l1 < 2 then (if p = q then 1 else 0) else if x1 = y1 then (if p = q then 1 else 0) else 0) else 0) else 0) else 0
def own_k2 (p1 p2 p5 : Int32) : Int32 := own_if (own_b (own_bit1 p5)) (own_kk p1) (own_kk p2)
def own_l2 (p1 p2 p5 : Int32) : Int32 := own_if (own_b (own_bit2 p5)) (own_ll p1) (own_ll p2)
def own_y0 (p1 p2 p5 : Int32) : Int32 := own_if (own_b (own_bit2 p5)) (own_c0 p1) (own_c0 p2)
def own_y1 (p1 p2 p5 : Int32) : Int32 := own_if (own_b (own_bit2 p5)) (own_c1 p1) (own_c1 p2)
def own_q2 (p3 p4 p5 : Int32) : Int32 := own_if (own_b (own_bit4 p5)) p3 p4
def own_ex (p1 p2 p3 p4 p5 : Int32) : Int32 := own_exp (own_kk p1) (own_k2 p1 p2 p5) (own_ll p1) (own_l2 p1 p2 p5) (own_c0 p1) (own_y0 p1 p2 p5) (own_c1 p1) (own_y1 p1 p2 p5) p3 (own_q2 p3 p4 p5)
def Q0 (n0 : Nat) (v : Option Value) (h : Heap) (L : List Loc) : Prop := v = some (.int (1 : Int32)) ∧ Fr n0 L
theorem own_qc0 (x : Int32) : Lat (nar .char (own_c0 x)) := own_k_lat _
theorem own_qc1 (x : Int32) : Lat (nar .char (own_c1 x)) := own_k_lat _
theorem own_qif {a b : Int32} (x : Int32) (ha : Lat (nar .char a)) (hb : Lat (nar .char b)) : Lat (nar .char (own_if x a b)) := by unfold own_if; split <;> assumption
theorem own_qy0 (p1 p2 p5 : Int32) : Lat (nar .char (own_y0 p1 p2 p5)) := own_qif _ (own_qc0 _) (own_qc0 _)
theorem own_qy1 (p1 p2 p5 : Int32) : Lat (nar .char (own_y1 p1 p2 p5)) := own_qif _ (own_qc1 _) (own_qc1 _)
/-- a char is what it is as a char -/
theorem own_nar (x : Int32) : nar .char (own_c x) = own_c x := by
  have t : ∀ k : Fin 256, nar .char ((Int32.ofNat k.val).toUInt32.toUInt16.toUInt32.toInt32) = (Int32.ofNat k.val).toUInt32.toUInt16.toUInt32.toInt32 := by decide +kernel
  have h : (x &&& 255).toBitVec.toNat < 256 := by
    simp only [Int32.toBitVec_and, BitVec.toNat_and]
    exact Nat.lt_succ_of_le Nat.and_le_right
  have e : (x &&& 255) = Int32.ofNat (x &&& 255).toBitVec.toNat := by
    apply Int32.toBitVec_inj.mp
    show _ = BitVec.ofNat 32 _
    rw [BitVec.ofNat_toNat]; simp
  show nar .char ((x &&& (255 : Int32)).toUInt32.toUInt16.toUInt32.toInt32) = (x &&& (255 : Int32)).toUInt32.toUInt16.toUInt32.toInt32
  rw [e]
  exact t ⟨_, h⟩
theorem own_nar0 (x : Int32) : nar .char (own_c0 x) = own_c0 x := own_nar _
theorem own_nar1 (x : Int32) : nar .char (own_c1 x) = own_c1 x := own_nar _
theorem own_nary0 (p1 p2 p5 : Int32) : nar .char (own_y0 p1 p2 p5) = own_y0 p1 p2 p5 := by unfold own_y0 own_if; split <;> exact own_nar _
theorem own_nary1 (p1 p2 p5 : Int32) : nar .char (own_y1 p1 p2 p5) = own_y1 p1 p2 p5 := by unfold own_y1 own_if; split <;> exact own_nar _
theorem own_rem7 (y : Int32) (h0 : 0 ≤ y.toInt) (h1 : y.toInt ≤ 7) : y - (y / 7) * 7 = 0 ∨ y - (y / 7) * 7 = 1 ∨ y - (y / 7) * 7 = 2 ∨ y - (y / 7) * 7 = 3 ∨ y - (y / 7) * 7 = 4 ∨ y - (y / 7) * 7 = 5 ∨ y - (y / 7) * 7 = 6 := by
  have c : y = 0 ∨ y = 1 ∨ y = 2 ∨ y = 3 ∨ y = 4 ∨ y = 5 ∨ y = 6 ∨ y = 7 := by
    have q : y.toInt = 0 ∨ y.toInt = 1 ∨ y.toInt = 2 ∨ y.toInt = 3 ∨ y.toInt = 4 ∨ y.toInt = 5 ∨ y.toInt = 6 ∨ y.toInt = 7 := by omega
    rcases q with q | q | q | q | q | q | q | q
    · exact Or.inl (Int32.toInt_inj.mp q)
    · exact Or.inr (Or.inl (Int32.toInt_inj.mp q))
    · exact Or.inr (Or.inr (Or.inl (Int32.toInt_inj.mp q)))
    · exact Or.inr (Or.inr (Or.inr (Or.inl (Int32.toInt_inj.mp q))))
    · exact Or.inr (Or.inr (Or.inr (Or.inr (Or.inl (Int32.toInt_inj.mp q)))))
    · exact Or.inr (Or.inr (Or.inr (Or.inr (Or.inr (Or.inl (Int32.toInt_inj.mp q))))))
    · exact Or.inr (Or.inr (Or.inr (Or.inr (Or.inr (Or.inr (Or.inl (Int32.toInt_inj.mp q)))))))
    · exact Or.inr (Or.inr (Or.inr (Or.inr (Or.inr (Or.inr (Or.inr (Int32.toInt_inj.mp q)))))))
  rcases c with rfl | rfl | rfl | rfl | rfl | rfl | rfl | rfl <;> decide
theorem own_rem3 (y : Int32) (h0 : 0 ≤ y.toInt) (h1 : y.toInt ≤ 3) : y - (y / 3) * 3 = 0 ∨ y - (y / 3) * 3 = 1 ∨ y - (y / 3) * 3 = 2 := by
  have c : y = 0 ∨ y = 1 ∨ y = 2 ∨ y = 3 := by
    have q : y.toInt = 0 ∨ y.toInt = 1 ∨ y.toInt = 2 ∨ y.toInt = 3 := by omega
    rcases q with q | q | q | q
    · exact Or.inl (Int32.toInt_inj.mp q)
    · exact Or.inr (Or.inl (Int32.toInt_inj.mp q))
    · exact Or.inr (Or.inr (Or.inl (Int32.toInt_inj.mp q)))
    · exact Or.inr (Or.inr (Or.inr (Int32.toInt_inj.mp q)))
  rcases c with rfl | rfl | rfl | rfl <;> decide
def R7 (x : Int32) : Prop := x = 0 ∨ x = 1 ∨ x = 2 ∨ x = 3 ∨ x = 4 ∨ x = 5 ∨ x = 6
def R3 (x : Int32) : Prop := x = 0 ∨ x = 1 ∨ x = 2
theorem own_kk_r (x : Int32) : R7 (own_kk x) := own_rem7 _ (c_and x 7 (by decide)).1 (c_and x 7 (by decide)).2
theorem own_ll_r (x : Int32) : R3 (own_ll x) := own_rem3 _ (c_and _ 3 (by decide)).1 (c_and _ 3 (by decide)).2
theorem own_k2_r (p1 p2 p5 : Int32) : R7 (own_k2 p1 p2 p5) := by unfold own_k2 own_if; split <;> exact own_kk_r _
theorem own_l2_r (p1 p2 p5 : Int32) : R3 (own_l2 p1 p2 p5) := by unfold own_l2 own_if; split <;> exact own_ll_r _
def KEx (Z : State) (t0 t1 t2 t3 t4 t5 t6 : Addr) : Prop := Exa Z Z.heap t0 "com/example/mudskipper/mudskipper/jpql/TokenKind" ∧ Exa Z Z.heap t1 "com/example/mudskipper/mudskipper/jpql/TokenKind" ∧ Exa Z Z.heap t2 "com/example/mudskipper/mudskipper/jpql/TokenKind" ∧ Exa Z Z.heap t3 "com/example/mudskipper/mudskipper/jpql/TokenKind" ∧ Exa Z Z.heap t4 "com/example/mudskipper/mudskipper/jpql/TokenKind" ∧ Exa Z Z.heap t5 "com/example/mudskipper/mudskipper/jpql/TokenKind" ∧ Exa Z Z.heap t6 "com/example/mudskipper/mudskipper/jpql/TokenKind"
theorem own_kexa {Z : State} {t0 t1 t2 t3 t4 t5 t6 : Addr} {h : Heap} {n0 : Nat} (K : KEx Z t0 t1 t2 t3 t4 t5 t6) (i : Int32) (O : Old Z n0 h) : Exa Z h (own_kd t0 t1 t2 t3 t4 t5 t6 i) "com/example/mudskipper/mudskipper/jpql/TokenKind" := by
  obtain ⟨k0, k1, k2, k3, k4, k5, k6⟩ := K
  unfold own_kd
  split
  · exact k0.ext O.2
  split
  · exact k1.ext O.2
  split
  · exact k2.ext O.2
  split
  · exact k3.ext O.2
  split
  · exact k4.ext O.2
  split
  · exact k5.ext O.2
  exact k6.ext O.2
def TDis (t0 t1 t2 t3 t4 t5 t6 : Addr) : Prop := ∀ i j : Int32, R7 i → R7 j → own_kd t0 t1 t2 t3 t4 t5 t6 i = own_kd t0 t1 t2 t3 t4 t5 t6 j → i = j
theorem own_ord {args : Array Value} {s : State} {t : Jvm.Term} {a : Addr} {k : Int32} (ev : t.eval args s none [] s = some (.ref a)) (h : (Jvm.Cond.eq (Jvm.Term.field t "java/lang/Enum" "ordinal" "I") (Jvm.Term.int k)).value args s none s [] = some true) : s.fieldOf? a "java/lang/Enum" "ordinal" "I" = some (.int k) := by
  obtain ⟨x, y, e1, e2, k1, k2⟩ := cmp_v (Or.inl h)
  rw [fld_at ev] at e1
  have e3 : (Jvm.Term.int k).eval args s none [] s = some (.int k) := Term.int_eval k
  rw [e3] at e2
  obtain rfl := Option.some.inj e2
  obtain ⟨z, rfl⟩ := k2
  have q := Cond.eq_ints (args := args) (first := s) (o := none) (s := s) (idx := []) (show (Jvm.Term.field t "java/lang/Enum" "ordinal" "I").eval args s none [] s = some (.int z) from (fld_at ev).trans e1) e3
  have q2 : z = k := gotT q h
  rw [e1, q2]
theorem own_tdis {s : State} {t0 t1 t2 t3 t4 t5 t6 : Addr} (h0 : s.fieldOf? t0 "java/lang/Enum" "ordinal" "I" = some (.int (0 : Int32))) (h1 : s.fieldOf? t1 "java/lang/Enum" "ordinal" "I" = some (.int (1 : Int32))) (h2 : s.fieldOf? t2 "java/lang/Enum" "ordinal" "I" = some (.int (2 : Int32))) (h3 : s.fieldOf? t3 "java/lang/Enum" "ordinal" "I" = some (.int (3 : Int32))) (h4 : s.fieldOf? t4 "java/lang/Enum" "ordinal" "I" = some (.int (4 : Int32))) (h5 : s.fieldOf? t5 "java/lang/Enum" "ordinal" "I" = some (.int (5 : Int32))) (h6 : s.fieldOf? t6 "java/lang/Enum" "ordinal" "I" = some (.int (6 : Int32))) : TDis t0 t1 t2 t3 t4 t5 t6 := by
  have key : ∀ i : Int32, R7 i → s.fieldOf? (own_kd t0 t1 t2 t3 t4 t5 t6 i) "java/lang/Enum" "ordinal" "I" = some (.int i) := by
    intro i hi
    rcases hi with rfl | rfl | rfl | rfl | rfl | rfl | rfl
    · exact h0
    · exact h1
    · exact h2
    · exact h3
    · exact h4
    · exact h5
    · exact h6
  intro i j hi hj e
  have a := key i hi
  rw [e, key j hj] at a
  have := Option.some.inj a
  exact (Value.int.inj this).symm
theorem own_cs_iff {l1 l2 x0 x1 y0 y1 : Int32} (r1 : R3 l1) (r2 : R3 l2) (hx0 : nar .char x0 = x0) (hx1 : nar .char x1 = x1) (hy0 : nar .char y0 = y0) (hy1 : nar .char y1 = y1) : own_cs l1 x0 x1 = own_cs l2 y0 y1 ↔ (l1 = l2 ∧ (l1 < 1 ∨ x0 = y0) ∧ (l1 < 2 ∨ x1 = y1)) := by
  unfold own_cs
  rw [hx0, hx1, hy0, hy1]
  rcases r1 with rfl | rfl | rfl <;> rcases r2 with rfl | rfl | rfl <;> simp <;> decide
theorem own_exp_iff (k1 k2 l1 l2 x0 y0 x1 y1 p q : Int32) : own_exp k1 k2 l1 l2 x0 y0 x1 y1 p q = if (k1 = k2 ∧ (l1 = l2 ∧ (l1 < 1 ∨ x0 = y0) ∧ (l1 < 2 ∨ x1 = y1)) ∧ p = q) then 1 else 0 := by
  unfold own_exp
  by_cases b : l1 = l2
  · subst b
    by_cases a : k1 = k2 <;> by_cases c : l1 < 1 <;> by_cases d : l1 < 2 <;> by_cases e : x0 = y0 <;> by_cases f : x1 = y1 <;> by_cases g : p = q <;> simp only [a, c, d, e, f, g, if_true, if_false, true_and, and_true, false_and, and_false, true_or, or_true, false_or, or_false, and_self, or_self]
  · by_cases a : k1 = k2 <;> simp only [a, b, if_true, if_false, true_and, and_true, false_and, and_false, true_or, or_true, false_or, or_false, and_self, or_self]
theorem own_law1 {t0 t1 t2 t3 t4 t5 t6 : Addr} (TD : TDis t0 t1 t2 t3 t4 t5 t6) (p1 p2 p3 p4 p5 : Int32) : own_teq (own_kd t0 t1 t2 t3 t4 t5 t6 (own_kk p1)) (own_kd t0 t1 t2 t3 t4 t5 t6 (own_k2 p1 p2 p5)) (own_cs (own_ll p1) (own_c0 p1) (own_c1 p1)) (own_cs (own_l2 p1 p2 p5) (own_y0 p1 p2 p5) (own_y1 p1 p2 p5)) p3 (own_q2 p3 p4 p5) = own_ex p1 p2 p3 p4 p5 := by
  unfold own_teq own_ex
  rw [own_exp_iff]
  have e1 : own_kd t0 t1 t2 t3 t4 t5 t6 (own_kk p1) = own_kd t0 t1 t2 t3 t4 t5 t6 (own_k2 p1 p2 p5) ↔ own_kk p1 = own_k2 p1 p2 p5 := ⟨TD _ _ (own_kk_r _) (own_k2_r _ _ _), fun h => by rw [h]⟩
  have e2 := own_cs_iff (own_ll_r p1) (own_l2_r p1 p2 p5) (own_nar0 p1) (own_nar1 p1) (own_nary0 p1 p2 p5) (own_nary1 p1 p2 p5)
  simp only [e1, e2]
theorem own_law2 {t0 t1 t2 t3 t4 t5 t6 : Addr} (TD : TDis t0 t1 t2 t3 t4 t5 t6) (p1 p2 p3 p4 p5 : Int32) : own_teq (own_kd t0 t1 t2 t3 t4 t5 t6 (own_k2 p1 p2 p5)) (own_kd t0 t1 t2 t3 t4 t5 t6 (own_kk p1)) (own_cs (own_l2 p1 p2 p5) (own_y0 p1 p2 p5) (own_y1 p1 p2 p5)) (own_cs (own_ll p1) (own_c0 p1) (own_c1 p1)) (own_q2 p3 p4 p5) p3 = own_ex p1 p2 p3 p4 p5 := by
  rw [← own_law1 TD p1 p2 p3 p4 p5]
  unfold own_teq
  simp only [eq_comm]
theorem own_pd__I_Lcom_example_mudskipper_mudskipper_jpql_TokenKind_ : parseMethodDescriptor "(I)Lcom/example/mudskipper/mudskipper/jpql/TokenKind;" = some ⟨[.int], some (.object "com/example/mudskipper/mudskipper/jpql/TokenKind")⟩ := by decide +kernel
theorem own_pd__ICC_Ljava_lang_String_ : parseMethodDescriptor "(ICC)Ljava/lang/String;" = some ⟨[.int, .char, .char], some (.object "java/lang/String")⟩ := by decide +kernel
theorem own_pd__Lcom_example_mudskipper_mudskipper_jpql_TokenKind_Ljava_lang_String_I_V : parseMethodDescriptor "(Lcom/example/mudskipper/mudskipper/jpql/TokenKind;Ljava/lang/String;I)V" = some ⟨[(.object "com/example/mudskipper/mudskipper/jpql/TokenKind"), (.object "java/lang/String"), .int], none⟩ := by decide +kernel
theorem own_ef_code_xxxxx (m : MethodId) (x0 : Int32) (x1 : Int32) (x2 : Int32) (x3 : Int32) (x4 : Int32) : entryFrame m #[(.int x0), (.int x1), (.int x2), (.int x3), (.int x4)] maxLocals = mkF m 0 #[.val (.int x0), .val (.int x1), .val (.int x2), .val (.int x3), .val (.int x4), .unset, .unset, .unset, .unset, .unset, .unset, .unset, .unset, .unset, .unset, .unset, .unset, .unset, .unset, .unset, .unset, .unset] [] := by first | (simp [entryFrame, mkF, argsToLocals, Value.category, maxLocals]; done) | rfl
set_option maxRecDepth 65536 in
set_option maxHeartbeats 40000000 in
theorem rm0 (l : Launch) (Z : State) (a0 : Array Value) (hw : ∀ d ∈ tables_1, d.before a0 Z = true) (ws : List Jvm.Cond) (hEL : EW Z a0 own_EL) (p1 p2 p3 p4 p5 : Int32) (G1 : Int32) (t0 t1 t2 t3 t4 t5 t6 : Addr) (h0 : Heap) (n0 : Nat) (Z0 : n0 ≤ h0.size) (O2 : Sta Z Z.heap "java/lang/String" "COMPACT_STRINGS" "Z" (.int G1)) (P5 : ¬ (G1 = (0 : Int32))) (O0 : Old Z n0 h0) (KS : KSt Z t0 t1 t2 t3 t4 t5 t6) (KX : KEx Z t0 t1 t2 t3 t4 t5 t6) (TD : TDis t0 t1 t2 t3 t4 t5 t6) :
    MetFree l x (head1 (Jvm.Cond.code x code maxLocals ret :: ws) room_1) (fun a U => a = #[(.int p1), (.int p2), (.int p3), (.int p4), (.int p5)] ∧ Z.Warmed39 U.vm ∧ U.heap = h0 ∧ CHv Z own_EL U.vm h0) (fun _ _ _ _ _ => True) (fun _ U o U' => ∃ v L, o = .returned v ∧ Q0 n0 v U'.heap L ∧ CHr Z own_EL U.vm U.heap U'.vm U'.heap ∧ ReturnedEndW U o U' L room_1.cells room_1.slots) := by
  refine MetFree.of_bodySF (plainFor_of_name own_pn_com_example_mudskipper_mudskipper_jpql_TokenEqualsPinLaw) hisR ?_
  intro p e s m args below meth c s₁ Bd hml0 hP hK
  obtain ⟨rfl, hZ, hh, hCH0⟩ := hP
  have hx := Bd.exec
  have hby := Bd.bytes
  have hml : c.maxLocals = 22 := hml0
  have hown : s.vm.findClass "com/example/mudskipper/mudskipper/jpql/TokenEqualsPinLaw" = some m.cls := findClass_of_methodNamed Bd.named
  have hnm := (name_of_methodNamed Bd.named Bd.method).1
  have X0 : Stand p l e room_1 (s.setVm s.vm) m #[(.int p1), (.int p2), (.int p3), (.int p4), (.int p5)] below meth c s₁ [] 0 0 := Stand.of_body Bd
  have e0 : s₁.heap = h0 := by rw [← hh, Bd.state]; rfl
  have N0 := Fr.nil n0
  have CH0 : CHr Z own_EL s.vm h0 s.vm h0 := CHr.refl hCH0
  have hS0 : s.Since s.vm 0 := State.WarmedH.since (State.WarmedH.refl s) 0
  have pre0 : ∀ t, Steps p.tables e below (s₁.setTop (mkF m 0 #[.val (.int p1), .val (.int p2), .val (.int p3), .val (.int p4), .val (.int p5), .unset, .unset, .unset, .unset, .unset, .unset, .unset, .unset, .unset, .unset, .unset, .unset, .unset, .unset, .unset, .unset, .unset] [])) t → Steps p.tables e below (s₁.setTop (entryFrame m #[(.int p1), (.int p2), (.int p3), (.int p4), (.int p5)] maxLocals)) t := fun t k => castTop (own_ef_code_xxxxx m p1 p2 p3 p4 p5) k
  obtain ⟨T17, h17, X17, e17, E17, A17, D17, -, st17⟩ := newO X0 hx hZ hown (hw _ (List.mem_of_getElem? (i := 0) rfl)) (hw _ (List.mem_of_getElem? (i := 1) rfl)) (hw _ (List.mem_of_getElem? (i := 2) rfl)) e0 (g := (mkF m 174 #[.val (.int p1), .val (.int p2), .val (.int p3), .val (.int p4), .val (.int p5), .val (.int (own_kk p1)), .val (.int (own_ll p1)), .val (.int (own_c0 p1)), .val (.int (own_c1 p1)), .val (.int (own_b (own_bit1 p5))), .val (.int (own_b (own_bit2 p5))), .val (.int (own_b (own_bit4 p5))), .val (.int (own_k2 p1 p2 p5)), .val (.int (own_l2 p1 p2 p5)), .val (.int (own_y0 p1 p2 p5)), .val (.int (own_y1 p1 p2 p5)), .val (.int (own_q2 p3 p4 p5)), .unset, .unset, .unset, .unset, .unset] [])) rfl (hb hby at_174) (by decide) (by decide)
  obtain ⟨b17, g17⟩ : ∃ z, z = h0.size := ⟨_, rfl⟩
  rw [← g17] at A17 D17 st17
  have sz_b17 : h0.size ≤ b17 := Nat.le_trans (Keep.refl h0 []).1 (Nat.le_of_eq g17.symm)
  have g_b17 : n0 ≤ b17 := Nat.le_trans Z0 sz_b17
  have CH1 : CHr Z own_EL s.vm h0 s.vm h17 := CH0.trans (CHr.ext E17 CH0.1)
  have K1 : Keep h0 h17 [] := (Keep.refl h0 []).ext E17
  have F_kind_b17 : Fld Z h17 b17 "com/example/mudskipper/mudskipper/jpql/Token" "kind" "Lcom/example/mudskipper/mudskipper/jpql/TokenKind;" .null := D17 (Or.inr (hw _ (List.mem_of_getElem? (i := 47) rfl))) (ty := (.object "com/example/mudskipper/mudskipper/jpql/TokenKind")) (by decide)
  have F_text_b17 : Fld Z h17 b17 "com/example/mudskipper/mudskipper/jpql/Token" "text" "Ljava/lang/String;" .null := D17 (Or.inr (hw _ (List.mem_of_getElem? (i := 51) rfl))) (ty := (.object "java/lang/String")) (by decide)
  have F_position_b17 : Fld Z h17 b17 "com/example/mudskipper/mudskipper/jpql/Token" "position" "I" (.int (0 : Int32)) := D17 (Or.inr (hw _ (List.mem_of_getElem? (i := 53) rfl))) (ty := .int) (by decide)
  have f19 : Old Z n0 h17 := (O0.ext E17)
  obtain ⟨_, _, ⟨T18, L18, k18, n18⟩, -, X18, ⟨Lc18, hQ18, l18, y18, z18⟩, st18⟩ := Jvm.LawKit.callS X17 hx (y := (⟨"com/example/mudskipper/mudskipper/jpql/TokenEqualsPinLaw", "kindOf", "(I)Lcom/example/mudskipper/mudskipper/jpql/TokenKind;"⟩ : MethodName)) hown (mvT hZ (hw _ (List.mem_of_getElem? (i := 3) rfl))) (mvT hZ (hw _ (List.mem_of_getElem? (i := 4) rfl))) (mvT hZ (hw _ (List.mem_of_getElem? (i := 5) rfl))) (mvT hZ (hw _ (List.mem_of_getElem? (i := 6) rfl))) (by decide) (backOf (W := 2) (rmK l Z a0 hw [] (own_kk p1) t0 t1 t2 t3 t4 t5 t6 h17 n0 (Nat.le_trans Z0 K1.1) KS f19) hZ (hw _ (List.mem_of_getElem? (i := 6) rfl)) (hw _ (List.mem_of_getElem? (i := 5) rfl)) (by decide) (by decide)) (g := (mkF m 180 #[.val (.int p1), .val (.int p2), .val (.int p3), .val (.int p4), .val (.int p5), .val (.int (own_kk p1)), .val (.int (own_ll p1)), .val (.int (own_c0 p1)), .val (.int (own_c1 p1)), .val (.int (own_b (own_bit1 p5))), .val (.int (own_b (own_bit2 p5))), .val (.int (own_b (own_bit4 p5))), .val (.int (own_k2 p1 p2 p5)), .val (.int (own_l2 p1 p2 p5)), .val (.int (own_y0 p1 p2 p5)), .val (.int (own_y1 p1 p2 p5)), .val (.int (own_q2 p3 p4 p5)), .unset, .unset, .unset, .unset, .unset] [(.int (own_kk p1)), (.ref b17), (.ref b17)])) rfl (by rw [hml]; rfl) (argsL := [(.int (own_kk p1))]) (rest := [(.ref b17), (.ref b17)]) (lenOf own_pd__I_Lcom_example_mudskipper_mudskipper_jpql_TokenKind_ rfl) rfl (by show 2 * 0 + _ ≤ _; exact Nat.le_of_eq rfl) (hb hby at_180) (fun _ _ => ⟨rfl, e17, (by decide : 1 + 0 ≤ _), (by decide : 3 + 0 ≤ _)⟩)
  dsimp only [Pt.U, Pt.locs, Pt.cells, Pt.slots] at X18 l18 y18 z18 st18 hQ18
  subst l18 y18 z18
  obtain ⟨rfl, N18q, e18q⟩ := hQ18
  have N18a := Fr.app N0 N18q
  have KE18 : Exa Z h17 (own_kd t0 t1 t2 t3 t4 t5 t6 (own_kk p1)) "com/example/mudskipper/mudskipper/jpql/TokenKind" := own_kexa KX (own_kk p1) (O := f19)
  obtain ⟨_, _, ⟨T20, L20, k20, n20⟩, -, X20', hs20, hg20, ⟨Lc20, hQ20, l20, y20, z20, C20⟩, st20⟩ := callSS X18 hx (y := (⟨"com/example/mudskipper/mudskipper/jpql/TokenEqualsPinLaw", "str", "(ICC)Ljava/lang/String;"⟩ : MethodName)) hown (mvT hZ (hw _ (List.mem_of_getElem? (i := 10) rfl))) (mvT hZ (hw _ (List.mem_of_getElem? (i := 11) rfl))) (mvT hZ (hw _ (List.mem_of_getElem? (i := 5) rfl))) (mvT hZ (hw _ (List.mem_of_getElem? (i := 12) rfl))) (by decide) (backOfSH (W := 3) (rmS l Z a0 hw [] hEL (own_ll p1) (own_c0 p1) (own_c1 p1) G1 h17 n0 (Nat.le_trans Z0 K1.1) O2 P5 f19 (own_qc0 _) (own_qc1 _)) hZ (hw _ (List.mem_of_getElem? (i := 12) rfl)) (hw _ (List.mem_of_getElem? (i := 5) rfl)) (by decide) (by decide) hEL CH1.1) (g := (mkF m 189 #[.val (.int p1), .val (.int p2), .val (.int p3), .val (.int p4), .val (.int p5), .val (.int (own_kk p1)), .val (.int (own_ll p1)), .val (.int (own_c0 p1)), .val (.int (own_c1 p1)), .val (.int (own_b (own_bit1 p5))), .val (.int (own_b (own_bit2 p5))), .val (.int (own_b (own_bit4 p5))), .val (.int (own_k2 p1 p2 p5)), .val (.int (own_l2 p1 p2 p5)), .val (.int (own_y0 p1 p2 p5)), .val (.int (own_y1 p1 p2 p5)), .val (.int (own_q2 p3 p4 p5)), .unset, .unset, .unset, .unset, .unset] [(.int (own_c1 p1)), (.int (own_c0 p1)), (.int (own_ll p1)), (.ref (own_kd t0 t1 t2 t3 t4 t5 t6 (own_kk p1))), (.ref b17), (.ref b17)])) rfl (by rw [hml]; rfl) (argsL := [(.int (own_ll p1)), (.int (own_c0 p1)), (.int (own_c1 p1))]) (rest := [(.ref (own_kd t0 t1 t2 t3 t4 t5 t6 (own_kk p1))), (.ref b17), (.ref b17)]) (lenOf own_pd__ICC_Ljava_lang_String_ rfl) rfl (by show 2 * 0 + _ ≤ _; exact Nat.le_of_eq rfl) (hb hby at_189) (fun _ _ => ⟨rfl, e18q, (by decide : 1 + 4 ≤ _), (by decide : 3 + 8 ≤ _)⟩)
  dsimp only [Pt.U, Pt.locs, Pt.cells, Pt.slots] at X20' l20 y20 z20 st20 hQ20 C20 hs20 hg20
  subst l20 y20 z20
  obtain ⟨X20, hS20, hZ20, hown20⟩ := rebS hS0 (by rw [e18q]; exact (Nat.zero_le _)) X20' hs20 hg20 hZ hown
  obtain ⟨r20, rfl, N20q, K20q, sz20, SV20⟩ := hQ20
  have N20a := Fr.app N18a N20q
  have CH2 : CHr Z own_EL s.vm h0 T20.vm T20.heap := CH1.trans C20
  have K2 : Keep h0 T20.heap [] := K1.trans K20q all0
  have f22 : Exa Z T20.heap b17 "com/example/mudskipper/mudskipper/jpql/Token" := (A17.keep K20q)
  have f23 : Fld Z T20.heap b17 "com/example/mudskipper/mudskipper/jpql/Token" "kind" "Lcom/example/mudskipper/mudskipper/jpql/TokenKind;" .null := (F_kind_b17.keep K20q nin0)
  have f24 : Fld Z T20.heap b17 "com/example/mudskipper/mudskipper/jpql/Token" "text" "Ljava/lang/String;" .null := (F_text_b17.keep K20q nin0)
  have f25 : Fld Z T20.heap b17 "com/example/mudskipper/mudskipper/jpql/Token" "position" "I" (.int (0 : Int32)) := (F_position_b17.keep K20q nin0)
  have f26 : Exa Z T20.heap (own_kd t0 t1 t2 t3 t4 t5 t6 (own_kk p1)) "com/example/mudskipper/mudskipper/jpql/TokenKind" := (KE18.keep K20q)
  obtain ⟨_, _, ⟨T21, L21, k21, n21⟩, -, X21', hs21, hg21, ⟨Lc21, hQ21, l21, y21, z21, C21⟩, st21⟩ := X20.specialBackS hx (y := (⟨"com/example/mudskipper/mudskipper/jpql/Token", "<init>", "(Lcom/example/mudskipper/mudskipper/jpql/TokenKind;Ljava/lang/String;I)V"⟩ : MethodName)) rfl hown20 (mvT hZ20 (hw _ (List.mem_of_getElem? (i := 35) rfl))) (mvT hZ20 (hw _ (List.mem_of_getElem? (i := 36) rfl))) (mvT hZ20 (hw _ (List.mem_of_getElem? (i := 37) rfl))) (by decide) (backOfSH (W := 1) (rmT l Z a0 hw [] hEL b17 (own_kd t0 t1 t2 t3 t4 t5 t6 (own_kk p1)) r20 p3 (own_cs (own_ll p1) (own_c0 p1) (own_c1 p1)) T20.heap n0 (Nat.le_trans Z0 K2.1) f22 f23 f24 f25 f26 SV20 g_b17) hZ20 (hw _ (List.mem_of_getElem? (i := 37) rfl)) (hw _ (List.mem_of_getElem? (i := 2) rfl)) (by decide) (by decide) hEL CH2.1) (g := (mkF m 193 #[.val (.int p1), .val (.int p2), .val (.int p3), .val (.int p4), .val (.int p5), .val (.int (own_kk p1)), .val (.int (own_ll p1)), .val (.int (own_c0 p1)), .val (.int (own_c1 p1)), .val (.int (own_b (own_bit1 p5))), .val (.int (own_b (own_bit2 p5))), .val (.int (own_b (own_bit4 p5))), .val (.int (own_k2 p1 p2 p5)), .val (.int (own_l2 p1 p2 p5)), .val (.int (own_y0 p1 p2 p5)), .val (.int (own_y1 p1 p2 p5)), .val (.int (own_q2 p3 p4 p5)), .unset, .unset, .unset, .unset, .unset] [(.int p3), (.ref r20), (.ref (own_kd t0 t1 t2 t3 t4 t5 t6 (own_kk p1))), (.ref b17), (.ref b17)])) rfl (by rw [hml]; rfl) (Steps.refl _) (a := b17) (argsL := [(.ref (own_kd t0 t1 t2 t3 t4 t5 t6 (own_kk p1))), (.ref r20), (.int p3)]) (rest := [(.ref b17)]) (lenOf own_pd__Lcom_example_mudskipper_mudskipper_jpql_TokenKind_Ljava_lang_String_I_V rfl) rfl (by show 2 * 0 + _ ≤ _; exact Nat.le_of_eq rfl) (hb hby at_193) (fun _ _ => ⟨rfl, rfl, (by decide : 5 + 4 ≤ _), (by decide : 11 + 40 ≤ _)⟩)
  dsimp only [Pt.U, Pt.locs, Pt.cells, Pt.slots] at X21' l21 y21 z21 st21 hQ21 C21 hs21 hg21
  subst l21 y21 z21
  obtain ⟨X21, hS21, hZ21, hown21⟩ := rebS hS20 (Nat.le_refl _) X21' hs21 hg21 hZ20 hown20
  obtain ⟨rfl, N21q, K21q, Fk21, Ft21, Fp21⟩ := hQ21
  have N21a := Fr.app N20a N21q
  have CH3 : CHr Z own_EL s.vm h0 T21.vm T21.heap := CH2.trans C21
  have K3 : Keep h0 T21.heap [] := K2.trans K21q (allS (Or.inr sz_b17) all0)
  obtain ⟨T27, h27, X27, e27, E27, A27, D27, -, st27⟩ := newO X21 hx hZ21 hown21 (hw _ (List.mem_of_getElem? (i := 0) rfl)) (hw _ (List.mem_of_getElem? (i := 1) rfl)) (hw _ (List.mem_of_getElem? (i := 2) rfl)) rfl (g := (mkF m 198 #[.val (.int p1), .val (.int p2), .val (.int p3), .val (.int p4), .val (.int p5), .val (.int (own_kk p1)), .val (.int (own_ll p1)), .val (.int (own_c0 p1)), .val (.int (own_c1 p1)), .val (.int (own_b (own_bit1 p5))), .val (.int (own_b (own_bit2 p5))), .val (.int (own_b (own_bit4 p5))), .val (.int (own_k2 p1 p2 p5)), .val (.int (own_l2 p1 p2 p5)), .val (.int (own_y0 p1 p2 p5)), .val (.int (own_y1 p1 p2 p5)), .val (.int (own_q2 p3 p4 p5)), .val (.ref b17), .unset, .unset, .unset, .unset] [])) rfl (hb hby at_198) (by decide) (by decide)
  obtain ⟨b27, g27⟩ : ∃ z, z = T21.heap.size := ⟨_, rfl⟩
  rw [← g27] at A27 D27 st27
  have sz_b27 : h0.size ≤ b27 := Nat.le_trans K3.1 (Nat.le_of_eq g27.symm)
  have g_b27 : n0 ≤ b27 := Nat.le_trans Z0 sz_b27
  have CH4 : CHr Z own_EL s.vm h0 T21.vm h27 := CH3.trans (CHr.ext E27 CH3.1)
  have K4 : Keep h0 h27 [] := K3.ext E27
  have F_kind_b27 : Fld Z h27 b27 "com/example/mudskipper/mudskipper/jpql/Token" "kind" "Lcom/example/mudskipper/mudskipper/jpql/TokenKind;" .null := D27 (Or.inr (hw _ (List.mem_of_getElem? (i := 47) rfl))) (ty := (.object "com/example/mudskipper/mudskipper/jpql/TokenKind")) (by decide)
  have F_text_b27 : Fld Z h27 b27 "com/example/mudskipper/mudskipper/jpql/Token" "text" "Ljava/lang/String;" .null := D27 (Or.inr (hw _ (List.mem_of_getElem? (i := 51) rfl))) (ty := (.object "java/lang/String")) (by decide)
  have F_position_b27 : Fld Z h27 b27 "com/example/mudskipper/mudskipper/jpql/Token" "position" "I" (.int (0 : Int32)) := D27 (Or.inr (hw _ (List.mem_of_getElem? (i := 53) rfl))) (ty := .int) (by decide)
  have f29 : Old Z n0 h27 := (((f19.keep K20q all0).keep K21q (allS g_b17 all0)).ext E27)
  obtain ⟨_, _, ⟨T28, L28, k28, n28⟩, -, X28, ⟨Lc28, hQ28, l28, y28, z28⟩, st28⟩ := Jvm.LawKit.callS X27 hx (y := (⟨"com/example/mudskipper/mudskipper/jpql/TokenEqualsPinLaw", "kindOf", "(I)Lcom/example/mudskipper/mudskipper/jpql/TokenKind;"⟩ : MethodName)) hown21 (mvT hZ21 (hw _ (List.mem_of_getElem? (i := 3) rfl))) (mvT hZ21 (hw _ (List.mem_of_getElem? (i := 4) rfl))) (mvT hZ21 (hw _ (List.mem_of_getElem? (i := 5) rfl))) (mvT hZ21 (hw _ (List.mem_of_getElem? (i := 6) rfl))) (by decide) (backOf (W := 2) (rmK l Z a0 hw [] (own_k2 p1 p2 p5) t0 t1 t2 t3 t4 t5 t6 h27 n0 (Nat.le_trans Z0 K4.1) KS f29) hZ21 (hw _ (List.mem_of_getElem? (i := 6) rfl)) (hw _ (List.mem_of_getElem? (i := 5) rfl)) (by decide) (by decide)) (g := (mkF m 204 #[.val (.int p1), .val (.int p2), .val (.int p3), .val (.int p4), .val (.int p5), .val (.int (own_kk p1)), .val (.int (own_ll p1)), .val (.int (own_c0 p1)), .val (.int (own_c1 p1)), .val (.int (own_b (own_bit1 p5))), .val (.int (own_b (own_bit2 p5))), .val (.int (own_b (own_bit4 p5))), .val (.int (own_k2 p1 p2 p5)), .val (.int (own_l2 p1 p2 p5)), .val (.int (own_y0 p1 p2 p5)), .val (.int (own_y1 p1 p2 p5)), .val (.int (own_q2 p3 p4 p5)), .val (.ref b17), .unset, .unset, .unset, .unset] [(.int (own_k2 p1 p2 p5)), (.ref b27), (.ref b27)])) rfl (by rw [hml]; rfl) (argsL := [(.int (own_k2 p1 p2 p5))]) (rest := [(.ref b27), (.ref b27)]) (lenOf own_pd__I_Lcom_example_mudskipper_mudskipper_jpql_TokenKind_ rfl) rfl (by show 2 * 0 + _ ≤ _; exact Nat.le_of_eq rfl) (hb hby at_204) (fun _ _ => ⟨rfl, e27, (by decide : 10 + 0 ≤ _), (by decide : 54 + 0 ≤ _)⟩)
  dsimp only [Pt.U, Pt.locs, Pt.cells, Pt.slots] at X28 l28 y28 z28 st28 hQ28
  subst l28 y28 z28
  obtain ⟨rfl, N28q, e28q⟩ := hQ28
  have N28a := Fr.app N21a N28q
  have KE28 : Exa Z h27 (own_kd t0 t1 t2 t3 t4 t5 t6 (own_k2 p1 p2 p5)) "com/example/mudskipper/mudskipper/jpql/TokenKind" := own_kexa KX (own_k2 p1 p2 p5) (O := f29)
  obtain ⟨_, _, ⟨T30, L30, k30, n30⟩, -, X30', hs30, hg30, ⟨Lc30, hQ30, l30, y30, z30, C30⟩, st30⟩ := callSS X28 hx (y := (⟨"com/example/mudskipper/mudskipper/jpql/TokenEqualsPinLaw", "str", "(ICC)Ljava/lang/String;"⟩ : MethodName)) hown21 (mvT hZ21 (hw _ (List.mem_of_getElem? (i := 10) rfl))) (mvT hZ21 (hw _ (List.mem_of_getElem? (i := 11) rfl))) (mvT hZ21 (hw _ (List.mem_of_getElem? (i := 5) rfl))) (mvT hZ21 (hw _ (List.mem_of_getElem? (i := 12) rfl))) (by decide) (backOfSH (W := 3) (rmS l Z a0 hw [] hEL (own_l2 p1 p2 p5) (own_y0 p1 p2 p5) (own_y1 p1 p2 p5) G1 h27 n0 (Nat.le_trans Z0 K4.1) O2 P5 f29 (own_qy0 _ _ _) (own_qy1 _ _ _)) hZ21 (hw _ (List.mem_of_getElem? (i := 12) rfl)) (hw _ (List.mem_of_getElem? (i := 5) rfl)) (by decide) (by decide) hEL CH4.1) (g := (mkF m 213 #[.val (.int p1), .val (.int p2), .val (.int p3), .val (.int p4), .val (.int p5), .val (.int (own_kk p1)), .val (.int (own_ll p1)), .val (.int (own_c0 p1)), .val (.int (own_c1 p1)), .val (.int (own_b (own_bit1 p5))), .val (.int (own_b (own_bit2 p5))), .val (.int (own_b (own_bit4 p5))), .val (.int (own_k2 p1 p2 p5)), .val (.int (own_l2 p1 p2 p5)), .val (.int (own_y0 p1 p2 p5)), .val (.int (own_y1 p1 p2 p5)), .val (.int (own_q2 p3 p4 p5)), .val (.ref b17), .unset, .unset, .unset, .unset] [(.int (own_y1 p1 p2 p5)), (.int (own_y0 p1 p2 p5)), (.int (own_l2 p1 p2 p5)), (.ref (own_kd t0 t1 t2 t3 t4 t5 t6 (own_k2 p1 p2 p5))), (.ref b27), (.ref b27)])) rfl (by rw [hml]; rfl) (argsL := [(.int (own_l2 p1 p2 p5)), (.int (own_y0 p1 p2 p5)), (.int (own_y1 p1 p2 p5))]) (rest := [(.ref (own_kd t0 t1 t2 t3 t4 t5 t6 (own_k2 p1 p2 p5))), (.ref b27), (.ref b27)]) (lenOf own_pd__ICC_Ljava_lang_String_ rfl) rfl (by show 2 * 0 + _ ≤ _; exact Nat.le_of_eq rfl) (hb hby at_213) (fun _ _ => ⟨rfl, e28q, (by decide : 10 + 4 ≤ _), (by decide : 54 + 8 ≤ _)⟩)
  dsimp only [Pt.U, Pt.locs, Pt.cells, Pt.slots] at X30' l30 y30 z30 st30 hQ30 C30 hs30 hg30
  subst l30 y30 z30
  have hk_31 := Nat.le_trans (Nat.le_refl _) ((Keep.refl T21.heap []).ext E27).1
  obtain ⟨X30, hS30, hZ30, hown30⟩ := rebS hS21 (by rw [e28q]; exact hk_31) X30' hs30 hg30 hZ21 hown21
  obtain ⟨r30, rfl, N30q, K30q, sz30, SV30⟩ := hQ30
  have N30a := Fr.app N28a N30q
  have CH5 : CHr Z own_EL s.vm h0 T30.vm T30.heap := CH4.trans C30
  have K5 : Keep h0 T30.heap [] := K4.trans K30q all0
  have f33 : Exa Z T30.heap b27 "com/example/mudskipper/mudskipper/jpql/Token" := (A27.keep K30q)
  have f34 : Fld Z T30.heap b27 "com/example/mudskipper/mudskipper/jpql/Token" "kind" "Lcom/example/mudskipper/mudskipper/jpql/TokenKind;" .null := (F_kind_b27.keep K30q nin0)
  have f35 : Fld Z T30.heap b27 "com/example/mudskipper/mudskipper/jpql/Token" "text" "Ljava/lang/String;" .null := (F_text_b27.keep K30q nin0)
  have f36 : Fld Z T30.heap b27 "com/example/mudskipper/mudskipper/jpql/Token" "position" "I" (.int (0 : Int32)) := (F_position_b27.keep K30q nin0)
  have f37 : Exa Z T30.heap (own_kd t0 t1 t2 t3 t4 t5 t6 (own_k2 p1 p2 p5)) "com/example/mudskipper/mudskipper/jpql/TokenKind" := (KE28.keep K30q)
  obtain ⟨_, _, ⟨T32, L32, k32, n32⟩, -, X32', hs32, hg32, ⟨Lc32, hQ32, l32, y32, z32, C32⟩, st32⟩ := X30.specialBackS hx (y := (⟨"com/example/mudskipper/mudskipper/jpql/Token", "<init>", "(Lcom/example/mudskipper/mudskipper/jpql/TokenKind;Ljava/lang/String;I)V"⟩ : MethodName)) rfl hown30 (mvT hZ30 (hw _ (List.mem_of_getElem? (i := 35) rfl))) (mvT hZ30 (hw _ (List.mem_of_getElem? (i := 36) rfl))) (mvT hZ30 (hw _ (List.mem_of_getElem? (i := 37) rfl))) (by decide) (backOfSH (W := 1) (rmT l Z a0 hw [] hEL b27 (own_kd t0 t1 t2 t3 t4 t5 t6 (own_k2 p1 p2 p5)) r30 (own_q2 p3 p4 p5) (own_cs (own_l2 p1 p2 p5) (own_y0 p1 p2 p5) (own_y1 p1 p2 p5)) T30.heap n0 (Nat.le_trans Z0 K5.1) f33 f34 f35 f36 f37 SV30 g_b27) hZ30 (hw _ (List.mem_of_getElem? (i := 37) rfl)) (hw _ (List.mem_of_getElem? (i := 2) rfl)) (by decide) (by decide) hEL CH5.1) (g := (mkF m 218 #[.val (.int p1), .val (.int p2), .val (.int p3), .val (.int p4), .val (.int p5), .val (.int (own_kk p1)), .val (.int (own_ll p1)), .val (.int (own_c0 p1)), .val (.int (own_c1 p1)), .val (.int (own_b (own_bit1 p5))), .val (.int (own_b (own_bit2 p5))), .val (.int (own_b (own_bit4 p5))), .val (.int (own_k2 p1 p2 p5)), .val (.int (own_l2 p1 p2 p5)), .val (.int (own_y0 p1 p2 p5)), .val (.int (own_y1 p1 p2 p5)), .val (.int (own_q2 p3 p4 p5)), .val (.ref b17), .unset, .unset, .unset, .unset] [(.int (own_q2 p3 p4 p5)), (.ref r30), (.ref (own_kd t0 t1 t2 t3 t4 t5 t6 (own_k2 p1 p2 p5))), (.ref b27), (.ref b27)])) rfl (by rw [hml]; rfl) (Steps.refl _) (a := b27) (argsL := [(.ref (own_kd t0 t1 t2 t3 t4 t5 t6 (own_k2 p1 p2 p5))), (.ref r30), (.int (own_q2 p3 p4 p5))]) (rest := [(.ref b27)]) (lenOf own_pd__Lcom_example_mudskipper_mudskipper_jpql_TokenKind_Ljava_lang_String_I_V rfl) rfl (by show 2 * 0 + _ ≤ _; exact Nat.le_of_eq rfl) (hb hby at_218) (fun _ _ => ⟨rfl, rfl, (by decide : 14 + 4 ≤ _), (by decide : 62 + 40 ≤ _)⟩)
  dsimp only [Pt.U, Pt.locs, Pt.cells, Pt.slots] at X32' l32 y32 z32 st32 hQ32 C32 hs32 hg32
  subst l32 y32 z32
  obtain ⟨X32, hS32, hZ32, hown32⟩ := rebS hS30 (Nat.le_refl _) X32' hs32 hg32 hZ30 hown30
  obtain ⟨rfl, N32q, K32q, Fk32, Ft32, Fp32⟩ := hQ32
  have N32a := Fr.app N30a N32q
  have CH6 : CHr Z own_EL s.vm h0 T32.vm T32.heap := CH5.trans C32
  have K6 : Keep h0 T32.heap [] := K5.trans K32q (allS (Or.inr sz_b27) all0)
  have cut51 : ∀ t, Steps p.tables e below (T32.setTop (mkF m 287 #[.val (.int p1), .val (.int p2), .val (.int p3), .val (.int p4), .val (.int p5), .val (.int (own_kk p1)), .val (.int (own_ll p1)), .val (.int (own_c0 p1)), .val (.int (own_c1 p1)), .val (.int (own_b (own_bit1 p5))), .val (.int (own_b (own_bit2 p5))), .val (.int (own_b (own_bit4 p5))), .val (.int (own_k2 p1 p2 p5)), .val (.int (own_l2 p1 p2 p5)), .val (.int (own_y0 p1 p2 p5)), .val (.int (own_y1 p1 p2 p5)), .val (.int (own_q2 p3 p4 p5)), .val (.ref b17), .val (.ref b27), .val (.int (own_ex p1 p2 p3 p4 p5)), .val (.int (own_mode p5)), .unset] [(.int (1 : Int32)), (.int (own_mode p5))])) t → Steps p.tables e below (s₁.setTop (mkF m 0 #[.val (.int p1), .val (.int p2), .val (.int p3), .val (.int p4), .val (.int p5), .unset, .unset, .unset, .unset, .unset, .unset, .unset, .unset, .unset, .unset, .unset, .unset, .unset, .unset, .unset, .unset, .unset] [])) t := fun t kk => by
    show Steps p.tables e below (s₁.setTop (mkF m 0 #[.val (.int p1), .val (.int p2), .val (.int p3), .val (.int p4), .val (.int p5), .unset, .unset, .unset, .unset, .unset, .unset, .unset, .unset, .unset, .unset, .unset, .unset, .unset, .unset, .unset, .unset, .unset] [])) _
    refine XS.iloadN X0.here hx rfl (hb hby at_0) rfl ?_
    refine XS.bipush X0.here hx rfl (hb hby at_1) ?_
    refine XS.iand X0.here hx rfl (hb hby at_3) rfl ?_
    show Steps p.tables e below (s₁.setTop (mkF m 4 #[.val (.int p1), .val (.int p2), .val (.int p3), .val (.int p4), .val (.int p5), .unset, .unset, .unset, .unset, .unset, .unset, .unset, .unset, .unset, .unset, .unset, .unset, .unset, .unset, .unset, .unset, .unset] [(.int (p1 &&& (7 : Int32)))])) _
    refine XS.bipush X0.here hx rfl (hb hby at_4) ?_
    show Steps p.tables e below (s₁.setTop (mkF m 6 #[.val (.int p1), .val (.int p2), .val (.int p3), .val (.int p4), .val (.int p5), .unset, .unset, .unset, .unset, .unset, .unset, .unset, .unset, .unset, .unset, .unset, .unset, .unset, .unset, .unset, .unset, .unset] [(.int (7 : Int32)), (.int (p1 &&& (7 : Int32)))])) _
    refine XS.irem X0.here hx rfl (hb hby at_6) rfl (by decide : (7 : Int32) ≠ 0) ?_
    refine XS.istore X0.here hx rfl (hb hby at_7) rfl (l' := #[.val (.int p1), .val (.int p2), .val (.int p3), .val (.int p4), .val (.int p5), .val (.int (own_kk p1)), .unset, .unset, .unset, .unset, .unset, .unset, .unset, .unset, .unset, .unset, .unset, .unset, .unset, .unset, .unset, .unset]) rfl ?_
    refine XS.iloadN X0.here hx rfl (hb hby at_9) rfl ?_
    show Steps p.tables e below (s₁.setTop (mkF m 10 #[.val (.int p1), .val (.int p2), .val (.int p3), .val (.int p4), .val (.int p5), .val (.int (own_kk p1)), .unset, .unset, .unset, .unset, .unset, .unset, .unset, .unset, .unset, .unset, .unset, .unset, .unset, .unset, .unset, .unset] [(.int p1)])) _
    refine XS.iconst X0.here hx rfl (hb hby at_10) ?_
    refine XS.iushr X0.here hx rfl (hb hby at_11) rfl ?_
    refine XS.iconst X0.here hx rfl (hb hby at_12) ?_
    show Steps p.tables e below (s₁.setTop (mkF m 13 #[.val (.int p1), .val (.int p2), .val (.int p3), .val (.int p4), .val (.int p5), .val (.int (own_kk p1)), .unset, .unset, .unset, .unset, .unset, .unset, .unset, .unset, .unset, .unset, .unset, .unset, .unset, .unset, .unset, .unset] [(.int (3 : Int32)), (.int ((p1.toUInt32 >>> ((3 : Int32) &&& 31).toUInt32).toInt32))])) _
    refine XS.iand X0.here hx rfl (hb hby at_13) rfl ?_
    refine XS.iconst X0.here hx rfl (hb hby at_14) ?_
    show Steps p.tables e below (s₁.setTop (mkF m 15 #[.val (.int p1), .val (.int p2), .val (.int p3), .val (.int p4), .val (.int p5), .val (.int (own_kk p1)), .unset, .unset, .unset, .unset, .unset, .unset, .unset, .unset, .unset, .unset, .unset, .unset, .unset, .unset, .unset, .unset] [(.int (3 : Int32)), (.int (((p1.toUInt32 >>> ((3 : Int32) &&& 31).toUInt32).toInt32) &&& (3 : Int32)))])) _
    refine XS.irem X0.here hx rfl (hb hby at_15) rfl (by decide : (3 : Int32) ≠ 0) ?_
    refine XS.istore X0.here hx rfl (hb hby at_16) rfl (l' := #[.val (.int p1), .val (.int p2), .val (.int p3), .val (.int p4), .val (.int p5), .val (.int (own_kk p1)), .val (.int (own_ll p1)), .unset, .unset, .unset, .unset, .unset, .unset, .unset, .unset, .unset, .unset, .unset, .unset, .unset, .unset, .unset]) rfl ?_
    refine XS.iloadN X0.here hx rfl (hb hby at_18) rfl ?_
    show Steps p.tables e below (s₁.setTop (mkF m 19 #[.val (.int p1), .val (.int p2), .val (.int p3), .val (.int p4), .val (.int p5), .val (.int (own_kk p1)), .val (.int (own_ll p1)), .unset, .unset, .unset, .unset, .unset, .unset, .unset, .unset, .unset, .unset, .unset, .unset, .unset, .unset, .unset] [(.int p1)])) _
    refine XS.bipush X0.here hx rfl (hb hby at_19) ?_
    refine XS.iushr X0.here hx rfl (hb hby at_21) rfl ?_
    refine XS.sipush X0.here hx rfl (hb hby at_22) ?_
    show Steps p.tables e below (s₁.setTop (mkF m 25 #[.val (.int p1), .val (.int p2), .val (.int p3), .val (.int p4), .val (.int p5), .val (.int (own_kk p1)), .val (.int (own_ll p1)), .unset, .unset, .unset, .unset, .unset, .unset, .unset, .unset, .unset, .unset, .unset, .unset, .unset, .unset, .unset] [(.int (255 : Int32)), (.int ((p1.toUInt32 >>> ((8 : Int32) &&& 31).toUInt32).toInt32))])) _
    refine XS.iand X0.here hx rfl (hb hby at_25) rfl ?_
    refine XS.i2c X0.here hx rfl (hb hby at_26) rfl ?_
    refine XS.istore X0.here hx rfl (hb hby at_27) rfl (l' := #[.val (.int p1), .val (.int p2), .val (.int p3), .val (.int p4), .val (.int p5), .val (.int (own_kk p1)), .val (.int (own_ll p1)), .val (.int (own_c0 p1)), .unset, .unset, .unset, .unset, .unset, .unset, .unset, .unset, .unset, .unset, .unset, .unset, .unset, .unset]) rfl ?_
    show Steps p.tables e below (s₁.setTop (mkF m 29 #[.val (.int p1), .val (.int p2), .val (.int p3), .val (.int p4), .val (.int p5), .val (.int (own_kk p1)), .val (.int (own_ll p1)), .val (.int (own_c0 p1)), .unset, .unset, .unset, .unset, .unset, .unset, .unset, .unset, .unset, .unset, .unset, .unset, .unset, .unset] [])) _
    refine XS.iloadN X0.here hx rfl (hb hby at_29) rfl ?_
    refine XS.bipush X0.here hx rfl (hb hby at_30) ?_
    refine XS.iushr X0.here hx rfl (hb hby at_32) rfl ?_
    show Steps p.tables e below (s₁.setTop (mkF m 33 #[.val (.int p1), .val (.int p2), .val (.int p3), .val (.int p4), .val (.int p5), .val (.int (own_kk p1)), .val (.int (own_ll p1)), .val (.int (own_c0 p1)), .unset, .unset, .unset, .unset, .unset, .unset, .unset, .unset, .unset, .unset, .unset, .unset, .unset, .unset] [(.int ((p1.toUInt32 >>> ((16 : Int32) &&& 31).toUInt32).toInt32))])) _
    refine XS.sipush X0.here hx rfl (hb hby at_33) ?_
    refine XS.iand X0.here hx rfl (hb hby at_36) rfl ?_
    refine XS.i2c X0.here hx rfl (hb hby at_37) rfl ?_
    show Steps p.tables e below (s₁.setTop (mkF m 38 #[.val (.int p1), .val (.int p2), .val (.int p3), .val (.int p4), .val (.int p5), .val (.int (own_kk p1)), .val (.int (own_ll p1)), .val (.int (own_c0 p1)), .unset, .unset, .unset, .unset, .unset, .unset, .unset, .unset, .unset, .unset, .unset, .unset, .unset, .unset] [(.int (own_c1 p1))])) _
    refine XS.istore X0.here hx rfl (hb hby at_38) rfl (l' := #[.val (.int p1), .val (.int p2), .val (.int p3), .val (.int p4), .val (.int p5), .val (.int (own_kk p1)), .val (.int (own_ll p1)), .val (.int (own_c0 p1)), .val (.int (own_c1 p1)), .unset, .unset, .unset, .unset, .unset, .unset, .unset, .unset, .unset, .unset, .unset, .unset, .unset]) rfl ?_
    refine XS.iload X0.here hx rfl (hb hby at_40) rfl ?_
    refine XS.iconst X0.here hx rfl (hb hby at_42) ?_
    show Steps p.tables e below (s₁.setTop (mkF m 43 #[.val (.int p1), .val (.int p2), .val (.int p3), .val (.int p4), .val (.int p5), .val (.int (own_kk p1)), .val (.int (own_ll p1)), .val (.int (own_c0 p1)), .val (.int (own_c1 p1)), .unset, .unset, .unset, .unset, .unset, .unset, .unset, .unset, .unset, .unset, .unset, .unset, .unset] [(.int (1 : Int32)), (.int p5)])) _
    refine XS.iand X0.here hx rfl (hb hby at_43) rfl ?_
    have tr44_1 : ∀ tgt, Steps p.tables e below (s₁.setTop (mkF m 52 #[.val (.int p1), .val (.int p2), .val (.int p3), .val (.int p4), .val (.int p5), .val (.int (own_kk p1)), .val (.int (own_ll p1)), .val (.int (own_c0 p1)), .val (.int (own_c1 p1)), .unset, .unset, .unset, .unset, .unset, .unset, .unset, .unset, .unset, .unset, .unset, .unset, .unset] [(.int (own_b (own_bit1 p5)))])) tgt → Steps p.tables e below (s₁.setTop (mkF m 44 #[.val (.int p1), .val (.int p2), .val (.int p3), .val (.int p4), .val (.int p5), .val (.int (own_kk p1)), .val (.int (own_ll p1)), .val (.int (own_c0 p1)), .val (.int (own_c1 p1)), .unset, .unset, .unset, .unset, .unset, .unset, .unset, .unset, .unset, .unset, .unset, .unset, .unset] [(.int (own_bit1 p5))])) tgt := by
      intro tgt kk
      show Steps p.tables e below (s₁.setTop (mkF m 44 #[.val (.int p1), .val (.int p2), .val (.int p3), .val (.int p4), .val (.int p5), .val (.int (own_kk p1)), .val (.int (own_ll p1)), .val (.int (own_c0 p1)), .val (.int (own_c1 p1)), .unset, .unset, .unset, .unset, .unset, .unset, .unset, .unset, .unset, .unset, .unset, .unset, .unset] [(.int (own_bit1 p5))])) _
      by_cases c2 : (own_bit1 p5) = (0 : Int32)
      · refine XS.ifYes X0.here hx rfl (pc0 := 44) (pc' := 51) rfl (hb hby at_44) rfl ((if0 _ _).trans (teq c2).1) (by decide) (by decide) ?_
        show Steps p.tables e below (s₁.setTop (mkF m 51 #[.val (.int p1), .val (.int p2), .val (.int p3), .val (.int p4), .val (.int p5), .val (.int (own_kk p1)), .val (.int (own_ll p1)), .val (.int (own_c0 p1)), .val (.int (own_c1 p1)), .unset, .unset, .unset, .unset, .unset, .unset, .unset, .unset, .unset, .unset, .unset, .unset, .unset] [])) _
        refine XS.iconst X0.here hx rfl (hb hby at_51) ?_
        have ev : (own_b (own_bit1 p5)) = (0 : Int32) := by simp [own_b, c2]
        rw [ev] at kk
        exact kk
      · refine XS.ifNo X0.here hx rfl (hb hby at_44) rfl ((if0 _ _).trans (feq c2).1) ?_
        show Steps p.tables e below (s₁.setTop (mkF m 47 #[.val (.int p1), .val (.int p2), .val (.int p3), .val (.int p4), .val (.int p5), .val (.int (own_kk p1)), .val (.int (own_ll p1)), .val (.int (own_c0 p1)), .val (.int (own_c1 p1)), .unset, .unset, .unset, .unset, .unset, .unset, .unset, .unset, .unset, .unset, .unset, .unset, .unset] [])) _
        refine XS.iconst X0.here hx rfl (hb hby at_47) ?_
        show Steps p.tables e below (s₁.setTop (mkF m 48 #[.val (.int p1), .val (.int p2), .val (.int p3), .val (.int p4), .val (.int p5), .val (.int (own_kk p1)), .val (.int (own_ll p1)), .val (.int (own_c0 p1)), .val (.int (own_c1 p1)), .unset, .unset, .unset, .unset, .unset, .unset, .unset, .unset, .unset, .unset, .unset, .unset, .unset] [(.int (1 : Int32))])) _
        refine XS.goto X0.here hx rfl (pc0 := 48) (pc' := 52) rfl (hb hby at_48) (by decide) (by decide) ?_
        have ev : (own_b (own_bit1 p5)) = (1 : Int32) := by simp [own_b, c2]
        rw [ev] at kk
        exact kk
    refine tr44_1 _ ?_
    refine XS.istore X0.here hx rfl (hb hby at_52) rfl (l' := #[.val (.int p1), .val (.int p2), .val (.int p3), .val (.int p4), .val (.int p5), .val (.int (own_kk p1)), .val (.int (own_ll p1)), .val (.int (own_c0 p1)), .val (.int (own_c1 p1)), .val (.int (own_b (own_bit1 p5))), .unset, .unset, .unset, .unset, .unset, .unset, .unset, .unset, .unset, .unset, .unset, .unset]) rfl ?_
    refine XS.iload X0.here hx rfl (hb hby at_54) rfl ?_
    show Steps p.tables e below (s₁.setTop (mkF m 56 #[.val (.int p1), .val (.int p2), .val (.int p3), .val (.int p4), .val (.int p5), .val (.int (own_kk p1)), .val (.int (own_ll p1)), .val (.int (own_c0 p1)), .val (.int (own_c1 p1)), .val (.int (own_b (own_bit1 p5))), .unset, .unset, .unset, .unset, .unset, .unset, .unset, .unset, .unset, .unset, .unset, .unset] [(.int p5)])) _
    refine XS.iconst X0.here hx rfl (hb hby at_56) ?_
    refine XS.iand X0.here hx rfl (hb hby at_57) rfl ?_
    have tr58_3 : ∀ tgt, Steps p.tables e below (s₁.setTop (mkF m 66 #[.val (.int p1), .val (.int p2), .val (.int p3), .val (.int p4), .val (.int p5), .val (.int (own_kk p1)), .val (.int (own_ll p1)), .val (.int (own_c0 p1)), .val (.int (own_c1 p1)), .val (.int (own_b (own_bit1 p5))), .unset, .unset, .unset, .unset, .unset, .unset, .unset, .unset, .unset, .unset, .unset, .unset] [(.int (own_b (own_bit2 p5)))])) tgt → Steps p.tables e below (s₁.setTop (mkF m 58 #[.val (.int p1), .val (.int p2), .val (.int p3), .val (.int p4), .val (.int p5), .val (.int (own_kk p1)), .val (.int (own_ll p1)), .val (.int (own_c0 p1)), .val (.int (own_c1 p1)), .val (.int (own_b (own_bit1 p5))), .unset, .unset, .unset, .unset, .unset, .unset, .unset, .unset, .unset, .unset, .unset, .unset] [(.int (own_bit2 p5))])) tgt := by
      intro tgt kk
      show Steps p.tables e below (s₁.setTop (mkF m 58 #[.val (.int p1), .val (.int p2), .val (.int p3), .val (.int p4), .val (.int p5), .val (.int (own_kk p1)), .val (.int (own_ll p1)), .val (.int (own_c0 p1)), .val (.int (own_c1 p1)), .val (.int (own_b (own_bit1 p5))), .unset, .unset, .unset, .unset, .unset, .unset, .unset, .unset, .unset, .unset, .unset, .unset] [(.int (own_bit2 p5))])) _
      by_cases c4 : (own_bit2 p5) = (0 : Int32)
      · refine XS.ifYes X0.here hx rfl (pc0 := 58) (pc' := 65) rfl (hb hby at_58) rfl ((if0 _ _).trans (teq c4).1) (by decide) (by decide) ?_
        show Steps p.tables e below (s₁.setTop (mkF m 65 #[.val (.int p1), .val (.int p2), .val (.int p3), .val (.int p4), .val (.int p5), .val (.int (own_kk p1)), .val (.int (own_ll p1)), .val (.int (own_c0 p1)), .val (.int (own_c1 p1)), .val (.int (own_b (own_bit1 p5))), .unset, .unset, .unset, .unset, .unset, .unset, .unset, .unset, .unset, .unset, .unset, .unset] [])) _
        refine XS.iconst X0.here hx rfl (hb hby at_65) ?_
        have ev : (own_b (own_bit2 p5)) = (0 : Int32) := by simp [own_b, c4]
        rw [ev] at kk
        exact kk
      · refine XS.ifNo X0.here hx rfl (hb hby at_58) rfl ((if0 _ _).trans (feq c4).1) ?_
        show Steps p.tables e below (s₁.setTop (mkF m 61 #[.val (.int p1), .val (.int p2), .val (.int p3), .val (.int p4), .val (.int p5), .val (.int (own_kk p1)), .val (.int (own_ll p1)), .val (.int (own_c0 p1)), .val (.int (own_c1 p1)), .val (.int (own_b (own_bit1 p5))), .unset, .unset, .unset, .unset, .unset, .unset, .unset, .unset, .unset, .unset, .unset, .unset] [])) _
        refine XS.iconst X0.here hx rfl (hb hby at_61) ?_
        show Steps p.tables e below (s₁.setTop (mkF m 62 #[.val (.int p1), .val (.int p2), .val (.int p3), .val (.int p4), .val (.int p5), .val (.int (own_kk p1)), .val (.int (own_ll p1)), .val (.int (own_c0 p1)), .val (.int (own_c1 p1)), .val (.int (own_b (own_bit1 p5))), .unset, .unset, .unset, .unset, .unset, .unset, .unset, .unset, .unset, .unset, .unset, .unset] [(.int (1 : Int32))])) _
        refine XS.goto X0.here hx rfl (pc0 := 62) (pc' := 66) rfl (hb hby at_62) (by decide) (by decide) ?_
        have ev : (own_b (own_bit2 p5)) = (1 : Int32) := by simp [own_b, c4]
        rw [ev] at kk
        exact kk
    refine tr58_3 _ ?_
    refine XS.istore X0.here hx rfl (hb hby at_66) rfl (l' := #[.val (.int p1), .val (.int p2), .val (.int p3), .val (.int p4), .val (.int p5), .val (.int (own_kk p1)), .val (.int (own_ll p1)), .val (.int (own_c0 p1)), .val (.int (own_c1 p1)), .val (.int (own_b (own_bit1 p5))), .val (.int (own_b (own_bit2 p5))), .unset, .unset, .unset, .unset, .unset, .unset, .unset, .unset, .unset, .unset, .unset]) rfl ?_
    refine XS.iload X0.here hx rfl (hb hby at_68) rfl ?_
    show Steps p.tables e below (s₁.setTop (mkF m 70 #[.val (.int p1), .val (.int p2), .val (.int p3), .val (.int p4), .val (.int p5), .val (.int (own_kk p1)), .val (.int (own_ll p1)), .val (.int (own_c0 p1)), .val (.int (own_c1 p1)), .val (.int (own_b (own_bit1 p5))), .val (.int (own_b (own_bit2 p5))), .unset, .unset, .unset, .unset, .unset, .unset, .unset, .unset, .unset, .unset, .unset] [(.int p5)])) _
    refine XS.iconst X0.here hx rfl (hb hby at_70) ?_
    refine XS.iand X0.here hx rfl (hb hby at_71) rfl ?_
    have tr72_5 : ∀ tgt, Steps p.tables e below (s₁.setTop (mkF m 80 #[.val (.int p1), .val (.int p2), .val (.int p3), .val (.int p4), .val (.int p5), .val (.int (own_kk p1)), .val (.int (own_ll p1)), .val (.int (own_c0 p1)), .val (.int (own_c1 p1)), .val (.int (own_b (own_bit1 p5))), .val (.int (own_b (own_bit2 p5))), .unset, .unset, .unset, .unset, .unset, .unset, .unset, .unset, .unset, .unset, .unset] [(.int (own_b (own_bit4 p5)))])) tgt → Steps p.tables e below (s₁.setTop (mkF m 72 #[.val (.int p1), .val (.int p2), .val (.int p3), .val (.int p4), .val (.int p5), .val (.int (own_kk p1)), .val (.int (own_ll p1)), .val (.int (own_c0 p1)), .val (.int (own_c1 p1)), .val (.int (own_b (own_bit1 p5))), .val (.int (own_b (own_bit2 p5))), .unset, .unset, .unset, .unset, .unset, .unset, .unset, .unset, .unset, .unset, .unset] [(.int (own_bit4 p5))])) tgt := by
      intro tgt kk
      show Steps p.tables e below (s₁.setTop (mkF m 72 #[.val (.int p1), .val (.int p2), .val (.int p3), .val (.int p4), .val (.int p5), .val (.int (own_kk p1)), .val (.int (own_ll p1)), .val (.int (own_c0 p1)), .val (.int (own_c1 p1)), .val (.int (own_b (own_bit1 p5))), .val (.int (own_b (own_bit2 p5))), .unset, .unset, .unset, .unset, .unset, .unset, .unset, .unset, .unset, .unset, .unset] [(.int (own_bit4 p5))])) _
      by_cases c6 : (own_bit4 p5) = (0 : Int32)
      · refine XS.ifYes X0.here hx rfl (pc0 := 72) (pc' := 79) rfl (hb hby at_72) rfl ((if0 _ _).trans (teq c6).1) (by decide) (by decide) ?_
        show Steps p.tables e below (s₁.setTop (mkF m 79 #[.val (.int p1), .val (.int p2), .val (.int p3), .val (.int p4), .val (.int p5), .val (.int (own_kk p1)), .val (.int (own_ll p1)), .val (.int (own_c0 p1)), .val (.int (own_c1 p1)), .val (.int (own_b (own_bit1 p5))), .val (.int (own_b (own_bit2 p5))), .unset, .unset, .unset, .unset, .unset, .unset, .unset, .unset, .unset, .unset, .unset] [])) _
        refine XS.iconst X0.here hx rfl (hb hby at_79) ?_
        have ev : (own_b (own_bit4 p5)) = (0 : Int32) := by simp [own_b, c6]
        rw [ev] at kk
        exact kk
      · refine XS.ifNo X0.here hx rfl (hb hby at_72) rfl ((if0 _ _).trans (feq c6).1) ?_
        show Steps p.tables e below (s₁.setTop (mkF m 75 #[.val (.int p1), .val (.int p2), .val (.int p3), .val (.int p4), .val (.int p5), .val (.int (own_kk p1)), .val (.int (own_ll p1)), .val (.int (own_c0 p1)), .val (.int (own_c1 p1)), .val (.int (own_b (own_bit1 p5))), .val (.int (own_b (own_bit2 p5))), .unset, .unset, .unset, .unset, .unset, .unset, .unset, .unset, .unset, .unset, .unset] [])) _
        refine XS.iconst X0.here hx rfl (hb hby at_75) ?_
        show Steps p.tables e below (s₁.setTop (mkF m 76 #[.val (.int p1), .val (.int p2), .val (.int p3), .val (.int p4), .val (.int p5), .val (.int (own_kk p1)), .val (.int (own_ll p1)), .val (.int (own_c0 p1)), .val (.int (own_c1 p1)), .val (.int (own_b (own_bit1 p5))), .val (.int (own_b (own_bit2 p5))), .unset, .unset, .unset, .unset, .unset, .unset, .unset, .unset, .unset, .unset, .unset] [(.int (1 : Int32))])) _
        refine XS.goto X0.here hx rfl (pc0 := 76) (pc' := 80) rfl (hb hby at_76) (by decide) (by decide) ?_
        have ev : (own_b (own_bit4 p5)) = (1 : Int32) := by simp [own_b, c6]
        rw [ev] at kk
        exact kk
    refine tr72_5 _ ?_
    refine XS.istore X0.here hx rfl (hb hby at_80) rfl (l' := #[.val (.int p1), .val (.int p2), .val (.int p3), .val (.int p4), .val (.int p5), .val (.int (own_kk p1)), .val (.int (own_ll p1)), .val (.int (own_c0 p1)), .val (.int (own_c1 p1)), .val (.int (own_b (own_bit1 p5))), .val (.int (own_b (own_bit2 p5))), .val (.int (own_b (own_bit4 p5))), .unset, .unset, .unset, .unset, .unset, .unset, .unset, .unset, .unset, .unset]) rfl ?_
    refine XS.iload X0.here hx rfl (hb hby at_82) rfl ?_
    have tr84_7 : ∀ tgt, Steps p.tables e below (s₁.setTop (mkF m 99 #[.val (.int p1), .val (.int p2), .val (.int p3), .val (.int p4), .val (.int p5), .val (.int (own_kk p1)), .val (.int (own_ll p1)), .val (.int (own_c0 p1)), .val (.int (own_c1 p1)), .val (.int (own_b (own_bit1 p5))), .val (.int (own_b (own_bit2 p5))), .val (.int (own_b (own_bit4 p5))), .unset, .unset, .unset, .unset, .unset, .unset, .unset, .unset, .unset, .unset] [(.int (own_k2 p1 p2 p5))])) tgt → Steps p.tables e below (s₁.setTop (mkF m 84 #[.val (.int p1), .val (.int p2), .val (.int p3), .val (.int p4), .val (.int p5), .val (.int (own_kk p1)), .val (.int (own_ll p1)), .val (.int (own_c0 p1)), .val (.int (own_c1 p1)), .val (.int (own_b (own_bit1 p5))), .val (.int (own_b (own_bit2 p5))), .val (.int (own_b (own_bit4 p5))), .unset, .unset, .unset, .unset, .unset, .unset, .unset, .unset, .unset, .unset] [(.int (own_b (own_bit1 p5)))])) tgt := by
      intro tgt kk
      show Steps p.tables e below (s₁.setTop (mkF m 84 #[.val (.int p1), .val (.int p2), .val (.int p3), .val (.int p4), .val (.int p5), .val (.int (own_kk p1)), .val (.int (own_ll p1)), .val (.int (own_c0 p1)), .val (.int (own_c1 p1)), .val (.int (own_b (own_bit1 p5))), .val (.int (own_b (own_bit2 p5))), .val (.int (own_b (own_bit4 p5))), .unset, .unset, .unset, .unset, .unset, .unset, .unset, .unset, .unset, .unset] [(.int (own_b (own_bit1 p5)))])) _
      by_cases c8 : (own_b (own_bit1 p5)) = (0 : Int32)
      · refine XS.ifYes X0.here hx rfl (pc0 := 84) (pc' := 92) rfl (hb hby at_84) rfl ((if0 _ _).trans (teq c8).1) (by decide) (by decide) ?_
        show Steps p.tables e below (s₁.setTop (mkF m 92 #[.val (.int p1), .val (.int p2), .val (.int p3), .val (.int p4), .val (.int p5), .val (.int (own_kk p1)), .val (.int (own_ll p1)), .val (.int (own_c0 p1)), .val (.int (own_c1 p1)), .val (.int (own_b (own_bit1 p5))), .val (.int (own_b (own_bit2 p5))), .val (.int (own_b (own_bit4 p5))), .unset, .unset, .unset, .unset, .unset, .unset, .unset, .unset, .unset, .unset] [])) _
        refine XS.iloadN X0.here hx rfl (hb hby at_92) rfl ?_
        show Steps p.tables e below (s₁.setTop (mkF m 93 #[.val (.int p1), .val (.int p2), .val (.int p3), .val (.int p4), .val (.int p5), .val (.int (own_kk p1)), .val (.int (own_ll p1)), .val (.int (own_c0 p1)), .val (.int (own_c1 p1)), .val (.int (own_b (own_bit1 p5))), .val (.int (own_b (own_bit2 p5))), .val (.int (own_b (own_bit4 p5))), .unset, .unset, .unset, .unset, .unset, .unset, .unset, .unset, .unset, .unset] [(.int p2)])) _
        refine XS.bipush X0.here hx rfl (hb hby at_93) ?_
        show Steps p.tables e below (s₁.setTop (mkF m 95 #[.val (.int p1), .val (.int p2), .val (.int p3), .val (.int p4), .val (.int p5), .val (.int (own_kk p1)), .val (.int (own_ll p1)), .val (.int (own_c0 p1)), .val (.int (own_c1 p1)), .val (.int (own_b (own_bit1 p5))), .val (.int (own_b (own_bit2 p5))), .val (.int (own_b (own_bit4 p5))), .unset, .unset, .unset, .unset, .unset, .unset, .unset, .unset, .unset, .unset] [(.int (7 : Int32)), (.int p2)])) _
        refine XS.iand X0.here hx rfl (hb hby at_95) rfl ?_
        show Steps p.tables e below (s₁.setTop (mkF m 96 #[.val (.int p1), .val (.int p2), .val (.int p3), .val (.int p4), .val (.int p5), .val (.int (own_kk p1)), .val (.int (own_ll p1)), .val (.int (own_c0 p1)), .val (.int (own_c1 p1)), .val (.int (own_b (own_bit1 p5))), .val (.int (own_b (own_bit2 p5))), .val (.int (own_b (own_bit4 p5))), .unset, .unset, .unset, .unset, .unset, .unset, .unset, .unset, .unset, .unset] [(.int (p2 &&& (7 : Int32)))])) _
        refine XS.bipush X0.here hx rfl (hb hby at_96) ?_
        show Steps p.tables e below (s₁.setTop (mkF m 98 #[.val (.int p1), .val (.int p2), .val (.int p3), .val (.int p4), .val (.int p5), .val (.int (own_kk p1)), .val (.int (own_ll p1)), .val (.int (own_c0 p1)), .val (.int (own_c1 p1)), .val (.int (own_b (own_bit1 p5))), .val (.int (own_b (own_bit2 p5))), .val (.int (own_b (own_bit4 p5))), .unset, .unset, .unset, .unset, .unset, .unset, .unset, .unset, .unset, .unset] [(.int (7 : Int32)), (.int (p2 &&& (7 : Int32)))])) _
        refine XS.irem X0.here hx rfl (hb hby at_98) rfl (by decide : (7 : Int32) ≠ 0) ?_
        have ev : (own_k2 p1 p2 p5) = (own_kk p2) := by simp [own_k2, own_l2, own_y0, own_y1, own_q2, own_if, c8]
        rw [ev] at kk
        exact kk
      · refine XS.ifNo X0.here hx rfl (hb hby at_84) rfl ((if0 _ _).trans (feq c8).1) ?_
        show Steps p.tables e below (s₁.setTop (mkF m 87 #[.val (.int p1), .val (.int p2), .val (.int p3), .val (.int p4), .val (.int p5), .val (.int (own_kk p1)), .val (.int (own_ll p1)), .val (.int (own_c0 p1)), .val (.int (own_c1 p1)), .val (.int (own_b (own_bit1 p5))), .val (.int (own_b (own_bit2 p5))), .val (.int (own_b (own_bit4 p5))), .unset, .unset, .unset, .unset, .unset, .unset, .unset, .unset, .unset, .unset] [])) _
        refine XS.iload X0.here hx rfl (hb hby at_87) rfl ?_
        show Steps p.tables e below (s₁.setTop (mkF m 89 #[.val (.int p1), .val (.int p2), .val (.int p3), .val (.int p4), .val (.int p5), .val (.int (own_kk p1)), .val (.int (own_ll p1)), .val (.int (own_c0 p1)), .val (.int (own_c1 p1)), .val (.int (own_b (own_bit1 p5))), .val (.int (own_b (own_bit2 p5))), .val (.int (own_b (own_bit4 p5))), .unset, .unset, .unset, .unset, .unset, .unset, .unset, .unset, .unset, .unset] [(.int (own_kk p1))])) _
        refine XS.goto X0.here hx rfl (pc0 := 89) (pc' := 99) rfl (hb hby at_89) (by decide) (by decide) ?_
        have ev : (own_k2 p1 p2 p5) = (own_kk p1) := by simp [own_k2, own_l2, own_y0, own_y1, own_q2, own_if, c8]
        rw [ev] at kk
        exact kk
    refine tr84_7 _ ?_
    refine XS.istore X0.here hx rfl (hb hby at_99) rfl (l' := #[.val (.int p1), .val (.int p2), .val (.int p3), .val (.int p4), .val (.int p5), .val (.int (own_kk p1)), .val (.int (own_ll p1)), .val (.int (own_c0 p1)), .val (.int (own_c1 p1)), .val (.int (own_b (own_bit1 p5))), .val (.int (own_b (own_bit2 p5))), .val (.int (own_b (own_bit4 p5))), .val (.int (own_k2 p1 p2 p5)), .unset, .unset, .unset, .unset, .unset, .unset, .unset, .unset, .unset]) rfl ?_
    refine XS.iload X0.here hx rfl (hb hby at_101) rfl ?_
    have tr103_9 : ∀ tgt, Steps p.tables e below (s₁.setTop (mkF m 118 #[.val (.int p1), .val (.int p2), .val (.int p3), .val (.int p4), .val (.int p5), .val (.int (own_kk p1)), .val (.int (own_ll p1)), .val (.int (own_c0 p1)), .val (.int (own_c1 p1)), .val (.int (own_b (own_bit1 p5))), .val (.int (own_b (own_bit2 p5))), .val (.int (own_b (own_bit4 p5))), .val (.int (own_k2 p1 p2 p5)), .unset, .unset, .unset, .unset, .unset, .unset, .unset, .unset, .unset] [(.int (own_l2 p1 p2 p5))])) tgt → Steps p.tables e below (s₁.setTop (mkF m 103 #[.val (.int p1), .val (.int p2), .val (.int p3), .val (.int p4), .val (.int p5), .val (.int (own_kk p1)), .val (.int (own_ll p1)), .val (.int (own_c0 p1)), .val (.int (own_c1 p1)), .val (.int (own_b (own_bit1 p5))), .val (.int (own_b (own_bit2 p5))), .val (.int (own_b (own_bit4 p5))), .val (.int (own_k2 p1 p2 p5)), .unset, .unset, .unset, .unset, .unset, .unset, .unset, .unset, .unset] [(.int (own_b (own_bit2 p5)))])) tgt := by
      intro tgt kk
      show Steps p.tables e below (s₁.setTop (mkF m 103 #[.val (.int p1), .val (.int p2), .val (.int p3), .val (.int p4), .val (.int p5), .val (.int (own_kk p1)), .val (.int (own_ll p1)), .val (.int (own_c0 p1)), .val (.int (own_c1 p1)), .val (.int (own_b (own_bit1 p5))), .val (.int (own_b (own_bit2 p5))), .val (.int (own_b (own_bit4 p5))), .val (.int (own_k2 p1 p2 p5)), .unset, .unset, .unset, .unset, .unset, .unset, .unset, .unset, .unset] [(.int (own_b (own_bit2 p5)))])) _
      by_cases c10 : (own_b (own_bit2 p5)) = (0 : Int32)
      · refine XS.ifYes X0.here hx rfl (pc0 := 103) (pc' := 111) rfl (hb hby at_103) rfl ((if0 _ _).trans (teq c10).1) (by decide) (by decide) ?_
        show Steps p.tables e below (s₁.setTop (mkF m 111 #[.val (.int p1), .val (.int p2), .val (.int p3), .val (.int p4), .val (.int p5), .val (.int (own_kk p1)), .val (.int (own_ll p1)), .val (.int (own_c0 p1)), .val (.int (own_c1 p1)), .val (.int (own_b (own_bit1 p5))), .val (.int (own_b (own_bit2 p5))), .val (.int (own_b (own_bit4 p5))), .val (.int (own_k2 p1 p2 p5)), .unset, .unset, .unset, .unset, .unset, .unset, .unset, .unset, .unset] [])) _
        refine XS.iloadN X0.here hx rfl (hb hby at_111) rfl ?_
        show Steps p.tables e below (s₁.setTop (mkF m 112 #[.val (.int p1), .val (.int p2), .val (.int p3), .val (.int p4), .val (.int p5), .val (.int (own_kk p1)), .val (.int (own_ll p1)), .val (.int (own_c0 p1)), .val (.int (own_c1 p1)), .val (.int (own_b (own_bit1 p5))), .val (.int (own_b (own_bit2 p5))), .val (.int (own_b (own_bit4 p5))), .val (.int (own_k2 p1 p2 p5)), .unset, .unset, .unset, .unset, .unset, .unset, .unset, .unset, .unset] [(.int p2)])) _
        refine XS.iconst X0.here hx rfl (hb hby at_112) ?_
        show Steps p.tables e below (s₁.setTop (mkF m 113 #[.val (.int p1), .val (.int p2), .val (.int p3), .val (.int p4), .val (.int p5), .val (.int (own_kk p1)), .val (.int (own_ll p1)), .val (.int (own_c0 p1)), .val (.int (own_c1 p1)), .val (.int (own_b (own_bit1 p5))), .val (.int (own_b (own_bit2 p5))), .val (.int (own_b (own_bit4 p5))), .val (.int (own_k2 p1 p2 p5)), .unset, .unset, .unset, .unset, .unset, .unset, .unset, .unset, .unset] [(.int (3 : Int32)), (.int p2)])) _
        refine XS.iushr X0.here hx rfl (hb hby at_113) rfl ?_
        show Steps p.tables e below (s₁.setTop (mkF m 114 #[.val (.int p1), .val (.int p2), .val (.int p3), .val (.int p4), .val (.int p5), .val (.int (own_kk p1)), .val (.int (own_ll p1)), .val (.int (own_c0 p1)), .val (.int (own_c1 p1)), .val (.int (own_b (own_bit1 p5))), .val (.int (own_b (own_bit2 p5))), .val (.int (own_b (own_bit4 p5))), .val (.int (own_k2 p1 p2 p5)), .unset, .unset, .unset, .unset, .unset, .unset, .unset, .unset, .unset] [(.int ((p2.toUInt32 >>> ((3 : Int32) &&& 31).toUInt32).toInt32))])) _
        refine XS.iconst X0.here hx rfl (hb hby at_114) ?_
        show Steps p.tables e below (s₁.setTop (mkF m 115 #[.val (.int p1), .val (.int p2), .val (.int p3), .val (.int p4), .val (.int p5), .val (.int (own_kk p1)), .val (.int (own_ll p1)), .val (.int (own_c0 p1)), .val (.int (own_c1 p1)), .val (.int (own_b (own_bit1 p5))), .val (.int (own_b (own_bit2 p5))), .val (.int (own_b (own_bit4 p5))), .val (.int (own_k2 p1 p2 p5)), .unset, .unset, .unset, .unset, .unset, .unset, .unset, .unset, .unset] [(.int (3 : Int32)), (.int ((p2.toUInt32 >>> ((3 : Int32) &&& 31).toUInt32).toInt32))])) _
        refine XS.iand X0.here hx rfl (hb hby at_115) rfl ?_
        show Steps p.tables e below (s₁.setTop (mkF m 116 #[.val (.int p1), .val (.int p2), .val (.int p3), .val (.int p4), .val (.int p5), .val (.int (own_kk p1)), .val (.int (own_ll p1)), .val (.int (own_c0 p1)), .val (.int (own_c1 p1)), .val (.int (own_b (own_bit1 p5))), .val (.int (own_b (own_bit2 p5))), .val (.int (own_b (own_bit4 p5))), .val (.int (own_k2 p1 p2 p5)), .unset, .unset, .unset, .unset, .unset, .unset, .unset, .unset, .unset] [(.int (((p2.toUInt32 >>> ((3 : Int32) &&& 31).toUInt32).toInt32) &&& (3 : Int32)))])) _
        refine XS.iconst X0.here hx rfl (hb hby at_116) ?_
        show Steps p.tables e below (s₁.setTop (mkF m 117 #[.val (.int p1), .val (.int p2), .val (.int p3), .val (.int p4), .val (.int p5), .val (.int (own_kk p1)), .val (.int (own_ll p1)), .val (.int (own_c0 p1)), .val (.int (own_c1 p1)), .val (.int (own_b (own_bit1 p5))), .val (.int (own_b (own_bit2 p5))), .val (.int (own_b (own_bit4 p5))), .val (.int (own_k2 p1 p2 p5)), .unset, .unset, .unset, .unset, .unset, .unset, .unset, .unset, .unset] [(.int (3 : Int32)), (.int (((p2.toUInt32 >>> ((3 : Int32) &&& 31).toUInt32).toInt32) &&& (3 : Int32)))])) _
        refine XS.irem X0.here hx rfl (hb hby at_117) rfl (by decide : (3 : Int32) ≠ 0) ?_
        have ev : (own_l2 p1 p2 p5) = (own_ll p2) := by simp [own_k2, own_l2, own_y0, own_y1, own_q2, own_if, c10]
        rw [ev] at kk
        exact kk
      · refine XS.ifNo X0.here hx rfl (hb hby at_103) rfl ((if0 _ _).trans (feq c10).1) ?_
        show Steps p.tables e below (s₁.setTop (mkF m 106 #[.val (.int p1), .val (.int p2), .val (.int p3), .val (.int p4), .val (.int p5), .val (.int (own_kk p1)), .val (.int (own_ll p1)), .val (.int (own_c0 p1)), .val (.int (own_c1 p1)), .val (.int (own_b (own_bit1 p5))), .val (.int (own_b (own_bit2 p5))), .val (.int (own_b (own_bit4 p5))), .val (.int (own_k2 p1 p2 p5)), .unset, .unset, .unset, .unset, .unset, .unset, .unset, .unset, .unset] [])) _
        refine XS.iload X0.here hx rfl (hb hby at_106) rfl ?_
        show Steps p.tables e below (s₁.setTop (mkF m 108 #[.val (.int p1), .val (.int p2), .val (.int p3), .val (.int p4), .val (.int p5), .val (.int (own_kk p1)), .val (.int (own_ll p1)), .val (.int (own_c0 p1)), .val (.int (own_c1 p1)), .val (.int (own_b (own_bit1 p5))), .val (.int (own_b (own_bit2 p5))), .val (.int (own_b (own_bit4 p5))), .val (.int (own_k2 p1 p2 p5)), .unset, .unset, .unset, .unset, .unset, .unset, .unset, .unset, .unset] [(.int (own_ll p1))])) _
        refine XS.goto X0.here hx rfl (pc0 := 108) (pc' := 118) rfl (hb hby at_108) (by decide) (by decide) ?_
        have ev : (own_l2 p1 p2 p5) = (own_ll p1) := by simp [own_k2, own_l2, own_y0, own_y1, own_q2, own_if, c10]
        rw [ev] at kk
        exact kk
    refine tr103_9 _ ?_
    refine XS.istore X0.here hx rfl (hb hby at_118) rfl (l' := #[.val (.int p1), .val (.int p2), .val (.int p3), .val (.int p4), .val (.int p5), .val (.int (own_kk p1)), .val (.int (own_ll p1)), .val (.int (own_c0 p1)), .val (.int (own_c1 p1)), .val (.int (own_b (own_bit1 p5))), .val (.int (own_b (own_bit2 p5))), .val (.int (own_b (own_bit4 p5))), .val (.int (own_k2 p1 p2 p5)), .val (.int (own_l2 p1 p2 p5)), .unset, .unset, .unset, .unset, .unset, .unset, .unset, .unset]) rfl ?_
    refine XS.iload X0.here hx rfl (hb hby at_120) rfl ?_
    have tr122_11 : ∀ tgt, Steps p.tables e below (s₁.setTop (mkF m 139 #[.val (.int p1), .val (.int p2), .val (.int p3), .val (.int p4), .val (.int p5), .val (.int (own_kk p1)), .val (.int (own_ll p1)), .val (.int (own_c0 p1)), .val (.int (own_c1 p1)), .val (.int (own_b (own_bit1 p5))), .val (.int (own_b (own_bit2 p5))), .val (.int (own_b (own_bit4 p5))), .val (.int (own_k2 p1 p2 p5)), .val (.int (own_l2 p1 p2 p5)), .unset, .unset, .unset, .unset, .unset, .unset, .unset, .unset] [(.int (own_y0 p1 p2 p5))])) tgt → Steps p.tables e below (s₁.setTop (mkF m 122 #[.val (.int p1), .val (.int p2), .val (.int p3), .val (.int p4), .val (.int p5), .val (.int (own_kk p1)), .val (.int (own_ll p1)), .val (.int (own_c0 p1)), .val (.int (own_c1 p1)), .val (.int (own_b (own_bit1 p5))), .val (.int (own_b (own_bit2 p5))), .val (.int (own_b (own_bit4 p5))), .val (.int (own_k2 p1 p2 p5)), .val (.int (own_l2 p1 p2 p5)), .unset, .unset, .unset, .unset, .unset, .unset, .unset, .unset] [(.int (own_b (own_bit2 p5)))])) tgt := by
      intro tgt kk
      show Steps p.tables e below (s₁.setTop (mkF m 122 #[.val (.int p1), .val (.int p2), .val (.int p3), .val (.int p4), .val (.int p5), .val (.int (own_kk p1)), .val (.int (own_ll p1)), .val (.int (own_c0 p1)), .val (.int (own_c1 p1)), .val (.int (own_b (own_bit1 p5))), .val (.int (own_b (own_bit2 p5))), .val (.int (own_b (own_bit4 p5))), .val (.int (own_k2 p1 p2 p5)), .val (.int (own_l2 p1 p2 p5)), .unset, .unset, .unset, .unset, .unset, .unset, .unset, .unset] [(.int (own_b (own_bit2 p5)))])) _
      by_cases c12 : (own_b (own_bit2 p5)) = (0 : Int32)
      · refine XS.ifYes X0.here hx rfl (pc0 := 122) (pc' := 130) rfl (hb hby at_122) rfl ((if0 _ _).trans (teq c12).1) (by decide) (by decide) ?_
        show Steps p.tables e below (s₁.setTop (mkF m 130 #[.val (.int p1), .val (.int p2), .val (.int p3), .val (.int p4), .val (.int p5), .val (.int (own_kk p1)), .val (.int (own_ll p1)), .val (.int (own_c0 p1)), .val (.int (own_c1 p1)), .val (.int (own_b (own_bit1 p5))), .val (.int (own_b (own_bit2 p5))), .val (.int (own_b (own_bit4 p5))), .val (.int (own_k2 p1 p2 p5)), .val (.int (own_l2 p1 p2 p5)), .unset, .unset, .unset, .unset, .unset, .unset, .unset, .unset] [])) _
        refine XS.iloadN X0.here hx rfl (hb hby at_130) rfl ?_
        show Steps p.tables e below (s₁.setTop (mkF m 131 #[.val (.int p1), .val (.int p2), .val (.int p3), .val (.int p4), .val (.int p5), .val (.int (own_kk p1)), .val (.int (own_ll p1)), .val (.int (own_c0 p1)), .val (.int (own_c1 p1)), .val (.int (own_b (own_bit1 p5))), .val (.int (own_b (own_bit2 p5))), .val (.int (own_b (own_bit4 p5))), .val (.int (own_k2 p1 p2 p5)), .val (.int (own_l2 p1 p2 p5)), .unset, .unset, .unset, .unset, .unset, .unset, .unset, .unset] [(.int p2)])) _
        refine XS.bipush X0.here hx rfl (hb hby at_131) ?_
        show Steps p.tables e below (s₁.setTop (mkF m 133 #[.val (.int p1), .val (.int p2), .val (.int p3), .val (.int p4), .val (.int p5), .val (.int (own_kk p1)), .val (.int (own_ll p1)), .val (.int (own_c0 p1)), .val (.int (own_c1 p1)), .val (.int (own_b (own_bit1 p5))), .val (.int (own_b (own_bit2 p5))), .val (.int (own_b (own_bit4 p5))), .val (.int (own_k2 p1 p2 p5)), .val (.int (own_l2 p1 p2 p5)), .unset, .unset, .unset, .unset, .unset, .unset, .unset, .unset] [(.int (8 : Int32)), (.int p2)])) _
        refine XS.iushr X0.here hx rfl (hb hby at_133) rfl ?_
        show Steps p.tables e below (s₁.setTop (mkF m 134 #[.val (.int p1), .val (.int p2), .val (.int p3), .val (.int p4), .val (.int p5), .val (.int (own_kk p1)), .val (.int (own_ll p1)), .val (.int (own_c0 p1)), .val (.int (own_c1 p1)), .val (.int (own_b (own_bit1 p5))), .val (.int (own_b (own_bit2 p5))), .val (.int (own_b (own_bit4 p5))), .val (.int (own_k2 p1 p2 p5)), .val (.int (own_l2 p1 p2 p5)), .unset, .unset, .unset, .unset, .unset, .unset, .unset, .unset] [(.int ((p2.toUInt32 >>> ((8 : Int32) &&& 31).toUInt32).toInt32))])) _
        refine XS.sipush X0.here hx rfl (hb hby at_134) ?_
        show Steps p.tables e below (s₁.setTop (mkF m 137 #[.val (.int p1), .val (.int p2), .val (.int p3), .val (.int p4), .val (.int p5), .val (.int (own_kk p1)), .val (.int (own_ll p1)), .val (.int (own_c0 p1)), .val (.int (own_c1 p1)), .val (.int (own_b (own_bit1 p5))), .val (.int (own_b (own_bit2 p5))), .val (.int (own_b (own_bit4 p5))), .val (.int (own_k2 p1 p2 p5)), .val (.int (own_l2 p1 p2 p5)), .unset, .unset, .unset, .unset, .unset, .unset, .unset, .unset] [(.int (255 : Int32)), (.int ((p2.toUInt32 >>> ((8 : Int32) &&& 31).toUInt32).toInt32))])) _
        refine XS.iand X0.here hx rfl (hb hby at_137) rfl ?_
        show Steps p.tables e below (s₁.setTop (mkF m 138 #[.val (.int p1), .val (.int p2), .val (.int p3), .val (.int p4), .val (.int p5), .val (.int (own_kk p1)), .val (.int (own_ll p1)), .val (.int (own_c0 p1)), .val (.int (own_c1 p1)), .val (.int (own_b (own_bit1 p5))), .val (.int (own_b (own_bit2 p5))), .val (.int (own_b (own_bit4 p5))), .val (.int (own_k2 p1 p2 p5)), .val (.int (own_l2 p1 p2 p5)), .unset, .unset, .unset, .unset, .unset, .unset, .unset, .unset] [(.int (((p2.toUInt32 >>> ((8 : Int32) &&& 31).toUInt32).toInt32) &&& (255 : Int32)))])) _
        refine XS.i2c X0.here hx rfl (hb hby at_138) rfl ?_
        have ev : (own_y0 p1 p2 p5) = (own_c0 p2) := by simp [own_k2, own_l2, own_y0, own_y1, own_q2, own_if, c12]
        rw [ev] at kk
        exact kk
      · refine XS.ifNo X0.here hx rfl (hb hby at_122) rfl ((if0 _ _).trans (feq c12).1) ?_
        show Steps p.tables e below (s₁.setTop (mkF m 125 #[.val (.int p1), .val (.int p2), .val (.int p3), .val (.int p4), .val (.int p5), .val (.int (own_kk p1)), .val (.int (own_ll p1)), .val (.int (own_c0 p1)), .val (.int (own_c1 p1)), .val (.int (own_b (own_bit1 p5))), .val (.int (own_b (own_bit2 p5))), .val (.int (own_b (own_bit4 p5))), .val (.int (own_k2 p1 p2 p5)), .val (.int (own_l2 p1 p2 p5)), .unset, .unset, .unset, .unset, .unset, .unset, .unset, .unset] [])) _
        refine XS.iload X0.here hx rfl (hb hby at_125) rfl ?_
        show Steps p.tables e below (s₁.setTop (mkF m 127 #[.val (.int p1), .val (.int p2), .val (.int p3), .val (.int p4), .val (.int p5), .val (.int (own_kk p1)), .val (.int (own_ll p1)), .val (.int (own_c0 p1)), .val (.int (own_c1 p1)), .val (.int (own_b (own_bit1 p5))), .val (.int (own_b (own_bit2 p5))), .val (.int (own_b (own_bit4 p5))), .val (.int (own_k2 p1 p2 p5)), .val (.int (own_l2 p1 p2 p5)), .unset, .unset, .unset, .unset, .unset, .unset, .unset, .unset] [(.int (own_c0 p1))])) _
        refine XS.goto X0.here hx rfl (pc0 := 127) (pc' := 139) rfl (hb hby at_127) (by decide) (by decide) ?_
        have ev : (own_y0 p1 p2 p5) = (own_c0 p1) := by simp [own_k2, own_l2, own_y0, own_y1, own_q2, own_if, c12]
        rw [ev] at kk
        exact kk
    refine tr122_11 _ ?_
    refine XS.istore X0.here hx rfl (hb hby at_139) rfl (l' := #[.val (.int p1), .val (.int p2), .val (.int p3), .val (.int p4), .val (.int p5), .val (.int (own_kk p1)), .val (.int (own_ll p1)), .val (.int (own_c0 p1)), .val (.int (own_c1 p1)), .val (.int (own_b (own_bit1 p5))), .val (.int (own_b (own_bit2 p5))), .val (.int (own_b (own_bit4 p5))), .val (.int (own_k2 p1 p2 p5)), .val (.int (own_l2 p1 p2 p5)), .val (.int (own_y0 p1 p2 p5)), .unset, .unset, .unset, .unset, .unset, .unset, .unset]) rfl ?_
    refine XS.iload X0.here hx rfl (hb hby at_141) rfl ?_
    have tr143_13 : ∀ tgt, Steps p.tables e below (s₁.setTop (mkF m 160 #[.val (.int p1), .val (.int p2), .val (.int p3), .val (.int p4), .val (.int p5), .val (.int (own_kk p1)), .val (.int (own_ll p1)), .val (.int (own_c0 p1)), .val (.int (own_c1 p1)), .val (.int (own_b (own_bit1 p5))), .val (.int (own_b (own_bit2 p5))), .val (.int (own_b (own_bit4 p5))), .val (.int (own_k2 p1 p2 p5)), .val (.int (own_l2 p1 p2 p5)), .val (.int (own_y0 p1 p2 p5)), .unset, .unset, .unset, .unset, .unset, .unset, .unset] [(.int (own_y1 p1 p2 p5))])) tgt → Steps p.tables e below (s₁.setTop (mkF m 143 #[.val (.int p1), .val (.int p2), .val (.int p3), .val (.int p4), .val (.int p5), .val (.int (own_kk p1)), .val (.int (own_ll p1)), .val (.int (own_c0 p1)), .val (.int (own_c1 p1)), .val (.int (own_b (own_bit1 p5))), .val (.int (own_b (own_bit2 p5))), .val (.int (own_b (own_bit4 p5))), .val (.int (own_k2 p1 p2 p5)), .val (.int (own_l2 p1 p2 p5)), .val (.int (own_y0 p1 p2 p5)), .unset, .unset, .unset, .unset, .unset, .unset, .unset] [(.int (own_b (own_bit2 p5)))])) tgt := by
      intro tgt kk
      show Steps p.tables e below (s₁.setTop (mkF m 143 #[.val (.int p1), .val (.int p2), .val (.int p3), .val (.int p4), .val (.int p5), .val (.int (own_kk p1)), .val (.int (own_ll p1)), .val (.int (own_c0 p1)), .val (.int (own_c1 p1)), .val (.int (own_b (own_bit1 p5))), .val (.int (own_b (own_bit2 p5))), .val (.int (own_b (own_bit4 p5))), .val (.int (own_k2 p1 p2 p5)), .val (.int (own_l2 p1 p2 p5)), .val (.int (own_y0 p1 p2 p5)), .unset, .unset, .unset, .unset, .unset, .unset, .unset] [(.int (own_b (own_bit2 p5)))])) _
      by_cases c14 : (own_b (own_bit2 p5)) = (0 : Int32)
      · refine XS.ifYes X0.here hx rfl (pc0 := 143) (pc' := 151) rfl (hb hby at_143) rfl ((if0 _ _).trans (teq c14).1) (by decide) (by decide) ?_
        show Steps p.tables e below (s₁.setTop (mkF m 151 #[.val (.int p1), .val (.int p2), .val (.int p3), .val (.int p4), .val (.int p5), .val (.int (own_kk p1)), .val (.int (own_ll p1)), .val (.int (own_c0 p1)), .val (.int (own_c1 p1)), .val (.int (own_b (own_bit1 p5))), .val (.int (own_b (own_bit2 p5))), .val (.int (own_b (own_bit4 p5))), .val (.int (own_k2 p1 p2 p5)), .val (.int (own_l2 p1 p2 p5)), .val (.int (own_y0 p1 p2 p5)), .unset, .unset, .unset, .unset, .unset, .unset, .unset] [])) _
        refine XS.iloadN X0.here hx rfl (hb hby at_151) rfl ?_
        show Steps p.tables e below (s₁.setTop (mkF m 152 #[.val (.int p1), .val (.int p2), .val (.int p3), .val (.int p4), .val (.int p5), .val (.int (own_kk p1)), .val (.int (own_ll p1)), .val (.int (own_c0 p1)), .val (.int (own_c1 p1)), .val (.int (own_b (own_bit1 p5))), .val (.int (own_b (own_bit2 p5))), .val (.int (own_b (own_bit4 p5))), .val (.int (own_k2 p1 p2 p5)), .val (.int (own_l2 p1 p2 p5)), .val (.int (own_y0 p1 p2 p5)), .unset, .unset, .unset, .unset, .unset, .unset, .unset] [(.int p2)])) _
        refine XS.bipush X0.here hx rfl (hb hby at_152) ?_
        show Steps p.tables e below (s₁.setTop (mkF m 154 #[.val (.int p1), .val (.int p2), .val (.int p3), .val (.int p4), .val (.int p5), .val (.int (own_kk p1)), .val (.int (own_ll p1)), .val (.int (own_c0 p1)), .val (.int (own_c1 p1)), .val (.int (own_b (own_bit1 p5))), .val (.int (own_b (own_bit2 p5))), .val (.int (own_b (own_bit4 p5))), .val (.int (own_k2 p1 p2 p5)), .val (.int (own_l2 p1 p2 p5)), .val (.int (own_y0 p1 p2 p5)), .unset, .unset, .unset, .unset, .unset, .unset, .unset] [(.int (16 : Int32)), (.int p2)])) _
        refine XS.iushr X0.here hx rfl (hb hby at_154) rfl ?_
        show Steps p.tables e below (s₁.setTop (mkF m 155 #[.val (.int p1), .val (.int p2), .val (.int p3), .val (.int p4), .val (.int p5), .val (.int (own_kk p1)), .val (.int (own_ll p1)), .val (.int (own_c0 p1)), .val (.int (own_c1 p1)), .val (.int (own_b (own_bit1 p5))), .val (.int (own_b (own_bit2 p5))), .val (.int (own_b (own_bit4 p5))), .val (.int (own_k2 p1 p2 p5)), .val (.int (own_l2 p1 p2 p5)), .val (.int (own_y0 p1 p2 p5)), .unset, .unset, .unset, .unset, .unset, .unset, .unset] [(.int ((p2.toUInt32 >>> ((16 : Int32) &&& 31).toUInt32).toInt32))])) _
        refine XS.sipush X0.here hx rfl (hb hby at_155) ?_
        show Steps p.tables e below (s₁.setTop (mkF m 158 #[.val (.int p1), .val (.int p2), .val (.int p3), .val (.int p4), .val (.int p5), .val (.int (own_kk p1)), .val (.int (own_ll p1)), .val (.int (own_c0 p1)), .val (.int (own_c1 p1)), .val (.int (own_b (own_bit1 p5))), .val (.int (own_b (own_bit2 p5))), .val (.int (own_b (own_bit4 p5))), .val (.int (own_k2 p1 p2 p5)), .val (.int (own_l2 p1 p2 p5)), .val (.int (own_y0 p1 p2 p5)), .unset, .unset, .unset, .unset, .unset, .unset, .unset] [(.int (255 : Int32)), (.int ((p2.toUInt32 >>> ((16 : Int32) &&& 31).toUInt32).toInt32))])) _
        refine XS.iand X0.here hx rfl (hb hby at_158) rfl ?_
        show Steps p.tables e below (s₁.setTop (mkF m 159 #[.val (.int p1), .val (.int p2), .val (.int p3), .val (.int p4), .val (.int p5), .val (.int (own_kk p1)), .val (.int (own_ll p1)), .val (.int (own_c0 p1)), .val (.int (own_c1 p1)), .val (.int (own_b (own_bit1 p5))), .val (.int (own_b (own_bit2 p5))), .val (.int (own_b (own_bit4 p5))), .val (.int (own_k2 p1 p2 p5)), .val (.int (own_l2 p1 p2 p5)), .val (.int (own_y0 p1 p2 p5)), .unset, .unset, .unset, .unset, .unset, .unset, .unset] [(.int (((p2.toUInt32 >>> ((16 : Int32) &&& 31).toUInt32).toInt32) &&& (255 : Int32)))])) _
        refine XS.i2c X0.here hx rfl (hb hby at_159) rfl ?_
        have ev : (own_y1 p1 p2 p5) = (own_c1 p2) := by simp [own_k2, own_l2, own_y0, own_y1, own_q2, own_if, c14]
        rw [ev] at kk
        exact kk
      · refine XS.ifNo X0.here hx rfl (hb hby at_143) rfl ((if0 _ _).trans (feq c14).1) ?_
        show Steps p.tables e below (s₁.setTop (mkF m 146 #[.val (.int p1), .val (.int p2), .val (.int p3), .val (.int p4), .val (.int p5), .val (.int (own_kk p1)), .val (.int (own_ll p1)), .val (.int (own_c0 p1)), .val (.int (own_c1 p1)), .val (.int (own_b (own_bit1 p5))), .val (.int (own_b (own_bit2 p5))), .val (.int (own_b (own_bit4 p5))), .val (.int (own_k2 p1 p2 p5)), .val (.int (own_l2 p1 p2 p5)), .val (.int (own_y0 p1 p2 p5)), .unset, .unset, .unset, .unset, .unset, .unset, .unset] [])) _
        refine XS.iload X0.here hx rfl (hb hby at_146) rfl ?_
        show Steps p.tables e below (s₁.setTop (mkF m 148 #[.val (.int p1), .val (.int p2), .val (.int p3), .val (.int p4), .val (.int p5), .val (.int (own_kk p1)), .val (.int (own_ll p1)), .val (.int (own_c0 p1)), .val (.int (own_c1 p1)), .val (.int (own_b (own_bit1 p5))), .val (.int (own_b (own_bit2 p5))), .val (.int (own_b (own_bit4 p5))), .val (.int (own_k2 p1 p2 p5)), .val (.int (own_l2 p1 p2 p5)), .val (.int (own_y0 p1 p2 p5)), .unset, .unset, .unset, .unset, .unset, .unset, .unset] [(.int (own_c1 p1))])) _
        refine XS.goto X0.here hx rfl (pc0 := 148) (pc' := 160) rfl (hb hby at_148) (by decide) (by decide) ?_
        have ev : (own_y1 p1 p2 p5) = (own_c1 p1) := by simp [own_k2, own_l2, own_y0, own_y1, own_q2, own_if, c14]
        rw [ev] at kk
        exact kk
    refine tr143_13 _ ?_
    refine XS.istore X0.here hx rfl (hb hby at_160) rfl (l' := #[.val (.int p1), .val (.int p2), .val (.int p3), .val (.int p4), .val (.int p5), .val (.int (own_kk p1)), .val (.int (own_ll p1)), .val (.int (own_c0 p1)), .val (.int (own_c1 p1)), .val (.int (own_b (own_bit1 p5))), .val (.int (own_b (own_bit2 p5))), .val (.int (own_b (own_bit4 p5))), .val (.int (own_k2 p1 p2 p5)), .val (.int (own_l2 p1 p2 p5)), .val (.int (own_y0 p1 p2 p5)), .val (.int (own_y1 p1 p2 p5)), .unset, .unset, .unset, .unset, .unset, .unset]) rfl ?_
    refine XS.iload X0.here hx rfl (hb hby at_162) rfl ?_
    have tr164_15 : ∀ tgt, Steps p.tables e below (s₁.setTop (mkF m 172 #[.val (.int p1), .val (.int p2), .val (.int p3), .val (.int p4), .val (.int p5), .val (.int (own_kk p1)), .val (.int (own_ll p1)), .val (.int (own_c0 p1)), .val (.int (own_c1 p1)), .val (.int (own_b (own_bit1 p5))), .val (.int (own_b (own_bit2 p5))), .val (.int (own_b (own_bit4 p5))), .val (.int (own_k2 p1 p2 p5)), .val (.int (own_l2 p1 p2 p5)), .val (.int (own_y0 p1 p2 p5)), .val (.int (own_y1 p1 p2 p5)), .unset, .unset, .unset, .unset, .unset, .unset] [(.int (own_q2 p3 p4 p5))])) tgt → Steps p.tables e below (s₁.setTop (mkF m 164 #[.val (.int p1), .val (.int p2), .val (.int p3), .val (.int p4), .val (.int p5), .val (.int (own_kk p1)), .val (.int (own_ll p1)), .val (.int (own_c0 p1)), .val (.int (own_c1 p1)), .val (.int (own_b (own_bit1 p5))), .val (.int (own_b (own_bit2 p5))), .val (.int (own_b (own_bit4 p5))), .val (.int (own_k2 p1 p2 p5)), .val (.int (own_l2 p1 p2 p5)), .val (.int (own_y0 p1 p2 p5)), .val (.int (own_y1 p1 p2 p5)), .unset, .unset, .unset, .unset, .unset, .unset] [(.int (own_b (own_bit4 p5)))])) tgt := by
      intro tgt kk
      show Steps p.tables e below (s₁.setTop (mkF m 164 #[.val (.int p1), .val (.int p2), .val (.int p3), .val (.int p4), .val (.int p5), .val (.int (own_kk p1)), .val (.int (own_ll p1)), .val (.int (own_c0 p1)), .val (.int (own_c1 p1)), .val (.int (own_b (own_bit1 p5))), .val (.int (own_b (own_bit2 p5))), .val (.int (own_b (own_bit4 p5))), .val (.int (own_k2 p1 p2 p5)), .val (.int (own_l2 p1 p2 p5)), .val (.int (own_y0 p1 p2 p5)), .val (.int (own_y1 p1 p2 p5)), .unset, .unset, .unset, .unset, .unset, .unset] [(.int (own_b (own_bit4 p5)))])) _
      by_cases c16 : (own_b (own_bit4 p5)) = (0 : Int32)
      · refine XS.ifYes X0.here hx rfl (pc0 := 164) (pc' := 171) rfl (hb hby at_164) rfl ((if0 _ _).trans (teq c16).1) (by decide) (by decide) ?_
        show Steps p.tables e below (s₁.setTop (mkF m 171 #[.val (.int p1), .val (.int p2), .val (.int p3), .val (.int p4), .val (.int p5), .val (.int (own_kk p1)), .val (.int (own_ll p1)), .val (.int (own_c0 p1)), .val (.int (own_c1 p1)), .val (.int (own_b (own_bit1 p5))), .val (.int (own_b (own_bit2 p5))), .val (.int (own_b (own_bit4 p5))), .val (.int (own_k2 p1 p2 p5)), .val (.int (own_l2 p1 p2 p5)), .val (.int (own_y0 p1 p2 p5)), .val (.int (own_y1 p1 p2 p5)), .unset, .unset, .unset, .unset, .unset, .unset] [])) _
        refine XS.iloadN X0.here hx rfl (hb hby at_171) rfl ?_
        have ev : (own_q2 p3 p4 p5) = p4 := by simp [own_k2, own_l2, own_y0, own_y1, own_q2, own_if, c16]
        rw [ev] at kk
        exact kk
      · refine XS.ifNo X0.here hx rfl (hb hby at_164) rfl ((if0 _ _).trans (feq c16).1) ?_
        show Steps p.tables e below (s₁.setTop (mkF m 167 #[.val (.int p1), .val (.int p2), .val (.int p3), .val (.int p4), .val (.int p5), .val (.int (own_kk p1)), .val (.int (own_ll p1)), .val (.int (own_c0 p1)), .val (.int (own_c1 p1)), .val (.int (own_b (own_bit1 p5))), .val (.int (own_b (own_bit2 p5))), .val (.int (own_b (own_bit4 p5))), .val (.int (own_k2 p1 p2 p5)), .val (.int (own_l2 p1 p2 p5)), .val (.int (own_y0 p1 p2 p5)), .val (.int (own_y1 p1 p2 p5)), .unset, .unset, .unset, .unset, .unset, .unset] [])) _
        refine XS.iloadN X0.here hx rfl (hb hby at_167) rfl ?_
        show Steps p.tables e below (s₁.setTop (mkF m 168 #[.val (.int p1), .val (.int p2), .val (.int p3), .val (.int p4), .val (.int p5), .val (.int (own_kk p1)), .val (.int (own_ll p1)), .val (.int (own_c0 p1)), .val (.int (own_c1 p1)), .val (.int (own_b (own_bit1 p5))), .val (.int (own_b (own_bit2 p5))), .val (.int (own_b (own_bit4 p5))), .val (.int (own_k2 p1 p2 p5)), .val (.int (own_l2 p1 p2 p5)), .val (.int (own_y0 p1 p2 p5)), .val (.int (own_y1 p1 p2 p5)), .unset, .unset, .unset, .unset, .unset, .unset] [(.int p3)])) _
        refine XS.goto X0.here hx rfl (pc0 := 168) (pc' := 172) rfl (hb hby at_168) (by decide) (by decide) ?_
        have ev : (own_q2 p3 p4 p5) = p3 := by simp [own_k2, own_l2, own_y0, own_y1, own_q2, own_if, c16]
        rw [ev] at kk
        exact kk
    refine tr164_15 _ ?_
    refine XS.istore X0.here hx rfl (hb hby at_172) rfl (l' := #[.val (.int p1), .val (.int p2), .val (.int p3), .val (.int p4), .val (.int p5), .val (.int (own_kk p1)), .val (.int (own_ll p1)), .val (.int (own_c0 p1)), .val (.int (own_c1 p1)), .val (.int (own_b (own_bit1 p5))), .val (.int (own_b (own_bit2 p5))), .val (.int (own_b (own_bit4 p5))), .val (.int (own_k2 p1 p2 p5)), .val (.int (own_l2 p1 p2 p5)), .val (.int (own_y0 p1 p2 p5)), .val (.int (own_y1 p1 p2 p5)), .val (.int (own_q2 p3 p4 p5)), .unset, .unset, .unset, .unset, .unset]) rfl ?_
    show Steps p.tables e below (s₁.setTop (mkF m 174 #[.val (.int p1), .val (.int p2), .val (.int p3), .val (.int p4), .val (.int p5), .val (.int (own_kk p1)), .val (.int (own_ll p1)), .val (.int (own_c0 p1)), .val (.int (own_c1 p1)), .val (.int (own_b (own_bit1 p5))), .val (.int (own_b (own_bit2 p5))), .val (.int (own_b (own_bit4 p5))), .val (.int (own_k2 p1 p2 p5)), .val (.int (own_l2 p1 p2 p5)), .val (.int (own_y0 p1 p2 p5)), .val (.int (own_y1 p1 p2 p5)), .val (.int (own_q2 p3 p4 p5)), .unset, .unset, .unset, .unset, .unset] [])) _
    refine st17 _ ?_
    refine XS.dup X17.here hx rfl (hb hby at_177) rfl rfl ?_
    refine XS.iload X17.here hx rfl (hb hby at_178) rfl ?_
    show Steps p.tables e below (T17.setTop (mkF m 180 #[.val (.int p1), .val (.int p2), .val (.int p3), .val (.int p4), .val (.int p5), .val (.int (own_kk p1)), .val (.int (own_ll p1)), .val (.int (own_c0 p1)), .val (.int (own_c1 p1)), .val (.int (own_b (own_bit1 p5))), .val (.int (own_b (own_bit2 p5))), .val (.int (own_b (own_bit4 p5))), .val (.int (own_k2 p1 p2 p5)), .val (.int (own_l2 p1 p2 p5)), .val (.int (own_y0 p1 p2 p5)), .val (.int (own_y1 p1 p2 p5)), .val (.int (own_q2 p3 p4 p5)), .unset, .unset, .unset, .unset, .unset] [(.int (own_kk p1)), (.ref b17), (.ref b17)])) _
    refine st18 _ ?_
    refine XS.iload X18.here hx rfl (hb hby at_183) rfl ?_
    refine XS.iload X18.here hx rfl (hb hby at_185) rfl ?_
    show Steps p.tables e below (T18.setTop (mkF m 187 #[.val (.int p1), .val (.int p2), .val (.int p3), .val (.int p4), .val (.int p5), .val (.int (own_kk p1)), .val (.int (own_ll p1)), .val (.int (own_c0 p1)), .val (.int (own_c1 p1)), .val (.int (own_b (own_bit1 p5))), .val (.int (own_b (own_bit2 p5))), .val (.int (own_b (own_bit4 p5))), .val (.int (own_k2 p1 p2 p5)), .val (.int (own_l2 p1 p2 p5)), .val (.int (own_y0 p1 p2 p5)), .val (.int (own_y1 p1 p2 p5)), .val (.int (own_q2 p3 p4 p5)), .unset, .unset, .unset, .unset, .unset] [(.int (own_c0 p1)), (.int (own_ll p1)), (.ref (own_kd t0 t1 t2 t3 t4 t5 t6 (own_kk p1))), (.ref b17), (.ref b17)])) _
    refine XS.iload X18.here hx rfl (hb hby at_187) rfl ?_
    show Steps p.tables e below (T18.setTop (mkF m 189 #[.val (.int p1), .val (.int p2), .val (.int p3), .val (.int p4), .val (.int p5), .val (.int (own_kk p1)), .val (.int (own_ll p1)), .val (.int (own_c0 p1)), .val (.int (own_c1 p1)), .val (.int (own_b (own_bit1 p5))), .val (.int (own_b (own_bit2 p5))), .val (.int (own_b (own_bit4 p5))), .val (.int (own_k2 p1 p2 p5)), .val (.int (own_l2 p1 p2 p5)), .val (.int (own_y0 p1 p2 p5)), .val (.int (own_y1 p1 p2 p5)), .val (.int (own_q2 p3 p4 p5)), .unset, .unset, .unset, .unset, .unset] [(.int (own_c1 p1)), (.int (own_c0 p1)), (.int (own_ll p1)), (.ref (own_kd t0 t1 t2 t3 t4 t5 t6 (own_kk p1))), (.ref b17), (.ref b17)])) _
    refine st20.trans ?_
    refine XS.iloadN X20.here hx rfl (hb hby at_192) rfl ?_
    show Steps p.tables e below (T20.setTop (mkF m 193 #[.val (.int p1), .val (.int p2), .val (.int p3), .val (.int p4), .val (.int p5), .val (.int (own_kk p1)), .val (.int (own_ll p1)), .val (.int (own_c0 p1)), .val (.int (own_c1 p1)), .val (.int (own_b (own_bit1 p5))), .val (.int (own_b (own_bit2 p5))), .val (.int (own_b (own_bit4 p5))), .val (.int (own_k2 p1 p2 p5)), .val (.int (own_l2 p1 p2 p5)), .val (.int (own_y0 p1 p2 p5)), .val (.int (own_y1 p1 p2 p5)), .val (.int (own_q2 p3 p4 p5)), .unset, .unset, .unset, .unset, .unset] [(.int p3), (.ref r20), (.ref (own_kd t0 t1 t2 t3 t4 t5 t6 (own_kk p1))), (.ref b17), (.ref b17)])) _
    refine st21.trans ?_
    refine XS.astore X21.here hx rfl (hb hby at_196) rfl rfl (l' := #[.val (.int p1), .val (.int p2), .val (.int p3), .val (.int p4), .val (.int p5), .val (.int (own_kk p1)), .val (.int (own_ll p1)), .val (.int (own_c0 p1)), .val (.int (own_c1 p1)), .val (.int (own_b (own_bit1 p5))), .val (.int (own_b (own_bit2 p5))), .val (.int (own_b (own_bit4 p5))), .val (.int (own_k2 p1 p2 p5)), .val (.int (own_l2 p1 p2 p5)), .val (.int (own_y0 p1 p2 p5)), .val (.int (own_y1 p1 p2 p5)), .val (.int (own_q2 p3 p4 p5)), .val (.ref b17), .unset, .unset, .unset, .unset]) rfl ?_
    show Steps p.tables e below (T21.setTop (mkF m 198 #[.val (.int p1), .val (.int p2), .val (.int p3), .val (.int p4), .val (.int p5), .val (.int (own_kk p1)), .val (.int (own_ll p1)), .val (.int (own_c0 p1)), .val (.int (own_c1 p1)), .val (.int (own_b (own_bit1 p5))), .val (.int (own_b (own_bit2 p5))), .val (.int (own_b (own_bit4 p5))), .val (.int (own_k2 p1 p2 p5)), .val (.int (own_l2 p1 p2 p5)), .val (.int (own_y0 p1 p2 p5)), .val (.int (own_y1 p1 p2 p5)), .val (.int (own_q2 p3 p4 p5)), .val (.ref b17), .unset, .unset, .unset, .unset] [])) _
    refine st27 _ ?_
    refine XS.dup X27.here hx rfl (hb hby at_201) rfl rfl ?_
    refine XS.iload X27.here hx rfl (hb hby at_202) rfl ?_
    show Steps p.tables e below (T27.setTop (mkF m 204 #[.val (.int p1), .val (.int p2), .val (.int p3), .val (.int p4), .val (.int p5), .val (.int (own_kk p1)), .val (.int (own_ll p1)), .val (.int (own_c0 p1)), .val (.int (own_c1 p1)), .val (.int (own_b (own_bit1 p5))), .val (.int (own_b (own_bit2 p5))), .val (.int (own_b (own_bit4 p5))), .val (.int (own_k2 p1 p2 p5)), .val (.int (own_l2 p1 p2 p5)), .val (.int (own_y0 p1 p2 p5)), .val (.int (own_y1 p1 p2 p5)), .val (.int (own_q2 p3 p4 p5)), .val (.ref b17), .unset, .unset, .unset, .unset] [(.int (own_k2 p1 p2 p5)), (.ref b27), (.ref b27)])) _
    refine st28 _ ?_
    refine XS.iload X28.here hx rfl (hb hby at_207) rfl ?_
    refine XS.iload X28.here hx rfl (hb hby at_209) rfl ?_
    show Steps p.tables e below (T28.setTop (mkF m 211 #[.val (.int p1), .val (.int p2), .val (.int p3), .val (.int p4), .val (.int p5), .val (.int (own_kk p1)), .val (.int (own_ll p1)), .val (.int (own_c0 p1)), .val (.int (own_c1 p1)), .val (.int (own_b (own_bit1 p5))), .val (.int (own_b (own_bit2 p5))), .val (.int (own_b (own_bit4 p5))), .val (.int (own_k2 p1 p2 p5)), .val (.int (own_l2 p1 p2 p5)), .val (.int (own_y0 p1 p2 p5)), .val (.int (own_y1 p1 p2 p5)), .val (.int (own_q2 p3 p4 p5)), .val (.ref b17), .unset, .unset, .unset, .unset] [(.int (own_y0 p1 p2 p5)), (.int (own_l2 p1 p2 p5)), (.ref (own_kd t0 t1 t2 t3 t4 t5 t6 (own_k2 p1 p2 p5))), (.ref b27), (.ref b27)])) _
    refine XS.iload X28.here hx rfl (hb hby at_211) rfl ?_
    show Steps p.tables e below (T28.setTop (mkF m 213 #[.val (.int p1), .val (.int p2), .val (.int p3), .val (.int p4), .val (.int p5), .val (.int (own_kk p1)), .val (.int (own_ll p1)), .val (.int (own_c0 p1)), .val (.int (own_c1 p1)), .val (.int (own_b (own_bit1 p5))), .val (.int (own_b (own_bit2 p5))), .val (.int (own_b (own_bit4 p5))), .val (.int (own_k2 p1 p2 p5)), .val (.int (own_l2 p1 p2 p5)), .val (.int (own_y0 p1 p2 p5)), .val (.int (own_y1 p1 p2 p5)), .val (.int (own_q2 p3 p4 p5)), .val (.ref b17), .unset, .unset, .unset, .unset] [(.int (own_y1 p1 p2 p5)), (.int (own_y0 p1 p2 p5)), (.int (own_l2 p1 p2 p5)), (.ref (own_kd t0 t1 t2 t3 t4 t5 t6 (own_k2 p1 p2 p5))), (.ref b27), (.ref b27)])) _
    refine st30.trans ?_
    refine XS.iload X30.here hx rfl (hb hby at_216) rfl ?_
    show Steps p.tables e below (T30.setTop (mkF m 218 #[.val (.int p1), .val (.int p2), .val (.int p3), .val (.int p4), .val (.int p5), .val (.int (own_kk p1)), .val (.int (own_ll p1)), .val (.int (own_c0 p1)), .val (.int (own_c1 p1)), .val (.int (own_b (own_bit1 p5))), .val (.int (own_b (own_bit2 p5))), .val (.int (own_b (own_bit4 p5))), .val (.int (own_k2 p1 p2 p5)), .val (.int (own_l2 p1 p2 p5)), .val (.int (own_y0 p1 p2 p5)), .val (.int (own_y1 p1 p2 p5)), .val (.int (own_q2 p3 p4 p5)), .val (.ref b17), .unset, .unset, .unset, .unset] [(.int (own_q2 p3 p4 p5)), (.ref r30), (.ref (own_kd t0 t1 t2 t3 t4 t5 t6 (own_k2 p1 p2 p5))), (.ref b27), (.ref b27)])) _
    refine st32.trans ?_
    refine XS.astore X32.here hx rfl (hb hby at_221) rfl rfl (l' := #[.val (.int p1), .val (.int p2), .val (.int p3), .val (.int p4), .val (.int p5), .val (.int (own_kk p1)), .val (.int (own_ll p1)), .val (.int (own_c0 p1)), .val (.int (own_c1 p1)), .val (.int (own_b (own_bit1 p5))), .val (.int (own_b (own_bit2 p5))), .val (.int (own_b (own_bit4 p5))), .val (.int (own_k2 p1 p2 p5)), .val (.int (own_l2 p1 p2 p5)), .val (.int (own_y0 p1 p2 p5)), .val (.int (own_y1 p1 p2 p5)), .val (.int (own_q2 p3 p4 p5)), .val (.ref b17), .val (.ref b27), .unset, .unset, .unset]) rfl ?_
    have tr223_38 : ∀ tgt, Steps p.tables e below (T32.setTop (mkF m 274 #[.val (.int p1), .val (.int p2), .val (.int p3), .val (.int p4), .val (.int p5), .val (.int (own_kk p1)), .val (.int (own_ll p1)), .val (.int (own_c0 p1)), .val (.int (own_c1 p1)), .val (.int (own_b (own_bit1 p5))), .val (.int (own_b (own_bit2 p5))), .val (.int (own_b (own_bit4 p5))), .val (.int (own_k2 p1 p2 p5)), .val (.int (own_l2 p1 p2 p5)), .val (.int (own_y0 p1 p2 p5)), .val (.int (own_y1 p1 p2 p5)), .val (.int (own_q2 p3 p4 p5)), .val (.ref b17), .val (.ref b27), .unset, .unset, .unset] [(.int (own_ex p1 p2 p3 p4 p5))])) tgt → Steps p.tables e below (T32.setTop (mkF m 223 #[.val (.int p1), .val (.int p2), .val (.int p3), .val (.int p4), .val (.int p5), .val (.int (own_kk p1)), .val (.int (own_ll p1)), .val (.int (own_c0 p1)), .val (.int (own_c1 p1)), .val (.int (own_b (own_bit1 p5))), .val (.int (own_b (own_bit2 p5))), .val (.int (own_b (own_bit4 p5))), .val (.int (own_k2 p1 p2 p5)), .val (.int (own_l2 p1 p2 p5)), .val (.int (own_y0 p1 p2 p5)), .val (.int (own_y1 p1 p2 p5)), .val (.int (own_q2 p3 p4 p5)), .val (.ref b17), .val (.ref b27), .unset, .unset, .unset] [])) tgt := by
      intro tgt kk
      show Steps p.tables e below (T32.setTop (mkF m 223 #[.val (.int p1), .val (.int p2), .val (.int p3), .val (.int p4), .val (.int p5), .val (.int (own_kk p1)), .val (.int (own_ll p1)), .val (.int (own_c0 p1)), .val (.int (own_c1 p1)), .val (.int (own_b (own_bit1 p5))), .val (.int (own_b (own_bit2 p5))), .val (.int (own_b (own_bit4 p5))), .val (.int (own_k2 p1 p2 p5)), .val (.int (own_l2 p1 p2 p5)), .val (.int (own_y0 p1 p2 p5)), .val (.int (own_y1 p1 p2 p5)), .val (.int (own_q2 p3 p4 p5)), .val (.ref b17), .val (.ref b27), .unset, .unset, .unset] [])) _
      refine XS.iload X32.here hx rfl (hb hby at_223) rfl ?_
      show Steps p.tables e below (T32.setTop (mkF m 225 #[.val (.int p1), .val (.int p2), .val (.int p3), .val (.int p4), .val (.int p5), .val (.int (own_kk p1)), .val (.int (own_ll p1)), .val (.int (own_c0 p1)), .val (.int (own_c1 p1)), .val (.int (own_b (own_bit1 p5))), .val (.int (own_b (own_bit2 p5))), .val (.int (own_b (own_bit4 p5))), .val (.int (own_k2 p1 p2 p5)), .val (.int (own_l2 p1 p2 p5)), .val (.int (own_y0 p1 p2 p5)), .val (.int (own_y1 p1 p2 p5)), .val (.int (own_q2 p3 p4 p5)), .val (.ref b17), .val (.ref b27), .unset, .unset, .unset] [(.int (own_kk p1))])) _
      refine XS.iload X32.here hx rfl (hb hby at_225) rfl ?_
      show Steps p.tables e below (T32.setTop (mkF m 227 #[.val (.int p1), .val (.int p2), .val (.int p3), .val (.int p4), .val (.int p5), .val (.int (own_kk p1)), .val (.int (own_ll p1)), .val (.int (own_c0 p1)), .val (.int (own_c1 p1)), .val (.int (own_b (own_bit1 p5))), .val (.int (own_b (own_bit2 p5))), .val (.int (own_b (own_bit4 p5))), .val (.int (own_k2 p1 p2 p5)), .val (.int (own_l2 p1 p2 p5)), .val (.int (own_y0 p1 p2 p5)), .val (.int (own_y1 p1 p2 p5)), .val (.int (own_q2 p3 p4 p5)), .val (.ref b17), .val (.ref b27), .unset, .unset, .unset] [(.int (own_k2 p1 p2 p5)), (.int (own_kk p1))])) _
      by_cases c39 : (own_kk p1) = (own_k2 p1 p2 p5)
      · refine XS.icmpNo X32.here hx rfl (hb hby at_227) rfl (teq c39).2 ?_
        show Steps p.tables e below (T32.setTop (mkF m 230 #[.val (.int p1), .val (.int p2), .val (.int p3), .val (.int p4), .val (.int p5), .val (.int (own_kk p1)), .val (.int (own_ll p1)), .val (.int (own_c0 p1)), .val (.int (own_c1 p1)), .val (.int (own_b (own_bit1 p5))), .val (.int (own_b (own_bit2 p5))), .val (.int (own_b (own_bit4 p5))), .val (.int (own_k2 p1 p2 p5)), .val (.int (own_l2 p1 p2 p5)), .val (.int (own_y0 p1 p2 p5)), .val (.int (own_y1 p1 p2 p5)), .val (.int (own_q2 p3 p4 p5)), .val (.ref b17), .val (.ref b27), .unset, .unset, .unset] [])) _
        refine XS.iload X32.here hx rfl (hb hby at_230) rfl ?_
        show Steps p.tables e below (T32.setTop (mkF m 232 #[.val (.int p1), .val (.int p2), .val (.int p3), .val (.int p4), .val (.int p5), .val (.int (own_kk p1)), .val (.int (own_ll p1)), .val (.int (own_c0 p1)), .val (.int (own_c1 p1)), .val (.int (own_b (own_bit1 p5))), .val (.int (own_b (own_bit2 p5))), .val (.int (own_b (own_bit4 p5))), .val (.int (own_k2 p1 p2 p5)), .val (.int (own_l2 p1 p2 p5)), .val (.int (own_y0 p1 p2 p5)), .val (.int (own_y1 p1 p2 p5)), .val (.int (own_q2 p3 p4 p5)), .val (.ref b17), .val (.ref b27), .unset, .unset, .unset] [(.int (own_ll p1))])) _
        refine XS.iload X32.here hx rfl (hb hby at_232) rfl ?_
        show Steps p.tables e below (T32.setTop (mkF m 234 #[.val (.int p1), .val (.int p2), .val (.int p3), .val (.int p4), .val (.int p5), .val (.int (own_kk p1)), .val (.int (own_ll p1)), .val (.int (own_c0 p1)), .val (.int (own_c1 p1)), .val (.int (own_b (own_bit1 p5))), .val (.int (own_b (own_bit2 p5))), .val (.int (own_b (own_bit4 p5))), .val (.int (own_k2 p1 p2 p5)), .val (.int (own_l2 p1 p2 p5)), .val (.int (own_y0 p1 p2 p5)), .val (.int (own_y1 p1 p2 p5)), .val (.int (own_q2 p3 p4 p5)), .val (.ref b17), .val (.ref b27), .unset, .unset, .unset] [(.int (own_l2 p1 p2 p5)), (.int (own_ll p1))])) _
        by_cases c40 : (own_ll p1) = (own_l2 p1 p2 p5)
        · refine XS.icmpNo X32.here hx rfl (hb hby at_234) rfl (teq c40).2 ?_
          show Steps p.tables e below (T32.setTop (mkF m 237 #[.val (.int p1), .val (.int p2), .val (.int p3), .val (.int p4), .val (.int p5), .val (.int (own_kk p1)), .val (.int (own_ll p1)), .val (.int (own_c0 p1)), .val (.int (own_c1 p1)), .val (.int (own_b (own_bit1 p5))), .val (.int (own_b (own_bit2 p5))), .val (.int (own_b (own_bit4 p5))), .val (.int (own_k2 p1 p2 p5)), .val (.int (own_l2 p1 p2 p5)), .val (.int (own_y0 p1 p2 p5)), .val (.int (own_y1 p1 p2 p5)), .val (.int (own_q2 p3 p4 p5)), .val (.ref b17), .val (.ref b27), .unset, .unset, .unset] [])) _
          refine XS.iload X32.here hx rfl (hb hby at_237) rfl ?_
          show Steps p.tables e below (T32.setTop (mkF m 239 #[.val (.int p1), .val (.int p2), .val (.int p3), .val (.int p4), .val (.int p5), .val (.int (own_kk p1)), .val (.int (own_ll p1)), .val (.int (own_c0 p1)), .val (.int (own_c1 p1)), .val (.int (own_b (own_bit1 p5))), .val (.int (own_b (own_bit2 p5))), .val (.int (own_b (own_bit4 p5))), .val (.int (own_k2 p1 p2 p5)), .val (.int (own_l2 p1 p2 p5)), .val (.int (own_y0 p1 p2 p5)), .val (.int (own_y1 p1 p2 p5)), .val (.int (own_q2 p3 p4 p5)), .val (.ref b17), .val (.ref b27), .unset, .unset, .unset] [(.int (own_ll p1))])) _
          refine XS.iconst X32.here hx rfl (hb hby at_239) ?_
          show Steps p.tables e below (T32.setTop (mkF m 240 #[.val (.int p1), .val (.int p2), .val (.int p3), .val (.int p4), .val (.int p5), .val (.int (own_kk p1)), .val (.int (own_ll p1)), .val (.int (own_c0 p1)), .val (.int (own_c1 p1)), .val (.int (own_b (own_bit1 p5))), .val (.int (own_b (own_bit2 p5))), .val (.int (own_b (own_bit4 p5))), .val (.int (own_k2 p1 p2 p5)), .val (.int (own_l2 p1 p2 p5)), .val (.int (own_y0 p1 p2 p5)), .val (.int (own_y1 p1 p2 p5)), .val (.int (own_q2 p3 p4 p5)), .val (.ref b17), .val (.ref b27), .unset, .unset, .unset] [(.int (1 : Int32)), (.int (own_ll p1))])) _
          by_cases c41 : (own_ll p1) < (1 : Int32)
          · refine XS.icmpYes X32.here hx rfl (pc0 := 240) (pc' := 250) rfl (hb hby at_240) rfl (tlt c41).1 (by decide) (by decide) ?_
            show Steps p.tables e below (T32.setTop (mkF m 250 #[.val (.int p1), .val (.int p2), .val (.int p3), .val (.int p4), .val (.int p5), .val (.int (own_kk p1)), .val (.int (own_ll p1)), .val (.int (own_c0 p1)), .val (.int (own_c1 p1)), .val (.int (own_b (own_bit1 p5))), .val (.int (own_b (own_bit2 p5))), .val (.int (own_b (own_bit4 p5))), .val (.int (own_k2 p1 p2 p5)), .val (.int (own_l2 p1 p2 p5)), .val (.int (own_y0 p1 p2 p5)), .val (.int (own_y1 p1 p2 p5)), .val (.int (own_q2 p3 p4 p5)), .val (.ref b17), .val (.ref b27), .unset, .unset, .unset] [])) _
            refine XS.iload X32.here hx rfl (hb hby at_250) rfl ?_
            show Steps p.tables e below (T32.setTop (mkF m 252 #[.val (.int p1), .val (.int p2), .val (.int p3), .val (.int p4), .val (.int p5), .val (.int (own_kk p1)), .val (.int (own_ll p1)), .val (.int (own_c0 p1)), .val (.int (own_c1 p1)), .val (.int (own_b (own_bit1 p5))), .val (.int (own_b (own_bit2 p5))), .val (.int (own_b (own_bit4 p5))), .val (.int (own_k2 p1 p2 p5)), .val (.int (own_l2 p1 p2 p5)), .val (.int (own_y0 p1 p2 p5)), .val (.int (own_y1 p1 p2 p5)), .val (.int (own_q2 p3 p4 p5)), .val (.ref b17), .val (.ref b27), .unset, .unset, .unset] [(.int (own_ll p1))])) _
            refine XS.iconst X32.here hx rfl (hb hby at_252) ?_
            show Steps p.tables e below (T32.setTop (mkF m 253 #[.val (.int p1), .val (.int p2), .val (.int p3), .val (.int p4), .val (.int p5), .val (.int (own_kk p1)), .val (.int (own_ll p1)), .val (.int (own_c0 p1)), .val (.int (own_c1 p1)), .val (.int (own_b (own_bit1 p5))), .val (.int (own_b (own_bit2 p5))), .val (.int (own_b (own_bit4 p5))), .val (.int (own_k2 p1 p2 p5)), .val (.int (own_l2 p1 p2 p5)), .val (.int (own_y0 p1 p2 p5)), .val (.int (own_y1 p1 p2 p5)), .val (.int (own_q2 p3 p4 p5)), .val (.ref b17), .val (.ref b27), .unset, .unset, .unset] [(.int (2 : Int32)), (.int (own_ll p1))])) _
            by_cases c42 : (own_ll p1) < (2 : Int32)
            · refine XS.icmpYes X32.here hx rfl (pc0 := 253) (pc' := 263) rfl (hb hby at_253) rfl (tlt c42).1 (by decide) (by decide) ?_
              show Steps p.tables e below (T32.setTop (mkF m 263 #[.val (.int p1), .val (.int p2), .val (.int p3), .val (.int p4), .val (.int p5), .val (.int (own_kk p1)), .val (.int (own_ll p1)), .val (.int (own_c0 p1)), .val (.int (own_c1 p1)), .val (.int (own_b (own_bit1 p5))), .val (.int (own_b (own_bit2 p5))), .val (.int (own_b (own_bit4 p5))), .val (.int (own_k2 p1 p2 p5)), .val (.int (own_l2 p1 p2 p5)), .val (.int (own_y0 p1 p2 p5)), .val (.int (own_y1 p1 p2 p5)), .val (.int (own_q2 p3 p4 p5)), .val (.ref b17), .val (.ref b27), .unset, .unset, .unset] [])) _
              refine XS.iloadN X32.here hx rfl (hb hby at_263) rfl ?_
              show Steps p.tables e below (T32.setTop (mkF m 264 #[.val (.int p1), .val (.int p2), .val (.int p3), .val (.int p4), .val (.int p5), .val (.int (own_kk p1)), .val (.int (own_ll p1)), .val (.int (own_c0 p1)), .val (.int (own_c1 p1)), .val (.int (own_b (own_bit1 p5))), .val (.int (own_b (own_bit2 p5))), .val (.int (own_b (own_bit4 p5))), .val (.int (own_k2 p1 p2 p5)), .val (.int (own_l2 p1 p2 p5)), .val (.int (own_y0 p1 p2 p5)), .val (.int (own_y1 p1 p2 p5)), .val (.int (own_q2 p3 p4 p5)), .val (.ref b17), .val (.ref b27), .unset, .unset, .unset] [(.int p3)])) _
              refine XS.iload X32.here hx rfl (hb hby at_264) rfl ?_
              show Steps p.tables e below (T32.setTop (mkF m 266 #[.val (.int p1), .val (.int p2), .val (.int p3), .val (.int p4), .val (.int p5), .val (.int (own_kk p1)), .val (.int (own_ll p1)), .val (.int (own_c0 p1)), .val (.int (own_c1 p1)), .val (.int (own_b (own_bit1 p5))), .val (.int (own_b (own_bit2 p5))), .val (.int (own_b (own_bit4 p5))), .val (.int (own_k2 p1 p2 p5)), .val (.int (own_l2 p1 p2 p5)), .val (.int (own_y0 p1 p2 p5)), .val (.int (own_y1 p1 p2 p5)), .val (.int (own_q2 p3 p4 p5)), .val (.ref b17), .val (.ref b27), .unset, .unset, .unset] [(.int (own_q2 p3 p4 p5)), (.int p3)])) _
              by_cases c43 : p3 = (own_q2 p3 p4 p5)
              · refine XS.icmpNo X32.here hx rfl (hb hby at_266) rfl (teq c43).2 ?_
                show Steps p.tables e below (T32.setTop (mkF m 269 #[.val (.int p1), .val (.int p2), .val (.int p3), .val (.int p4), .val (.int p5), .val (.int (own_kk p1)), .val (.int (own_ll p1)), .val (.int (own_c0 p1)), .val (.int (own_c1 p1)), .val (.int (own_b (own_bit1 p5))), .val (.int (own_b (own_bit2 p5))), .val (.int (own_b (own_bit4 p5))), .val (.int (own_k2 p1 p2 p5)), .val (.int (own_l2 p1 p2 p5)), .val (.int (own_y0 p1 p2 p5)), .val (.int (own_y1 p1 p2 p5)), .val (.int (own_q2 p3 p4 p5)), .val (.ref b17), .val (.ref b27), .unset, .unset, .unset] [])) _
                refine XS.iconst X32.here hx rfl (hb hby at_269) ?_
                show Steps p.tables e below (T32.setTop (mkF m 270 #[.val (.int p1), .val (.int p2), .val (.int p3), .val (.int p4), .val (.int p5), .val (.int (own_kk p1)), .val (.int (own_ll p1)), .val (.int (own_c0 p1)), .val (.int (own_c1 p1)), .val (.int (own_b (own_bit1 p5))), .val (.int (own_b (own_bit2 p5))), .val (.int (own_b (own_bit4 p5))), .val (.int (own_k2 p1 p2 p5)), .val (.int (own_l2 p1 p2 p5)), .val (.int (own_y0 p1 p2 p5)), .val (.int (own_y1 p1 p2 p5)), .val (.int (own_q2 p3 p4 p5)), .val (.ref b17), .val (.ref b27), .unset, .unset, .unset] [(.int (1 : Int32))])) _
                refine XS.goto X32.here hx rfl (pc0 := 270) (pc' := 274) rfl (hb hby at_270) (by decide) (by decide) ?_
                have ev : (own_ex p1 p2 p3 p4 p5) = (1 : Int32) := by rw [own_ex, own_exp, if_pos c39, if_pos c40, if_pos c41, if_pos c42, if_pos c43]
                rw [ev] at kk
                exact kk
              · refine XS.icmpYes X32.here hx rfl (pc0 := 266) (pc' := 273) rfl (hb hby at_266) rfl (feq c43).2 (by decide) (by decide) ?_
                show Steps p.tables e below (T32.setTop (mkF m 273 #[.val (.int p1), .val (.int p2), .val (.int p3), .val (.int p4), .val (.int p5), .val (.int (own_kk p1)), .val (.int (own_ll p1)), .val (.int (own_c0 p1)), .val (.int (own_c1 p1)), .val (.int (own_b (own_bit1 p5))), .val (.int (own_b (own_bit2 p5))), .val (.int (own_b (own_bit4 p5))), .val (.int (own_k2 p1 p2 p5)), .val (.int (own_l2 p1 p2 p5)), .val (.int (own_y0 p1 p2 p5)), .val (.int (own_y1 p1 p2 p5)), .val (.int (own_q2 p3 p4 p5)), .val (.ref b17), .val (.ref b27), .unset, .unset, .unset] [])) _
                refine XS.iconst X32.here hx rfl (hb hby at_273) ?_
                have ev : (own_ex p1 p2 p3 p4 p5) = (0 : Int32) := by rw [own_ex, own_exp, if_pos c39, if_pos c40, if_pos c41, if_pos c42, if_neg c43]
                rw [ev] at kk
                exact kk
            · refine XS.icmpNo X32.here hx rfl (hb hby at_253) rfl (flt c42).1 ?_
              show Steps p.tables e below (T32.setTop (mkF m 256 #[.val (.int p1), .val (.int p2), .val (.int p3), .val (.int p4), .val (.int p5), .val (.int (own_kk p1)), .val (.int (own_ll p1)), .val (.int (own_c0 p1)), .val (.int (own_c1 p1)), .val (.int (own_b (own_bit1 p5))), .val (.int (own_b (own_bit2 p5))), .val (.int (own_b (own_bit4 p5))), .val (.int (own_k2 p1 p2 p5)), .val (.int (own_l2 p1 p2 p5)), .val (.int (own_y0 p1 p2 p5)), .val (.int (own_y1 p1 p2 p5)), .val (.int (own_q2 p3 p4 p5)), .val (.ref b17), .val (.ref b27), .unset, .unset, .unset] [])) _
              refine XS.iload X32.here hx rfl (hb hby at_256) rfl ?_
              show Steps p.tables e below (T32.setTop (mkF m 258 #[.val (.int p1), .val (.int p2), .val (.int p3), .val (.int p4), .val (.int p5), .val (.int (own_kk p1)), .val (.int (own_ll p1)), .val (.int (own_c0 p1)), .val (.int (own_c1 p1)), .val (.int (own_b (own_bit1 p5))), .val (.int (own_b (own_bit2 p5))), .val (.int (own_b (own_bit4 p5))), .val (.int (own_k2 p1 p2 p5)), .val (.int (own_l2 p1 p2 p5)), .val (.int (own_y0 p1 p2 p5)), .val (.int (own_y1 p1 p2 p5)), .val (.int (own_q2 p3 p4 p5)), .val (.ref b17), .val (.ref b27), .unset, .unset, .unset] [(.int (own_c1 p1))])) _
              refine XS.iload X32.here hx rfl (hb hby at_258) rfl ?_
              show Steps p.tables e below (T32.setTop (mkF m 260 #[.val (.int p1), .val (.int p2), .val (.int p3), .val (.int p4), .val (.int p5), .val (.int (own_kk p1)), .val (.int (own_ll p1)), .val (.int (own_c0 p1)), .val (.int (own_c1 p1)), .val (.int (own_b (own_bit1 p5))), .val (.int (own_b (own_bit2 p5))), .val (.int (own_b (own_bit4 p5))), .val (.int (own_k2 p1 p2 p5)), .val (.int (own_l2 p1 p2 p5)), .val (.int (own_y0 p1 p2 p5)), .val (.int (own_y1 p1 p2 p5)), .val (.int (own_q2 p3 p4 p5)), .val (.ref b17), .val (.ref b27), .unset, .unset, .unset] [(.int (own_y1 p1 p2 p5)), (.int (own_c1 p1))])) _
              by_cases c44 : (own_c1 p1) = (own_y1 p1 p2 p5)
              · refine XS.icmpNo X32.here hx rfl (hb hby at_260) rfl (teq c44).2 ?_
                show Steps p.tables e below (T32.setTop (mkF m 263 #[.val (.int p1), .val (.int p2), .val (.int p3), .val (.int p4), .val (.int p5), .val (.int (own_kk p1)), .val (.int (own_ll p1)), .val (.int (own_c0 p1)), .val (.int (own_c1 p1)), .val (.int (own_b (own_bit1 p5))), .val (.int (own_b (own_bit2 p5))), .val (.int (own_b (own_bit4 p5))), .val (.int (own_k2 p1 p2 p5)), .val (.int (own_l2 p1 p2 p5)), .val (.int (own_y0 p1 p2 p5)), .val (.int (own_y1 p1 p2 p5)), .val (.int (own_q2 p3 p4 p5)), .val (.ref b17), .val (.ref b27), .unset, .unset, .unset] [])) _
                refine XS.iloadN X32.here hx rfl (hb hby at_263) rfl ?_
                show Steps p.tables e below (T32.setTop (mkF m 264 #[.val (.int p1), .val (.int p2), .val (.int p3), .val (.int p4), .val (.int p5), .val (.int (own_kk p1)), .val (.int (own_ll p1)), .val (.int (own_c0 p1)), .val (.int (own_c1 p1)), .val (.int (own_b (own_bit1 p5))), .val (.int (own_b (own_bit2 p5))), .val (.int (own_b (own_bit4 p5))), .val (.int (own_k2 p1 p2 p5)), .val (.int (own_l2 p1 p2 p5)), .val (.int (own_y0 p1 p2 p5)), .val (.int (own_y1 p1 p2 p5)), .val (.int (own_q2 p3 p4 p5)), .val (.ref b17), .val (.ref b27), .unset, .unset, .unset] [(.int p3)])) _
                refine XS.iload X32.here hx rfl (hb hby at_264) rfl ?_
                show Steps p.tables e below (T32.setTop (mkF m 266 #[.val (.int p1), .val (.int p2), .val (.int p3), .val (.int p4), .val (.int p5), .val (.int (own_kk p1)), .val (.int (own_ll p1)), .val (.int (own_c0 p1)), .val (.int (own_c1 p1)), .val (.int (own_b (own_bit1 p5))), .val (.int (own_b (own_bit2 p5))), .val (.int (own_b (own_bit4 p5))), .val (.int (own_k2 p1 p2 p5)), .val (.int (own_l2 p1 p2 p5)), .val (.int (own_y0 p1 p2 p5)), .val (.int (own_y1 p1 p2 p5)), .val (.int (own_q2 p3 p4 p5)), .val (.ref b17), .val (.ref b27), .unset, .unset, .unset] [(.int (own_q2 p3 p4 p5)), (.int p3)])) _
                by_cases c45 : p3 = (own_q2 p3 p4 p5)
                · refine XS.icmpNo X32.here hx rfl (hb hby at_266) rfl (teq c45).2 ?_
                  show Steps p.tables e below (T32.setTop (mkF m 269 #[.val (.int p1), .val (.int p2), .val (.int p3), .val (.int p4), .val (.int p5), .val (.int (own_kk p1)), .val (.int (own_ll p1)), .val (.int (own_c0 p1)), .val (.int (own_c1 p1)), .val (.int (own_b (own_bit1 p5))), .val (.int (own_b (own_bit2 p5))), .val (.int (own_b (own_bit4 p5))), .val (.int (own_k2 p1 p2 p5)), .val (.int (own_l2 p1 p2 p5)), .val (.int (own_y0 p1 p2 p5)), .val (.int (own_y1 p1 p2 p5)), .val (.int (own_q2 p3 p4 p5)), .val (.ref b17), .val (.ref b27), .unset, .unset, .unset] [])) _
                  refine XS.iconst X32.here hx rfl (hb hby at_269) ?_
                  show Steps p.tables e below (T32.setTop (mkF m 270 #[.val (.int p1), .val (.int p2), .val (.int p3), .val (.int p4), .val (.int p5), .val (.int (own_kk p1)), .val (.int (own_ll p1)), .val (.int (own_c0 p1)), .val (.int (own_c1 p1)), .val (.int (own_b (own_bit1 p5))), .val (.int (own_b (own_bit2 p5))), .val (.int (own_b (own_bit4 p5))), .val (.int (own_k2 p1 p2 p5)), .val (.int (own_l2 p1 p2 p5)), .val (.int (own_y0 p1 p2 p5)), .val (.int (own_y1 p1 p2 p5)), .val (.int (own_q2 p3 p4 p5)), .val (.ref b17), .val (.ref b27), .unset, .unset, .unset] [(.int (1 : Int32))])) _
                  refine XS.goto X32.here hx rfl (pc0 := 270) (pc' := 274) rfl (hb hby at_270) (by decide) (by decide) ?_
                  have ev : (own_ex p1 p2 p3 p4 p5) = (1 : Int32) := by rw [own_ex, own_exp, if_pos c39, if_pos c40, if_pos c41, if_neg c42, if_pos c44, if_pos c45]
                  rw [ev] at kk
                  exact kk
                · refine XS.icmpYes X32.here hx rfl (pc0 := 266) (pc' := 273) rfl (hb hby at_266) rfl (feq c45).2 (by decide) (by decide) ?_
                  show Steps p.tables e below (T32.setTop (mkF m 273 #[.val (.int p1), .val (.int p2), .val (.int p3), .val (.int p4), .val (.int p5), .val (.int (own_kk p1)), .val (.int (own_ll p1)), .val (.int (own_c0 p1)), .val (.int (own_c1 p1)), .val (.int (own_b (own_bit1 p5))), .val (.int (own_b (own_bit2 p5))), .val (.int (own_b (own_bit4 p5))), .val (.int (own_k2 p1 p2 p5)), .val (.int (own_l2 p1 p2 p5)), .val (.int (own_y0 p1 p2 p5)), .val (.int (own_y1 p1 p2 p5)), .val (.int (own_q2 p3 p4 p5)), .val (.ref b17), .val (.ref b27), .unset, .unset, .unset] [])) _
                  refine XS.iconst X32.here hx rfl (hb hby at_273) ?_
                  have ev : (own_ex p1 p2 p3 p4 p5) = (0 : Int32) := by rw [own_ex, own_exp, if_pos c39, if_pos c40, if_pos c41, if_neg c42, if_pos c44, if_neg c45]
                  rw [ev] at kk
                  exact kk
              · refine XS.icmpYes X32.here hx rfl (pc0 := 260) (pc' := 273) rfl (hb hby at_260) rfl (feq c44).2 (by decide) (by decide) ?_
                show Steps p.tables e below (T32.setTop (mkF m 273 #[.val (.int p1), .val (.int p2), .val (.int p3), .val (.int p4), .val (.int p5), .val (.int (own_kk p1)), .val (.int (own_ll p1)), .val (.int (own_c0 p1)), .val (.int (own_c1 p1)), .val (.int (own_b (own_bit1 p5))), .val (.int (own_b (own_bit2 p5))), .val (.int (own_b (own_bit4 p5))), .val (.int (own_k2 p1 p2 p5)), .val (.int (own_l2 p1 p2 p5)), .val (.int (own_y0 p1 p2 p5)), .val (.int (own_y1 p1 p2 p5)), .val (.int (own_q2 p3 p4 p5)), .val (.ref b17), .val (.ref b27), .unset, .unset, .unset] [])) _
                refine XS.iconst X32.here hx rfl (hb hby at_273) ?_
                have ev : (own_ex p1 p2 p3 p4 p5) = (0 : Int32) := by rw [own_ex, own_exp, if_pos c39, if_pos c40, if_pos c41, if_neg c42, if_neg c44]
                rw [ev] at kk
                exact kk
          · refine XS.icmpNo X32.here hx rfl (hb hby at_240) rfl (flt c41).1 ?_
            show Steps p.tables e below (T32.setTop (mkF m 243 #[.val (.int p1), .val (.int p2), .val (.int p3), .val (.int p4), .val (.int p5), .val (.int (own_kk p1)), .val (.int (own_ll p1)), .val (.int (own_c0 p1)), .val (.int (own_c1 p1)), .val (.int (own_b (own_bit1 p5))), .val (.int (own_b (own_bit2 p5))), .val (.int (own_b (own_bit4 p5))), .val (.int (own_k2 p1 p2 p5)), .val (.int (own_l2 p1 p2 p5)), .val (.int (own_y0 p1 p2 p5)), .val (.int (own_y1 p1 p2 p5)), .val (.int (own_q2 p3 p4 p5)), .val (.ref b17), .val (.ref b27), .unset, .unset, .unset] [])) _
            refine XS.iload X32.here hx rfl (hb hby at_243) rfl ?_
            show Steps p.tables e below (T32.setTop (mkF m 245 #[.val (.int p1), .val (.int p2), .val (.int p3), .val (.int p4), .val (.int p5), .val (.int (own_kk p1)), .val (.int (own_ll p1)), .val (.int (own_c0 p1)), .val (.int (own_c1 p1)), .val (.int (own_b (own_bit1 p5))), .val (.int (own_b (own_bit2 p5))), .val (.int (own_b (own_bit4 p5))), .val (.int (own_k2 p1 p2 p5)), .val (.int (own_l2 p1 p2 p5)), .val (.int (own_y0 p1 p2 p5)), .val (.int (own_y1 p1 p2 p5)), .val (.int (own_q2 p3 p4 p5)), .val (.ref b17), .val (.ref b27), .unset, .unset, .unset] [(.int (own_c0 p1))])) _
            refine XS.iload X32.here hx rfl (hb hby at_245) rfl ?_
            show Steps p.tables e below (T32.setTop (mkF m 247 #[.val (.int p1), .val (.int p2), .val (.int p3), .val (.int p4), .val (.int p5), .val (.int (own_kk p1)), .val (.int (own_ll p1)), .val (.int (own_c0 p1)), .val (.int (own_c1 p1)), .val (.int (own_b (own_bit1 p5))), .val (.int (own_b (own_bit2 p5))), .val (.int (own_b (own_bit4 p5))), .val (.int (own_k2 p1 p2 p5)), .val (.int (own_l2 p1 p2 p5)), .val (.int (own_y0 p1 p2 p5)), .val (.int (own_y1 p1 p2 p5)), .val (.int (own_q2 p3 p4 p5)), .val (.ref b17), .val (.ref b27), .unset, .unset, .unset] [(.int (own_y0 p1 p2 p5)), (.int (own_c0 p1))])) _
            by_cases c46 : (own_c0 p1) = (own_y0 p1 p2 p5)
            · refine XS.icmpNo X32.here hx rfl (hb hby at_247) rfl (teq c46).2 ?_
              show Steps p.tables e below (T32.setTop (mkF m 250 #[.val (.int p1), .val (.int p2), .val (.int p3), .val (.int p4), .val (.int p5), .val (.int (own_kk p1)), .val (.int (own_ll p1)), .val (.int (own_c0 p1)), .val (.int (own_c1 p1)), .val (.int (own_b (own_bit1 p5))), .val (.int (own_b (own_bit2 p5))), .val (.int (own_b (own_bit4 p5))), .val (.int (own_k2 p1 p2 p5)), .val (.int (own_l2 p1 p2 p5)), .val (.int (own_y0 p1 p2 p5)), .val (.int (own_y1 p1 p2 p5)), .val (.int (own_q2 p3 p4 p5)), .val (.ref b17), .val (.ref b27), .unset, .unset, .unset] [])) _
              refine XS.iload X32.here hx rfl (hb hby at_250) rfl ?_
              show Steps p.tables e below (T32.setTop (mkF m 252 #[.val (.int p1), .val (.int p2), .val (.int p3), .val (.int p4), .val (.int p5), .val (.int (own_kk p1)), .val (.int (own_ll p1)), .val (.int (own_c0 p1)), .val (.int (own_c1 p1)), .val (.int (own_b (own_bit1 p5))), .val (.int (own_b (own_bit2 p5))), .val (.int (own_b (own_bit4 p5))), .val (.int (own_k2 p1 p2 p5)), .val (.int (own_l2 p1 p2 p5)), .val (.int (own_y0 p1 p2 p5)), .val (.int (own_y1 p1 p2 p5)), .val (.int (own_q2 p3 p4 p5)), .val (.ref b17), .val (.ref b27), .unset, .unset, .unset] [(.int (own_ll p1))])) _
              refine XS.iconst X32.here hx rfl (hb hby at_252) ?_
              show Steps p.tables e below (T32.setTop (mkF m 253 #[.val (.int p1), .val (.int p2), .val (.int p3), .val (.int p4), .val (.int p5), .val (.int (own_kk p1)), .val (.int (own_ll p1)), .val (.int (own_c0 p1)), .val (.int (own_c1 p1)), .val (.int (own_b (own_bit1 p5))), .val (.int (own_b (own_bit2 p5))), .val (.int (own_b (own_bit4 p5))), .val (.int (own_k2 p1 p2 p5)), .val (.int (own_l2 p1 p2 p5)), .val (.int (own_y0 p1 p2 p5)), .val (.int (own_y1 p1 p2 p5)), .val (.int (own_q2 p3 p4 p5)), .val (.ref b17), .val (.ref b27), .unset, .unset, .unset] [(.int (2 : Int32)), (.int (own_ll p1))])) _
              by_cases c47 : (own_ll p1) < (2 : Int32)
              · refine XS.icmpYes X32.here hx rfl (pc0 := 253) (pc' := 263) rfl (hb hby at_253) rfl (tlt c47).1 (by decide) (by decide) ?_
                show Steps p.tables e below (T32.setTop (mkF m 263 #[.val (.int p1), .val (.int p2), .val (.int p3), .val (.int p4), .val (.int p5), .val (.int (own_kk p1)), .val (.int (own_ll p1)), .val (.int (own_c0 p1)), .val (.int (own_c1 p1)), .val (.int (own_b (own_bit1 p5))), .val (.int (own_b (own_bit2 p5))), .val (.int (own_b (own_bit4 p5))), .val (.int (own_k2 p1 p2 p5)), .val (.int (own_l2 p1 p2 p5)), .val (.int (own_y0 p1 p2 p5)), .val (.int (own_y1 p1 p2 p5)), .val (.int (own_q2 p3 p4 p5)), .val (.ref b17), .val (.ref b27), .unset, .unset, .unset] [])) _
                refine XS.iloadN X32.here hx rfl (hb hby at_263) rfl ?_
                show Steps p.tables e below (T32.setTop (mkF m 264 #[.val (.int p1), .val (.int p2), .val (.int p3), .val (.int p4), .val (.int p5), .val (.int (own_kk p1)), .val (.int (own_ll p1)), .val (.int (own_c0 p1)), .val (.int (own_c1 p1)), .val (.int (own_b (own_bit1 p5))), .val (.int (own_b (own_bit2 p5))), .val (.int (own_b (own_bit4 p5))), .val (.int (own_k2 p1 p2 p5)), .val (.int (own_l2 p1 p2 p5)), .val (.int (own_y0 p1 p2 p5)), .val (.int (own_y1 p1 p2 p5)), .val (.int (own_q2 p3 p4 p5)), .val (.ref b17), .val (.ref b27), .unset, .unset, .unset] [(.int p3)])) _
                refine XS.iload X32.here hx rfl (hb hby at_264) rfl ?_
                show Steps p.tables e below (T32.setTop (mkF m 266 #[.val (.int p1), .val (.int p2), .val (.int p3), .val (.int p4), .val (.int p5), .val (.int (own_kk p1)), .val (.int (own_ll p1)), .val (.int (own_c0 p1)), .val (.int (own_c1 p1)), .val (.int (own_b (own_bit1 p5))), .val (.int (own_b (own_bit2 p5))), .val (.int (own_b (own_bit4 p5))), .val (.int (own_k2 p1 p2 p5)), .val (.int (own_l2 p1 p2 p5)), .val (.int (own_y0 p1 p2 p5)), .val (.int (own_y1 p1 p2 p5)), .val (.int (own_q2 p3 p4 p5)), .val (.ref b17), .val (.ref b27), .unset, .unset, .unset] [(.int (own_q2 p3 p4 p5)), (.int p3)])) _
                by_cases c48 : p3 = (own_q2 p3 p4 p5)
                · refine XS.icmpNo X32.here hx rfl (hb hby at_266) rfl (teq c48).2 ?_
                  show Steps p.tables e below (T32.setTop (mkF m 269 #[.val (.int p1), .val (.int p2), .val (.int p3), .val (.int p4), .val (.int p5), .val (.int (own_kk p1)), .val (.int (own_ll p1)), .val (.int (own_c0 p1)), .val (.int (own_c1 p1)), .val (.int (own_b (own_bit1 p5))), .val (.int (own_b (own_bit2 p5))), .val (.int (own_b (own_bit4 p5))), .val (.int (own_k2 p1 p2 p5)), .val (.int (own_l2 p1 p2 p5)), .val (.int (own_y0 p1 p2 p5)), .val (.int (own_y1 p1 p2 p5)), .val (.int (own_q2 p3 p4 p5)), .val (.ref b17), .val (.ref b27), .unset, .unset, .unset] [])) _
                  refine XS.iconst X32.here hx rfl (hb hby at_269) ?_
                  show Steps p.tables e below (T32.setTop (mkF m 270 #[.val (.int p1), .val (.int p2), .val (.int p3), .val (.int p4), .val (.int p5), .val (.int (own_kk p1)), .val (.int (own_ll p1)), .val (.int (own_c0 p1)), .val (.int (own_c1 p1)), .val (.int (own_b (own_bit1 p5))), .val (.int (own_b (own_bit2 p5))), .val (.int (own_b (own_bit4 p5))), .val (.int (own_k2 p1 p2 p5)), .val (.int (own_l2 p1 p2 p5)), .val (.int (own_y0 p1 p2 p5)), .val (.int (own_y1 p1 p2 p5)), .val (.int (own_q2 p3 p4 p5)), .val (.ref b17), .val (.ref b27), .unset, .unset, .unset] [(.int (1 : Int32))])) _
                  refine XS.goto X32.here hx rfl (pc0 := 270) (pc' := 274) rfl (hb hby at_270) (by decide) (by decide) ?_
                  have ev : (own_ex p1 p2 p3 p4 p5) = (1 : Int32) := by rw [own_ex, own_exp, if_pos c39, if_pos c40, if_neg c41, if_pos c46, if_pos c47, if_pos c48]
                  rw [ev] at kk
                  exact kk
                · refine XS.icmpYes X32.here hx rfl (pc0 := 266) (pc' := 273) rfl (hb hby at_266) rfl (feq c48).2 (by decide) (by decide) ?_
                  show Steps p.tables e below (T32.setTop (mkF m 273 #[.val (.int p1), .val (.int p2), .val (.int p3), .val (.int p4), .val (.int p5), .val (.int (own_kk p1)), .val (.int (own_ll p1)), .val (.int (own_c0 p1)), .val (.int (own_c1 p1)), .val (.int (own_b (own_bit1 p5))), .val (.int (own_b (own_bit2 p5))), .val (.int (own_b (own_bit4 p5))), .val (.int (own_k2 p1 p2 p5)), .val (.int (own_l2 p1 p2 p5)), .val (.int (own_y0 p1 p2 p5)), .val (.int (own_y1 p1 p2 p5)), .val (.int (own_q2 p3 p4 p5)), .val (.ref b17), .val (.ref b27), .unset, .unset, .unset] [])) _
                  refine XS.iconst X32.here hx rfl (hb hby at_273) ?_
                  have ev : (own_ex p1 p2 p3 p4 p5) = (0 : Int32) := by rw [own_ex, own_exp, if_pos c39, if_pos c40, if_neg c41, if_pos c46, if_pos c47, if_neg c48]
                  rw [ev] at kk
                  exact kk
              · refine XS.icmpNo X32.here hx rfl (hb hby at_253) rfl (flt c47).1 ?_
                show Steps p.tables e below (T32.setTop (mkF m 256 #[.val (.int p1), .val (.int p2), .val (.int p3), .val (.int p4), .val (.int p5), .val (.int (own_kk p1)), .val (.int (own_ll p1)), .val (.int (own_c0 p1)), .val (.int (own_c1 p1)), .val (.int (own_b (own_bit1 p5))), .val (.int (own_b (own_bit2 p5))), .val (.int (own_b (own_bit4 p5))), .val (.int (own_k2 p1 p2 p5)), .val (.int (own_l2 p1 p2 p5)), .val (.int (own_y0 p1 p2 p5)), .val (.int (own_y1 p1 p2 p5)), .val (.int (own_q2 p3 p4 p5)), .val (.ref b17), .val (.ref b27), .unset, .unset, .unset] [])) _
                refine XS.iload X32.here hx rfl (hb hby at_256) rfl ?_
                show Steps p.tables e below (T32.setTop (mkF m 258 #[.val (.int p1), .val (.int p2), .val (.int p3), .val (.int p4), .val (.int p5), .val (.int (own_kk p1)), .val (.int (own_ll p1)), .val (.int (own_c0 p1)), .val (.int (own_c1 p1)), .val (.int (own_b (own_bit1 p5))), .val (.int (own_b (own_bit2 p5))), .val (.int (own_b (own_bit4 p5))), .val (.int (own_k2 p1 p2 p5)), .val (.int (own_l2 p1 p2 p5)), .val (.int (own_y0 p1 p2 p5)), .val (.int (own_y1 p1 p2 p5)), .val (.int (own_q2 p3 p4 p5)), .val (.ref b17), .val (.ref b27), .unset, .unset, .unset] [(.int (own_c1 p1))])) _
                refine XS.iload X32.here hx rfl (hb hby at_258) rfl ?_
                show Steps p.tables e below (T32.setTop (mkF m 260 #[.val (.int p1), .val (.int p2), .val (.int p3), .val (.int p4), .val (.int p5), .val (.int (own_kk p1)), .val (.int (own_ll p1)), .val (.int (own_c0 p1)), .val (.int (own_c1 p1)), .val (.int (own_b (own_bit1 p5))), .val (.int (own_b (own_bit2 p5))), .val (.int (own_b (own_bit4 p5))), .val (.int (own_k2 p1 p2 p5)), .val (.int (own_l2 p1 p2 p5)), .val (.int (own_y0 p1 p2 p5)), .val (.int (own_y1 p1 p2 p5)), .val (.int (own_q2 p3 p4 p5)), .val (.ref b17), .val (.ref b27), .unset, .unset, .unset] [(.int (own_y1 p1 p2 p5)), (.int (own_c1 p1))])) _
                by_cases c49 : (own_c1 p1) = (own_y1 p1 p2 p5)
                · refine XS.icmpNo X32.here hx rfl (hb hby at_260) rfl (teq c49).2 ?_
                  show Steps p.tables e below (T32.setTop (mkF m 263 #[.val (.int p1), .val (.int p2), .val (.int p3), .val (.int p4), .val (.int p5), .val (.int (own_kk p1)), .val (.int (own_ll p1)), .val (.int (own_c0 p1)), .val (.int (own_c1 p1)), .val (.int (own_b (own_bit1 p5))), .val (.int (own_b (own_bit2 p5))), .val (.int (own_b (own_bit4 p5))), .val (.int (own_k2 p1 p2 p5)), .val (.int (own_l2 p1 p2 p5)), .val (.int (own_y0 p1 p2 p5)), .val (.int (own_y1 p1 p2 p5)), .val (.int (own_q2 p3 p4 p5)), .val (.ref b17), .val (.ref b27), .unset, .unset, .unset] [])) _
                  refine XS.iloadN X32.here hx rfl (hb hby at_263) rfl ?_
                  show Steps p.tables e below (T32.setTop (mkF m 264 #[.val (.int p1), .val (.int p2), .val (.int p3), .val (.int p4), .val (.int p5), .val (.int (own_kk p1)), .val (.int (own_ll p1)), .val (.int (own_c0 p1)), .val (.int (own_c1 p1)), .val (.int (own_b (own_bit1 p5))), .val (.int (own_b (own_bit2 p5))), .val (.int (own_b (own_bit4 p5))), .val (.int (own_k2 p1 p2 p5)), .val (.int (own_l2 p1 p2 p5)), .val (.int (own_y0 p1 p2 p5)), .val (.int (own_y1 p1 p2 p5)), .val (.int (own_q2 p3 p4 p5)), .val (.ref b17), .val (.ref b27), .unset, .unset, .unset] [(.int p3)])) _
                  refine XS.iload X32.here hx rfl (hb hby at_264) rfl ?_
                  show Steps p.tables e below (T32.setTop (mkF m 266 #[.val (.int p1), .val (.int p2), .val (.int p3), .val (.int p4), .val (.int p5), .val (.int (own_kk p1)), .val (.int (own_ll p1)), .val (.int (own_c0 p1)), .val (.int (own_c1 p1)), .val (.int (own_b (own_bit1 p5))), .val (.int (own_b (own_bit2 p5))), .val (.int (own_b (own_bit4 p5))), .val (.int (own_k2 p1 p2 p5)), .val (.int (own_l2 p1 p2 p5)), .val (.int (own_y0 p1 p2 p5)), .val (.int (own_y1 p1 p2 p5)), .val (.int (own_q2 p3 p4 p5)), .val (.ref b17), .val (.ref b27), .unset, .unset, .unset] [(.int (own_q2 p3 p4 p5)), (.int p3)])) _
                  by_cases c50 : p3 = (own_q2 p3 p4 p5)
                  · refine XS.icmpNo X32.here hx rfl (hb hby at_266) rfl (teq c50).2 ?_
                    show Steps p.tables e below (T32.setTop (mkF m 269 #[.val (.int p1), .val (.int p2), .val (.int p3), .val (.int p4), .val (.int p5), .val (.int (own_kk p1)), .val (.int (own_ll p1)), .val (.int (own_c0 p1)), .val (.int (own_c1 p1)), .val (.int (own_b (own_bit1 p5))), .val (.int (own_b (own_bit2 p5))), .val (.int (own_b (own_bit4 p5))), .val (.int (own_k2 p1 p2 p5)), .val (.int (own_l2 p1 p2 p5)), .val (.int (own_y0 p1 p2 p5)), .val (.int (own_y1 p1 p2 p5)), .val (.int (own_q2 p3 p4 p5)), .val (.ref b17), .val (.ref b27), .unset, .unset, .unset] [])) _
                    refine XS.iconst X32.here hx rfl (hb hby at_269) ?_
                    show Steps p.tables e below (T32.setTop (mkF m 270 #[.val (.int p1), .val (.int p2), .val (.int p3), .val (.int p4), .val (.int p5), .val (.int (own_kk p1)), .val (.int (own_ll p1)), .val (.int (own_c0 p1)), .val (.int (own_c1 p1)), .val (.int (own_b (own_bit1 p5))), .val (.int (own_b (own_bit2 p5))), .val (.int (own_b (own_bit4 p5))), .val (.int (own_k2 p1 p2 p5)), .val (.int (own_l2 p1 p2 p5)), .val (.int (own_y0 p1 p2 p5)), .val (.int (own_y1 p1 p2 p5)), .val (.int (own_q2 p3 p4 p5)), .val (.ref b17), .val (.ref b27), .unset, .unset, .unset] [(.int (1 : Int32))])) _
                    refine XS.goto X32.here hx rfl (pc0 := 270) (pc' := 274) rfl (hb hby at_270) (by decide) (by decide) ?_
                    have ev : (own_ex p1 p2 p3 p4 p5) = (1 : Int32) := by rw [own_ex, own_exp, if_pos c39, if_pos c40, if_neg c41, if_pos c46, if_neg c47, if_pos c49, if_pos c50]
                    rw [ev] at kk
                    exact kk
                  · refine XS.icmpYes X32.here hx rfl (pc0 := 266) (pc' := 273) rfl (hb hby at_266) rfl (feq c50).2 (by decide) (by decide) ?_
                    show Steps p.tables e below (T32.setTop (mkF m 273 #[.val (.int p1), .val (.int p2), .val (.int p3), .val (.int p4), .val (.int p5), .val (.int (own_kk p1)), .val (.int (own_ll p1)), .val (.int (own_c0 p1)), .val (.int (own_c1 p1)), .val (.int (own_b (own_bit1 p5))), .val (.int (own_b (own_bit2 p5))), .val (.int (own_b (own_bit4 p5))), .val (.int (own_k2 p1 p2 p5)), .val (.int (own_l2 p1 p2 p5)), .val (.int (own_y0 p1 p2 p5)), .val (.int (own_y1 p1 p2 p5)), .val (.int (own_q2 p3 p4 p5)), .val (.ref b17), .val (.ref b27), .unset, .unset, .unset] [])) _
                    refine XS.iconst X32.here hx rfl (hb hby at_273) ?_
                    have ev : (own_ex p1 p2 p3 p4 p5) = (0 : Int32) := by rw [own_ex, own_exp, if_pos c39, if_pos c40, if_neg c41, if_pos c46, if_neg c47, if_pos c49, if_neg c50]
                    rw [ev] at kk
                    exact kk
                · refine XS.icmpYes X32.here hx rfl (pc0 := 260) (pc' := 273) rfl (hb hby at_260) rfl (feq c49).2 (by decide) (by decide) ?_
                  show Steps p.tables e below (T32.setTop (mkF m 273 #[.val (.int p1), .val (.int p2), .val (.int p3), .val (.int p4), .val (.int p5), .val (.int (own_kk p1)), .val (.int (own_ll p1)), .val (.int (own_c0 p1)), .val (.int (own_c1 p1)), .val (.int (own_b (own_bit1 p5))), .val (.int (own_b (own_bit2 p5))), .val (.int (own_b (own_bit4 p5))), .val (.int (own_k2 p1 p2 p5)), .val (.int (own_l2 p1 p2 p5)), .val (.int (own_y0 p1 p2 p5)), .val (.int (own_y1 p1 p2 p5)), .val (.int (own_q2 p3 p4 p5)), .val (.ref b17), .val (.ref b27), .unset, .unset, .unset] [])) _
                  refine XS.iconst X32.here hx rfl (hb hby at_273) ?_
                  have ev : (own_ex p1 p2 p3 p4 p5) = (0 : Int32) := by rw [own_ex, own_exp, if_pos c39, if_pos c40, if_neg c41, if_pos c46, if_neg c47, if_neg c49]
                  rw [ev] at kk
                  exact kk
            · refine XS.icmpYes X32.here hx rfl (pc0 := 247) (pc' := 273) rfl (hb hby at_247) rfl (feq c46).2 (by decide) (by decide) ?_
              show Steps p.tables e below (T32.setTop (mkF m 273 #[.val (.int p1), .val (.int p2), .val (.int p3), .val (.int p4), .val (.int p5), .val (.int (own_kk p1)), .val (.int (own_ll p1)), .val (.int (own_c0 p1)), .val (.int (own_c1 p1)), .val (.int (own_b (own_bit1 p5))), .val (.int (own_b (own_bit2 p5))), .val (.int (own_b (own_bit4 p5))), .val (.int (own_k2 p1 p2 p5)), .val (.int (own_l2 p1 p2 p5)), .val (.int (own_y0 p1 p2 p5)), .val (.int (own_y1 p1 p2 p5)), .val (.int (own_q2 p3 p4 p5)), .val (.ref b17), .val (.ref b27), .unset, .unset, .unset] [])) _
              refine XS.iconst X32.here hx rfl (hb hby at_273) ?_
              have ev : (own_ex p1 p2 p3 p4 p5) = (0 : Int32) := by rw [own_ex, own_exp, if_pos c39, if_pos c40, if_neg c41, if_neg c46]
              rw [ev] at kk
              exact kk
        · refine XS.icmpYes X32.here hx rfl (pc0 := 234) (pc' := 273) rfl (hb hby at_234) rfl (feq c40).2 (by decide) (by decide) ?_
          show Steps p.tables e below (T32.setTop (mkF m 273 #[.val (.int p1), .val (.int p2), .val (.int p3), .val (.int p4), .val (.int p5), .val (.int (own_kk p1)), .val (.int (own_ll p1)), .val (.int (own_c0 p1)), .val (.int (own_c1 p1)), .val (.int (own_b (own_bit1 p5))), .val (.int (own_b (own_bit2 p5))), .val (.int (own_b (own_bit4 p5))), .val (.int (own_k2 p1 p2 p5)), .val (.int (own_l2 p1 p2 p5)), .val (.int (own_y0 p1 p2 p5)), .val (.int (own_y1 p1 p2 p5)), .val (.int (own_q2 p3 p4 p5)), .val (.ref b17), .val (.ref b27), .unset, .unset, .unset] [])) _
          refine XS.iconst X32.here hx rfl (hb hby at_273) ?_
          have ev : (own_ex p1 p2 p3 p4 p5) = (0 : Int32) := by rw [own_ex, own_exp, if_pos c39, if_neg c40]
          rw [ev] at kk
          exact kk
      · refine XS.icmpYes X32.here hx rfl (pc0 := 227) (pc' := 273) rfl (hb hby at_227) rfl (feq c39).2 (by decide) (by decide) ?_
        show Steps p.tables e below (T32.setTop (mkF m 273 #[.val (.int p1), .val (.int p2), .val (.int p3), .val (.int p4), .val (.int p5), .val (.int (own_kk p1)), .val (.int (own_ll p1)), .val (.int (own_c0 p1)), .val (.int (own_c1 p1)), .val (.int (own_b (own_bit1 p5))), .val (.int (own_b (own_bit2 p5))), .val (.int (own_b (own_bit4 p5))), .val (.int (own_k2 p1 p2 p5)), .val (.int (own_l2 p1 p2 p5)), .val (.int (own_y0 p1 p2 p5)), .val (.int (own_y1 p1 p2 p5)), .val (.int (own_q2 p3 p4 p5)), .val (.ref b17), .val (.ref b27), .unset, .unset, .unset] [])) _
        refine XS.iconst X32.here hx rfl (hb hby at_273) ?_
        have ev : (own_ex p1 p2 p3 p4 p5) = (0 : Int32) := by rw [own_ex, own_exp, if_neg c39]
        rw [ev] at kk
        exact kk
    refine tr223_38 _ ?_
    refine XS.istore X32.here hx rfl (hb hby at_274) rfl (l' := #[.val (.int p1), .val (.int p2), .val (.int p3), .val (.int p4), .val (.int p5), .val (.int (own_kk p1)), .val (.int (own_ll p1)), .val (.int (own_c0 p1)), .val (.int (own_c1 p1)), .val (.int (own_b (own_bit1 p5))), .val (.int (own_b (own_bit2 p5))), .val (.int (own_b (own_bit4 p5))), .val (.int (own_k2 p1 p2 p5)), .val (.int (own_l2 p1 p2 p5)), .val (.int (own_y0 p1 p2 p5)), .val (.int (own_y1 p1 p2 p5)), .val (.int (own_q2 p3 p4 p5)), .val (.ref b17), .val (.ref b27), .val (.int (own_ex p1 p2 p3 p4 p5)), .unset, .unset]) rfl ?_
    refine XS.iload X32.here hx rfl (hb hby at_276) rfl ?_
    show Steps p.tables e below (T32.setTop (mkF m 278 #[.val (.int p1), .val (.int p2), .val (.int p3), .val (.int p4), .val (.int p5), .val (.int (own_kk p1)), .val (.int (own_ll p1)), .val (.int (own_c0 p1)), .val (.int (own_c1 p1)), .val (.int (own_b (own_bit1 p5))), .val (.int (own_b (own_bit2 p5))), .val (.int (own_b (own_bit4 p5))), .val (.int (own_k2 p1 p2 p5)), .val (.int (own_l2 p1 p2 p5)), .val (.int (own_y0 p1 p2 p5)), .val (.int (own_y1 p1 p2 p5)), .val (.int (own_q2 p3 p4 p5)), .val (.ref b17), .val (.ref b27), .val (.int (own_ex p1 p2 p3 p4 p5)), .unset, .unset] [(.int p5)])) _
    refine XS.iconst X32.here hx rfl (hb hby at_278) ?_
    refine XS.iushr X32.here hx rfl (hb hby at_279) rfl ?_
    refine XS.iconst X32.here hx rfl (hb hby at_280) ?_
    show Steps p.tables e below (T32.setTop (mkF m 281 #[.val (.int p1), .val (.int p2), .val (.int p3), .val (.int p4), .val (.int p5), .val (.int (own_kk p1)), .val (.int (own_ll p1)), .val (.int (own_c0 p1)), .val (.int (own_c1 p1)), .val (.int (own_b (own_bit1 p5))), .val (.int (own_b (own_bit2 p5))), .val (.int (own_b (own_bit4 p5))), .val (.int (own_k2 p1 p2 p5)), .val (.int (own_l2 p1 p2 p5)), .val (.int (own_y0 p1 p2 p5)), .val (.int (own_y1 p1 p2 p5)), .val (.int (own_q2 p3 p4 p5)), .val (.ref b17), .val (.ref b27), .val (.int (own_ex p1 p2 p3 p4 p5)), .unset, .unset] [(.int (3 : Int32)), (.int ((p5.toUInt32 >>> ((3 : Int32) &&& 31).toUInt32).toInt32))])) _
    refine XS.iand X32.here hx rfl (hb hby at_281) rfl ?_
    refine XS.istore X32.here hx rfl (hb hby at_282) rfl (l' := #[.val (.int p1), .val (.int p2), .val (.int p3), .val (.int p4), .val (.int p5), .val (.int (own_kk p1)), .val (.int (own_ll p1)), .val (.int (own_c0 p1)), .val (.int (own_c1 p1)), .val (.int (own_b (own_bit1 p5))), .val (.int (own_b (own_bit2 p5))), .val (.int (own_b (own_bit4 p5))), .val (.int (own_k2 p1 p2 p5)), .val (.int (own_l2 p1 p2 p5)), .val (.int (own_y0 p1 p2 p5)), .val (.int (own_y1 p1 p2 p5)), .val (.int (own_q2 p3 p4 p5)), .val (.ref b17), .val (.ref b27), .val (.int (own_ex p1 p2 p3 p4 p5)), .val (.int (own_mode p5)), .unset]) rfl ?_
    refine XS.iload X32.here hx rfl (hb hby at_284) rfl ?_
    show Steps p.tables e below (T32.setTop (mkF m 286 #[.val (.int p1), .val (.int p2), .val (.int p3), .val (.int p4), .val (.int p5), .val (.int (own_kk p1)), .val (.int (own_ll p1)), .val (.int (own_c0 p1)), .val (.int (own_c1 p1)), .val (.int (own_b (own_bit1 p5))), .val (.int (own_b (own_bit2 p5))), .val (.int (own_b (own_bit4 p5))), .val (.int (own_k2 p1 p2 p5)), .val (.int (own_l2 p1 p2 p5)), .val (.int (own_y0 p1 p2 p5)), .val (.int (own_y1 p1 p2 p5)), .val (.int (own_q2 p3 p4 p5)), .val (.ref b17), .val (.ref b27), .val (.int (own_ex p1 p2 p3 p4 p5)), .val (.int (own_mode p5)), .unset] [(.int (own_mode p5))])) _
    refine XS.iconst X32.here hx rfl (hb hby at_286) ?_
    exact kk
  by_cases hm1 : own_mode p5 = (1 : Int32)
  · have f53 : Exa Z T32.heap b17 "com/example/mudskipper/mudskipper/jpql/Token" := ((((f22.keep K21q).ext E27).keep K30q).keep K32q)
    obtain ⟨cq52, kq52, q52a, q52b, q52c⟩ := isOf hZ32 rfl f53
    obtain ⟨_, _, ⟨T52, L52, k52, n52⟩, -, X52, ⟨Lc52, hQ52, l52, y52, z52⟩, st52⟩ := X32.virtualBack hx (y := (⟨"com/example/mudskipper/mudskipper/jpql/Token", "equals", "(Ljava/lang/Object;)Z"⟩ : MethodName)) (z := (⟨"com/example/mudskipper/mudskipper/jpql/Token", "equals", "(Ljava/lang/Object;)Z"⟩ : MethodName)) hown32 (mvT hZ32 (hw _ (List.mem_of_getElem? (i := 56) rfl))) (mvT hZ32 (hw _ (List.mem_of_getElem? (i := 57) rfl))) (notFace_of_selects (args := #[]) (mvT hZ32 (hw _ (List.mem_of_getElem? (i := 59) rfl)))) (mvT hZ32 (hw _ (List.mem_of_getElem? (i := 59) rfl))) (mvT hZ32 (hw _ (List.mem_of_getElem? (i := 58) rfl))) (by decide) (backOf (W := 0) (re_null l Z a0 hw [] b17 T32.heap n0 (Nat.le_trans Z0 K6.1)) hZ32 (hw _ (List.mem_of_getElem? (i := 60) rfl)) (hw _ (List.mem_of_getElem? (i := 2) rfl)) (by decide) (by decide)) q52a q52c (g := (mkF m 293 #[.val (.int p1), .val (.int p2), .val (.int p3), .val (.int p4), .val (.int p5), .val (.int (own_kk p1)), .val (.int (own_ll p1)), .val (.int (own_c0 p1)), .val (.int (own_c1 p1)), .val (.int (own_b (own_bit1 p5))), .val (.int (own_b (own_bit2 p5))), .val (.int (own_b (own_bit4 p5))), .val (.int (own_k2 p1 p2 p5)), .val (.int (own_l2 p1 p2 p5)), .val (.int (own_y0 p1 p2 p5)), .val (.int (own_y1 p1 p2 p5)), .val (.int (own_q2 p3 p4 p5)), .val (.ref b17), .val (.ref b27), .val (.int (own_ex p1 p2 p3 p4 p5)), .val (.int (own_mode p5)), .unset] [.null, (.ref b17)])) rfl (by rw [hml]; rfl) (Steps.refl _) (argsL := [.null]) (rest := []) (lenOf own_pd__Ljava_lang_Object__Z rfl) rfl (by show 2 * 0 + _ ≤ _; exact Nat.le_of_eq rfl) (hb hby at_293) (fun _ _ => ⟨rfl, rfl, (by decide : 18 + 0 ≤ _), (by decide : 102 + 0 ≤ _)⟩)
    dsimp only [Pt.U, Pt.locs, Pt.cells, Pt.slots] at X52 l52 y52 z52 st52 hQ52
    subst l52 y52 z52
    obtain ⟨rfl, N52q, e52q⟩ := hQ52
    have N52a := Fr.app N32a N52q
    obtain ⟨fs, hr, hrun, hended, hend⟩ := X52.leaveW hS32 (by rw [e52q]; exact (Nat.le_refl _)) (v := some (.int (1 : Int32))) (fun h => by rw [Bd.returns] at h; cases h)
    refine ⟨_, _, pre0 _ ?_, hrun, hended, _, _, rfl, ?_, ?_, hend.1, hend.2.1, hend.2.2.1, hend.2.2.2.mono (by decide) (by decide)⟩
    · refine cut51 _ ?_
      show Steps p.tables e below (T32.setTop (mkF m 287 #[.val (.int p1), .val (.int p2), .val (.int p3), .val (.int p4), .val (.int p5), .val (.int (own_kk p1)), .val (.int (own_ll p1)), .val (.int (own_c0 p1)), .val (.int (own_c1 p1)), .val (.int (own_b (own_bit1 p5))), .val (.int (own_b (own_bit2 p5))), .val (.int (own_b (own_bit4 p5))), .val (.int (own_k2 p1 p2 p5)), .val (.int (own_l2 p1 p2 p5)), .val (.int (own_y0 p1 p2 p5)), .val (.int (own_y1 p1 p2 p5)), .val (.int (own_q2 p3 p4 p5)), .val (.ref b17), .val (.ref b27), .val (.int (own_ex p1 p2 p3 p4 p5)), .val (.int (own_mode p5)), .unset] [(.int (1 : Int32)), (.int (own_mode p5))])) _
      refine XS.icmpNo X32.here hx rfl (hb hby at_287) rfl (teq (hm1 : (own_mode p5) = (1 : Int32))).2 ?_
      refine XS.aload X32.here hx rfl (hb hby at_290) rfl rfl ?_
      refine XS.aconstNull X32.here hx rfl (hb hby at_292) ?_
      show Steps p.tables e below (T32.setTop (mkF m 293 #[.val (.int p1), .val (.int p2), .val (.int p3), .val (.int p4), .val (.int p5), .val (.int (own_kk p1)), .val (.int (own_ll p1)), .val (.int (own_c0 p1)), .val (.int (own_c1 p1)), .val (.int (own_b (own_bit1 p5))), .val (.int (own_b (own_bit2 p5))), .val (.int (own_b (own_bit4 p5))), .val (.int (own_k2 p1 p2 p5)), .val (.int (own_l2 p1 p2 p5)), .val (.int (own_y0 p1 p2 p5)), .val (.int (own_y1 p1 p2 p5)), .val (.int (own_q2 p3 p4 p5)), .val (.ref b17), .val (.ref b27), .val (.int (own_ex p1 p2 p3 p4 p5)), .val (.int (own_mode p5)), .unset] [.null, (.ref b17)])) _
      refine st52.trans ?_
      show Steps p.tables e below (T52.setTop (mkF m 296 #[.val (.int p1), .val (.int p2), .val (.int p3), .val (.int p4), .val (.int p5), .val (.int (own_kk p1)), .val (.int (own_ll p1)), .val (.int (own_c0 p1)), .val (.int (own_c1 p1)), .val (.int (own_b (own_bit1 p5))), .val (.int (own_b (own_bit2 p5))), .val (.int (own_b (own_bit4 p5))), .val (.int (own_k2 p1 p2 p5)), .val (.int (own_l2 p1 p2 p5)), .val (.int (own_y0 p1 p2 p5)), .val (.int (own_y1 p1 p2 p5)), .val (.int (own_q2 p3 p4 p5)), .val (.ref b17), .val (.ref b27), .val (.int (own_ex p1 p2 p3 p4 p5)), .val (.int (own_mode p5)), .unset] [(.int (0 : Int32))])) _
      refine XS.ifNo X52.here hx rfl (hb hby at_296) rfl ((if0 _ _).trans (teq (by decide : (0 : Int32) = (0 : Int32))).2) ?_
      refine XS.iconst X52.here hx rfl (hb hby at_299) ?_
      refine XS.goto X52.here hx rfl (pc0 := 300) (pc' := 304) rfl (hb hby at_300) (by decide) (by decide) ?_
      show Steps p.tables e below (T52.setTop (mkF m 304 #[.val (.int p1), .val (.int p2), .val (.int p3), .val (.int p4), .val (.int p5), .val (.int (own_kk p1)), .val (.int (own_ll p1)), .val (.int (own_c0 p1)), .val (.int (own_c1 p1)), .val (.int (own_b (own_bit1 p5))), .val (.int (own_b (own_bit2 p5))), .val (.int (own_b (own_bit4 p5))), .val (.int (own_k2 p1 p2 p5)), .val (.int (own_l2 p1 p2 p5)), .val (.int (own_y0 p1 p2 p5)), .val (.int (own_y1 p1 p2 p5)), .val (.int (own_q2 p3 p4 p5)), .val (.ref b17), .val (.ref b27), .val (.int (own_ex p1 p2 p3 p4 p5)), .val (.int (own_mode p5)), .unset] [(.int (1 : Int32))])) _
      exact retN X52 hx (t := .boolean) Bd.returns (by simp) (hb hby at_304) hr
    · show Q0 n0 _ T52.heap _
      rw [e52q]
      exact ⟨rfl, N52a⟩
    · show CHr Z own_EL s.vm s.heap T52.vm T52.heap
      rw [hh, e52q]
      exact CH6.trans (CHv.at X52 hZ32 hEL CH6.1)
  · have cut52 : ∀ t, Steps p.tables e below (T32.setTop (mkF m 308 #[.val (.int p1), .val (.int p2), .val (.int p3), .val (.int p4), .val (.int p5), .val (.int (own_kk p1)), .val (.int (own_ll p1)), .val (.int (own_c0 p1)), .val (.int (own_c1 p1)), .val (.int (own_b (own_bit1 p5))), .val (.int (own_b (own_bit2 p5))), .val (.int (own_b (own_bit4 p5))), .val (.int (own_k2 p1 p2 p5)), .val (.int (own_l2 p1 p2 p5)), .val (.int (own_y0 p1 p2 p5)), .val (.int (own_y1 p1 p2 p5)), .val (.int (own_q2 p3 p4 p5)), .val (.ref b17), .val (.ref b27), .val (.int (own_ex p1 p2 p3 p4 p5)), .val (.int (own_mode p5)), .unset] [(.int (2 : Int32)), (.int (own_mode p5))])) t → Steps p.tables e below (s₁.setTop (mkF m 0 #[.val (.int p1), .val (.int p2), .val (.int p3), .val (.int p4), .val (.int p5), .unset, .unset, .unset, .unset, .unset, .unset, .unset, .unset, .unset, .unset, .unset, .unset, .unset, .unset, .unset, .unset, .unset] [])) t := fun t kk => by
      refine cut51 _ ?_
      show Steps p.tables e below (T32.setTop (mkF m 287 #[.val (.int p1), .val (.int p2), .val (.int p3), .val (.int p4), .val (.int p5), .val (.int (own_kk p1)), .val (.int (own_ll p1)), .val (.int (own_c0 p1)), .val (.int (own_c1 p1)), .val (.int (own_b (own_bit1 p5))), .val (.int (own_b (own_bit2 p5))), .val (.int (own_b (own_bit4 p5))), .val (.int (own_k2 p1 p2 p5)), .val (.int (own_l2 p1 p2 p5)), .val (.int (own_y0 p1 p2 p5)), .val (.int (own_y1 p1 p2 p5)), .val (.int (own_q2 p3 p4 p5)), .val (.ref b17), .val (.ref b27), .val (.int (own_ex p1 p2 p3 p4 p5)), .val (.int (own_mode p5)), .unset] [(.int (1 : Int32)), (.int (own_mode p5))])) _
      refine XS.icmpYes X32.here hx rfl (pc0 := 287) (pc' := 305) rfl (hb hby at_287) rfl (feq (hm1 : ¬ ((own_mode p5) = (1 : Int32)))).2 (by decide) (by decide) ?_
      refine XS.iload X32.here hx rfl (hb hby at_305) rfl ?_
      refine XS.iconst X32.here hx rfl (hb hby at_307) ?_
      exact kk
    by_cases hm2 : own_mode p5 = (2 : Int32)
    · have f54 : Old Z n0 T32.heap := ((f29.keep K30q all0).keep K32q (allS g_b27 all0))
      obtain ⟨_, _, ⟨T53, L53, k53, n53⟩, -, X53', hs53, hg53, ⟨Lc53, hQ53, l53, y53, z53, C53⟩, st53⟩ := callSS X32 hx (y := (⟨"com/example/mudskipper/mudskipper/jpql/TokenEqualsPinLaw", "str", "(ICC)Ljava/lang/String;"⟩ : MethodName)) hown32 (mvT hZ32 (hw _ (List.mem_of_getElem? (i := 10) rfl))) (mvT hZ32 (hw _ (List.mem_of_getElem? (i := 11) rfl))) (mvT hZ32 (hw _ (List.mem_of_getElem? (i := 5) rfl))) (mvT hZ32 (hw _ (List.mem_of_getElem? (i := 12) rfl))) (by decide) (backOfSH (W := 0) (rmS l Z a0 hw [] hEL (own_ll p1) (own_c0 p1) (own_c1 p1) G1 T32.heap n0 (Nat.le_trans Z0 K6.1) O2 P5 f54 (own_qc0 _) (own_qc1 _)) hZ32 (hw _ (List.mem_of_getElem? (i := 12) rfl)) (hw _ (List.mem_of_getElem? (i := 5) rfl)) (by decide) (by decide) hEL CH6.1) (g := (mkF m 317 #[.val (.int p1), .val (.int p2), .val (.int p3), .val (.int p4), .val (.int p5), .val (.int (own_kk p1)), .val (.int (own_ll p1)), .val (.int (own_c0 p1)), .val (.int (own_c1 p1)), .val (.int (own_b (own_bit1 p5))), .val (.int (own_b (own_bit2 p5))), .val (.int (own_b (own_bit4 p5))), .val (.int (own_k2 p1 p2 p5)), .val (.int (own_l2 p1 p2 p5)), .val (.int (own_y0 p1 p2 p5)), .val (.int (own_y1 p1 p2 p5)), .val (.int (own_q2 p3 p4 p5)), .val (.ref b17), .val (.ref b27), .val (.int (own_ex p1 p2 p3 p4 p5)), .val (.int (own_mode p5)), .unset] [(.int (own_c1 p1)), (.int (own_c0 p1)), (.int (own_ll p1))])) rfl (by rw [hml]; rfl) (argsL := [(.int (own_ll p1)), (.int (own_c0 p1)), (.int (own_c1 p1))]) (rest := []) (lenOf own_pd__ICC_Ljava_lang_String_ rfl) rfl (by show 2 * 0 + _ ≤ _; exact Nat.le_of_eq rfl) (hb hby at_317) (fun _ _ => ⟨rfl, rfl, (by decide : 18 + 4 ≤ _), (by decide : 102 + 8 ≤ _)⟩)
      dsimp only [Pt.U, Pt.locs, Pt.cells, Pt.slots] at X53' l53 y53 z53 st53 hQ53 C53 hs53 hg53
      subst l53 y53 z53
      obtain ⟨X53, hS53, hZ53, hown53⟩ := rebS hS32 (Nat.le_refl _) X53' hs53 hg53 hZ32 hown32
      obtain ⟨r53, rfl, N53q, K53q, sz53, SV53⟩ := hQ53
      have N53a := Fr.app N32a N53q
      have CH7 : CHr Z own_EL s.vm h0 T53.vm T53.heap := CH6.trans C53
      have K7 : Keep h0 T53.heap [] := K6.trans K53q all0
      have f56 : Exa Z T53.heap b17 "com/example/mudskipper/mudskipper/jpql/Token" := (((((f22.keep K21q).ext E27).keep K30q).keep K32q).keep K53q)
      obtain ⟨cq55, kq55, q55a, q55b, q55c⟩ := isOf hZ53 rfl f56
      obtain ⟨_, _, ⟨T55, L55, k55, n55⟩, -, X55, ⟨Lc55, hQ55, l55, y55, z55⟩, st55⟩ := X53.virtualBack hx (y := (⟨"com/example/mudskipper/mudskipper/jpql/Token", "equals", "(Ljava/lang/Object;)Z"⟩ : MethodName)) (z := (⟨"com/example/mudskipper/mudskipper/jpql/Token", "equals", "(Ljava/lang/Object;)Z"⟩ : MethodName)) hown53 (mvT hZ53 (hw _ (List.mem_of_getElem? (i := 56) rfl))) (mvT hZ53 (hw _ (List.mem_of_getElem? (i := 57) rfl))) (notFace_of_selects (args := #[]) (mvT hZ53 (hw _ (List.mem_of_getElem? (i := 59) rfl)))) (mvT hZ53 (hw _ (List.mem_of_getElem? (i := 59) rfl))) (mvT hZ53 (hw _ (List.mem_of_getElem? (i := 58) rfl))) (by decide) (backOf (W := 0) (re_str l Z a0 hw [] b17 r53 (own_cs (own_ll p1) (own_c0 p1) (own_c1 p1)) T53.heap n0 (Nat.le_trans Z0 K7.1) SV53) hZ53 (hw _ (List.mem_of_getElem? (i := 60) rfl)) (hw _ (List.mem_of_getElem? (i := 2) rfl)) (by decide) (by decide)) q55a q55c (g := (mkF m 326 #[.val (.int p1), .val (.int p2), .val (.int p3), .val (.int p4), .val (.int p5), .val (.int (own_kk p1)), .val (.int (own_ll p1)), .val (.int (own_c0 p1)), .val (.int (own_c1 p1)), .val (.int (own_b (own_bit1 p5))), .val (.int (own_b (own_bit2 p5))), .val (.int (own_b (own_bit4 p5))), .val (.int (own_k2 p1 p2 p5)), .val (.int (own_l2 p1 p2 p5)), .val (.int (own_y0 p1 p2 p5)), .val (.int (own_y1 p1 p2 p5)), .val (.int (own_q2 p3 p4 p5)), .val (.ref b17), .val (.ref b27), .val (.int (own_ex p1 p2 p3 p4 p5)), .val (.int (own_mode p5)), .val (.ref r53)] [(.ref r53), (.ref b17)])) rfl (by rw [hml]; rfl) (Steps.refl _) (argsL := [(.ref r53)]) (rest := []) (lenOf own_pd__Ljava_lang_Object__Z rfl) rfl (by show 2 * 0 + _ ≤ _; exact Nat.le_of_eq rfl) (hb hby at_326) (fun _ _ => ⟨rfl, rfl, (by decide : 22 + 0 ≤ _), (by decide : 110 + 0 ≤ _)⟩)
      dsimp only [Pt.U, Pt.locs, Pt.cells, Pt.slots] at X55 l55 y55 z55 st55 hQ55
      subst l55 y55 z55
      obtain ⟨rfl, N55q, e55q⟩ := hQ55
      have N55a := Fr.app N53a N55q
      obtain ⟨fs, hr, hrun, hended, hend⟩ := X55.leaveW hS53 (by rw [e55q]; exact (Nat.le_refl _)) (v := some (.int (1 : Int32))) (fun h => by rw [Bd.returns] at h; cases h)
      refine ⟨_, _, pre0 _ ?_, hrun, hended, _, _, rfl, ?_, ?_, hend.1, hend.2.1, hend.2.2.1, hend.2.2.2.mono (by decide) (by decide)⟩
      · refine cut52 _ ?_
        show Steps p.tables e below (T32.setTop (mkF m 308 #[.val (.int p1), .val (.int p2), .val (.int p3), .val (.int p4), .val (.int p5), .val (.int (own_kk p1)), .val (.int (own_ll p1)), .val (.int (own_c0 p1)), .val (.int (own_c1 p1)), .val (.int (own_b (own_bit1 p5))), .val (.int (own_b (own_bit2 p5))), .val (.int (own_b (own_bit4 p5))), .val (.int (own_k2 p1 p2 p5)), .val (.int (own_l2 p1 p2 p5)), .val (.int (own_y0 p1 p2 p5)), .val (.int (own_y1 p1 p2 p5)), .val (.int (own_q2 p3 p4 p5)), .val (.ref b17), .val (.ref b27), .val (.int (own_ex p1 p2 p3 p4 p5)), .val (.int (own_mode p5)), .unset] [(.int (2 : Int32)), (.int (own_mode p5))])) _
        refine XS.icmpNo X32.here hx rfl (hb hby at_308) rfl (teq (hm2 : (own_mode p5) = (2 : Int32))).2 ?_
        refine XS.iload X32.here hx rfl (hb hby at_311) rfl ?_
        refine XS.iload X32.here hx rfl (hb hby at_313) rfl ?_
        show Steps p.tables e below (T32.setTop (mkF m 315 #[.val (.int p1), .val (.int p2), .val (.int p3), .val (.int p4), .val (.int p5), .val (.int (own_kk p1)), .val (.int (own_ll p1)), .val (.int (own_c0 p1)), .val (.int (own_c1 p1)), .val (.int (own_b (own_bit1 p5))), .val (.int (own_b (own_bit2 p5))), .val (.int (own_b (own_bit4 p5))), .val (.int (own_k2 p1 p2 p5)), .val (.int (own_l2 p1 p2 p5)), .val (.int (own_y0 p1 p2 p5)), .val (.int (own_y1 p1 p2 p5)), .val (.int (own_q2 p3 p4 p5)), .val (.ref b17), .val (.ref b27), .val (.int (own_ex p1 p2 p3 p4 p5)), .val (.int (own_mode p5)), .unset] [(.int (own_c0 p1)), (.int (own_ll p1))])) _
        refine XS.iload X32.here hx rfl (hb hby at_315) rfl ?_
        show Steps p.tables e below (T32.setTop (mkF m 317 #[.val (.int p1), .val (.int p2), .val (.int p3), .val (.int p4), .val (.int p5), .val (.int (own_kk p1)), .val (.int (own_ll p1)), .val (.int (own_c0 p1)), .val (.int (own_c1 p1)), .val (.int (own_b (own_bit1 p5))), .val (.int (own_b (own_bit2 p5))), .val (.int (own_b (own_bit4 p5))), .val (.int (own_k2 p1 p2 p5)), .val (.int (own_l2 p1 p2 p5)), .val (.int (own_y0 p1 p2 p5)), .val (.int (own_y1 p1 p2 p5)), .val (.int (own_q2 p3 p4 p5)), .val (.ref b17), .val (.ref b27), .val (.int (own_ex p1 p2 p3 p4 p5)), .val (.int (own_mode p5)), .unset] [(.int (own_c1 p1)), (.int (own_c0 p1)), (.int (own_ll p1))])) _
        refine st53.trans ?_
        refine XS.astore X53.here hx rfl (hb hby at_320) rfl rfl (l' := #[.val (.int p1), .val (.int p2), .val (.int p3), .val (.int p4), .val (.int p5), .val (.int (own_kk p1)), .val (.int (own_ll p1)), .val (.int (own_c0 p1)), .val (.int (own_c1 p1)), .val (.int (own_b (own_bit1 p5))), .val (.int (own_b (own_bit2 p5))), .val (.int (own_b (own_bit4 p5))), .val (.int (own_k2 p1 p2 p5)), .val (.int (own_l2 p1 p2 p5)), .val (.int (own_y0 p1 p2 p5)), .val (.int (own_y1 p1 p2 p5)), .val (.int (own_q2 p3 p4 p5)), .val (.ref b17), .val (.ref b27), .val (.int (own_ex p1 p2 p3 p4 p5)), .val (.int (own_mode p5)), .val (.ref r53)]) rfl ?_
        refine XS.aload X53.here hx rfl (hb hby at_322) rfl rfl ?_
        show Steps p.tables e below (T53.setTop (mkF m 324 #[.val (.int p1), .val (.int p2), .val (.int p3), .val (.int p4), .val (.int p5), .val (.int (own_kk p1)), .val (.int (own_ll p1)), .val (.int (own_c0 p1)), .val (.int (own_c1 p1)), .val (.int (own_b (own_bit1 p5))), .val (.int (own_b (own_bit2 p5))), .val (.int (own_b (own_bit4 p5))), .val (.int (own_k2 p1 p2 p5)), .val (.int (own_l2 p1 p2 p5)), .val (.int (own_y0 p1 p2 p5)), .val (.int (own_y1 p1 p2 p5)), .val (.int (own_q2 p3 p4 p5)), .val (.ref b17), .val (.ref b27), .val (.int (own_ex p1 p2 p3 p4 p5)), .val (.int (own_mode p5)), .val (.ref r53)] [(.ref b17)])) _
        refine XS.aload X53.here hx rfl (hb hby at_324) rfl rfl ?_
        show Steps p.tables e below (T53.setTop (mkF m 326 #[.val (.int p1), .val (.int p2), .val (.int p3), .val (.int p4), .val (.int p5), .val (.int (own_kk p1)), .val (.int (own_ll p1)), .val (.int (own_c0 p1)), .val (.int (own_c1 p1)), .val (.int (own_b (own_bit1 p5))), .val (.int (own_b (own_bit2 p5))), .val (.int (own_b (own_bit4 p5))), .val (.int (own_k2 p1 p2 p5)), .val (.int (own_l2 p1 p2 p5)), .val (.int (own_y0 p1 p2 p5)), .val (.int (own_y1 p1 p2 p5)), .val (.int (own_q2 p3 p4 p5)), .val (.ref b17), .val (.ref b27), .val (.int (own_ex p1 p2 p3 p4 p5)), .val (.int (own_mode p5)), .val (.ref r53)] [(.ref r53), (.ref b17)])) _
        refine st55.trans ?_
        show Steps p.tables e below (T55.setTop (mkF m 329 #[.val (.int p1), .val (.int p2), .val (.int p3), .val (.int p4), .val (.int p5), .val (.int (own_kk p1)), .val (.int (own_ll p1)), .val (.int (own_c0 p1)), .val (.int (own_c1 p1)), .val (.int (own_b (own_bit1 p5))), .val (.int (own_b (own_bit2 p5))), .val (.int (own_b (own_bit4 p5))), .val (.int (own_k2 p1 p2 p5)), .val (.int (own_l2 p1 p2 p5)), .val (.int (own_y0 p1 p2 p5)), .val (.int (own_y1 p1 p2 p5)), .val (.int (own_q2 p3 p4 p5)), .val (.ref b17), .val (.ref b27), .val (.int (own_ex p1 p2 p3 p4 p5)), .val (.int (own_mode p5)), .val (.ref r53)] [(.int (0 : Int32))])) _
        refine XS.ifNo X55.here hx rfl (hb hby at_329) rfl ((if0 _ _).trans (teq (by decide : (0 : Int32) = (0 : Int32))).2) ?_
        refine XS.iconst X55.here hx rfl (hb hby at_332) ?_
        refine XS.goto X55.here hx rfl (pc0 := 333) (pc' := 337) rfl (hb hby at_333) (by decide) (by decide) ?_
        show Steps p.tables e below (T55.setTop (mkF m 337 #[.val (.int p1), .val (.int p2), .val (.int p3), .val (.int p4), .val (.int p5), .val (.int (own_kk p1)), .val (.int (own_ll p1)), .val (.int (own_c0 p1)), .val (.int (own_c1 p1)), .val (.int (own_b (own_bit1 p5))), .val (.int (own_b (own_bit2 p5))), .val (.int (own_b (own_bit4 p5))), .val (.int (own_k2 p1 p2 p5)), .val (.int (own_l2 p1 p2 p5)), .val (.int (own_y0 p1 p2 p5)), .val (.int (own_y1 p1 p2 p5)), .val (.int (own_q2 p3 p4 p5)), .val (.ref b17), .val (.ref b27), .val (.int (own_ex p1 p2 p3 p4 p5)), .val (.int (own_mode p5)), .val (.ref r53)] [(.int (1 : Int32))])) _
        exact retN X55 hx (t := .boolean) Bd.returns (by simp) (hb hby at_337) hr
      · show Q0 n0 _ T55.heap _
        rw [e55q]
        exact ⟨rfl, N55a⟩
      · show CHr Z own_EL s.vm s.heap T55.vm T55.heap
        rw [hh, e55q]
        exact CH7.trans (CHv.at X55 hZ53 hEL CH7.1)
    · have f54 : Exa Z T32.heap b17 "com/example/mudskipper/mudskipper/jpql/Token" := ((((f22.keep K21q).ext E27).keep K30q).keep K32q)
      have f55 : Exa Z T21.heap b17 "com/example/mudskipper/mudskipper/jpql/Token" := (f22.keep K21q)
      have f56 : Fld Z T32.heap b17 "com/example/mudskipper/mudskipper/jpql/Token" "kind" "Lcom/example/mudskipper/mudskipper/jpql/TokenKind;" (.ref (own_kd t0 t1 t2 t3 t4 t5 t6 (own_kk p1))) := (((Fk21.ext E27).keep K30q nin0).keep K32q (ninS (Nat.ne_of_lt (Nat.lt_of_lt_of_le f55.lt (Nat.le_of_eq g27.symm))) nin0))
      have f57 : Fld Z T32.heap b17 "com/example/mudskipper/mudskipper/jpql/Token" "text" "Ljava/lang/String;" (.ref r20) := (((Ft21.ext E27).keep K30q nin0).keep K32q (ninS (Nat.ne_of_lt (Nat.lt_of_lt_of_le f55.lt (Nat.le_of_eq g27.symm))) nin0))
      have f58 : Fld Z T32.heap b17 "com/example/mudskipper/mudskipper/jpql/Token" "position" "I" (.int p3) := (((Fp21.ext E27).keep K30q nin0).keep K32q (ninS (Nat.ne_of_lt (Nat.lt_of_lt_of_le f55.lt (Nat.le_of_eq g27.symm))) nin0))
      have f59 : StrV Z T32.heap r20 (own_cs (own_ll p1) (own_c0 p1) (own_c1 p1)) := (SV20.keepN (((((Keep.refl T20.heap [b17]).trans K21q (allS (Or.inl (List.mem_of_getElem? (i := 0) rfl)) all0)).ext E27).trans K30q all0).trans K32q (allS (Or.inr (Nat.le_trans ((Keep.refl T20.heap [b17]).trans K21q (allS (Or.inl (List.mem_of_getElem? (i := 0) rfl)) all0)).1 (Nat.le_of_eq g27.symm))) all0)) (allS (NStr.of f22 (hw _ (List.mem_of_getElem? (i := 1) rfl)) (by decide)) all0))
      have f60 : Exa Z T32.heap b27 "com/example/mudskipper/mudskipper/jpql/Token" := (f33.keep K32q)
      have f61 : StrV Z T32.heap r30 (own_cs (own_l2 p1 p2 p5) (own_y0 p1 p2 p5) (own_y1 p1 p2 p5)) := (SV30.keepN ((Keep.refl T30.heap [b27]).trans K32q (allS (Or.inl (List.mem_of_getElem? (i := 0) rfl)) all0)) (allS (NStr.of f33 (hw _ (List.mem_of_getElem? (i := 1) rfl)) (by decide)) all0))
      have f62 : Old Z n0 T32.heap := ((f29.keep K30q all0).keep K32q (allS g_b27 all0))
      obtain ⟨cq53, kq53, q53a, q53b, q53c⟩ := isOf hZ32 rfl f54
      obtain ⟨_, _, ⟨T53, L53, k53, n53⟩, -, X53, ⟨Lc53, hQ53, l53, y53, z53⟩, st53⟩ := X32.virtualBack hx (y := (⟨"com/example/mudskipper/mudskipper/jpql/Token", "equals", "(Ljava/lang/Object;)Z"⟩ : MethodName)) (z := (⟨"com/example/mudskipper/mudskipper/jpql/Token", "equals", "(Ljava/lang/Object;)Z"⟩ : MethodName)) hown32 (mvT hZ32 (hw _ (List.mem_of_getElem? (i := 56) rfl))) (mvT hZ32 (hw _ (List.mem_of_getElem? (i := 57) rfl))) (notFace_of_selects (args := #[]) (mvT hZ32 (hw _ (List.mem_of_getElem? (i := 59) rfl)))) (mvT hZ32 (hw _ (List.mem_of_getElem? (i := 59) rfl))) (mvT hZ32 (hw _ (List.mem_of_getElem? (i := 58) rfl))) (by decide) (backOf (W := 0) (rmE l Z a0 hw [] b17 b27 (own_kd t0 t1 t2 t3 t4 t5 t6 (own_kk p1)) (own_kd t0 t1 t2 t3 t4 t5 t6 (own_k2 p1 p2 p5)) r20 r30 (own_cs (own_ll p1) (own_c0 p1) (own_c1 p1)) (own_cs (own_l2 p1 p2 p5) (own_y0 p1 p2 p5) (own_y1 p1 p2 p5)) p3 (own_q2 p3 p4 p5) G1 T32.heap n0 (Nat.le_trans Z0 K6.1) f54 f56 f57 f58 f59 f60 Fk32 Ft32 Fp32 f61 O2 P5 f62 (own_cs_len _ _ _) (own_cs_len _ _ _)) hZ32 (hw _ (List.mem_of_getElem? (i := 60) rfl)) (hw _ (List.mem_of_getElem? (i := 2) rfl)) (by decide) (by decide)) q53a q53c (g := (mkF m 342 #[.val (.int p1), .val (.int p2), .val (.int p3), .val (.int p4), .val (.int p5), .val (.int (own_kk p1)), .val (.int (own_ll p1)), .val (.int (own_c0 p1)), .val (.int (own_c1 p1)), .val (.int (own_b (own_bit1 p5))), .val (.int (own_b (own_bit2 p5))), .val (.int (own_b (own_bit4 p5))), .val (.int (own_k2 p1 p2 p5)), .val (.int (own_l2 p1 p2 p5)), .val (.int (own_y0 p1 p2 p5)), .val (.int (own_y1 p1 p2 p5)), .val (.int (own_q2 p3 p4 p5)), .val (.ref b17), .val (.ref b27), .val (.int (own_ex p1 p2 p3 p4 p5)), .val (.int (own_mode p5)), .unset] [(.ref b27), (.ref b17)])) rfl (by rw [hml]; rfl) (Steps.refl _) (argsL := [(.ref b27)]) (rest := []) (lenOf own_pd__Ljava_lang_Object__Z rfl) rfl (by show 2 * 0 + _ ≤ _; exact Nat.le_of_eq rfl) (hb hby at_342) (fun _ _ => ⟨rfl, rfl, (by decide : 18 + 0 ≤ _), (by decide : 102 + 0 ≤ _)⟩)
      dsimp only [Pt.U, Pt.locs, Pt.cells, Pt.slots] at X53 l53 y53 z53 st53 hQ53
      subst l53 y53 z53
      obtain ⟨rfl, N53q, e53q⟩ := hQ53
      have N53a := Fr.app N32a N53q
      obtain ⟨cq63, kq63, q63a, q63b, q63c⟩ := isOf hZ32 e53q f60
      obtain ⟨_, _, ⟨T63, L63, k63, n63⟩, -, X63, ⟨Lc63, hQ63, l63, y63, z63⟩, st63⟩ := X53.virtualBack hx (y := (⟨"com/example/mudskipper/mudskipper/jpql/Token", "equals", "(Ljava/lang/Object;)Z"⟩ : MethodName)) (z := (⟨"com/example/mudskipper/mudskipper/jpql/Token", "equals", "(Ljava/lang/Object;)Z"⟩ : MethodName)) hown32 (mvT hZ32 (hw _ (List.mem_of_getElem? (i := 56) rfl))) (mvT hZ32 (hw _ (List.mem_of_getElem? (i := 57) rfl))) (notFace_of_selects (args := #[]) (mvT hZ32 (hw _ (List.mem_of_getElem? (i := 59) rfl)))) (mvT hZ32 (hw _ (List.mem_of_getElem? (i := 59) rfl))) (mvT hZ32 (hw _ (List.mem_of_getElem? (i := 58) rfl))) (by decide) (backOf (W := 0) (rmE l Z a0 hw [] b27 b17 (own_kd t0 t1 t2 t3 t4 t5 t6 (own_k2 p1 p2 p5)) (own_kd t0 t1 t2 t3 t4 t5 t6 (own_kk p1)) r30 r20 (own_cs (own_l2 p1 p2 p5) (own_y0 p1 p2 p5) (own_y1 p1 p2 p5)) (own_cs (own_ll p1) (own_c0 p1) (own_c1 p1)) (own_q2 p3 p4 p5) p3 G1 T32.heap n0 (Nat.le_trans Z0 K6.1) f60 Fk32 Ft32 Fp32 f61 f54 f56 f57 f58 f59 O2 P5 f62 (own_cs_len _ _ _) (own_cs_len _ _ _)) hZ32 (hw _ (List.mem_of_getElem? (i := 60) rfl)) (hw _ (List.mem_of_getElem? (i := 2) rfl)) (by decide) (by decide)) q63a q63c (g := (mkF m 354 #[.val (.int p1), .val (.int p2), .val (.int p3), .val (.int p4), .val (.int p5), .val (.int (own_kk p1)), .val (.int (own_ll p1)), .val (.int (own_c0 p1)), .val (.int (own_c1 p1)), .val (.int (own_b (own_bit1 p5))), .val (.int (own_b (own_bit2 p5))), .val (.int (own_b (own_bit4 p5))), .val (.int (own_k2 p1 p2 p5)), .val (.int (own_l2 p1 p2 p5)), .val (.int (own_y0 p1 p2 p5)), .val (.int (own_y1 p1 p2 p5)), .val (.int (own_q2 p3 p4 p5)), .val (.ref b17), .val (.ref b27), .val (.int (own_ex p1 p2 p3 p4 p5)), .val (.int (own_mode p5)), .unset] [(.ref b17), (.ref b27)])) rfl (by rw [hml]; rfl) (Steps.refl _) (argsL := [(.ref b17)]) (rest := []) (lenOf own_pd__Ljava_lang_Object__Z rfl) rfl (by show 2 * 0 + _ ≤ _; exact Nat.le_of_eq rfl) (hb hby at_354) (fun _ _ => ⟨rfl, e53q, (by decide : 18 + 0 ≤ _), (by decide : 102 + 0 ≤ _)⟩)
      dsimp only [Pt.U, Pt.locs, Pt.cells, Pt.slots] at X63 l63 y63 z63 st63 hQ63
      subst l63 y63 z63
      obtain ⟨rfl, N63q, e63q⟩ := hQ63
      have N63a := Fr.app N53a N63q
      obtain ⟨fs, hr, hrun, hended, hend⟩ := X63.leaveW hS32 (by rw [e63q]; exact (Nat.le_refl _)) (v := some (.int (1 : Int32))) (fun h => by rw [Bd.returns] at h; cases h)
      refine ⟨_, _, pre0 _ ?_, hrun, hended, _, _, rfl, ?_, ?_, hend.1, hend.2.1, hend.2.2.1, hend.2.2.2.mono (by decide) (by decide)⟩
      · refine cut52 _ ?_
        show Steps p.tables e below (T32.setTop (mkF m 308 #[.val (.int p1), .val (.int p2), .val (.int p3), .val (.int p4), .val (.int p5), .val (.int (own_kk p1)), .val (.int (own_ll p1)), .val (.int (own_c0 p1)), .val (.int (own_c1 p1)), .val (.int (own_b (own_bit1 p5))), .val (.int (own_b (own_bit2 p5))), .val (.int (own_b (own_bit4 p5))), .val (.int (own_k2 p1 p2 p5)), .val (.int (own_l2 p1 p2 p5)), .val (.int (own_y0 p1 p2 p5)), .val (.int (own_y1 p1 p2 p5)), .val (.int (own_q2 p3 p4 p5)), .val (.ref b17), .val (.ref b27), .val (.int (own_ex p1 p2 p3 p4 p5)), .val (.int (own_mode p5)), .unset] [(.int (2 : Int32)), (.int (own_mode p5))])) _
        refine XS.icmpYes X32.here hx rfl (pc0 := 308) (pc' := 338) rfl (hb hby at_308) rfl (feq (hm2 : ¬ ((own_mode p5) = (2 : Int32)))).2 (by decide) (by decide) ?_
        refine XS.aload X32.here hx rfl (hb hby at_338) rfl rfl ?_
        refine XS.aload X32.here hx rfl (hb hby at_340) rfl rfl ?_
        show Steps p.tables e below (T32.setTop (mkF m 342 #[.val (.int p1), .val (.int p2), .val (.int p3), .val (.int p4), .val (.int p5), .val (.int (own_kk p1)), .val (.int (own_ll p1)), .val (.int (own_c0 p1)), .val (.int (own_c1 p1)), .val (.int (own_b (own_bit1 p5))), .val (.int (own_b (own_bit2 p5))), .val (.int (own_b (own_bit4 p5))), .val (.int (own_k2 p1 p2 p5)), .val (.int (own_l2 p1 p2 p5)), .val (.int (own_y0 p1 p2 p5)), .val (.int (own_y1 p1 p2 p5)), .val (.int (own_q2 p3 p4 p5)), .val (.ref b17), .val (.ref b27), .val (.int (own_ex p1 p2 p3 p4 p5)), .val (.int (own_mode p5)), .unset] [(.ref b27), (.ref b17)])) _
        refine st53.trans ?_
        refine XS.iload X53.here hx rfl (hb hby at_345) rfl ?_
        show Steps p.tables e below (T53.setTop (mkF m 347 #[.val (.int p1), .val (.int p2), .val (.int p3), .val (.int p4), .val (.int p5), .val (.int (own_kk p1)), .val (.int (own_ll p1)), .val (.int (own_c0 p1)), .val (.int (own_c1 p1)), .val (.int (own_b (own_bit1 p5))), .val (.int (own_b (own_bit2 p5))), .val (.int (own_b (own_bit4 p5))), .val (.int (own_k2 p1 p2 p5)), .val (.int (own_l2 p1 p2 p5)), .val (.int (own_y0 p1 p2 p5)), .val (.int (own_y1 p1 p2 p5)), .val (.int (own_q2 p3 p4 p5)), .val (.ref b17), .val (.ref b27), .val (.int (own_ex p1 p2 p3 p4 p5)), .val (.int (own_mode p5)), .unset] [(.int (own_ex p1 p2 p3 p4 p5)), (.int (own_teq (own_kd t0 t1 t2 t3 t4 t5 t6 (own_kk p1)) (own_kd t0 t1 t2 t3 t4 t5 t6 (own_k2 p1 p2 p5)) (own_cs (own_ll p1) (own_c0 p1) (own_c1 p1)) (own_cs (own_l2 p1 p2 p5) (own_y0 p1 p2 p5) (own_y1 p1 p2 p5)) p3 (own_q2 p3 p4 p5)))])) _
        refine XS.icmpNo X53.here hx rfl (hb hby at_347) rfl (teq (own_law1 TD p1 p2 p3 p4 p5 : (own_teq (own_kd t0 t1 t2 t3 t4 t5 t6 (own_kk p1)) (own_kd t0 t1 t2 t3 t4 t5 t6 (own_k2 p1 p2 p5)) (own_cs (own_ll p1) (own_c0 p1) (own_c1 p1)) (own_cs (own_l2 p1 p2 p5) (own_y0 p1 p2 p5) (own_y1 p1 p2 p5)) p3 (own_q2 p3 p4 p5)) = (own_ex p1 p2 p3 p4 p5))).2 ?_
        refine XS.aload X53.here hx rfl (hb hby at_350) rfl rfl ?_
        refine XS.aload X53.here hx rfl (hb hby at_352) rfl rfl ?_
        show Steps p.tables e below (T53.setTop (mkF m 354 #[.val (.int p1), .val (.int p2), .val (.int p3), .val (.int p4), .val (.int p5), .val (.int (own_kk p1)), .val (.int (own_ll p1)), .val (.int (own_c0 p1)), .val (.int (own_c1 p1)), .val (.int (own_b (own_bit1 p5))), .val (.int (own_b (own_bit2 p5))), .val (.int (own_b (own_bit4 p5))), .val (.int (own_k2 p1 p2 p5)), .val (.int (own_l2 p1 p2 p5)), .val (.int (own_y0 p1 p2 p5)), .val (.int (own_y1 p1 p2 p5)), .val (.int (own_q2 p3 p4 p5)), .val (.ref b17), .val (.ref b27), .val (.int (own_ex p1 p2 p3 p4 p5)), .val (.int (own_mode p5)), .unset] [(.ref b17), (.ref b27)])) _
        refine st63.trans ?_
        refine XS.iload X63.here hx rfl (hb hby at_357) rfl ?_
        show Steps p.tables e below (T63.setTop (mkF m 359 #[.val (.int p1), .val (.int p2), .val (.int p3), .val (.int p4), .val (.int p5), .val (.int (own_kk p1)), .val (.int (own_ll p1)), .val (.int (own_c0 p1)), .val (.int (own_c1 p1)), .val (.int (own_b (own_bit1 p5))), .val (.int (own_b (own_bit2 p5))), .val (.int (own_b (own_bit4 p5))), .val (.int (own_k2 p1 p2 p5)), .val (.int (own_l2 p1 p2 p5)), .val (.int (own_y0 p1 p2 p5)), .val (.int (own_y1 p1 p2 p5)), .val (.int (own_q2 p3 p4 p5)), .val (.ref b17), .val (.ref b27), .val (.int (own_ex p1 p2 p3 p4 p5)), .val (.int (own_mode p5)), .unset] [(.int (own_ex p1 p2 p3 p4 p5)), (.int (own_teq (own_kd t0 t1 t2 t3 t4 t5 t6 (own_k2 p1 p2 p5)) (own_kd t0 t1 t2 t3 t4 t5 t6 (own_kk p1)) (own_cs (own_l2 p1 p2 p5) (own_y0 p1 p2 p5) (own_y1 p1 p2 p5)) (own_cs (own_ll p1) (own_c0 p1) (own_c1 p1)) (own_q2 p3 p4 p5) p3))])) _
        refine XS.icmpNo X63.here hx rfl (hb hby at_359) rfl (teq (own_law2 TD p1 p2 p3 p4 p5 : (own_teq (own_kd t0 t1 t2 t3 t4 t5 t6 (own_k2 p1 p2 p5)) (own_kd t0 t1 t2 t3 t4 t5 t6 (own_kk p1)) (own_cs (own_l2 p1 p2 p5) (own_y0 p1 p2 p5) (own_y1 p1 p2 p5)) (own_cs (own_ll p1) (own_c0 p1) (own_c1 p1)) (own_q2 p3 p4 p5) p3) = (own_ex p1 p2 p3 p4 p5))).2 ?_
        refine XS.iconst X63.here hx rfl (hb hby at_362) ?_
        refine XS.goto X63.here hx rfl (pc0 := 363) (pc' := 367) rfl (hb hby at_363) (by decide) (by decide) ?_
        show Steps p.tables e below (T63.setTop (mkF m 367 #[.val (.int p1), .val (.int p2), .val (.int p3), .val (.int p4), .val (.int p5), .val (.int (own_kk p1)), .val (.int (own_ll p1)), .val (.int (own_c0 p1)), .val (.int (own_c1 p1)), .val (.int (own_b (own_bit1 p5))), .val (.int (own_b (own_bit2 p5))), .val (.int (own_b (own_bit4 p5))), .val (.int (own_k2 p1 p2 p5)), .val (.int (own_l2 p1 p2 p5)), .val (.int (own_y0 p1 p2 p5)), .val (.int (own_y1 p1 p2 p5)), .val (.int (own_q2 p3 p4 p5)), .val (.ref b17), .val (.ref b27), .val (.int (own_ex p1 p2 p3 p4 p5)), .val (.int (own_mode p5)), .unset] [(.int (1 : Int32))])) _
        exact retN X63 hx (t := .boolean) Bd.returns (by simp) (hb hby at_367) hr
      · show Q0 n0 _ T63.heap _
        rw [e63q]
        exact ⟨rfl, N63a⟩
      · show CHr Z own_EL s.vm s.heap T63.vm T63.heap
        rw [hh, e63q]
        exact CH6.trans (CHv.at X63 hZ32 hEL CH6.1)
set_option maxRecDepth 65536 in
set_option maxHeartbeats 40000000 in
theorem comes_1 {Post : Tables → Env → Array Value → State → Outcome → State → Prop} (hpost : ∀ tb e args s v u, (limb_1_1.after args s (.returned v) u = true ∧ limb_1_2.after args s (.returned v) u = true ∧ True) → ReturnedEndW s (.returned v) u (Jvm.fieldLocs frame_1_writes args s ++ Jvm.arrayLocs frame_1_arrays args s ++ Jvm.staticLocs frame_1_statics s) 40 3264 → Post tb e args s (.returned v) u) :
    ArmFor flags0 classFile x code maxLocals ret World_1 tables_1 room_1 Calls_1 rest_1 Pre_1 Post := by
  intro l hfl _ _ p e ha hc hk s m args below hf hA hF happ hP
  obtain ⟨hcalls, hrest, hpre⟩ := hP
  obtain ⟨-, -, -, hnamed, -, -, -, hat⟩ := (Spec.applies_iff hf).mp happ
  obtain ⟨hg, hn⟩ := and_e (Cond.before_iff.mp (show (Jvm.Cond.and given_1 narrow_1).before args s = true from hpre))
  obtain ⟨g1, g2⟩ := and_e hg
  obtain ⟨g3, g4⟩ := and_e g2
  obtain ⟨g5, g6⟩ := and_e g4
  obtain ⟨g7, g8⟩ := and_e g6
  obtain ⟨g9, g10⟩ := and_e g8
  obtain ⟨w0, w1, w2, w3, w4, rfl⟩ : ∃ w0 w1 w2 w3 w4 : Value, args = #[w0, w1, w2, w3, w4] := by
    have hs : args.size = 5 := by simpa [Cond.value, given_1] using g1
    obtain ⟨L⟩ := args
    match L, hs with
    | [w0, w1, w2, w3, w4], _ => exact ⟨w0, w1, w2, w3, w4, rfl⟩
  have hw := fun d (hd : d ∈ tables_1) => atoms_spec (ws := Jvm.Cond.code x code maxLocals ret :: tables_1) hat d (List.mem_cons_of_mem _ hd)
  obtain ⟨hsets, hown0⟩ := atoms_of _ (rest_1_c_eq ▸ (show rest_1_c.before _ s = true from hrest))
  obtain ⟨i0, ei0⟩ := is_v g3
  obtain rfl : w0 = (.int i0) := Option.some.inj ei0
  obtain ⟨i1, ei1⟩ := is_v g5
  obtain rfl : w1 = (.int i1) := Option.some.inj ei1
  obtain ⟨i2, ei2⟩ := is_v g7
  obtain rfl : w2 = (.int i2) := Option.some.inj ei2
  obtain ⟨i3, ei3⟩ := is_v g9
  obtain rfl : w3 = (.int i3) := Option.some.inj ei3
  obtain ⟨i4, ei4⟩ := is_v g10
  obtain rfl : w4 = (.int i4) := Option.some.inj ei4
  have n5 := not_v (Cond.before_iff.mp (hsets _ (List.mem_of_getElem? (i := 2) rfl)))
  obtain ⟨i11, e10⟩ := is_v (Cond.before_iff.mp (hsets _ (List.mem_of_getElem? (i := 1) rfl)))
  have S12 : Sta s s.heap "java/lang/String" "COMPACT_STRINGS" "Z" (.int i11) := Sta.start e10 (Or.inl (hsets _ (List.mem_of_getElem? (i := 0) rfl)))
  have c17 : ¬ (i11 = (0 : Int32)) := gotF (Cond.eq_ints e10 (Term.int_eval (0))) n5
  have hEL : EW s _ own_EL := (EW.cons (hw _ (List.mem_of_getElem? (i := 39) rfl)) (by decide +kernel) (EW.cons (hw _ (List.mem_of_getElem? (i := 48) rfl)) (by decide +kernel) (EW.cons (hw _ (List.mem_of_getElem? (i := 27) rfl)) (by decide +kernel) EW.nil)))
  have hCH : CHv s own_EL s.vm s.heap := CHv.start hEL (fun p hp => hcalls.1 p hp) (hsets _ (List.mem_of_getElem? (i := 2) rfl)) (own_wS hw _ (by simp [Bundle.stringAtoms])) (own_wS hw _ (by simp [Bundle.stringAtoms, Bundle.sN]))
  obtain ⟨m0, m0'⟩ := and_e hn
  obtain ⟨m1, m1'⟩ := and_e m0'
  obtain ⟨m2, m2'⟩ := and_e m1'
  obtain ⟨m3, m3'⟩ := and_e m2'
  obtain ⟨m4, m4'⟩ := and_e m3'
  obtain ⟨m5, m5'⟩ := and_e m4'
  obtain ⟨m6, m6'⟩ := and_e m5'
  obtain ⟨m7, m7'⟩ := and_e m6'
  obtain ⟨m8, m8'⟩ := and_e m7'
  obtain ⟨m9, m9'⟩ := and_e m8'
  obtain ⟨m10, m10'⟩ := and_e m9'
  obtain ⟨m11, m11'⟩ := and_e m10'
  obtain ⟨m12, m12'⟩ := and_e m11'
  obtain ⟨t0, et0⟩ := exa_v m0
  have St0 : Sta s s.heap "com/example/mudskipper/mudskipper/jpql/TokenKind" "IDENTIFIER" "Lcom/example/mudskipper/mudskipper/jpql/TokenKind;" (.ref t0) := Sta.start et0 (Or.inr ⟨(hw _ (List.mem_of_getElem? (i := 8) rfl)), (hw _ (List.mem_of_getElem? (i := 9) rfl))⟩)
  have Ex0 : Exa s s.heap t0 "com/example/mudskipper/mudskipper/jpql/TokenKind" := Exa.start et0 m0
  have or0 : s.fieldOf? t0 "java/lang/Enum" "ordinal" "I" = some (.int (0 : Int32)) := own_ord et0 m2
  obtain ⟨t1, et1⟩ := exa_v m9
  have St1 : Sta s s.heap "com/example/mudskipper/mudskipper/jpql/TokenKind" "STRING" "Lcom/example/mudskipper/mudskipper/jpql/TokenKind;" (.ref t1) := Sta.start et1 (Or.inr ⟨(hw _ (List.mem_of_getElem? (i := 8) rfl)), (hw _ (List.mem_of_getElem? (i := 95) rfl))⟩)
  have Ex1 : Exa s s.heap t1 "com/example/mudskipper/mudskipper/jpql/TokenKind" := Exa.start et1 m9
  have or1 : s.fieldOf? t1 "java/lang/Enum" "ordinal" "I" = some (.int (1 : Int32)) := own_ord et1 m11
  obtain ⟨t2, et2⟩ := exa_v m4
  have St2 : Sta s s.heap "com/example/mudskipper/mudskipper/jpql/TokenKind" "NUMBER" "Lcom/example/mudskipper/mudskipper/jpql/TokenKind;" (.ref t2) := Sta.start et2 (Or.inr ⟨(hw _ (List.mem_of_getElem? (i := 8) rfl)), (hw _ (List.mem_of_getElem? (i := 77) rfl))⟩)
  have Ex2 : Exa s s.heap t2 "com/example/mudskipper/mudskipper/jpql/TokenKind" := Exa.start et2 m4
  have or2 : s.fieldOf? t2 "java/lang/Enum" "ordinal" "I" = some (.int (2 : Int32)) := own_ord et2 m8
  obtain ⟨t3, et3⟩ := exa_v m1
  have St3 : Sta s s.heap "com/example/mudskipper/mudskipper/jpql/TokenKind" "NAMED_PARAMETER" "Lcom/example/mudskipper/mudskipper/jpql/TokenKind;" (.ref t3) := Sta.start et3 (Or.inr ⟨(hw _ (List.mem_of_getElem? (i := 8) rfl)), (hw _ (List.mem_of_getElem? (i := 55) rfl))⟩)
  have Ex3 : Exa s s.heap t3 "com/example/mudskipper/mudskipper/jpql/TokenKind" := Exa.start et3 m1
  have or3 : s.fieldOf? t3 "java/lang/Enum" "ordinal" "I" = some (.int (3 : Int32)) := own_ord et3 m3
  obtain ⟨t4, et4⟩ := exa_v m7
  have St4 : Sta s s.heap "com/example/mudskipper/mudskipper/jpql/TokenKind" "POSITIONAL_PARAMETER" "Lcom/example/mudskipper/mudskipper/jpql/TokenKind;" (.ref t4) := Sta.start et4 (Or.inr ⟨(hw _ (List.mem_of_getElem? (i := 8) rfl)), (hw _ (List.mem_of_getElem? (i := 93) rfl))⟩)
  have Ex4 : Exa s s.heap t4 "com/example/mudskipper/mudskipper/jpql/TokenKind" := Exa.start et4 m7
  have or4 : s.fieldOf? t4 "java/lang/Enum" "ordinal" "I" = some (.int (4 : Int32)) := own_ord et4 m10
  obtain ⟨t5, et5⟩ := exa_v m6
  have St5 : Sta s s.heap "com/example/mudskipper/mudskipper/jpql/TokenKind" "SYMBOL" "Lcom/example/mudskipper/mudskipper/jpql/TokenKind;" (.ref t5) := Sta.start et5 (Or.inr ⟨(hw _ (List.mem_of_getElem? (i := 8) rfl)), (hw _ (List.mem_of_getElem? (i := 91) rfl))⟩)
  have Ex5 : Exa s s.heap t5 "com/example/mudskipper/mudskipper/jpql/TokenKind" := Exa.start et5 m6
  have or5 : s.fieldOf? t5 "java/lang/Enum" "ordinal" "I" = some (.int (5 : Int32)) := own_ord et5 m12'
  obtain ⟨t6, et6⟩ := exa_v m5
  have St6 : Sta s s.heap "com/example/mudskipper/mudskipper/jpql/TokenKind" "END" "Lcom/example/mudskipper/mudskipper/jpql/TokenKind;" (.ref t6) := Sta.start et6 (Or.inr ⟨(hw _ (List.mem_of_getElem? (i := 8) rfl)), (hw _ (List.mem_of_getElem? (i := 89) rfl))⟩)
  have Ex6 : Exa s s.heap t6 "com/example/mudskipper/mudskipper/jpql/TokenKind" := Exa.start et6 m5
  have or6 : s.fieldOf? t6 "java/lang/Enum" "ordinal" "I" = some (.int (6 : Int32)) := own_ord et6 m12
  have hKS : KSt s t0 t1 t2 t3 t4 t5 t6 := ⟨St0, St1, St2, St3, St4, St5, St6⟩
  have hKX : KEx s t0 t1 t2 t3 t4 t5 t6 := ⟨Ex0, Ex1, Ex2, Ex3, Ex4, Ex5, Ex6⟩
  have hTD : TDis t0 t1 t2 t3 t4 t5 t6 := own_tdis or0 or1 or2 or3 or4 or5 or6
  obtain ⟨n, o, h1, h2, h3, _, L, rfl, ⟨rfl, N⟩, hch, hq⟩ := rm0 l s _ hw tables_1 hEL i0 i1 i2 i3 i4 i11 t0 t1 t2 t3 t4 t5 t6 s.heap s.heap.size (Nat.le_refl _) S12 c17 (Old.start s) hKS hKX hTD p e ha hc hk s m _ below hf ((Spec.applies_iff_loose hf).mp happ).1 ⟨rfl, State.Warmed39.refl s, rfl, hCH⟩ trivial
  exact ⟨n, _, h1, h2, h3, hpost _ _ _ _ _ _ ⟨Cond.after_iff.mpr rfl, Cond.after_iff.mpr (eq_i res_at (Term.int_eval (1)) rfl), trivial⟩ ⟨hq.1, hq.2.1, hq.2.2.1, (hq.2.2.2.sift fun y hy => Or.inr (N y hy)).mono (by decide) (by decide)⟩⟩
theorem main_1_1 : Claimed_1_1 := comes_1 fun _ _ _ _ _ _ h hF => ⟨h.1, hF⟩
theorem main_1_2 : Claimed_1_2 := comes_1 fun _ _ _ _ _ _ h hF => ⟨h.2.1, hF⟩
end Jvm.Pilot.@@N@@
namespace Jvm.Pilot.@@N@@
open Jvm Jvm.ClassFile Sem Op Lib Jvm.Free Jvm.Stand Jvm.Pilot.@@N@@.Jvm.D
/-! MADE BY PROGRAM (witnessworld.py) out of the Statement's table words and the real class files: 23 classes; the members and pool entries that the words name. The judged class is class 1, her method 3. -/
namespace start1
open Jvm.ClassFile
def u (s : String) : CpInfo := .utf8 (stringToUtf16 s)
/-- a pool by its gaps: so many unusable entries, then the entry; so many at the end -/
def gap : Nat → List CpInfo → List CpInfo
  | 0, r => r
  | n + 1, r => .unusable :: gap n r
def poolList (es : List (Nat × CpInfo)) (last : Nat) : List CpInfo := es.foldr (fun e r => gap e.1 (e.2 :: r)) (gap last [])
def pool (es : List (Nat × CpInfo)) (last : Nat) : Array CpInfo := ⟨poolList es last⟩
def fileOf (pool : Array CpInfo) (this : Nat) (attrs : Array Attribute := #[]) (ms : Array MethodInfo := #[]) (fl : Nat := 33) (sup : Nat := 0) (ifs : Array Nat := #[]) (fds : Array FieldInfo := #[]) : ClassFile where
  minorVersion := 0
  majorVersion := 65
  constantPool := pool
  accessFlags := fl
  thisClass := this
  superClass := sup
  interfaces := ifs
  fields := fds
  methods := ms
  attributes := attrs
def plain (name : String) (sup : Option ClassId) : Class where
  name := name
  kind := .ordinary
  loader := none
  accessFlags := 33
  super := sup
  interfaces := #[]
  cf := none
  fields := #[]
  methods := #[]
  instanceTypes := #[]
  staticTypes := #[]
  resolved := #[]
  callSites := []
  init := .initialized
  statics := none
  mirror := none

def pool0 : Array CpInfo := pool [(5, u "<init>"), (0, u "()V"), (1, .class_ 10), (1, u "java/lang/Object")] 113

def k0c0 : Code := { maxStack := 0, maxLocals := 1, code := object_method_1_code, exceptionTable := #[], attributes := #[] }
def k0m0 : Method := { name := "<init>", desc := "()V", sig := { parameters := [], returnType := none }, accessFlags := 1, code := some k0c0 }
/-- java/lang/Object -/
def k0 : Class := { plain "java/lang/Object" none with
  accessFlags := 33
  interfaces := #[]
  cf := some (fileOf pool0 8 #[] #[{ accessFlags := 1, nameIndex := 5, descriptorIndex := 6, attributes := #[] }] 33 0 #[] #[])
  fields := #[]
  methods := #[k0m0]
  instanceTypes := #[]
  staticTypes := #[]
  resolved := Array.replicate 124 none
  statics := none }

def pool1 : Array CpInfo := pool [(2, .class_ 4), (1, u "java/lang/Object"), (0, u "<init>"), (0, u "()V"), (0, .fieldref 8 9), (0, .class_ 10), (0, .nameAndType 11 12), (0, u "com/example/mudskipper/mudskipper/jpql/TokenKind"), (0, u "IDENTIFIER"), (0, u "Lcom/example/mudskipper/mudskipper/jpql/TokenKind;"), (0, .fieldref 8 14), (0, .nameAndType 15 12), (0, u "STRING"), (0, .fieldref 8 17), (0, .nameAndType 18 12), (0, u "NUMBER"), (0, .fieldref 8 20), (0, .nameAndType 21 12), (0, u "NAMED_PARAMETER"), (0, .fieldref 8 23), (0, .nameAndType 24 12), (0, u "POSITIONAL_PARAMETER"), (0, .fieldref 8 26), (0, .nameAndType 27 12), (0, u "SYMBOL"), (0, .fieldref 8 29), (0, .nameAndType 30 12), (0, u "END"), (0, .class_ 32), (0, u "java/lang/String"), (0, .methodref 31 34), (0, .nameAndType 5 35), (0, u "([C)V"), (0, .class_ 37), (0, u "com/example/mudskipper/mudskipper/jpql/Token"), (0, .methodref 39 40), (0, .class_ 41), (0, .nameAndType 42 43), (0, u "com/example/mudskipper/mudskipper/jpql/TokenEqualsPinLaw"), (0, u "kindOf"), (0, u "(I)Lcom/example/mudskipper/mudskipper/jpql/TokenKind;"), (0, .methodref 39 45), (0, .nameAndType 46 47), (0, u "str"), (0, u "(ICC)Ljava/lang/String;"), (0, .methodref 36 49), (0, .nameAndType 5 50), (0, u "(Lcom/example/mudskipper/mudskipper/jpql/TokenKind;Ljava/lang/String;I)V"), (0, .methodref 36 52), (0, .nameAndType 53 54), (0, u "equals"), (0, u "(Ljava/lang/Object;)Z"), (3, u "law"), (0, u "(IIIII)Z")] 2

def k1m0 : Method := { name := "<init>", desc := "()V", sig := { parameters := [], returnType := none }, accessFlags := 1, code := none }
def k1c1 : Code := { maxStack := 2, maxLocals := 1, code := method_2_code, exceptionTable := #[], attributes := #[] }
def k1m1 : Method := { name := "kindOf", desc := "(I)Lcom/example/mudskipper/mudskipper/jpql/TokenKind;", sig := { parameters := [.int], returnType := some (.object "com/example/mudskipper/mudskipper/jpql/TokenKind") }, accessFlags := 10, code := some k1c1 }
def k1c2 : Code := { maxStack := 3, maxLocals := 4, code := method_3_code, exceptionTable := #[], attributes := #[] }
def k1m2 : Method := { name := "str", desc := "(ICC)Ljava/lang/String;", sig := { parameters := [.int, .char, .char], returnType := some (.object "java/lang/String") }, accessFlags := 10, code := some k1c2 }
def k1c3 : Code := { maxStack := 6, maxLocals := 22, code := code, exceptionTable := #[], attributes := #[] }
def k1m3 : Method := { name := "law", desc := "(IIIII)Z", sig := { parameters := [.int, .int, .int, .int, .int], returnType := some .boolean }, accessFlags := 9, code := some k1c3 }
/-- com/example/mudskipper/mudskipper/jpql/TokenEqualsPinLaw -/
def k1 : Class := { plain "com/example/mudskipper/mudskipper/jpql/TokenEqualsPinLaw" (some 0) with
  accessFlags := 49
  interfaces := #[]
  cf := some (fileOf pool1 39 #[] #[{ accessFlags := 1, nameIndex := 5, descriptorIndex := 6, attributes := #[] }, { accessFlags := 10, nameIndex := 42, descriptorIndex := 43, attributes := #[] }, { accessFlags := 10, nameIndex := 46, descriptorIndex := 47, attributes := #[] }, { accessFlags := 9, nameIndex := 58, descriptorIndex := 59, attributes := #[] }] 49 2 #[] #[])
  fields := #[]
  methods := #[k1m0, k1m1, k1m2, k1m3]
  instanceTypes := #[]
  staticTypes := #[]
  resolved := Array.replicate 62 none
  statics := none }

def pool2 : Array CpInfo := pool [(1, .methodref 2 3), (0, .class_ 4), (0, .nameAndType 5 6), (0, u "java/lang/Object"), (0, u "<init>"), (0, u "()V"), (0, .string 8), (0, u "kind"), (0, .methodref 10 11), (0, .class_ 12), (0, .nameAndType 13 14), (0, u "java/util/Objects"), (0, u "requireNonNull"), (0, u "(Ljava/lang/Object;Ljava/lang/String;)Ljava/lang/Object;"), (0, .class_ 16), (0, u "com/example/mudskipper/mudskipper/jpql/TokenKind"), (0, .fieldref 18 19), (0, .class_ 20), (0, .nameAndType 8 21), (0, u "com/example/mudskipper/mudskipper/jpql/Token"), (0, u "Lcom/example/mudskipper/mudskipper/jpql/TokenKind;"), (0, .string 23), (0, u "text"), (0, .class_ 25), (0, u "java/lang/String"), (0, .fieldref 18 27), (0, .nameAndType 23 28), (0, u "Ljava/lang/String;"), (0, .fieldref 18 30), (0, .nameAndType 31 32), (0, u "position"), (0, u "I"), (0, .methodref 24 34), (0, .nameAndType 35 36), (0, u "equals"), (0, u "(Ljava/lang/Object;)Z"), (17, u "(Lcom/example/mudskipper/mudskipper/jpql/TokenKind;Ljava/lang/String;I)V")] 25

def k2c0 : Code := { maxStack := 3, maxLocals := 4, code := prog_32_method_1_code, exceptionTable := #[], attributes := #[] }
def k2m0 : Method := { name := "<init>", desc := "(Lcom/example/mudskipper/mudskipper/jpql/TokenKind;Ljava/lang/String;I)V", sig := { parameters := [(.object "com/example/mudskipper/mudskipper/jpql/TokenKind"), (.object "java/lang/String"), .int], returnType := none }, accessFlags := 1, code := some k2c0 }
def k2c1 : Code := { maxStack := 2, maxLocals := 3, code := prog_32_method_5_code, exceptionTable := #[], attributes := #[] }
def k2m1 : Method := { name := "equals", desc := "(Ljava/lang/Object;)Z", sig := { parameters := [(.object "java/lang/Object")], returnType := some .boolean }, accessFlags := 1, code := some k2c1 }
/-- com/example/mudskipper/mudskipper/jpql/Token -/
def k2 : Class := { plain "com/example/mudskipper/mudskipper/jpql/Token" (some 0) with
  accessFlags := 33
  interfaces := #[]
  cf := some (fileOf pool2 18 #[] #[{ accessFlags := 1, nameIndex := 5, descriptorIndex := 54, attributes := #[] }, { accessFlags := 1, nameIndex := 35, descriptorIndex := 36, attributes := #[] }] 33 2 #[] #[{ accessFlags := 18, nameIndex := 8, descriptorIndex := 21, attributes := #[] }, { accessFlags := 18, nameIndex := 23, descriptorIndex := 28, attributes := #[] }, { accessFlags := 18, nameIndex := 31, descriptorIndex := 32, attributes := #[] }])
  fields := #[{ name := "kind", type := (.object "com/example/mudskipper/mudskipper/jpql/TokenKind"), accessFlags := 18, slot := 0, constantValue := 0 }, { name := "text", type := (.object "java/lang/String"), accessFlags := 18, slot := 1, constantValue := 0 }, { name := "position", type := .int, accessFlags := 18, slot := 2, constantValue := 0 }]
  methods := #[k2m0, k2m1]
  instanceTypes := #[(.object "com/example/mudskipper/mudskipper/jpql/TokenKind"), (.object "java/lang/String"), .int]
  staticTypes := #[]
  resolved := Array.replicate 80 none
  statics := none }

def pool3 : Array CpInfo := pool [(1, .class_ 2), (0, u "java/lang/constant/Constable"), (0, .class_ 4), (0, u "java/lang/Object")] 6

/-- java/lang/constant/Constable -/
def k3 : Class := { plain "java/lang/constant/Constable" (some 0) with
  accessFlags := 1537
  interfaces := #[]
  cf := some (fileOf pool3 1 #[] #[] 1537 3 #[] #[])
  fields := #[]
  methods := #[]
  instanceTypes := #[]
  staticTypes := #[]
  resolved := Array.replicate 11 none
  statics := none }

def pool4 : Array CpInfo := pool [(1, .class_ 2), (0, u "java/lang/Comparable"), (0, .class_ 4), (0, u "java/lang/Object")] 7

/-- java/lang/Comparable -/
def k4 : Class := { plain "java/lang/Comparable" (some 0) with
  accessFlags := 1537
  interfaces := #[]
  cf := some (fileOf pool4 1 #[] #[] 1537 3 #[] #[])
  fields := #[]
  methods := #[]
  instanceTypes := #[]
  staticTypes := #[]
  resolved := Array.replicate 12 none
  statics := none }

def pool5 : Array CpInfo := pool [(1, .class_ 2), (0, u "java/io/Serializable"), (0, .class_ 4), (0, u "java/lang/Object")] 2

/-- java/io/Serializable -/
def k5 : Class := { plain "java/io/Serializable" (some 0) with
  accessFlags := 1537
  interfaces := #[]
  cf := some (fileOf pool5 1 #[] #[] 1537 3 #[] #[])
  fields := #[]
  methods := #[]
  instanceTypes := #[]
  staticTypes := #[]
  resolved := Array.replicate 7 none
  statics := none }

def pool6 : Array CpInfo := pool [(2, .class_ 4), (1, u "java/lang/Enum"), (0, u "name"), (0, u "Ljava/lang/String;"), (2, u "ordinal"), (0, u "I"), (1, .class_ 14), (1, u "java/lang/Object"), (4, u "hash"), (86, .class_ 108), (1, u "java/lang/Enum$EnumDesc"), (2, .class_ 112), (0, u "java/lang/constant/Constable"), (0, .class_ 114), (0, u "java/lang/Comparable"), (0, .class_ 116), (0, u "java/io/Serializable")] 87

/-- java/lang/Enum -/
def k6 : Class := { plain "java/lang/Enum" (some 0) with
  accessFlags := 1057
  interfaces := #[3, 4, 5]
  cf := some (fileOf pool6 2 #[.nestMembers #[106]] #[] 1057 12 #[111, 113, 115] #[{ accessFlags := 18, nameIndex := 5, descriptorIndex := 6, attributes := #[] }, { accessFlags := 18, nameIndex := 9, descriptorIndex := 10, attributes := #[] }, { accessFlags := 2, nameIndex := 19, descriptorIndex := 10, attributes := #[] }])
  fields := #[{ name := "name", type := (.object "java/lang/String"), accessFlags := 18, slot := 0, constantValue := 0 }, { name := "ordinal", type := .int, accessFlags := 18, slot := 1, constantValue := 0 }, { name := "hash", type := .int, accessFlags := 2, slot := 2, constantValue := 0 }]
  methods := #[]
  instanceTypes := #[(.object "java/lang/String"), .int, .int]
  staticTypes := #[]
  resolved := Array.replicate 204 none
  statics := none }

def pool7 : Array CpInfo := pool [(1, .class_ 2), (0, u "com/example/mudskipper/mudskipper/jpql/TokenKind"), (2, u "IDENTIFIER"), (0, u "Lcom/example/mudskipper/mudskipper/jpql/TokenKind;"), (2, u "STRING"), (2, u "NUMBER"), (2, u "NAMED_PARAMETER"), (2, u "POSITIONAL_PARAMETER"), (2, u "SYMBOL"), (2, u "END"), (2, u "$VALUES"), (0, u "[Lcom/example/mudskipper/mudskipper/jpql/TokenKind;"), (6, .class_ 37), (1, u "java/lang/Enum")] 29

/-- com/example/mudskipper/mudskipper/jpql/TokenKind -/
def k7 : Class := { plain "com/example/mudskipper/mudskipper/jpql/TokenKind" (some 6) with
  accessFlags := 16433
  interfaces := #[]
  cf := some (fileOf pool7 1 #[] #[] 16433 35 #[] #[{ accessFlags := 16409, nameIndex := 5, descriptorIndex := 6, attributes := #[] }, { accessFlags := 16409, nameIndex := 9, descriptorIndex := 6, attributes := #[] }, { accessFlags := 16409, nameIndex := 12, descriptorIndex := 6, attributes := #[] }, { accessFlags := 16409, nameIndex := 15, descriptorIndex := 6, attributes := #[] }, { accessFlags := 16409, nameIndex := 18, descriptorIndex := 6, attributes := #[] }, { accessFlags := 16409, nameIndex := 21, descriptorIndex := 6, attributes := #[] }, { accessFlags := 16409, nameIndex := 24, descriptorIndex := 6, attributes := #[] }, { accessFlags := 4122, nameIndex := 27, descriptorIndex := 28, attributes := #[] }])
  fields := #[{ name := "IDENTIFIER", type := (.object "com/example/mudskipper/mudskipper/jpql/TokenKind"), accessFlags := 16409, slot := 0, constantValue := 0 }, { name := "STRING", type := (.object "com/example/mudskipper/mudskipper/jpql/TokenKind"), accessFlags := 16409, slot := 1, constantValue := 0 }, { name := "NUMBER", type := (.object "com/example/mudskipper/mudskipper/jpql/TokenKind"), accessFlags := 16409, slot := 2, constantValue := 0 }, { name := "NAMED_PARAMETER", type := (.object "com/example/mudskipper/mudskipper/jpql/TokenKind"), accessFlags := 16409, slot := 3, constantValue := 0 }, { name := "POSITIONAL_PARAMETER", type := (.object "com/example/mudskipper/mudskipper/jpql/TokenKind"), accessFlags := 16409, slot := 4, constantValue := 0 }, { name := "SYMBOL", type := (.object "com/example/mudskipper/mudskipper/jpql/TokenKind"), accessFlags := 16409, slot := 5, constantValue := 0 }, { name := "END", type := (.object "com/example/mudskipper/mudskipper/jpql/TokenKind"), accessFlags := 16409, slot := 6, constantValue := 0 }, { name := "$VALUES", type := (.array (.object "com/example/mudskipper/mudskipper/jpql/TokenKind")), accessFlags := 4122, slot := 7, constantValue := 0 }]
  methods := #[]
  instanceTypes := #[(.object "java/lang/String"), .int, .int]
  staticTypes := #[(.object "com/example/mudskipper/mudskipper/jpql/TokenKind"), (.object "com/example/mudskipper/mudskipper/jpql/TokenKind"), (.object "com/example/mudskipper/mudskipper/jpql/TokenKind"), (.object "com/example/mudskipper/mudskipper/jpql/TokenKind"), (.object "com/example/mudskipper/mudskipper/jpql/TokenKind"), (.object "com/example/mudskipper/mudskipper/jpql/TokenKind"), (.object "com/example/mudskipper/mudskipper/jpql/TokenKind"), (.array (.object "com/example/mudskipper/mudskipper/jpql/TokenKind"))]
  resolved := Array.replicate 67 none
  statics := some 0 }

def pool8 : Array CpInfo := pool [(2, .class_ 4), (1, u "java/lang/CharSequence"), (42, .class_ 48), (0, u "java/lang/CharSequence$1CodePointIterator"), (10, .class_ 60), (0, u "java/lang/CharSequence$1CharIterator"), (5, .class_ 67), (0, u "java/lang/Object")] 63

/-- java/lang/CharSequence -/
def k8 : Class := { plain "java/lang/CharSequence" (some 0) with
  accessFlags := 1537
  interfaces := #[]
  cf := some (fileOf pool8 2 #[.nestMembers #[47, 59]] #[] 1537 66 #[] #[])
  fields := #[]
  methods := #[]
  instanceTypes := #[]
  staticTypes := #[]
  resolved := Array.replicate 131 none
  statics := none }

def pool9 : Array CpInfo := pool [(1, .class_ 2), (0, u "java/lang/constant/ConstantDesc"), (0, .class_ 4), (0, u "java/lang/Object")] 32

/-- java/lang/constant/ConstantDesc -/
def k9 : Class := { plain "java/lang/constant/ConstantDesc" (some 0) with
  accessFlags := 1537
  interfaces := #[]
  cf := some (fileOf pool9 1 #[] #[] 1537 3 #[] #[])
  fields := #[]
  methods := #[]
  instanceTypes := #[]
  staticTypes := #[]
  resolved := Array.replicate 37 none
  statics := none }

def pool10 : Array CpInfo := pool [(1, .methodref 2 3), (0, .class_ 4), (0, .nameAndType 5 6), (0, u "java/lang/Object"), (0, u "<init>"), (0, u "()V"), (0, .string 8), (0, u ""), (0, .fieldref 10 11), (0, .class_ 12), (0, .nameAndType 13 14), (0, u "java/lang/String"), (0, u "value"), (0, u "[B"), (0, .fieldref 10 16), (0, .nameAndType 17 18), (0, u "coder"), (0, u "B"), (2, u "hash"), (0, u "I"), (2, u "hashIsZero"), (0, u "Z"), (0, .methodref 10 28), (0, .nameAndType 5 29), (0, u "([CIILjava/lang/Void;)V"), (8, .fieldref 10 39), (0, .nameAndType 40 26), (0, u "COMPACT_STRINGS"), (1, .class_ 44), (1, u "java/lang/StringUTF16"), (0, u "compress"), (1, .methodref 42 48), (0, .nameAndType 49 50), (0, u "coderFromArrayLen"), (0, u "([BI)B"), (56, .class_ 109), (1, u "java/lang/StringLatin1"), (67, .methodref 42 178), (0, .nameAndType 45 179), (0, u "([CII)[B"), (361, .methodref 107 542), (0, .nameAndType 543 544), (0, u "equals"), (0, u "([B[B)Z"), (28, u "(Ljava/lang/Object;)Z"), (1, .class_ 576), (0, u "java/lang/CharSequence"), (22, u "CASE_INSENSITIVE_ORDER"), (0, u "Ljava/util/Comparator;"), (409, u "([C)V"), (90, u "serialPersistentFields"), (0, u "[Ljava/io/ObjectStreamField;"), (0, .class_ 1104), (0, u "java/lang/String$CaseInsensitiveComparator"), (1, .class_ 1107), (0, u "java/io/Serializable"), (0, .class_ 1109), (0, u "java/lang/Comparable"), (0, .class_ 1111), (0, u "java/lang/constant/Constable"), (0, .class_ 1113), (0, u "java/lang/constant/ConstantDesc"), (2, u "serialVersionUID"), (0, u "J"), (3, u "REPL"), (0, u "C"), (2, u "LATIN1"), (1, u "UTF16")] 323

def k10m0 : Method := { name := "<init>", desc := "()V", sig := { parameters := [], returnType := none }, accessFlags := 1, code := none }
def k10c1 : Code := { maxStack := 5, maxLocals := 2, code := jdk_42_method_3_code, exceptionTable := #[], attributes := #[] }
def k10m1 : Method := { name := "<init>", desc := "([C)V", sig := { parameters := [(.array .char)], returnType := none }, accessFlags := 1, code := some k10c1 }
def k10c2 : Code := { maxStack := 2, maxLocals := 3, code := jdk_42_method_66_code, exceptionTable := #[], attributes := #[] }
def k10m2 : Method := { name := "equals", desc := "(Ljava/lang/Object;)Z", sig := { parameters := [(.object "java/lang/Object")], returnType := some .boolean }, accessFlags := 1, code := some k10c2 }
def k10c3 : Code := { maxStack := 4, maxLocals := 6, code := jdk_42_method_149_code, exceptionTable := #[], attributes := #[] }
def k10m3 : Method := { name := "<init>", desc := "([CIILjava/lang/Void;)V", sig := { parameters := [(.array .char), .int, .int, (.object "java/lang/Void")], returnType := none }, accessFlags := 2, code := some k10c3 }
/-- java/lang/String -/
def k10 : Class := { plain "java/lang/String" (some 0) with
  accessFlags := 49
  interfaces := #[5, 4, 8, 3, 9]
  cf := some (fileOf pool10 10 #[.nestMembers #[1103]] #[{ accessFlags := 1, nameIndex := 5, descriptorIndex := 6, attributes := #[] }, { accessFlags := 1, nameIndex := 5, descriptorIndex := 1010, attributes := #[] }, { accessFlags := 1, nameIndex := 543, descriptorIndex := 573, attributes := #[] }, { accessFlags := 2, nameIndex := 5, descriptorIndex := 29, attributes := #[] }] 49 2 #[1106, 1108, 575, 1110, 1112] #[{ accessFlags := 18, nameIndex := 13, descriptorIndex := 14, attributes := #[] }, { accessFlags := 18, nameIndex := 17, descriptorIndex := 18, attributes := #[] }, { accessFlags := 2, nameIndex := 21, descriptorIndex := 22, attributes := #[] }, { accessFlags := 2, nameIndex := 25, descriptorIndex := 26, attributes := #[] }, { accessFlags := 26, nameIndex := 1116, descriptorIndex := 1117, attributes := #[] }, { accessFlags := 24, nameIndex := 40, descriptorIndex := 26, attributes := #[] }, { accessFlags := 26, nameIndex := 1101, descriptorIndex := 1102, attributes := #[] }, { accessFlags := 26, nameIndex := 1121, descriptorIndex := 1122, attributes := #[] }, { accessFlags := 25, nameIndex := 599, descriptorIndex := 600, attributes := #[] }, { accessFlags := 24, nameIndex := 1125, descriptorIndex := 18, attributes := #[] }, { accessFlags := 24, nameIndex := 1127, descriptorIndex := 18, attributes := #[] }])
  fields := #[{ name := "value", type := (.array .byte), accessFlags := 18, slot := 0, constantValue := 0 }, { name := "coder", type := .byte, accessFlags := 18, slot := 1, constantValue := 0 }, { name := "hash", type := .int, accessFlags := 2, slot := 2, constantValue := 0 }, { name := "hashIsZero", type := .boolean, accessFlags := 2, slot := 3, constantValue := 0 }, { name := "serialVersionUID", type := .long, accessFlags := 26, slot := 0, constantValue := 0 }, { name := "COMPACT_STRINGS", type := .boolean, accessFlags := 24, slot := 1, constantValue := 0 }, { name := "serialPersistentFields", type := (.array (.object "java/io/ObjectStreamField")), accessFlags := 26, slot := 2, constantValue := 0 }, { name := "REPL", type := .char, accessFlags := 26, slot := 3, constantValue := 0 }, { name := "CASE_INSENSITIVE_ORDER", type := (.object "java/util/Comparator"), accessFlags := 25, slot := 4, constantValue := 0 }, { name := "LATIN1", type := .byte, accessFlags := 24, slot := 5, constantValue := 0 }, { name := "UTF16", type := .byte, accessFlags := 24, slot := 6, constantValue := 0 }]
  methods := #[k10m0, k10m1, k10m2, k10m3]
  instanceTypes := #[(.array .byte), .byte, .int, .boolean]
  staticTypes := #[.long, .boolean, (.array (.object "java/io/ObjectStreamField")), .char, (.object "java/util/Comparator"), .byte, .byte]
  resolved := Array.replicate 1451 none
  statics := some 1 }

def pool11 : Array CpInfo := pool [(2, .class_ 4), (1, u "java/lang/Object"), (0, u "<init>"), (0, u "()V"), (35, .class_ 44), (1, u "java/util/Objects"), (0, u "requireNonNull"), (48, u "(Ljava/lang/Object;Ljava/lang/String;)Ljava/lang/Object;")] 89

def k11m0 : Method := { name := "<init>", desc := "()V", sig := { parameters := [], returnType := none }, accessFlags := 2, code := none }
def k11c1 : Code := { maxStack := 3, maxLocals := 2, code := jdk_31_method_11_code, exceptionTable := #[], attributes := #[] }
def k11m1 : Method := { name := "requireNonNull", desc := "(Ljava/lang/Object;Ljava/lang/String;)Ljava/lang/Object;", sig := { parameters := [(.object "java/lang/Object"), (.object "java/lang/String")], returnType := some (.object "java/lang/Object") }, accessFlags := 9, code := some k11c1 }
/-- java/util/Objects -/
def k11 : Class := { plain "java/util/Objects" (some 0) with
  accessFlags := 49
  interfaces := #[]
  cf := some (fileOf pool11 42 #[] #[{ accessFlags := 2, nameIndex := 5, descriptorIndex := 6, attributes := #[] }, { accessFlags := 9, nameIndex := 45, descriptorIndex := 94, attributes := #[] }] 49 2 #[] #[])
  fields := #[]
  methods := #[k11m0, k11m1]
  instanceTypes := #[]
  staticTypes := #[]
  resolved := Array.replicate 184 none
  statics := none }

def pool12 : Array CpInfo := pool [(4, .class_ 6), (1, u "java/lang/Object"), (0, u "<init>"), (0, u "()V"), (5, .class_ 16), (1, u "java/lang/StringLatin1"), (104, u "$assertionsDisabled"), (0, u "Z"), (98, .class_ 223), (1, u "java/lang/StringLatin1$LinesSpliterator"), (57, u "equals"), (0, u "([B[B)Z"), (107, .class_ 391), (0, u "java/lang/StringLatin1$CharsSpliterator")] 3

def k12m0 : Method := { name := "<init>", desc := "()V", sig := { parameters := [], returnType := none }, accessFlags := 0, code := none }
def k12c1 : Code := { maxStack := 3, maxLocals := 3, code := jdk_43_method_13_code, exceptionTable := #[], attributes := #[] }
def k12m1 : Method := { name := "equals", desc := "([B[B)Z", sig := { parameters := [(.array .byte), (.array .byte)], returnType := some .boolean }, accessFlags := 9, code := some k12c1 }
/-- java/lang/StringLatin1 -/
def k12 : Class := { plain "java/lang/StringLatin1" (some 0) with
  accessFlags := 48
  interfaces := #[]
  cf := some (fileOf pool12 14 #[.nestMembers #[390, 221]] #[{ accessFlags := 0, nameIndex := 7, descriptorIndex := 8, attributes := #[] }, { accessFlags := 9, nameIndex := 281, descriptorIndex := 282, attributes := #[] }] 48 4 #[] #[{ accessFlags := 4120, nameIndex := 121, descriptorIndex := 122, attributes := #[] }])
  fields := #[{ name := "$assertionsDisabled", type := .boolean, accessFlags := 4120, slot := 0, constantValue := 0 }]
  methods := #[k12m0, k12m1]
  instanceTypes := #[]
  staticTypes := #[.boolean]
  resolved := Array.replicate 395 none
  statics := none }

def pool13 : Array CpInfo := pool [(6, .class_ 8), (1, u "java/lang/Object"), (0, u "<init>"), (0, u "()V"), (1, .class_ 14), (1, u "java/lang/StringUTF16"), (31, u "$assertionsDisabled"), (0, u "Z"), (13, u "HI_BYTE_SHIFT"), (0, u "I"), (2, u "LO_BYTE_SHIFT"), (49, .methodref 12 116), (0, .nameAndType 117 118), (0, u "compress"), (0, u "([CI[BII)I"), (3, u "([CII)[B"), (138, u "coderFromArrayLen"), (0, u "([BI)B"), (106, .class_ 371), (1, u "java/lang/StringUTF16$LinesSpliterator"), (58, u "MAX_LENGTH"), (196, .class_ 628), (0, u "java/lang/StringUTF16$CodePointsSpliterator"), (0, .class_ 630), (0, u "java/lang/StringUTF16$CharsSpliterator")] 4

def k13m0 : Method := { name := "<init>", desc := "()V", sig := { parameters := [], returnType := none }, accessFlags := 0, code := none }
def k13c1 : Code := { maxStack := 2, maxLocals := 2, code := jdk_52_method_15_code, exceptionTable := #[], attributes := #[] }
def k13m1 : Method := { name := "coderFromArrayLen", desc := "([BI)B", sig := { parameters := [(.array .byte), .int], returnType := some .byte }, accessFlags := 8, code := some k13c1 }
def k13c2 : Code := { maxStack := 5, maxLocals := 6, code := jdk_52_method_16_code, exceptionTable := #[], attributes := #[] }
def k13m2 : Method := { name := "compress", desc := "([CII)[B", sig := { parameters := [(.array .char), .int, .int], returnType := some (.array .byte) }, accessFlags := 9, code := some k13c2 }
def k13c3 : Code := { maxStack := 3, maxLocals := 7, code := jdk_52_method_21_code, exceptionTable := #[], attributes := #[] }
def k13m3 : Method := { name := "compress", desc := "([CI[BII)I", sig := { parameters := [(.array .char), .int, (.array .byte), .int, .int], returnType := some .int }, accessFlags := 9, code := some k13c3 }
/-- java/lang/StringUTF16 -/
def k13 : Class := { plain "java/lang/StringUTF16" (some 0) with
  accessFlags := 48
  interfaces := #[]
  cf := some (fileOf pool13 12 #[.nestMembers #[627, 629, 369]] #[{ accessFlags := 0, nameIndex := 9, descriptorIndex := 10, attributes := #[] }, { accessFlags := 8, nameIndex := 261, descriptorIndex := 262, attributes := #[] }, { accessFlags := 9, nameIndex := 117, descriptorIndex := 122, attributes := #[] }, { accessFlags := 9, nameIndex := 117, descriptorIndex := 118, attributes := #[] }] 48 6 #[] #[{ accessFlags := 26, nameIndex := 61, descriptorIndex := 62, attributes := #[] }, { accessFlags := 26, nameIndex := 65, descriptorIndex := 62, attributes := #[] }, { accessFlags := 24, nameIndex := 430, descriptorIndex := 62, attributes := #[] }, { accessFlags := 4120, nameIndex := 46, descriptorIndex := 47, attributes := #[] }])
  fields := #[{ name := "HI_BYTE_SHIFT", type := .int, accessFlags := 26, slot := 0, constantValue := 0 }, { name := "LO_BYTE_SHIFT", type := .int, accessFlags := 26, slot := 1, constantValue := 0 }, { name := "MAX_LENGTH", type := .int, accessFlags := 24, slot := 2, constantValue := 0 }, { name := "$assertionsDisabled", type := .boolean, accessFlags := 4120, slot := 3, constantValue := 0 }]
  methods := #[k13m0, k13m1, k13m2, k13m3]
  instanceTypes := #[]
  staticTypes := #[.int, .int, .int, .boolean]
  resolved := Array.replicate 635 none
  statics := none }

def pool14 : Array CpInfo := pool [(2, .class_ 4), (1, u "java/lang/Object"), (0, u "<init>"), (0, u "()V"), (17, .class_ 26), (1, u "jdk/internal/util/Preconditions"), (28, .class_ 56), (0, u "jdk/internal/util/Preconditions$4"), (57, .class_ 115), (0, u "jdk/internal/util/Preconditions$1"), (7, u "SIOOBE_FORMATTER"), (0, u "Ljava/util/function/BiFunction;"), (0, .class_ 126), (0, u "jdk/internal/util/Preconditions$2"), (3, u "AIOOBE_FORMATTER"), (0, .class_ 132), (0, u "jdk/internal/util/Preconditions$3"), (3, u "IOOBE_FORMATTER")] 57

def k14m0 : Method := { name := "<init>", desc := "()V", sig := { parameters := [], returnType := none }, accessFlags := 1, code := none }
/-- jdk/internal/util/Preconditions -/
def k14 : Class := { plain "jdk/internal/util/Preconditions" (some 0) with
  accessFlags := 33
  interfaces := #[]
  cf := some (fileOf pool14 24 #[.nestMembers #[55, 131, 125, 114]] #[{ accessFlags := 1, nameIndex := 5, descriptorIndex := 6, attributes := #[] }] 33 2 #[] #[{ accessFlags := 25, nameIndex := 123, descriptorIndex := 124, attributes := #[] }, { accessFlags := 25, nameIndex := 130, descriptorIndex := 124, attributes := #[] }, { accessFlags := 25, nameIndex := 136, descriptorIndex := 124, attributes := #[] }])
  fields := #[{ name := "SIOOBE_FORMATTER", type := (.object "java/util/function/BiFunction"), accessFlags := 25, slot := 0, constantValue := 0 }, { name := "AIOOBE_FORMATTER", type := (.object "java/util/function/BiFunction"), accessFlags := 25, slot := 1, constantValue := 0 }, { name := "IOOBE_FORMATTER", type := (.object "java/util/function/BiFunction"), accessFlags := 25, slot := 2, constantValue := 0 }]
  methods := #[k14m0]
  instanceTypes := #[]
  staticTypes := #[(.object "java/util/function/BiFunction"), (.object "java/util/function/BiFunction"), (.object "java/util/function/BiFunction")]
  resolved := Array.replicate 194 none
  statics := some 2 }

def pool15 : Array CpInfo := pool [(9, u "<init>"), (6, .class_ 18), (1, u "java/lang/Object"), (0, u "()V"), (1, .class_ 23), (1, u "jdk/internal/util/ArraysSupport"), (0, u "LOG2_ARRAY_LONG_INDEX_SCALE"), (0, u "I"), (2, u "U"), (0, u "Ljdk/internal/misc/Unsafe;"), (8, u "BIG_ENDIAN"), (0, u "Z"), (8, u "LOG2_BYTE_BIT_SIZE"), (4, u "LOG2_ARRAY_INT_INDEX_SCALE"), (54, u "JLA"), (0, u "Ljdk/internal/access/JavaLangAccess;"), (11, u "LOG2_ARRAY_BOOLEAN_INDEX_SCALE"), (9, u "LOG2_ARRAY_BYTE_INDEX_SCALE"), (5, u "LOG2_ARRAY_CHAR_INDEX_SCALE"), (5, u "LOG2_ARRAY_SHORT_INDEX_SCALE"), (18, u "LOG2_ARRAY_FLOAT_INDEX_SCALE"), (24, u "LOG2_ARRAY_DOUBLE_INDEX_SCALE"), (89, u "T_BOOLEAN"), (2, u "T_CHAR"), (1, u "T_FLOAT"), (1, u "T_DOUBLE"), (1, u "T_BYTE"), (1, u "T_SHORT"), (1, u "T_INT"), (1, u "T_LONG"), (1, u "SOFT_MAX_ARRAY_LENGTH")] 83

def k15m0 : Method := { name := "<init>", desc := "()V", sig := { parameters := [], returnType := none }, accessFlags := 2, code := none }
/-- jdk/internal/util/ArraysSupport -/
def k15 : Class := { plain "jdk/internal/util/ArraysSupport" (some 0) with
  accessFlags := 33
  interfaces := #[]
  cf := some (fileOf pool15 21 #[] #[{ accessFlags := 2, nameIndex := 9, descriptorIndex := 19, attributes := #[] }] 33 16 #[] #[{ accessFlags := 24, nameIndex := 28, descriptorIndex := 29, attributes := #[] }, { accessFlags := 26, nameIndex := 38, descriptorIndex := 39, attributes := #[] }, { accessFlags := 25, nameIndex := 121, descriptorIndex := 25, attributes := #[] }, { accessFlags := 25, nameIndex := 131, descriptorIndex := 25, attributes := #[] }, { accessFlags := 25, nameIndex := 137, descriptorIndex := 25, attributes := #[] }, { accessFlags := 25, nameIndex := 143, descriptorIndex := 25, attributes := #[] }, { accessFlags := 25, nameIndex := 53, descriptorIndex := 25, attributes := #[] }, { accessFlags := 25, nameIndex := 24, descriptorIndex := 25, attributes := #[] }, { accessFlags := 25, nameIndex := 162, descriptorIndex := 25, attributes := #[] }, { accessFlags := 25, nameIndex := 187, descriptorIndex := 25, attributes := #[] }, { accessFlags := 26, nameIndex := 48, descriptorIndex := 25, attributes := #[] }, { accessFlags := 25, nameIndex := 277, descriptorIndex := 25, attributes := #[] }, { accessFlags := 25, nameIndex := 280, descriptorIndex := 25, attributes := #[] }, { accessFlags := 25, nameIndex := 282, descriptorIndex := 25, attributes := #[] }, { accessFlags := 25, nameIndex := 284, descriptorIndex := 25, attributes := #[] }, { accessFlags := 25, nameIndex := 286, descriptorIndex := 25, attributes := #[] }, { accessFlags := 25, nameIndex := 288, descriptorIndex := 25, attributes := #[] }, { accessFlags := 25, nameIndex := 290, descriptorIndex := 25, attributes := #[] }, { accessFlags := 25, nameIndex := 292, descriptorIndex := 25, attributes := #[] }, { accessFlags := 26, nameIndex := 108, descriptorIndex := 109, attributes := #[] }, { accessFlags := 25, nameIndex := 294, descriptorIndex := 25, attributes := #[] }])
  fields := #[{ name := "U", type := (.object "jdk/internal/misc/Unsafe"), accessFlags := 24, slot := 0, constantValue := 0 }, { name := "BIG_ENDIAN", type := .boolean, accessFlags := 26, slot := 1, constantValue := 0 }, { name := "LOG2_ARRAY_BOOLEAN_INDEX_SCALE", type := .int, accessFlags := 25, slot := 2, constantValue := 0 }, { name := "LOG2_ARRAY_BYTE_INDEX_SCALE", type := .int, accessFlags := 25, slot := 3, constantValue := 0 }, { name := "LOG2_ARRAY_CHAR_INDEX_SCALE", type := .int, accessFlags := 25, slot := 4, constantValue := 0 }, { name := "LOG2_ARRAY_SHORT_INDEX_SCALE", type := .int, accessFlags := 25, slot := 5, constantValue := 0 }, { name := "LOG2_ARRAY_INT_INDEX_SCALE", type := .int, accessFlags := 25, slot := 6, constantValue := 0 }, { name := "LOG2_ARRAY_LONG_INDEX_SCALE", type := .int, accessFlags := 25, slot := 7, constantValue := 0 }, { name := "LOG2_ARRAY_FLOAT_INDEX_SCALE", type := .int, accessFlags := 25, slot := 8, constantValue := 0 }, { name := "LOG2_ARRAY_DOUBLE_INDEX_SCALE", type := .int, accessFlags := 25, slot := 9, constantValue := 0 }, { name := "LOG2_BYTE_BIT_SIZE", type := .int, accessFlags := 26, slot := 10, constantValue := 0 }, { name := "T_BOOLEAN", type := .int, accessFlags := 25, slot := 11, constantValue := 0 }, { name := "T_CHAR", type := .int, accessFlags := 25, slot := 12, constantValue := 0 }, { name := "T_FLOAT", type := .int, accessFlags := 25, slot := 13, constantValue := 0 }, { name := "T_DOUBLE", type := .int, accessFlags := 25, slot := 14, constantValue := 0 }, { name := "T_BYTE", type := .int, accessFlags := 25, slot := 15, constantValue := 0 }, { name := "T_SHORT", type := .int, accessFlags := 25, slot := 16, constantValue := 0 }, { name := "T_INT", type := .int, accessFlags := 25, slot := 17, constantValue := 0 }, { name := "T_LONG", type := .int, accessFlags := 25, slot := 18, constantValue := 0 }, { name := "JLA", type := (.object "jdk/internal/access/JavaLangAccess"), accessFlags := 26, slot := 19, constantValue := 0 }, { name := "SOFT_MAX_ARRAY_LENGTH", type := .int, accessFlags := 25, slot := 20, constantValue := 0 }]
  methods := #[k15m0]
  instanceTypes := #[]
  staticTypes := #[(.object "jdk/internal/misc/Unsafe"), .boolean, .int, .int, .int, .int, .int, .int, .int, .int, .int, .int, .int, .int, .int, .int, .int, .int, .int, (.object "jdk/internal/access/JavaLangAccess"), .int]
  resolved := Array.replicate 378 none
  statics := none }

def pool16 : Array CpInfo := pool [(1, u "java/lang/Cloneable"), (0, .class_ 1), (0, u "java/lang/Object"), (0, .class_ 3)] 3

/-- java/lang/Cloneable -/
def k16 : Class := { plain "java/lang/Cloneable" (some 0) with
  accessFlags := 1537
  interfaces := #[]
  cf := some (fileOf pool16 2 #[] #[] 1537 4 #[] #[])
  fields := #[]
  methods := #[]
  instanceTypes := #[]
  staticTypes := #[]
  resolved := Array.replicate 8 none
  statics := none }

/-- the primitive byte -/
def k17 : Class := { plain "byte" none with kind := .primitive 'B', accessFlags := 0x411 }
/-- [B -/
def k18 : Class := { plain "[B" (some 0) with kind := .array 17 .byte, interfaces := #[16, 5], accessFlags := 1041 }

/-- the primitive char -/
def k19 : Class := { plain "char" none with kind := .primitive 'C', accessFlags := 0x411 }
/-- [C -/
def k20 : Class := { plain "[C" (some 0) with kind := .array 19 .char, interfaces := #[16, 5], accessFlags := 1041 }

/-- the primitive int -/
def k21 : Class := { plain "int" none with kind := .primitive 'I', accessFlags := 0x411 }
/-- [I -/
def k22 : Class := { plain "[I" (some 0) with kind := .array 21 .int, interfaces := #[16, 5], accessFlags := 1041 }

def heap : Heap := #[{ cls := 7, slots := #[.ref 3, .ref 4, .ref 5, .ref 6, .ref 7, .ref 8, .ref 9, .null], vm := .statics 7 },
  { cls := 10, slots := #[.long 0, .int 1, .null, .int 0, .null, .int 0, .int 0], vm := .statics 10 },
  { cls := 14, slots := #[.null, .null, .null], vm := .statics 14 },
  { cls := 7, slots := #[.null, .int 0, .int 0], vm := .none },
  { cls := 7, slots := #[.null, .int 1, .int 0], vm := .none },
  { cls := 7, slots := #[.null, .int 2, .int 0], vm := .none },
  { cls := 7, slots := #[.null, .int 3, .int 0], vm := .none },
  { cls := 7, slots := #[.null, .int 4, .int 0], vm := .none },
  { cls := 7, slots := #[.null, .int 5, .int 0], vm := .none },
  { cls := 7, slots := #[.null, .int 6, .int 0], vm := .none }]
def classes : Array Class := #[k0, k1, k2, k3, k4, k5, k6, k7, k8, k9, k10, k11, k12, k13, k14, k15, k16, k17, k18, k19, k20, k21, k22]
def interned : List (Array UInt16 × Addr) := []
def slotsUsed : Nat := 39
def theMethod : MethodId := ⟨1, 3⟩
def args0 : Array Value := #[.int 5, .int 7, .int 9, .int 3, .int 4]
def aboutOver (below : List Frame) : State where
  vm := { classes := classes, interned := interned.toArray }
  heap := heap
  slotsUsed := slotsUsed
  threads := #[{ frames := .invoking theMethod args0 :: below }]
def below0 : List Frame := [.native { method := ⟨0, 0⟩, args := #[] }]
def about1 : State := aboutOver below0
def p0 : Program := .bare "" "" ""
def e0 : Env := launch0.env 0 0 0
theorem w_frames : about1.frames = Frame.invoking theMethod args0 :: below0 := rfl
set_option maxRecDepth 65536 in
theorem w_args : argsFit about1.vm theMethod args0 = true := by decide +kernel
set_option maxRecDepth 65536 in
theorem w_heap : heapFits about1 = true := by decide +kernel
set_option maxRecDepth 65536 in
theorem w_runnable : about1.curStatus? = some .runnable := by decide +kernel
set_option maxRecDepth 65536 in
theorem w_alone : about1.alone = true := by decide +kernel
set_option maxRecDepth 65536 in
theorem w_named : about1.methodNamed? x = some theMethod := by decide +kernel
set_option maxRecDepth 65536 in
theorem w_hears : about1.hears theMethod below0 = true := by decide +kernel
set_option maxRecDepth 65536 in
theorem w_ripe : about1.ripe theMethod args0 below0 = true := by decide +kernel
theorem w_running : about1.status = .running := rfl
set_option maxRecDepth 65536 in
theorem w_room : about1.hasRoom e0.platform room_1 = true :=
  launch0.hasRoom_least _ room_1 (by decide +kernel) (by decide +kernel) (by decide +kernel) (by decide +kernel) (by decide +kernel) (by decide +kernel)
theorem allAtoms_all (ts : List Jvm.Cond) (a : Array Jvm.Value) (st : Jvm.State) : (allAtoms ts).before a st = ts.all (fun c => c.before a st) := by
  induction ts with
  | nil => rfl
  | cons c t ih =>
    show (Jvm.Cond.and c (allAtoms t)).before a st = _
    rw [Jvm.Cond.before_and, ih, List.all_cons]
def words1 : List Jvm.Cond := Jvm.Cond.code x code maxLocals ret :: tables_1
/-- a 'code' word, met by the world's own term for the bytes: nothing is compared byte by byte -/
theorem code_word {y : MethodName} {bytes : ByteArray} {mx : Nat} {rt : Option FieldType} {a : Array Value} {s : State} {m : MethodId} {meth : Method} {c : Code} (h1 : s.methodNamed? y = some m) (h2 : s.vm.method? m = some meth) (h3 : meth.code = some c) (h4 : c.code = bytes)
    (h5 : (c.maxLocals == mx && c.exceptionTable.isEmpty && decide (c.maxStack ≤ mostOperands) && decide (meth.sig.returnType = rt) && !meth.locks && decide (parseMethodDescriptor y.desc = some meth.sig)) = true) : (Jvm.Cond.code y bytes mx rt).before a s = true := by
  simp only [Bool.and_eq_true, beq_iff_eq, Bool.not_eq_true', decide_eq_true_eq] at h5
  obtain ⟨⟨⟨⟨⟨g1, g2⟩, g3⟩, g4⟩, g5⟩, g6⟩ := h5
  simp [Cond.before, Cond.holds, Cond.value, h1, h2, h3, h4, g1, g2, g3, g4, g5, g6]
def isCode : Jvm.Cond → Bool
  | .code _ _ _ _ => true
  | _ => false
theorem all_split {L : List Jvm.Cond} {P : Jvm.Cond → Bool} (h1 : L.all (fun c => isCode c || P c) = true) (h2 : ∀ c ∈ L.filter isCode, P c = true) : L.all P = true := by
  refine List.all_eq_true.mpr fun c hc => ?_
  have h := List.all_eq_true.mp h1 c hc
  rcases Bool.eq_false_or_eq_true (isCode c) with hi | hi
  · exact h2 c (List.mem_filter.mpr ⟨hc, hi⟩)
  · simpa [hi] using h
set_option maxRecDepth 65536 in
theorem w_c0 : (Jvm.Cond.code x code maxLocals ret).before args0 about1 = true := code_word (m := ⟨1, 3⟩) (meth := k1m3) (c := k1c3) (by decide +kernel) rfl rfl rfl (by decide +kernel)
set_option maxRecDepth 65536 in
theorem w_c1 : (Jvm.Cond.code ({ cls := "com/example/mudskipper/mudskipper/jpql/TokenEqualsPinLaw", name := "kindOf", desc := "(I)Lcom/example/mudskipper/mudskipper/jpql/TokenKind;" } : Jvm.MethodName) method_2_code (1 : Nat) (Option.some (Jvm.ClassFile.FieldType.object "com/example/mudskipper/mudskipper/jpql/TokenKind"))).before args0 about1 = true := code_word (m := ⟨1, 1⟩) (meth := k1m1) (c := k1c1) (by decide +kernel) rfl rfl rfl (by decide +kernel)
set_option maxRecDepth 65536 in
theorem w_c2 : (Jvm.Cond.code ({ cls := "com/example/mudskipper/mudskipper/jpql/TokenEqualsPinLaw", name := "str", desc := "(ICC)Ljava/lang/String;" } : Jvm.MethodName) method_3_code (4 : Nat) (Option.some (Jvm.ClassFile.FieldType.object "java/lang/String"))).before args0 about1 = true := code_word (m := ⟨1, 2⟩) (meth := k1m2) (c := k1c2) (by decide +kernel) rfl rfl rfl (by decide +kernel)
set_option maxRecDepth 65536 in
theorem w_c3 : (Jvm.Cond.code ({ cls := "java/lang/String", name := "<init>", desc := "([C)V" } : Jvm.MethodName) jdk_42_method_3_code (2 : Nat) (Option.none : Option Jvm.ClassFile.FieldType)).before args0 about1 = true := code_word (m := ⟨10, 1⟩) (meth := k10m1) (c := k10c1) (by decide +kernel) rfl rfl rfl (by decide +kernel)
set_option maxRecDepth 65536 in
theorem w_c4 : (Jvm.Cond.code ({ cls := "java/lang/String", name := "<init>", desc := "([CIILjava/lang/Void;)V" } : Jvm.MethodName) jdk_42_method_149_code (6 : Nat) (Option.none : Option Jvm.ClassFile.FieldType)).before args0 about1 = true := code_word (m := ⟨10, 3⟩) (meth := k10m3) (c := k10c3) (by decide +kernel) rfl rfl rfl (by decide +kernel)
set_option maxRecDepth 65536 in
theorem w_c5 : (Jvm.Cond.code ({ cls := "java/lang/Object", name := "<init>", desc := "()V" } : Jvm.MethodName) object_method_1_code (1 : Nat) (Option.none : Option Jvm.ClassFile.FieldType)).before args0 about1 = true := code_word (m := ⟨0, 0⟩) (meth := k0m0) (c := k0c0) (by decide +kernel) rfl rfl rfl (by decide +kernel)
set_option maxRecDepth 65536 in
theorem w_c6 : (Jvm.Cond.code ({ cls := "com/example/mudskipper/mudskipper/jpql/Token", name := "<init>", desc := "(Lcom/example/mudskipper/mudskipper/jpql/TokenKind;Ljava/lang/String;I)V" } : Jvm.MethodName) prog_32_method_1_code (4 : Nat) (Option.none : Option Jvm.ClassFile.FieldType)).before args0 about1 = true := code_word (m := ⟨2, 0⟩) (meth := k2m0) (c := k2c0) (by decide +kernel) rfl rfl rfl (by decide +kernel)
set_option maxRecDepth 65536 in
theorem w_c7 : (Jvm.Cond.code ({ cls := "java/util/Objects", name := "requireNonNull", desc := "(Ljava/lang/Object;Ljava/lang/String;)Ljava/lang/Object;" } : Jvm.MethodName) jdk_31_method_11_code (2 : Nat) (Option.some (Jvm.ClassFile.FieldType.object "java/lang/Object"))).before args0 about1 = true := code_word (m := ⟨11, 1⟩) (meth := k11m1) (c := k11c1) (by decide +kernel) rfl rfl rfl (by decide +kernel)
set_option maxRecDepth 65536 in
theorem w_c8 : (Jvm.Cond.code ({ cls := "com/example/mudskipper/mudskipper/jpql/Token", name := "equals", desc := "(Ljava/lang/Object;)Z" } : Jvm.MethodName) prog_32_method_5_code (3 : Nat) (Option.some Jvm.ClassFile.FieldType.boolean)).before args0 about1 = true := code_word (m := ⟨2, 1⟩) (meth := k2m1) (c := k2c1) (by decide +kernel) rfl rfl rfl (by decide +kernel)
set_option maxRecDepth 65536 in
theorem w_c9 : (Jvm.Cond.code ({ cls := "java/lang/String", name := "equals", desc := "(Ljava/lang/Object;)Z" } : Jvm.MethodName) jdk_42_method_66_code (3 : Nat) (Option.some Jvm.ClassFile.FieldType.boolean)).before args0 about1 = true := code_word (m := ⟨10, 2⟩) (meth := k10m2) (c := k10c2) (by decide +kernel) rfl rfl rfl (by decide +kernel)
set_option maxRecDepth 65536 in
theorem w_c10 : (Jvm.Cond.code ({ cls := "java/lang/StringLatin1", name := "equals", desc := "([B[B)Z" } : Jvm.MethodName) jdk_43_method_13_code (3 : Nat) (Option.some Jvm.ClassFile.FieldType.boolean)).before args0 about1 = true := code_word (m := ⟨12, 1⟩) (meth := k12m1) (c := k12c1) (by decide +kernel) rfl rfl rfl (by decide +kernel)
set_option maxRecDepth 65536 in
theorem w_c11 : (Jvm.Cond.code ({ cls := "java/lang/StringUTF16", name := "compress", desc := "([CII)[B" } : Jvm.MethodName) jdk_52_method_16_code (6 : Nat) (Option.some (Jvm.ClassFile.FieldType.array Jvm.ClassFile.FieldType.byte))).before args0 about1 = true := code_word (m := ⟨13, 2⟩) (meth := k13m2) (c := k13c2) (by decide +kernel) rfl rfl rfl (by decide +kernel)
set_option maxRecDepth 65536 in
theorem w_c12 : (Jvm.Cond.code ({ cls := "java/lang/StringUTF16", name := "compress", desc := "([CI[BII)I" } : Jvm.MethodName) jdk_52_method_21_code (7 : Nat) (Option.some Jvm.ClassFile.FieldType.int)).before args0 about1 = true := code_word (m := ⟨13, 3⟩) (meth := k13m3) (c := k13c3) (by decide +kernel) rfl rfl rfl (by decide +kernel)
set_option maxRecDepth 65536 in
theorem w_c13 : (Jvm.Cond.code ({ cls := "java/lang/StringUTF16", name := "coderFromArrayLen", desc := "([BI)B" } : Jvm.MethodName) jdk_52_method_15_code (2 : Nat) (Option.some Jvm.ClassFile.FieldType.byte)).before args0 about1 = true := code_word (m := ⟨13, 1⟩) (meth := k13m1) (c := k13c1) (by decide +kernel) rfl rfl rfl (by decide +kernel)
def codes1 : List Jvm.Cond := [Jvm.Cond.code x code maxLocals ret, Jvm.Cond.code ({ cls := "com/example/mudskipper/mudskipper/jpql/TokenEqualsPinLaw", name := "kindOf", desc := "(I)Lcom/example/mudskipper/mudskipper/jpql/TokenKind;" } : Jvm.MethodName) method_2_code (1 : Nat) (Option.some (Jvm.ClassFile.FieldType.object "com/example/mudskipper/mudskipper/jpql/TokenKind")), Jvm.Cond.code ({ cls := "com/example/mudskipper/mudskipper/jpql/TokenEqualsPinLaw", name := "str", desc := "(ICC)Ljava/lang/String;" } : Jvm.MethodName) method_3_code (4 : Nat) (Option.some (Jvm.ClassFile.FieldType.object "java/lang/String")), Jvm.Cond.code ({ cls := "java/lang/String", name := "<init>", desc := "([C)V" } : Jvm.MethodName) jdk_42_method_3_code (2 : Nat) (Option.none : Option Jvm.ClassFile.FieldType), Jvm.Cond.code ({ cls := "java/lang/String", name := "<init>", desc := "([CIILjava/lang/Void;)V" } : Jvm.MethodName) jdk_42_method_149_code (6 : Nat) (Option.none : Option Jvm.ClassFile.FieldType), Jvm.Cond.code ({ cls := "java/lang/Object", name := "<init>", desc := "()V" } : Jvm.MethodName) object_method_1_code (1 : Nat) (Option.none : Option Jvm.ClassFile.FieldType), Jvm.Cond.code ({ cls := "com/example/mudskipper/mudskipper/jpql/Token", name := "<init>", desc := "(Lcom/example/mudskipper/mudskipper/jpql/TokenKind;Ljava/lang/String;I)V" } : Jvm.MethodName) prog_32_method_1_code (4 : Nat) (Option.none : Option Jvm.ClassFile.FieldType), Jvm.Cond.code ({ cls := "java/util/Objects", name := "requireNonNull", desc := "(Ljava/lang/Object;Ljava/lang/String;)Ljava/lang/Object;" } : Jvm.MethodName) jdk_31_method_11_code (2 : Nat) (Option.some (Jvm.ClassFile.FieldType.object "java/lang/Object")), Jvm.Cond.code ({ cls := "com/example/mudskipper/mudskipper/jpql/Token", name := "equals", desc := "(Ljava/lang/Object;)Z" } : Jvm.MethodName) prog_32_method_5_code (3 : Nat) (Option.some Jvm.ClassFile.FieldType.boolean), Jvm.Cond.code ({ cls := "java/lang/String", name := "equals", desc := "(Ljava/lang/Object;)Z" } : Jvm.MethodName) jdk_42_method_66_code (3 : Nat) (Option.some Jvm.ClassFile.FieldType.boolean), Jvm.Cond.code ({ cls := "java/lang/StringLatin1", name := "equals", desc := "([B[B)Z" } : Jvm.MethodName) jdk_43_method_13_code (3 : Nat) (Option.some Jvm.ClassFile.FieldType.boolean), Jvm.Cond.code ({ cls := "java/lang/StringUTF16", name := "compress", desc := "([CII)[B" } : Jvm.MethodName) jdk_52_method_16_code (6 : Nat) (Option.some (Jvm.ClassFile.FieldType.array Jvm.ClassFile.FieldType.byte)), Jvm.Cond.code ({ cls := "java/lang/StringUTF16", name := "compress", desc := "([CI[BII)I" } : Jvm.MethodName) jdk_52_method_21_code (7 : Nat) (Option.some Jvm.ClassFile.FieldType.int), Jvm.Cond.code ({ cls := "java/lang/StringUTF16", name := "coderFromArrayLen", desc := "([BI)B" } : Jvm.MethodName) jdk_52_method_15_code (2 : Nat) (Option.some Jvm.ClassFile.FieldType.byte)]
set_option maxRecDepth 65536 in
theorem codes_eq : words1.filter isCode = codes1 := rfl
theorem w_codes : ∀ c ∈ words1.filter isCode, c.before args0 about1 = true := by
  rw [codes_eq]
  intro c hc
  simp only [codes1, List.mem_cons, List.not_mem_nil, or_false] at hc
  rcases hc with rfl | rfl | rfl | rfl | rfl | rfl | rfl | rfl | rfl | rfl | rfl | rfl | rfl | rfl
  · exact w_c0
  · exact w_c1
  · exact w_c2
  · exact w_c3
  · exact w_c4
  · exact w_c5
  · exact w_c6
  · exact w_c7
  · exact w_c8
  · exact w_c9
  · exact w_c10
  · exact w_c11
  · exact w_c12
  · exact w_c13
set_option maxRecDepth 65536 in
theorem w_t1 : (words1.take 24).all (fun c => isCode c || c.before args0 about1) = true := by decide +kernel
set_option maxRecDepth 65536 in
theorem w_t2 : ((words1.drop 24).take 24).all (fun c => isCode c || c.before args0 about1) = true := by decide +kernel
set_option maxRecDepth 65536 in
theorem w_t3 : (((words1.drop 24).drop 24).take 24).all (fun c => isCode c || c.before args0 about1) = true := by decide +kernel
set_option maxRecDepth 65536 in
theorem w_t4 : ((((words1.drop 24).drop 24).drop 24).take 24).all (fun c => isCode c || c.before args0 about1) = true := by decide +kernel
set_option maxRecDepth 65536 in
theorem w_t5 : ((((words1.drop 24).drop 24).drop 24).drop 24).all (fun c => isCode c || c.before args0 about1) = true := by decide +kernel
theorem w_tables : (allAtoms (Jvm.Cond.code x code maxLocals ret :: tables_1)).before args0 about1 = true := by
  rw [allAtoms_all]
  show words1.all (fun c => c.before args0 about1) = true
  refine all_split ?_ w_codes
  rw [← List.take_append_drop 24 words1, List.all_append, w_t1, ← List.take_append_drop 24 (words1.drop 24), List.all_append, w_t2, ← List.take_append_drop 24 ((words1.drop 24).drop 24), List.all_append, w_t3, ← List.take_append_drop 24 (((words1.drop 24).drop 24).drop 24), List.all_append, w_t4, w_t5]
  rfl
set_option maxRecDepth 65536 in
theorem w_rest : rest_1_c.before args0 about1 = true := by decide +kernel
set_option maxRecDepth 65536 in
theorem w_case : (Jvm.Cond.and given_1 narrow_1).before args0 about1 = true := by decide +kernel
set_option maxRecDepth 65536 in
theorem w_consts : constsHeld consts_1 about1 := Jvm.Lit.constsHeldB_iff.mp (by decide +kernel)
theorem w_applies : (headSpec (Jvm.Cond.code x code maxLocals ret :: tables_1) room_1).applies x e0.platform about1 = true :=
  (Spec.applies_iff w_frames).mpr ⟨w_running, w_runnable, w_alone, w_named, w_hears, w_ripe, w_room, w_tables⟩
theorem atStart : AtStart classFile x code maxLocals ret World_1 tables_1 room_1 Calls_1 rest_1 Pre_1 launch0 p0 e0 about1 theMethod args0 below0 :=
  ⟨lists_1, trivial, launch0.admits_env _ _ _, launch0.least_env, fairChoices_fair.cas, fairChoices_fair.clock, w_frames, w_args, w_heap, w_applies, ⟨w_consts, trivial⟩, w_rest, w_case⟩
end start1
theorem witness_1 : WitnessClaimed_1 := ⟨start1.p0, start1.e0, start1.about1, start1.theMethod, start1.args0, start1.below0, start1.atStart⟩
end Jvm.Pilot.@@N@@
