import JvmDerived
import JvmDerived.Pilot.@@N@@Statement
import JvmDerived.Pilot.@@N@@Code
set_option linter.unusedVariables false
set_option linter.unusedSimpArgs false
namespace Jvm.RoadKit
open Sem ClassFile Op Lib Jvm.Stand Jvm.Free Jvm.LawKit
section New
variable {p : Program} {l : Launch} {e : Env} {R : Room} {s : State} {m : MethodId} {args : Array Value} {below : List Frame} {meth : Method} {c : Code} {T : State} {locs : List Loc} {cells slots : Nat}
theorem retI (X : Stand p l e R s m args below meth c T locs cells slots) (hx : p.tables.exec = Jvm.exec) {pc : Nat} {Ls : Array Slot} {z : Int32} {rest : List Value} (hret : meth.sig.returnType = some .int) (hd : decode c.code pc = .ok (.ireturn, 1)) {fs : List Frame}
    (hl : ∀ (f : JFrame) (acts : List Action), f.method = m → f.locked = none → f.entered = [] → (doReturn e (T.setTop f) acts (some (.int z))).1 = T.setFrames fs) : Steps p.tables e below (T.setTop (mkF m pc Ls (.int z :: rest))) (T.setFrames fs) := by
  have hm' : T.vm.method? m = some meth := X.method'
  have hn : narrow .int (.int z) = .int z := rfl
  show Steps p.tables e below (T.setTop { method := m, pc := pc, locals := Ls, stack := _ :: rest, locked := none }) _
  jvm_step X.here [X.here.top, hx, hd, hm', hret, hn]
  first | (intro acts; rw [hl _ acts rfl rfl rfl]) | rw [hl _ _ rfl rfl rfl]
  exact Steps.refl _
end New
end Jvm.RoadKit
/- laws to paste: Road.backV, Road.lenW, Road.chN, Road.codOf (cut by pick.py; bodies as the Statement names them) -/
namespace Jvm.Pilot.@@N@@
namespace StrChars
open Jvm Sem ClassFile Op Lib Jvm.Stand Jvm.Free.XT Jvm.Free.ALB Jvm.Free.JM Jvm.Free
open Jvm.Lib.Cold (StaticIs)
/-- a char array whose places are chars -/
def Ch (a : Addr) (A : Cell) (U : State) : Prop := Arr .char a A U ∧ Typed .char A
theorem Ch.mv {a : Addr} {A : Cell} {U U' : State} (h : Ch a A U) (hal : U.vm.Alike U'.vm) (hh : U'.heap = U.heap) : Ch a A U' := ⟨h.1.mv hal hh, h.2⟩
theorem Ch.keep {a : Addr} {A : Cell} {U U' : State} (h : Ch a A U) (hal : U.vm.Alike U'.vm) (hk : U'.heap[a]? = some A) : Ch a A U' := ⟨h.1.keep hal hk, h.2⟩
/-- what place i of a char[]'s cell holds -/
def cv (A : Cell) (i : Nat) : Int32 := match A.slots[i]? with | some (.int x) => x | _ => 0
theorem Ch.get {a : Addr} {A : Cell} {U : State} (h : Ch a A U) {i : Nat} (hi : i < A.slots.size) : A.slots[i]? = some (.int (cv A i)) := by
  have e := Array.getElem?_eq_getElem hi
  have f := h.2 i _ e
  unfold cv; rw [e]
  generalize A.slots[i] = v at f
  cases v <;> simp [fits] at f ⊢
/-- the byte that i2b leaves of a char -/
def lo8 (x : Int32) : Int32 := x.toInt8.toInt32
theorem fits_lo8 (y : Int32) : fits .byte (.int (lo8 y)) = true := by
  have h1 := y.toInt8.le_toInt
  have h2 := y.toInt8.toInt_lt
  simp only [lo8, fits, Bool.and_eq_true, decide_eq_true_eq, Int32.le_iff_toInt_le, Int8.toInt_toInt32, show (-128 : Int32).toInt = -128 from by decide, show (127 : Int32).toInt = 127 from by decide]
  omega
/-- A' is A but that each place j of lo .. hi - 1 holds f j -/
def Laid (A A' : Cell) (lo hi : Nat) (f : Nat → Value) : Prop := A'.cls = A.cls ∧ A'.vm = A.vm ∧ A'.slots.size = A.slots.size ∧ ∀ i, A'.slots[i]? = if lo ≤ i ∧ i < hi then some (f i) else A.slots[i]?
theorem Laid.zero (A : Cell) (lo : Nat) (f : Nat → Value) : Laid A A lo (lo + 0) f := ⟨rfl, rfl, rfl, fun i => by rw [if_neg (by omega)]⟩
theorem Laid.step {A Ak : Cell} {lo k : Nat} {f : Nat → Value} {v : Value} (h : Laid A Ak lo k f) (hlo : lo ≤ k) (hk : k < Ak.slots.size) (hv : v = f k) : Laid A (Ak.setSlot k v) lo (k + 1) f := by
  refine ⟨h.1, h.2.1, by simpa [Cell.setSlot] using h.2.2.1, fun i => ?_⟩
  by_cases e : k = i
  · subst e; rw [Cell.slots_setSlot_self v hk, if_pos (by omega), hv]
  · rw [Cell.slots_setSlot_ne v e, h.2.2.2 i]
    by_cases q : lo ≤ i ∧ i < k
    · rw [if_pos q, if_pos (by omega)]
    · rw [if_neg q, if_neg (by omega)]
def U16 : String := "java/lang/StringUTF16"
namespace Cmp5
def yN : MethodName := ⟨"java/lang/StringUTF16", "compress", "([CI[BII)I"⟩
abbrev yB : ByteArray := jdk_52_method_21_code
theorem d0 : decode yB 0 = .ok (.iconst 0, 1) := by decide +kernel
theorem d1 : decode yB 1 = .ok (.istore 5, 2) := by decide +kernel
theorem d3 : decode yB 3 = .ok (.iload 5, 2) := by decide +kernel
theorem d5 : decode yB 5 = .ok (.iload 4, 2) := by decide +kernel
theorem d7 : decode yB 7 = .ok (.if_icmp (.ge) 37, 3) := by decide +kernel
theorem d10 : decode yB 10 = .ok (.aload_n 0, 1) := by decide +kernel
theorem d11 : decode yB 11 = .ok (.iload_n 1, 1) := by decide +kernel
theorem d12 : decode yB 12 = .ok (.caload, 1) := by decide +kernel
theorem d13 : decode yB 13 = .ok (.istore 6, 2) := by decide +kernel
theorem d15 : decode yB 15 = .ok (.iload 6, 2) := by decide +kernel
theorem d17 : decode yB 17 = .ok (.sipush 255, 3) := by decide +kernel
theorem d20 : decode yB 20 = .ok (.if_icmp (.le) 6, 3) := by decide +kernel
theorem d26 : decode yB 26 = .ok (.aload_n 2, 1) := by decide +kernel
theorem d27 : decode yB 27 = .ok (.iload_n 3, 1) := by decide +kernel
theorem d28 : decode yB 28 = .ok (.iload 6, 2) := by decide +kernel
theorem d30 : decode yB 30 = .ok (.i2b, 1) := by decide +kernel
theorem d31 : decode yB 31 = .ok (.bastore, 1) := by decide +kernel
theorem d32 : decode yB 32 = .ok (.iinc 1 1, 3) := by decide +kernel
theorem d35 : decode yB 35 = .ok (.iinc 3 1, 3) := by decide +kernel
theorem d38 : decode yB 38 = .ok (.iinc 5 1, 3) := by decide +kernel
theorem d41 : decode yB 41 = .ok (.goto (-38), 3) := by decide +kernel
theorem d44 : decode yB 44 = .ok (.iload 4, 2) := by decide +kernel
theorem d46 : decode yB 46 = .ok (.ireturn, 1) := by decide +kernel
def site : List Cond := []
def tab : Cond := tabOf yN yB 7 (some .int) site
def P (b : Addr) (A : Cell) (d : Addr) (B : Cell) (o q len : Nat) (args : Array Value) (s : State) : Prop := args = #[.ref b, .int (Int32.ofNat o), .ref d, .int (Int32.ofNat q), .int (Int32.ofNat len)] ∧ Ch b A s ∧ Arr .byte d B s ∧ b ≠ d ∧ o + len ≤ A.slots.size ∧ q + len ≤ B.slots.size ∧ ∀ i, i < len → ¬ 255 < cv A (o + i)
def E (b : Addr) (A : Cell) (d : Addr) (B : Cell) (o q len : Nat) (r : Option Value) (s u : State) : Prop := r = some (.int (Int32.ofNat len)) ∧ ∃ B', Put d B' s u ∧ Laid B B' q (q + len) (fun j => Value.int (lo8 (cv A (o + (j - q)))))
/-- no char of the range above 255: len; the places written hold each char's low byte -/
theorem law (l : Launch) (b : Addr) (A : Cell) (d : Addr) (B : Cell) (o q len : Nat) : Law l yN 5 5 0 0 yB 7 (some .int) site (P b A d B o q len) (E b A d B o q len) (copyLocs d q len) 0 0 := by
  refine Law.of_walk (plainFor_of_name (by decide +kernel)) (by decide +kernel) (by decide +kernel) (by decide) (fun _ _ h => by rw [h.1]; rfl) (fun _ U U' hal hh h => ⟨h.1, h.2.1.mv hal hh, h.2.2.1.mv hal hh, h.2.2.2⟩) (fun r U U' V V' h1 hal h2 h => ⟨h.1, h.2.elim fun B' q => ⟨B', q.1.mv h1 h2, q.2⟩⟩) ?_
  intro p e s m args below meth c s₁ X0 hexec hbytes hml hret hlk hnm hown hh0 W hP
  obtain ⟨rfl, hA, hB, hne, l1, l2, hp⟩ := hP
  have c1 : Steps p.tables e below (s₁.setTop (entryFrame m #[.ref b, .int (Int32.ofNat o), .ref d, .int (Int32.ofNat q), .int (Int32.ofNat len)] 7)) (s₁.setTop (mkF m 0 #[.val (.ref b), .val (.int (Int32.ofNat o)), .val (.ref d), .val (.int (Int32.ofNat q)), .val (.int (Int32.ofNat len)), .unset, .unset] [])) := entry rfl
  have hA0 := hA.1.mv X0.warmed.alike hh0
  have hB0 := hB.mv X0.warmed.alike hh0
  have a31 := hA.1.2.2.2
  have c2 : Steps p.tables e below (s₁.setTop (entryFrame m #[.ref b, .int (Int32.ofNat o), .ref d, .int (Int32.ofNat q), .int (Int32.ofNat len)] 7)) (s₁.setTop (mkF m 3 #[.val (.ref b), .val (.int (Int32.ofNat o)), .val (.ref d), .val (.int (Int32.ofNat q)), .val (.int (Int32.ofNat len)), .val (.int 0), .unset] [])) := c1.trans (by
    refine iconstV X0.here hexec rfl 0 (hb hbytes d0) (by decide) ?_
    refine XS.istore X0.here hexec rfl (hb hbytes d1) rfl rfl ?_
    exact Steps.refl _)
  have loop : ∀ (r i : Nat), i + r = len → ∀ (z : Slot), (z = .unset ∨ ∃ w, z = .val w ∧ w.category = 1) → ∀ (Tl : State) (Bk : Cell), Stand p l e { frames := 0, locals := 0, cells := 0, slots := 0 } s m #[.ref b, .int (Int32.ofNat o), .ref d, .int (Int32.ofNat q), .int (Int32.ofNat len)] below meth c Tl ([] ++ copyLocs d q i) 0 0 → Put d Bk s₁ Tl → Laid B Bk q (q + i) (fun j => Value.int (lo8 (cv A (o + (j - q))))) →
      Steps p.tables e below (s₁.setTop (entryFrame m #[.ref b, .int (Int32.ofNat o), .ref d, .int (Int32.ofNat q), .int (Int32.ofNat len)] 7)) (Tl.setTop (mkF m 3 #[.val (.ref b), .val (.int (Int32.ofNat (o + i))), .val (.ref d), .val (.int (Int32.ofNat (q + i))), .val (.int (Int32.ofNat len)), .val (.int (Int32.ofNat i)), z] [])) → ∃ (T' : State) (B' : Cell) (z' : Slot), Stand p l e { frames := 0, locals := 0, cells := 0, slots := 0 } s m #[.ref b, .int (Int32.ofNat o), .ref d, .int (Int32.ofNat q), .int (Int32.ofNat len)] below meth c T' ([] ++ copyLocs d q len) 0 0 ∧ Put d B' s₁ T' ∧ Laid B B' q (q + len) (fun j => Value.int (lo8 (cv A (o + (j - q))))) ∧
      Steps p.tables e below (s₁.setTop (entryFrame m #[.ref b, .int (Int32.ofNat o), .ref d, .int (Int32.ofNat q), .int (Int32.ofNat len)] 7)) (T'.setTop (mkF m 3 #[.val (.ref b), .val (.int (Int32.ofNat (o + len))), .val (.ref d), .val (.int (Int32.ofNat (q + len))), .val (.int (Int32.ofNat len)), .val (.int (Int32.ofNat len)), z'] [])) := by
    intro r
    induction r with
    | zero =>
      intro i hi z hz Tl Bk Xl pl fl cl
      have hil : i = len := by omega
      rw [hil] at Xl fl cl
      exact ⟨Tl, Bk, z, Xl, pl, fl, cl⟩
    | succ r ih =>
      intro i hi z hz Tl Bk Xl pl fl cl
      have all := X0.warmed.alike.symm.trans Xl.warmed.alike
      have hAl := hA0.keep all (pl.other hne hA0.1)
      have hBk := hB0.like all pl.1 fl.1 fl.2.1 fl.2.2.1
      have hlt : q + i < Bk.slots.size := by rw [fl.2.2.1]; omega
      have c3 : Steps p.tables e below (s₁.setTop (entryFrame m #[.ref b, .int (Int32.ofNat o), .ref d, .int (Int32.ofNat q), .int (Int32.ofNat len)] 7)) (Tl.setTop (mkF m 12 #[.val (.ref b), .val (.int (Int32.ofNat (o + i))), .val (.ref d), .val (.int (Int32.ofNat (q + i))), .val (.int (Int32.ofNat len)), .val (.int (Int32.ofNat i)), z] [.int (Int32.ofNat (o + i)), .ref b])) := cl.trans (by
        refine XS.iload Xl.here hexec rfl (hb hbytes d3) rfl ?_
        refine XS.iload Xl.here hexec rfl (hb hbytes d5) rfl ?_
        refine XS.icmpNo Xl.here hexec rfl (hb hbytes d7) rfl (ii_ge_f (lt32 (by omega) (by omega))) ?_
        refine XS.aloadN Xl.here hexec rfl (hb hbytes d10) rfl rfl ?_
        refine XS.iloadN Xl.here hexec rfl (hb hbytes d11) rfl ?_
        exact Steps.refl _)
      have c4 : Steps p.tables e below (s₁.setTop (entryFrame m #[.ref b, .int (Int32.ofNat o), .ref d, .int (Int32.ofNat q), .int (Int32.ofNat len)] 7)) (Tl.setTop (mkF m 13 #[.val (.ref b), .val (.int (Int32.ofNat (o + i))), .val (.ref d), .val (.int (Int32.ofNat (q + i))), .val (.int (Int32.ofNat len)), .val (.int (Int32.ofNat i)), z] [.int (cv A (o + i))])) := c3.trans (by
        refine Xl.aget hexec hAl rfl (hA.get (i := o + i) (by omega)) rfl rfl (hb hbytes d12) ?_
        exact Steps.refl _)
      have c5 : Steps p.tables e below (s₁.setTop (entryFrame m #[.ref b, .int (Int32.ofNat o), .ref d, .int (Int32.ofNat q), .int (Int32.ofNat len)] 7)) (Tl.setTop (mkF m 15 #[.val (.ref b), .val (.int (Int32.ofNat (o + i))), .val (.ref d), .val (.int (Int32.ofNat (q + i))), .val (.int (Int32.ofNat len)), .val (.int (Int32.ofNat i)), .val (.int (cv A (o + i)))] [])) := c4.trans (by
        refine XS.istoreS Xl.here hexec rfl (hb hbytes d13) rfl rfl hz ?_
        exact Steps.refl _)
      have c6 : Steps p.tables e below (s₁.setTop (entryFrame m #[.ref b, .int (Int32.ofNat o), .ref d, .int (Int32.ofNat q), .int (Int32.ofNat len)] 7)) (Tl.setTop (mkF m 31 #[.val (.ref b), .val (.int (Int32.ofNat (o + i))), .val (.ref d), .val (.int (Int32.ofNat (q + i))), .val (.int (Int32.ofNat len)), .val (.int (Int32.ofNat i)), .val (.int (cv A (o + i)))] [.int (lo8 (cv A (o + i))), .int (Int32.ofNat (q + i)), .ref d])) := c5.trans (by
        refine XS.iload Xl.here hexec rfl (hb hbytes d15) rfl ?_
        refine sipushV Xl.here hexec rfl 255 (hb hbytes d17) (by decide) ?_
        refine XS.icmpYes Xl.here hexec rfl (pc0 := 20) rfl (hb hbytes d20) rfl (ii_le_t (hp i (by omega))) (by decide) rfl ?_
        refine XS.aloadN Xl.here hexec rfl (hb hbytes d26) rfl rfl ?_
        refine XS.iloadN Xl.here hexec rfl (hb hbytes d27) rfl ?_
        refine XS.iload Xl.here hexec rfl (hb hbytes d28) rfl ?_
        refine i2b Xl.here hexec rfl (hb hbytes d30) rfl ?_
        exact Steps.refl _)
      obtain ⟨T7, X7, p7, st7⟩ := Xl.aput hexec hBk rfl hlt rfl (fits_lo8 (cv A (o + i))) (g := (mkF m 31 #[.val (.ref b), .val (.int (Int32.ofNat (o + i))), .val (.ref d), .val (.int (Int32.ofNat (q + i))), .val (.int (Int32.ofNat len)), .val (.int (Int32.ofNat i)), .val (.int (cv A (o + i)))] [.int (lo8 (cv A (o + i))), .int (Int32.ofNat (q + i)), .ref d])) rfl (rest := []) rfl (hb hbytes d31)
      have c8 : Steps p.tables e below (s₁.setTop (entryFrame m #[.ref b, .int (Int32.ofNat o), .ref d, .int (Int32.ofNat q), .int (Int32.ofNat len)] 7)) (T7.setTop (mkF m 32 #[.val (.ref b), .val (.int (Int32.ofNat (o + i))), .val (.ref d), .val (.int (Int32.ofNat (q + i))), .val (.int (Int32.ofNat len)), .val (.int (Int32.ofNat i)), .val (.int (cv A (o + i)))] [])) := c6.trans (st7 _ (Steps.refl _))
      have c9 : Steps p.tables e below (s₁.setTop (entryFrame m #[.ref b, .int (Int32.ofNat o), .ref d, .int (Int32.ofNat q), .int (Int32.ofNat len)] 7)) (T7.setTop (mkF m 3 #[.val (.ref b), .val (.int (Int32.ofNat (o + i) + 1)), .val (.ref d), .val (.int (Int32.ofNat (q + i) + 1)), .val (.int (Int32.ofNat len)), .val (.int (Int32.ofNat i + 1)), .val (.int (cv A (o + i)))] [])) := c8.trans (by
        refine iincV X7.here hexec rfl 1 (hb hbytes d32) (by decide) rfl rfl ?_
        refine iincV X7.here hexec rfl 1 (hb hbytes d35) (by decide) rfl rfl ?_
        refine iincV X7.here hexec rfl 1 (hb hbytes d38) (by decide) rfl rfl ?_
        refine XS.goto X7.here hexec rfl (pc0 := 41) rfl (hb hbytes d41) (by decide) rfl ?_
        exact Steps.refl _)
      have c10 : Steps p.tables e below (s₁.setTop (entryFrame m #[.ref b, .int (Int32.ofNat o), .ref d, .int (Int32.ofNat q), .int (Int32.ofNat len)] 7)) (T7.setTop (mkF m 3 #[.val (.ref b), .val (.int (Int32.ofNat (o + (i + 1)))), .val (.ref d), .val (.int (Int32.ofNat (q + (i + 1)))), .val (.int (Int32.ofNat len)), .val (.int (Int32.ofNat (i + 1))), .val (.int (cv A (o + i)))] [])) := by
        have := c9
        rw [succ32, succ32, succ32] at this
        exact this
      exact ih (i + 1) (by omega) _ (Or.inr ⟨_, rfl, rfl⟩) T7 _ (by rw [copyLocs_step, ← List.append_assoc]; exact X7) (pl.trans p7) (fl.step (by omega) hlt (by simp)) c10
  obtain ⟨T9, B9, z9, X9, p9, f9, g9⟩ := loop len 0 (by omega) .unset (Or.inl rfl) s₁ B (by simpa [copyLocs] using X0) ⟨hB0.1, fun _ _ => rfl, rfl⟩ (Laid.zero _ _ _) c2
  have c11 : Steps p.tables e below (s₁.setTop (entryFrame m #[.ref b, .int (Int32.ofNat o), .ref d, .int (Int32.ofNat q), .int (Int32.ofNat len)] 7)) (T9.setTop (mkF m 46 #[.val (.ref b), .val (.int (Int32.ofNat (o + len))), .val (.ref d), .val (.int (Int32.ofNat (q + len))), .val (.int (Int32.ofNat len)), .val (.int (Int32.ofNat len)), z9] [.int (Int32.ofNat len)])) := g9.trans (by
    refine XS.iload X9.here hexec rfl (hb hbytes d3) rfl ?_
    refine XS.iload X9.here hexec rfl (hb hbytes d5) rfl ?_
    refine XS.icmpYes X9.here hexec rfl (pc0 := 7) rfl (hb hbytes d7) rfl (ii_ge_t (nlt32 (by omega) (Nat.le_refl _))) (by decide) rfl ?_
    refine XS.iload X9.here hexec rfl (hb hbytes d44) rfl ?_
    exact Steps.refl _)
  exact ⟨T9, some (.int (Int32.ofNat len)), _, _, _, X9, by simp, rfl, rfl, (fun h => by cases h), ⟨rfl, B9, p9.from hh0, f9⟩, fun fs hl => c11.trans (X9.ireturnOut hexec hret rfl (Or.inl rfl) (hb hbytes d46) hl)⟩
end Cmp5
namespace Cmp3
def yN : MethodName := ⟨"java/lang/StringUTF16", "compress", "([CII)[B"⟩
abbrev yB : ByteArray := jdk_52_method_16_code
theorem d0 : decode yB 0 = .ok (.iload_n 2, 1) := by decide +kernel
theorem d1 : decode yB 1 = .ok (.newarray .byte, 2) := by decide +kernel
theorem d3 : decode yB 3 = .ok (.astore_n 3, 1) := by decide +kernel
theorem d4 : decode yB 4 = .ok (.aload_n 0, 1) := by decide +kernel
theorem d5 : decode yB 5 = .ok (.iload_n 1, 1) := by decide +kernel
theorem d6 : decode yB 6 = .ok (.aload_n 3, 1) := by decide +kernel
theorem d7 : decode yB 7 = .ok (.iconst 0, 1) := by decide +kernel
theorem d8 : decode yB 8 = .ok (.iload_n 2, 1) := by decide +kernel
theorem d9 : decode yB 9 = .ok (.invokestatic 115, 3) := by decide +kernel
theorem d12 : decode yB 12 = .ok (.istore 4, 2) := by decide +kernel
theorem d14 : decode yB 14 = .ok (.iload 4, 2) := by decide +kernel
theorem d16 : decode yB 16 = .ok (.iload_n 2, 1) := by decide +kernel
theorem d17 : decode yB 17 = .ok (.if_icmp (.eq) 40, 3) := by decide +kernel
theorem d57 : decode yB 57 = .ok (.aload_n 3, 1) := by decide +kernel
theorem d58 : decode yB 58 = .ok (.areturn, 1) := by decide +kernel
def site : List Cond := [.arrayClass .byte, Cmp5.tab] ++ staticW U16 115 Cmp5.yN
def tab : Cond := tabOf yN yB 6 (some (.array .byte)) site
def P (b : Addr) (A : Cell) (o len : Nat) (args : Array Value) (s : State) : Prop := args = #[.ref b, .int (Int32.ofNat o), .int (Int32.ofNat len)] ∧ Ch b A s ∧ o + len ≤ A.slots.size ∧ len ≤ 536870912 ∧ ∀ i, i < len → ¬ 255 < cv A (o + i)
def E (b : Addr) (A : Cell) (o len : Nat) (r : Option Value) (s u : State) : Prop := NewArr .byte "[B" len (fun j => .int (lo8 (cv A (o + j)))) r s u ∧ u.heap.size = s.heap.size + 1
/-- no char of the range above 255: a new byte[] of their low bytes -/
theorem law (l : Launch) (b : Addr) (A : Cell) (o len : Nat) : Law l yN 3 3 1 18 yB 6 (some (.array .byte)) site (P b A o len) (E b A o len) [] 1 len := by
  refine Law.of_walk (plainFor_of_name (by decide +kernel)) (by decide +kernel) (by decide +kernel) (by decide) (fun _ _ h => by rw [h.1]; rfl) (fun _ U U' hal hh h => ⟨h.1, h.2.1.mv hal hh, h.2.2⟩) (fun r U U' V V' h1 hal h2 h => ⟨NewArr.mv r U U' V V' h1 hal h2 h.1, by rw [h1, h2]; exact h.2⟩) ?_
  intro p e s m args below meth c s₁ X0 hexec hbytes hml hret hlk hnm hown hh0 W hP
  obtain ⟨rfl, hA, l1, l2, hp⟩ := hP
  have a31 := hA.1.2.2.2
  have c1 : Steps p.tables e below (s₁.setTop (entryFrame m #[.ref b, .int (Int32.ofNat o), .int (Int32.ofNat len)] 6)) (s₁.setTop (mkF m 0 #[.val (.ref b), .val (.int (Int32.ofNat o)), .val (.int (Int32.ofNat len)), .unset, .unset, .unset] [])) := entry rfl
  have c2 : Steps p.tables e below (s₁.setTop (entryFrame m #[.ref b, .int (Int32.ofNat o), .int (Int32.ofNat len)] 6)) (s₁.setTop (mkF m 1 #[.val (.ref b), .val (.int (Int32.ofNat o)), .val (.int (Int32.ofNat len)), .unset, .unset, .unset] [.int (Int32.ofNat len)])) := c1.trans (by
    refine XS.iloadN X0.here hexec rfl (hb hbytes d0) rfl ?_
    exact Steps.refl _)
  obtain ⟨T3, B3, X3, ba3, bs3, bv3, bh3, bf3, st3⟩ := X0.anew hexec (atype := .byte) (wk W (.arrayClass .byte)) rfl (by show len * 1 ≤ _; omega) (by omega) (g := (mkF m 1 #[.val (.ref b), .val (.int (Int32.ofNat o)), .val (.int (Int32.ofNat len)), .unset, .unset, .unset] [.int (Int32.ofNat len)])) rfl (hb hbytes d1) (rest := []) rfl (Nat.le_refl _) (by show 0 + len ≤ len; omega)
  rw [hh0] at ba3 st3
  have kp3 : XT.Kept s T3 := (XT.Kept.of_eq hh0).push bh3
  have hA3 := hA.keep X3.warmed.alike (kp3 _ _ hA.1.1)
  have hne : b ≠ s.heap.size := hA.1.ne
  have c4 : Steps p.tables e below (s₁.setTop (entryFrame m #[.ref b, .int (Int32.ofNat o), .int (Int32.ofNat len)] 6)) (T3.setTop (mkF m 3 #[.val (.ref b), .val (.int (Int32.ofNat o)), .val (.int (Int32.ofNat len)), .unset, .unset, .unset] [.ref s.heap.size])) := c2.trans (st3 _ (Steps.refl _))
  have c5 : Steps p.tables e below (s₁.setTop (entryFrame m #[.ref b, .int (Int32.ofNat o), .int (Int32.ofNat len)] 6)) (T3.setTop (mkF m 9 #[.val (.ref b), .val (.int (Int32.ofNat o)), .val (.int (Int32.ofNat len)), .val (.ref s.heap.size), .unset, .unset] [.int (Int32.ofNat len), .int 0, .ref s.heap.size, .int (Int32.ofNat o), .ref b])) := c4.trans (by
    refine XS.astoreN X3.here hexec rfl (hb hbytes d3) rfl rfl rfl ?_
    refine XS.aloadN X3.here hexec rfl (hb hbytes d4) rfl rfl ?_
    refine XS.iloadN X3.here hexec rfl (hb hbytes d5) rfl ?_
    refine XS.aloadN X3.here hexec rfl (hb hbytes d6) rfl rfl ?_
    refine iconstV X3.here hexec rfl 0 (hb hbytes d7) (by decide) ?_
    refine XS.iloadN X3.here hexec rfl (hb hbytes d8) rfl ?_
    exact Steps.refl _)
  obtain ⟨v6, T6, X6, E6, g6⟩ := X3.callS hexec (Cmp5.law l b A s.heap.size B3 o 0 len) hown (wks W (staticW U16 115 Cmp5.yN)) (wk W Cmp5.tab) (W := 0) (Nat.le_of_ble_eq_true rfl) (Nat.le_of_ble_eq_true rfl) (Nat.le_refl _) (by show 0 + len + 0 ≤ len; omega) (g := (mkF m 9 #[.val (.ref b), .val (.int (Int32.ofNat o)), .val (.int (Int32.ofNat len)), .val (.ref s.heap.size), .unset, .unset] [.int (Int32.ofNat len), .int (Int32.ofNat 0), .ref s.heap.size, .int (Int32.ofNat o), .ref b])) rfl (by rw [hml]; rfl) c5 (argsL := [.ref b, .int (Int32.ofNat o), .ref s.heap.size, .int (Int32.ofNat 0), .int (Int32.ofNat len)]) (rest := []) rfl rfl (by show 2 * 0 + 0 ≤ _; decide) (hb hbytes d9) (⟨rfl, hA3, ba3, hne, l1, by rw [bs3]; simp, hp⟩)
  obtain ⟨rfl, B6, p6, f6⟩ := E6
  have c7 : Steps p.tables e below (s₁.setTop (entryFrame m #[.ref b, .int (Int32.ofNat o), .int (Int32.ofNat len)] 6)) (T6.setTop (mkF m 12 #[.val (.ref b), .val (.int (Int32.ofNat o)), .val (.int (Int32.ofNat len)), .val (.ref s.heap.size), .unset, .unset] [.int (Int32.ofNat len)])) := g6
  have c8 : Steps p.tables e below (s₁.setTop (entryFrame m #[.ref b, .int (Int32.ofNat o), .int (Int32.ofNat len)] 6)) (T6.setTop (mkF m 58 #[.val (.ref b), .val (.int (Int32.ofNat o)), .val (.int (Int32.ofNat len)), .val (.ref s.heap.size), .val (.int (Int32.ofNat len)), .unset] [.ref s.heap.size])) := c7.trans (by
    refine XS.istore X6.here hexec rfl (hb hbytes d12) rfl rfl ?_
    refine XS.iload X6.here hexec rfl (hb hbytes d14) rfl ?_
    refine XS.iloadN X6.here hexec rfl (hb hbytes d16) rfl ?_
    refine XS.icmpYes X6.here hexec rfl (pc0 := 17) rfl (hb hbytes d17) rfl (ii_eq_t rfl) (by decide) rfl ?_
    refine XS.aloadN X6.here hexec rfl (hb hbytes d57) rfl rfl ?_
    exact Steps.refl _)
  have X8 := X6.wide (L' := []) (cells' := 1) (slots' := len) (fun x hx hlt => by
    simp only [List.nil_append, copyLocs, List.mem_map, List.mem_range] at hx
    obtain ⟨i, -, rfl⟩ := hx
    exact absurd hlt (Nat.lt_irrefl _)) (Nat.le_refl _) (by omega)
  exact ⟨T6, some (.ref s.heap.size), _, _, _, X8, rfl, rfl, rfl, (fun h => by cases h), ⟨⟨rfl, B6, ba3.like (X3.warmed.alike.symm.trans X6.warmed.alike) p6.1 f6.1 f6.2.1 f6.2.2.1, f6.2.1.trans bv3, by rw [X6.warmed.alike.findClass, f6.1]; exact bf3, by rw [f6.2.2.1, bs3]; simp, fun j hj => by rw [f6.2.2.2 j, if_pos (by omega)]; rfl, kp3.put p6 (Nat.le_refl _)⟩, by rw [p6.2.2, bh3, hh0]; simp⟩, fun fs hl => c8.trans (X8.areturnOut hexec rfl hret rfl (hb hbytes d58) hl)⟩
end Cmp3
namespace CodL
def yN : MethodName := ⟨"java/lang/StringUTF16", "coderFromArrayLen", "([BI)B"⟩
abbrev yB : ByteArray := jdk_52_method_15_code
theorem d0 : decode yB 0 = .ok (.iload_n 1, 1) := by decide +kernel
theorem d1 : decode yB 1 = .ok (.aload_n 0, 1) := by decide +kernel
theorem d2 : decode yB 2 = .ok (.arraylength, 1) := by decide +kernel
theorem d3 : decode yB 3 = .ok (.isub, 1) := by decide +kernel
theorem d4 : decode yB 4 = .ok (.bipush 31, 2) := by decide +kernel
theorem d6 : decode yB 6 = .ok (.iushr, 1) := by decide +kernel
theorem d7 : decode yB 7 = .ok (.i2b, 1) := by decide +kernel
theorem d8 : decode yB 8 = .ok (.ireturn, 1) := by decide +kernel
def site : List Cond := []
def tab : Cond := tabOf yN yB 2 (some .byte) site
def P (d : Addr) (B : Cell) (args : Array Value) (s : State) : Prop := args = #[.ref d, .int (Int32.ofNat B.slots.size)] ∧ Arr .byte d B s
def E (r : Option Value) (s u : State) : Prop := XT.PureE (some (.int 0)) r s u
/-- an array as long as the number of chars: LATIN1 -/
theorem law (l : Launch) (d : Addr) (B : Cell) : Law l yN 2 2 0 0 yB 2 (some .byte) site (P d B) E [] 0 0 := by
  refine Law.of_walk (plainFor_of_name (by decide +kernel)) (by decide +kernel) (by decide +kernel) (by decide) (fun _ _ h => by rw [h.1]; rfl) (fun _ U U' hal hh h => ⟨h.1, h.2.mv hal hh⟩) (fun r U U' V V' h1 hal h2 h => XT.PureE.mv r U U' V V' h1 hal h2 h) ?_
  intro p e s m args below meth c s₁ X0 hexec hbytes hml hret hlk hnm hown hh0 W hP
  obtain ⟨rfl, hB⟩ := hP
  have hB0 := hB.mv X0.warmed.alike hh0
  have c1 : Steps p.tables e below (s₁.setTop (entryFrame m #[.ref d, .int (Int32.ofNat B.slots.size)] 2)) (s₁.setTop (mkF m 0 #[.val (.ref d), .val (.int (Int32.ofNat B.slots.size))] [])) := entry rfl
  have c2 : Steps p.tables e below (s₁.setTop (entryFrame m #[.ref d, .int (Int32.ofNat B.slots.size)] 2)) (s₁.setTop (mkF m 2 #[.val (.ref d), .val (.int (Int32.ofNat B.slots.size))] [.ref d, .int (Int32.ofNat B.slots.size)])) := c1.trans (by
    refine XS.iloadN X0.here hexec rfl (hb hbytes d0) rfl ?_
    refine XS.aloadN X0.here hexec rfl (hb hbytes d1) rfl rfl ?_
    exact Steps.refl _)
  have c3 : Steps p.tables e below (s₁.setTop (entryFrame m #[.ref d, .int (Int32.ofNat B.slots.size)] 2)) (s₁.setTop (mkF m 8 #[.val (.ref d), .val (.int (Int32.ofNat B.slots.size))] [.int (lo8 (ushr (Int32.ofNat B.slots.size - Int32.ofNat B.slots.size) 31))])) := c2.trans (by
    refine X0.alen hexec hB0 rfl rfl (hb hbytes d2) ?_
    refine XS.isub X0.here hexec rfl (hb hbytes d3) rfl ?_
    refine bipushV X0.here hexec rfl 31 (hb hbytes d4) (by decide) ?_
    refine iushr X0.here hexec rfl (hb hbytes d6) rfl ?_
    refine i2b X0.here hexec rfl (hb hbytes d7) rfl ?_
    exact Steps.refl _)
  have e0 : lo8 (ushr (Int32.ofNat B.slots.size - Int32.ofNat B.slots.size) 31) = 0 := by rw [Int32.sub_self]; decide
  rw [e0] at c3
  exact ⟨s₁, some (.int 0), _, _, _, X0, rfl, rfl, rfl, (fun h => by cases h), ⟨rfl, hh0⟩, fun fs hl => c3.trans (X0.ireturnOut hexec hret rfl (Or.inr (Or.inr (Or.inl rfl))) (hb hbytes d8) hl)⟩
end CodL
/-- the String at a is Latin-1 over a new byte[] (the heap's one new cell): the low bytes of the len chars of A from o on; every cell but a is kept -/
def Got (a : Addr) (D : Cell) (fV fC : Field) (A : Cell) (o len : Nat) (r : Option Value) (s u : State) : Prop := r = none ∧ ∃ D' V : Cell, Blank "java/lang/String" a D' u ∧ Same D D' [fV.slot, fC.slot] ∧ D'.slots[fV.slot]? = some (.ref s.heap.size) ∧ D'.slots[fC.slot]? = some (.int 0) ∧ Arr .byte s.heap.size V u ∧ V.vm = .none ∧ u.vm.findClass "[B" = some V.cls ∧ V.slots.size = len ∧ (∀ j, j < len → V.slots[j]? = some (.int (lo8 (cv A (o + j))))) ∧ (∀ (y : Addr) (c : Cell), y ≠ a → s.heap[y]? = some c → u.heap[y]? = some c) ∧ u.heap.size = s.heap.size + 1
theorem Got.mv {a : Addr} {D A : Cell} {fV fC : Field} {o len : Nat} : ∀ r (U U' V V' : State), U'.heap = U.heap → V.vm.Alike V'.vm → V'.heap = V.heap → Got a D fV fC A o len r U V → Got a D fV fC A o len r U' V' :=
  fun r U U' V V' h1 hal h2 ⟨e0, D', X, a1, a2, a3, a4, a5, a6, a7, a8, a9, a10, a11⟩ => ⟨e0, D', X, a1.mv hal h2, a2, by rw [h1]; exact a3, a4, by rw [h1]; exact a5.mv hal h2, a6, by rw [hal.findClass]; exact a7, a8, a9, by rw [h1, h2]; exact a10, by rw [h1, h2]; exact a11⟩
namespace New4
def yN : MethodName := ⟨"java/lang/String", "<init>", "([CIILjava/lang/Void;)V"⟩
abbrev yB : ByteArray := jdk_42_method_149_code
theorem d0 : decode yB 0 = .ok (.aload_n 0, 1) := by decide +kernel
theorem d1 : decode yB 1 = .ok (.invokespecial 1, 3) := by decide +kernel
theorem d4 : decode yB 4 = .ok (.iload_n 3, 1) := by decide +kernel
theorem d5 : decode yB 5 = .ok (.ifCond (.ne) 22, 3) := by decide +kernel
theorem d27 : decode yB 27 = .ok (.getstatic 38, 3) := by decide +kernel
theorem d30 : decode yB 30 = .ok (.ifCond (.eq) 28, 3) := by decide +kernel
theorem d33 : decode yB 33 = .ok (.aload_n 1, 1) := by decide +kernel
theorem d34 : decode yB 34 = .ok (.iload_n 2, 1) := by decide +kernel
theorem d35 : decode yB 35 = .ok (.iload_n 3, 1) := by decide +kernel
theorem d36 : decode yB 36 = .ok (.invokestatic 177, 3) := by decide +kernel
theorem d39 : decode yB 39 = .ok (.astore 5, 2) := by decide +kernel
theorem d41 : decode yB 41 = .ok (.aload_n 0, 1) := by decide +kernel
theorem d42 : decode yB 42 = .ok (.aload 5, 2) := by decide +kernel
theorem d44 : decode yB 44 = .ok (.iload_n 3, 1) := by decide +kernel
theorem d45 : decode yB 45 = .ok (.invokestatic 47, 3) := by decide +kernel
theorem d48 : decode yB 48 = .ok (.putfield 15, 3) := by decide +kernel
theorem d51 : decode yB 51 = .ok (.aload_n 0, 1) := by decide +kernel
theorem d52 : decode yB 52 = .ok (.aload 5, 2) := by decide +kernel
theorem d54 : decode yB 54 = .ok (.putfield 9, 3) := by decide +kernel
theorem d57 : decode yB 57 = .ok (.return_, 1) := by decide +kernel
def site : List Cond := [.fieldLink "java/lang/String" 38 "java/lang/String" "COMPACT_STRINGS" "Z", Cmp3.tab, CodL.tab, .laysFinal "java/lang/String" "java/lang/String" "value" "[B", .fieldLink "java/lang/String" 9 "java/lang/String" "value" "[B", .laysFinal "java/lang/String" "java/lang/String" "coder" "B", .fieldLink "java/lang/String" 15 "java/lang/String" "coder" "B"] ++ objW "java/lang/String" 1 ++ staticW "java/lang/String" 177 Cmp3.yN ++ staticW "java/lang/String" 47 CodL.yN
def tab : Cond := tabOf yN yB 6 none site
def P (a : Addr) (D : Cell) (fV fC : Field) (b : Addr) (A : Cell) (z : Int32) (o len : Nat) (args : Array Value) (s : State) : Prop := args = #[.ref a, .ref b, .int (Int32.ofNat o), .int (Int32.ofNat len), .null] ∧ Blank "java/lang/String" a D s ∧ Found "java/lang/String" "value" "[B" fV s ∧ Found "java/lang/String" "coder" "B" fC s ∧ Ch b A s ∧ StaticIs s "java/lang/String" "COMPACT_STRINGS" "Z" (.int z) ∧ ¬ z = 0 ∧ 0 < len ∧ o + len ≤ A.slots.size ∧ len ≤ 536870912 ∧ ∀ i, i < len → ¬ 255 < cv A (o + i)
def E (a : Addr) (D : Cell) (fV fC : Field) (A : Cell) (o len : Nat) (r : Option Value) (s u : State) : Prop := Got a D fV fC A o len r s u
/-- len > 0, no char of the range above 255: a Latin-1 String of their low bytes -/
theorem law (l : Launch) (a : Addr) (D : Cell) (fV fC : Field) (b : Addr) (A : Cell) (z : Int32) (o len : Nat) : Law l yN 5 4 2 35 yB 6 none site (P a D fV fC b A z o len) (E a D fV fC A o len) [⟨a, fC.slot⟩, ⟨a, fV.slot⟩] 1 len := by
  refine Law.of_walk (plainFor_of_name (by decide +kernel)) (by decide +kernel) (by decide +kernel) (by decide) (fun _ _ h => by rw [h.1]; rfl) (fun _ U U' hal hh h => ⟨h.1, h.2.1.mv hal hh, h.2.2.1.al hal, h.2.2.2.1.al hal, h.2.2.2.2.1.mv hal hh, h.2.2.2.2.2.1.there hal hh, h.2.2.2.2.2.2⟩) (fun r U U' V V' h1 hal h2 h => Got.mv r U U' V V' h1 hal h2 h) ?_
  intro p e s m args below meth c s₁ X0 hexec hbytes hml hret hlk hnm hown hh0 W hP
  obtain ⟨rfl, hB, f1, f2, hA, s1, hz, l0, l1, l2, hp⟩ := hP
  have a31 := hA.1.2.2.2
  have c1 : Steps p.tables e below (s₁.setTop (entryFrame m #[.ref a, .ref b, .int (Int32.ofNat o), .int (Int32.ofNat len), .null] 6)) (s₁.setTop (mkF m 0 #[.val (.ref a), .val (.ref b), .val (.int (Int32.ofNat o)), .val (.int (Int32.ofNat len)), .val .null, .unset] [])) := entry rfl
  have c2 : Steps p.tables e below (s₁.setTop (entryFrame m #[.ref a, .ref b, .int (Int32.ofNat o), .int (Int32.ofNat len), .null] 6)) (s₁.setTop (mkF m 1 #[.val (.ref a), .val (.ref b), .val (.int (Int32.ofNat o)), .val (.int (Int32.ofNat len)), .val .null, .unset] [.ref a])) := c1.trans (by
    refine XS.aloadN X0.here hexec rfl (hb hbytes d0) rfl rfl ?_
    exact Steps.refl _)
  obtain ⟨T3, X3, q3, st3⟩ := X0.oinit hexec hown (wks W (objW "java/lang/String" 1)) (g := (mkF m 1 #[.val (.ref a), .val (.ref b), .val (.int (Int32.ofNat o)), .val (.int (Int32.ofNat len)), .val .null, .unset] [.ref a])) rfl (by rw [hml]; rfl) (rest := []) rfl (hb hbytes d1) (W := 0) (by show 2 * 0 + 0 ≤ _; decide) (Nat.le_of_ble_eq_true rfl) (Nat.le_of_ble_eq_true rfl)
  have hh3 := q3.trans hh0
  have c4 : Steps p.tables e below (s₁.setTop (entryFrame m #[.ref a, .ref b, .int (Int32.ofNat o), .int (Int32.ofNat len), .null] 6)) (T3.setTop (mkF m 27 #[.val (.ref a), .val (.ref b), .val (.int (Int32.ofNat o)), .val (.int (Int32.ofNat len)), .val .null, .unset] [])) := (c2.trans (st3 _ (Steps.refl _))).trans (by
    refine XS.iloadN X3.here hexec rfl (hb hbytes d4) rfl ?_
    refine XS.ifYes X3.here hexec rfl (pc0 := 5) rfl (hb hbytes d5) rfl (i0_ne_t (nz32 (by omega) l0)) (by decide) rfl ?_
    exact Steps.refl _)
  obtain ⟨T5, X5, q5, st5⟩ := X3.sget hexec hown (wk W (.fieldLink "java/lang/String" 38 "java/lang/String" "COMPACT_STRINGS" "Z")) s1 (fun _ _ h => by rw [hh3]; exact h) (g := (mkF m 27 #[.val (.ref a), .val (.ref b), .val (.int (Int32.ofNat o)), .val (.int (Int32.ofNat len)), .val .null, .unset] [])) rfl (hb hbytes d27)
  have hh5 := q5.trans hh3
  have c6 : Steps p.tables e below (s₁.setTop (entryFrame m #[.ref a, .ref b, .int (Int32.ofNat o), .int (Int32.ofNat len), .null] 6)) (T5.setTop (mkF m 30 #[.val (.ref a), .val (.ref b), .val (.int (Int32.ofNat o)), .val (.int (Int32.ofNat len)), .val .null, .unset] [.int z])) := c4.trans (st5 _ (Steps.refl _))
  have c7 : Steps p.tables e below (s₁.setTop (entryFrame m #[.ref a, .ref b, .int (Int32.ofNat o), .int (Int32.ofNat len), .null] 6)) (T5.setTop (mkF m 36 #[.val (.ref a), .val (.ref b), .val (.int (Int32.ofNat o)), .val (.int (Int32.ofNat len)), .val .null, .unset] [.int (Int32.ofNat len), .int (Int32.ofNat o), .ref b])) := c6.trans (by
    refine XS.ifNo X5.here hexec rfl (hb hbytes d30) rfl (i0_eq_f hz) ?_
    refine XS.aloadN X5.here hexec rfl (hb hbytes d33) rfl rfl ?_
    refine XS.iloadN X5.here hexec rfl (hb hbytes d34) rfl ?_
    refine XS.iloadN X5.here hexec rfl (hb hbytes d35) rfl ?_
    exact Steps.refl _)
  obtain ⟨v8, T8, X8, E8, g8⟩ := X5.callS hexec (Cmp3.law l b A o len) hown (wks W (staticW "java/lang/String" 177 Cmp3.yN)) (wk W Cmp3.tab) (W := 0) (Nat.le_of_ble_eq_true rfl) (Nat.le_of_ble_eq_true rfl) (Nat.le_refl _) (by show 0 + len ≤ len; omega) (g := (mkF m 36 #[.val (.ref a), .val (.ref b), .val (.int (Int32.ofNat o)), .val (.int (Int32.ofNat len)), .val .null, .unset] [.int (Int32.ofNat len), .int (Int32.ofNat o), .ref b])) rfl (by rw [hml]; rfl) c7 (argsL := [.ref b, .int (Int32.ofNat o), .int (Int32.ofNat len)]) (rest := []) rfl rfl (by show 2 * 0 + 0 ≤ _; decide) (hb hbytes d36) (⟨rfl, hA.mv X5.warmed.alike hh5, l1, l2, hp⟩)
  obtain ⟨e8, z8⟩ := E8
  obtain ⟨rfl, N, n1, n2, n3, n4, n5, n6⟩ := NewArr.mv _ T5 s _ _ hh5.symm (Vm.Alike.refl _) rfl e8
  rw [hh5] at z8
  have hB1 := hB.keep X8.warmed.alike (n6 _ _ hB.1)
  have hne : s.heap.size ≠ a := (Nat.ne_of_lt (Array.getElem?_eq_some_iff.mp hB.1).1).symm
  have c9 : Steps p.tables e below (s₁.setTop (entryFrame m #[.ref a, .ref b, .int (Int32.ofNat o), .int (Int32.ofNat len), .null] 6)) (T8.setTop (mkF m 39 #[.val (.ref a), .val (.ref b), .val (.int (Int32.ofNat o)), .val (.int (Int32.ofNat len)), .val .null, .unset] [.ref s.heap.size])) := g8
  have c10 : Steps p.tables e below (s₁.setTop (entryFrame m #[.ref a, .ref b, .int (Int32.ofNat o), .int (Int32.ofNat len), .null] 6)) (T8.setTop (mkF m 45 #[.val (.ref a), .val (.ref b), .val (.int (Int32.ofNat o)), .val (.int (Int32.ofNat len)), .val .null, .val (.ref s.heap.size)] [.int (Int32.ofNat N.slots.size), .ref s.heap.size, .ref a])) := by
    have hc : Steps p.tables e below (s₁.setTop (entryFrame m #[.ref a, .ref b, .int (Int32.ofNat o), .int (Int32.ofNat len), .null] 6)) (T8.setTop (mkF m 45 #[.val (.ref a), .val (.ref b), .val (.int (Int32.ofNat o)), .val (.int (Int32.ofNat len)), .val .null, .val (.ref s.heap.size)] [.int (Int32.ofNat len), .ref s.heap.size, .ref a])) := c9.trans (by
      refine XS.astore X8.here hexec rfl (hb hbytes d39) rfl rfl rfl ?_
      refine XS.aloadN X8.here hexec rfl (hb hbytes d41) rfl rfl ?_
      refine XS.aload X8.here hexec rfl (hb hbytes d42) rfl rfl ?_
      refine XS.iloadN X8.here hexec rfl (hb hbytes d44) rfl ?_
      exact Steps.refl _)
    rw [n4]; exact hc
  obtain ⟨v11, T11, X11, E11, g11⟩ := X8.callS hexec (CodL.law l s.heap.size N) hown (wks W (staticW "java/lang/String" 47 CodL.yN)) (wk W CodL.tab) (W := 1) (Nat.le_of_ble_eq_true rfl) (Nat.le_of_ble_eq_true rfl) (Nat.le_refl _) (by show 0 + len + 0 ≤ len; omega) (g := (mkF m 45 #[.val (.ref a), .val (.ref b), .val (.int (Int32.ofNat o)), .val (.int (Int32.ofNat len)), .val .null, .val (.ref s.heap.size)] [.int (Int32.ofNat N.slots.size), .ref s.heap.size, .ref a])) rfl (by rw [hml]; rfl) c10 (argsL := [.ref s.heap.size, .int (Int32.ofNat N.slots.size)]) (rest := [.ref a]) rfl rfl (by show 2 * 0 + (1 + 0) ≤ _; decide) (hb hbytes d45) (⟨rfl, n1⟩)
  obtain ⟨rfl, q11⟩ := E11
  have hB11 := hB1.mv (X8.warmed.alike.symm.trans X11.warmed.alike) q11
  have c12 : Steps p.tables e below (s₁.setTop (entryFrame m #[.ref a, .ref b, .int (Int32.ofNat o), .int (Int32.ofNat len), .null] 6)) (T11.setTop (mkF m 48 #[.val (.ref a), .val (.ref b), .val (.int (Int32.ofNat o)), .val (.int (Int32.ofNat len)), .val .null, .val (.ref s.heap.size)] [.int 0, .ref a])) := g11
  obtain ⟨T13, X13, p13, bl13, sl13, st13⟩ := X11.finit hexec hown (wk W (.fieldLink "java/lang/String" 15 "java/lang/String" "coder" "B")) (Or.inr ⟨_, (wk W (.laysFinal "java/lang/String" "java/lang/String" "coder" "B"))⟩) (Or.inl ⟨rfl, hnm⟩) f2 (Or.inl rfl) hB11 (t := .byte) (by decide +kernel) rfl (g := (mkF m 48 #[.val (.ref a), .val (.ref b), .val (.int (Int32.ofNat o)), .val (.int (Int32.ofNat len)), .val .null, .val (.ref s.heap.size)] [.int 0, .ref a])) rfl (rest := []) rfl (hb hbytes d48)
  have c14 : Steps p.tables e below (s₁.setTop (entryFrame m #[.ref a, .ref b, .int (Int32.ofNat o), .int (Int32.ofNat len), .null] 6)) (T13.setTop (mkF m 54 #[.val (.ref a), .val (.ref b), .val (.int (Int32.ofNat o)), .val (.int (Int32.ofNat len)), .val .null, .val (.ref s.heap.size)] [.ref s.heap.size, .ref a])) := (c12.trans (st13 _ (Steps.refl _))).trans (by
    refine XS.aloadN X13.here hexec rfl (hb hbytes d51) rfl rfl ?_
    refine XS.aload X13.here hexec rfl (hb hbytes d52) rfl rfl ?_
    exact Steps.refl _)
  obtain ⟨T15, X15, p15, bl15, sl15, st15⟩ := X13.finit hexec hown (wk W (.fieldLink "java/lang/String" 9 "java/lang/String" "value" "[B")) (Or.inr ⟨_, (wk W (.laysFinal "java/lang/String" "java/lang/String" "value" "[B"))⟩) (Or.inl ⟨rfl, hnm⟩) f1 (Or.inl rfl) bl13 (t := (.array .byte)) (by decide +kernel) rfl (g := (mkF m 54 #[.val (.ref a), .val (.ref b), .val (.int (Int32.ofNat o)), .val (.int (Int32.ofNat len)), .val .null, .val (.ref s.heap.size)] [.ref s.heap.size, .ref a])) rfl (rest := []) rfl (hb hbytes d54)
  have c16 : Steps p.tables e below (s₁.setTop (entryFrame m #[.ref a, .ref b, .int (Int32.ofNat o), .int (Int32.ofNat len), .null] 6)) (T15.setTop (mkF m 57 #[.val (.ref a), .val (.ref b), .val (.int (Int32.ofNat o)), .val (.int (Int32.ofNat len)), .val .null, .val (.ref s.heap.size)] [])) := c14.trans (st15 _ (Steps.refl _))
  have ap := apart (Or.inr ⟨_, (wk W (.laysFinal "java/lang/String" "java/lang/String" "value" "[B"))⟩) (Or.inr ⟨_, (wk W (.laysFinal "java/lang/String" "java/lang/String" "coder" "B"))⟩) f1 f2 (t₁ := .array .byte) (t₂ := .byte) (by decide +kernel) (by decide +kernel) (by decide)
  have al := X8.warmed.alike.symm.trans X15.warmed.alike
  have n7 : T11.heap[s.heap.size]? = some N := by rw [q11]; exact n1.1
  exact ⟨T15, none, _, _, _, X15, by simp, rfl, by omega, (fun _ => rfl), ⟨rfl, _, N, bl15, ((Same.refl D _).set _ (by simp)).set _ (by simp), sl15, (Cell.slots_setSlot_ne _ ap).trans sl13, n1.keep al (p15.other hne (p13.other hne n7)), n2, by rw [al.findClass]; exact n3, n4, n5, fun y c h1 h2 => p15.other h1 (p13.other h1 (by rw [q11]; exact n6 y c h2)), by rw [p15.2.2, p13.2.2, q11]; exact z8⟩, fun fs hl => c16.trans (X15.returnOut hexec hret (hb hbytes d57) hl)⟩
end New4
namespace New1
def yN : MethodName := ⟨"java/lang/String", "<init>", "([C)V"⟩
abbrev yB : ByteArray := jdk_42_method_3_code
theorem d0 : decode yB 0 = .ok (.aload_n 0, 1) := by decide +kernel
theorem d1 : decode yB 1 = .ok (.aload_n 1, 1) := by decide +kernel
theorem d2 : decode yB 2 = .ok (.iconst 0, 1) := by decide +kernel
theorem d3 : decode yB 3 = .ok (.aload_n 1, 1) := by decide +kernel
theorem d4 : decode yB 4 = .ok (.arraylength, 1) := by decide +kernel
theorem d5 : decode yB 5 = .ok (.aconst_null, 1) := by decide +kernel
theorem d6 : decode yB 6 = .ok (.invokespecial 27, 3) := by decide +kernel
theorem d9 : decode yB 9 = .ok (.return_, 1) := by decide +kernel
def site : List Cond := [New4.tab] ++ initW "java/lang/String" 27 New4.yN
def tab : Cond := tabOf yN yB 2 none site
def P (a : Addr) (D : Cell) (fV fC : Field) (b : Addr) (A : Cell) (z : Int32) (args : Array Value) (s : State) : Prop := args = #[.ref a, .ref b] ∧ Blank "java/lang/String" a D s ∧ Found "java/lang/String" "value" "[B" fV s ∧ Found "java/lang/String" "coder" "B" fC s ∧ Ch b A s ∧ StaticIs s "java/lang/String" "COMPACT_STRINGS" "Z" (.int z) ∧ ¬ z = 0 ∧ 0 < A.slots.size ∧ A.slots.size ≤ 536870912 ∧ ∀ i, i < A.slots.size → ¬ 255 < cv A i
def E (a : Addr) (D : Cell) (fV fC : Field) (A : Cell) (r : Option Value) (s u : State) : Prop := Got a D fV fC A 0 A.slots.size r s u
/-- new String(chars), not empty, no char above 255: a Latin-1 String of their low bytes -/
theorem law (l : Launch) (a : Addr) (D : Cell) (fV fC : Field) (b : Addr) (A : Cell) (z : Int32) : Law l yN 2 1 3 52 yB 2 none site (P a D fV fC b A z) (E a D fV fC A) [⟨a, fC.slot⟩, ⟨a, fV.slot⟩] 1 A.slots.size := by
  refine Law.of_walk (plainFor_of_name (by decide +kernel)) (by decide +kernel) (by decide +kernel) (by decide) (fun _ _ h => by rw [h.1]; rfl) (fun _ U U' hal hh h => ⟨h.1, h.2.1.mv hal hh, h.2.2.1.al hal, h.2.2.2.1.al hal, h.2.2.2.2.1.mv hal hh, h.2.2.2.2.2.1.there hal hh, h.2.2.2.2.2.2⟩) (fun r U U' V V' h1 hal h2 h => Got.mv r U U' V V' h1 hal h2 h) ?_
  intro p e s m args below meth c s₁ X0 hexec hbytes hml hret hlk hnm hown hh0 W hP
  obtain ⟨rfl, hB, f1, f2, hA, s1, hz, l0, l2, hp⟩ := hP
  have c1 : Steps p.tables e below (s₁.setTop (entryFrame m #[.ref a, .ref b] 2)) (s₁.setTop (mkF m 0 #[.val (.ref a), .val (.ref b)] [])) := entry rfl
  have c2 : Steps p.tables e below (s₁.setTop (entryFrame m #[.ref a, .ref b] 2)) (s₁.setTop (mkF m 6 #[.val (.ref a), .val (.ref b)] [.null, .int (Int32.ofNat A.slots.size), .int 0, .ref b, .ref a])) := c1.trans (by
    refine XS.aloadN X0.here hexec rfl (hb hbytes d0) rfl rfl ?_
    refine XS.aloadN X0.here hexec rfl (hb hbytes d1) rfl rfl ?_
    refine iconstV X0.here hexec rfl 0 (hb hbytes d2) (by decide) ?_
    refine XS.aloadN X0.here hexec rfl (hb hbytes d3) rfl rfl ?_
    refine X0.alen hexec (hA.1.mv X0.warmed.alike hh0) rfl rfl (hb hbytes d4) ?_
    refine XS.aconstNull X0.here hexec rfl (hb hbytes d5) ?_
    exact Steps.refl _)
  obtain ⟨v3, T3, X3, E3, g3⟩ := X0.callN hexec (New4.law l a D fV fC b A z 0 A.slots.size) rfl hown (wks W (initW "java/lang/String" 27 New4.yN)) (W New4.tab (by simp only [site, List.mem_cons, List.mem_append, true_or, or_true])) (W := 0) (Nat.le_of_ble_eq_true rfl) (Nat.le_of_ble_eq_true rfl) (Nat.le_refl _) (by show 0 + A.slots.size ≤ A.slots.size; omega) (g := (mkF m 6 #[.val (.ref a), .val (.ref b)] [.null, .int (Int32.ofNat A.slots.size), .int (Int32.ofNat 0), .ref b, .ref a])) rfl (by rw [hml]; rfl) c2 (argsL := [.ref b, .int (Int32.ofNat 0), .int (Int32.ofNat A.slots.size), .null]) (rest := []) rfl rfl (by show 2 * 0 + 0 ≤ _; decide) (hb hbytes d6) (⟨rfl, hB.mv X0.warmed.alike hh0, f1.al X0.warmed.alike, f2.al X0.warmed.alike, hA.mv X0.warmed.alike hh0, s1.there X0.warmed.alike hh0, hz, l0, by omega, l2, fun i hi => by rw [Nat.zero_add]; exact hp i hi⟩)
  have e0 := Got.mv _ s₁ s _ _ hh0.symm (Vm.Alike.refl _) rfl E3
  obtain rfl := e0.1
  have c4 : Steps p.tables e below (s₁.setTop (entryFrame m #[.ref a, .ref b] 2)) (T3.setTop (mkF m 9 #[.val (.ref a), .val (.ref b)] [])) := g3
  exact ⟨T3, none, _, _, _, X3, by simp, rfl, by omega, (fun _ => rfl), e0, fun fs hl => c4.trans (X3.returnOut hexec hret (hb hbytes d9) hl)⟩
theorem pays {l : Launch} {R : Room} {p : Program} {e : Env} {below : List Frame} {s : State} {sargs : Array Value} {len W : Nat} (a : Addr) (D : Cell) (fV fC : Field) (b : Addr) (A : Cell) (z : Int32) (htab : tab.before sargs s = true) (hfr : 4 ≤ R.frames) (hlo : W + 65 ≤ R.locals) :
    Back l R p e below s sargs yN len W (fun A₁ a₁ => A₁.cells + 1 ≤ R.cells ∧ A₁.slots + A.slots.size ≤ R.slots ∧ P a D fV fC b A z a₁ A₁.U) (fun A₁ _ v₁ B₁ => E a D fV fC A v₁ A₁.U B₁.U ∧ B₁.locs = A₁.locs ++ [⟨a, fC.slot⟩, ⟨a, fV.slot⟩] ∧ B₁.cells = A₁.cells + 1 ∧ B₁.slots = A₁.slots + A.slots.size) :=
  (law l a D fV fC b A z).pays htab hfr (by omega)
end New1
/-- the byte, read back as charAt reads it, is the char -/
theorem lo8_mask {x : Int32} (h0 : ¬ x < 0) (h1 : ¬ 255 < x) : lo8 x &&& 255 = x := by
  have t : ∀ k : Fin 256, lo8 (Int32.ofNat k.val) &&& 255 = Int32.ofNat k.val := by decide +kernel
  rw [Int32.lt_iff_toInt_lt] at h0 h1
  have e0 : (0 : Int32).toInt = 0 := rfl
  have e1 : (255 : Int32).toInt = 255 := rfl
  obtain ⟨k, hk⟩ : ∃ k : Nat, x.toInt = k := ⟨x.toInt.toNat, by omega⟩
  have hx : x = Int32.ofNat k := Int32.toInt_inj.mp (by rw [hk, Int32.toInt_ofNat_small (by omega)])
  rw [hx]
  exact t ⟨k, by omega⟩
end StrChars
namespace StrChars.Road
open Jvm Sem ClassFile Op Lib Jvm.Stand Jvm.Free Jvm.Free.XT
open Jvm.Lib.Cold (StaticIs)
abbrev ST : String := "java/lang/String"
/-- every table word that New1's law asks, flat -/
abbrev words : List Jvm.Cond := [.code New1.yN New1.yB 2 none, .initialized ST, .methodLink ST 27 New4.yN, .instanceMethod New4.yN,
  .code New4.yN New4.yB 6 none, .fieldLink ST 38 ST "COMPACT_STRINGS" "Z", .laysFinal ST ST "value" "[B", .fieldLink ST 9 ST "value" "[B", .laysFinal ST ST "coder" "B", .fieldLink ST 15 ST "coder" "B",
  .methodLink ST 1 Lib.objectInit, .instanceMethod Lib.objectInit, .code Lib.objectInit ⟨#[0xb1]⟩ 1 none, .methodLink ST 177 Cmp3.yN, .static Cmp3.yN, .methodLink ST 47 CodL.yN, .static CodL.yN,
  .code Cmp3.yN Cmp3.yB 6 (some (.array .byte)), .initialized U16, .arrayClass .byte, .methodLink U16 115 Cmp5.yN, .static Cmp5.yN, .code Cmp5.yN Cmp5.yB 7 (some .int), .code CodL.yN CodL.yB 2 (some .byte)]
theorem tab_of {a : Array Value} {s : State} (h : ∀ w ∈ words, w.before a s = true) : New1.tab.before a s = true := by
  have h5 : Cmp5.tab.before a s = true := unparts (wk h (.code Cmp5.yN Cmp5.yB 7 (some .int))) (wks h (.initialized Cmp5.yN.cls :: Cmp5.site))
  have hc : CodL.tab.before a s = true := unparts (wk h (.code CodL.yN CodL.yB 2 (some .byte))) (wks h (.initialized CodL.yN.cls :: CodL.site))
  have q5 : ∀ w ∈ Cmp5.tab :: words, w.before a s = true := fun w hw => (List.mem_cons.mp hw).elim (fun e => e ▸ h5) (h w)
  have h3 : Cmp3.tab.before a s = true := unparts (wk q5 (.code Cmp3.yN Cmp3.yB 6 (some (.array .byte)))) (wks q5 (.initialized Cmp3.yN.cls :: Cmp3.site))
  have q3 : ∀ w ∈ Cmp3.tab :: CodL.tab :: words, w.before a s = true := fun w hw => (List.mem_cons.mp hw).elim (fun e => e ▸ h3) fun hw => (List.mem_cons.mp hw).elim (fun e => e ▸ hc) (h w)
  have h4 : New4.tab.before a s = true := unparts (wk q3 (.code New4.yN New4.yB 6 none)) (wks q3 (.initialized New4.yN.cls :: New4.site))
  have q4 : ∀ w ∈ New4.tab :: words, w.before a s = true := fun w hw => (List.mem_cons.mp hw).elim (fun e => e ▸ h4) (h w)
  exact unparts (wk q4 (.code New1.yN New1.yB 2 none)) (wks q4 (.initialized New1.yN.cls :: New1.site))
/-- the words ride from the start Z to the walk's own state -/
theorem moved {Z s : State} {a0 args : Array Value} (hZ : Z.Warmed39 s.vm) (hw : ∀ d ∈ words, d.before a0 Z = true) : ∀ d ∈ words, d.before args s = true := fun d hd => by
  have q := hw d hd
  have t : ∀ d ∈ words, d = .arrayClass .byte ∨ (d.onTables && d.keepsFace) = true := by decide +kernel
  rcases t d hd with rfl | t
  · exact RoadKit.mvA hZ q
  · exact RoadKit.mv hZ q t
/-- WHAT COMES BACK, over the tables of the start Z: h the heap at the call, h' behind it -/
def Q (Z : State) (x : Addr) (A : Cell) (h : Heap) (v : Option Value) (h' : Heap) (L : List Loc) : Prop := v = none ∧ (∀ y ∈ L, y.base = x) ∧ RoadKit.Keep h h' [x] ∧ h'.size = h.size + 1 ∧ RoadKit.Exa Z h' x ST ∧ RoadKit.Fld Z h' x ST "value" "[B" (.ref h.size) ∧ RoadKit.Fld Z h' x ST "coder" "B" (.int 0) ∧
  (∃ V : Cell, RoadKit.Arr Z h' h.size V .byte ∧ V.vm = .none ∧ Z.vm.findClass "[B" = some V.cls ∧ V.slots.size = A.slots.size ∧ ∀ j, j < A.slots.size → V.slots[j]? = some (.int (lo8 (cv A j)))) ∧
  ∀ (O n d : String) (w : Value), RoadKit.Fld Z h x O n d w → RoadKit.slotOf Z O n d ≠ RoadKit.slotOf Z ST "value" "[B" → RoadKit.slotOf Z O n d ≠ RoadKit.slotOf Z ST "coder" "B" → RoadKit.Fld Z h' x O n d w
/-- **new String(chars) AT A CALL, IN THE ROAD'S FORM**: for specialBack behind newO: x the fresh String, b the char[] with the cell A -/
theorem back {p : Program} {l : Launch} {e : Env} {R : Room} {s : State} {args : Array Value} {below : List Frame} {len W : Nat} {Z : State} {a0 : Array Value} {h : Heap} (hZ : Z.Warmed39 s.vm) (hw : ∀ d ∈ words, d.before a0 Z = true) {kI : Nat} (wi : (Jvm.Cond.instantiable ST kI).before a0 Z = true)
    {x b : Addr} {A : Cell} {z : Int32} {v0 c0 : Value} (E : RoadKit.Exa Z h x ST) (V : RoadKit.Fld Z h x ST "value" "[B" v0) (C : RoadKit.Fld Z h x ST "coder" "B" c0) (K : RoadKit.Arr Z h b A .char) (hty : Typed .char A) (S : RoadKit.Sta Z h ST "COMPACT_STRINGS" "Z" (.int z)) (hz : ¬ z = 0)
    (l0 : 0 < A.slots.size) (l2 : A.slots.size ≤ 536870912) (hp : ∀ i, i < A.slots.size → ¬ 255 < cv A i) (hfr : 4 ≤ R.frames) (hlo : W + 65 ≤ R.locals) :
    Back l R p e below s args New1.yN len W (fun P a => a = #[.ref x, .ref b] ∧ P.U.heap = h ∧ P.cells + 1 ≤ R.cells ∧ P.slots + A.slots.size ≤ R.slots)
      (fun P _ v B => ∃ L, Q Z x A h v B.U.heap L ∧ B.locs = P.locs ++ L ∧ B.cells = P.cells + 1 ∧ B.slots = P.slots + A.slots.size) := by
  intro m meth c P g ig mk a X hg hsize hdg hW hn hp'
  obtain ⟨rfl, rfl, r1, r2⟩ := hp'
  have al : Z.vm.Alike P.U.vm := hZ.alike.trans X.warmed.alike
  obtain ⟨D, cfV, kV, iV, fV, hD, gV, stV, knV, obV, asV, slV⟩ := id V
  obtain ⟨D', cfC, kC, iC, fC, hD', gC, stC, -, -, asC, slC⟩ := id C
  cases hD.symm.trans hD'
  obtain ⟨D2, kD, e1, e2, e3, e4, e5⟩ := id E
  cases hD.symm.trans e1
  obtain ⟨c2, k2, i1, i2, i3, -⟩ := Cond.instantiable_spec wi
  cases e2.symm.trans i1
  cases e3.symm.trans i2
  obtain ⟨kU, u1, u2⟩ := al.2.2 _ _ e3
  have hB : Blank ST x D P.U := ⟨hD, ⟨knV, fun q hq => by rw [hq] at obV; cases obV⟩, by rw [al.findClass]; exact e2, kU, u1, by rw [u2]; exact i3, by rw [u2]; exact e5 i3⟩
  have F1 : Found ST "value" "[B" fV P.U := ⟨SBG.found_only al ⟨cfV, kV, iV, gV⟩, stV⟩
  have F2 : Found ST "coder" "B" fC P.U := ⟨SBG.found_only al ⟨cfC, kC, iC, gC⟩, stC⟩
  have hA : Ch b A P.U := ⟨⟨K.1, State.isArrayOf_alike al K.2.1, K.2.2, by omega⟩, hty⟩
  have hS : StaticIs P.U ST "COMPACT_STRINGS" "Z" (.int z) := by
    obtain ⟨cfS, iS, kS, fS, st, cS, t1, t2, t3, t4, t5, t6, t7⟩ := S
    exact StaticIs.there (s := { Z with heap := P.U.heap }) ⟨cfS, iS, kS, fS, st, cS, t1, t2, t3, t4, t5, (fun q => by rw [q] at t6; cases t6), t7⟩ al rfl
  obtain ⟨v, B, X', ⟨⟨hv, E', V', q1, q2, q3, q4, q5, q6, q7, q8, q9, q10, q11⟩, hl, hc, hs⟩, st⟩ := New1.pays x D fV fC b A z (tab_of (moved hZ hw)) hfr hlo m meth c P g ig mk _ X hg hsize hdg hW hn ⟨r1, r2, rfl, hB, F1, F2, hA, hS, hz, l0, l2, hp⟩
  have al' : Z.vm.Alike B.U.vm := hZ.alike.trans X'.warmed.alike
  have hsz : E'.slots.size = D.slots.size := by
    obtain ⟨-, -, -, kB, w1, w2, w3⟩ := q1
    obtain ⟨kB', y1, y2⟩ := al'.2.2 _ _ e3
    rw [q2.2.1] at w1
    cases w1.symm.trans y1
    rw [w3, e5 i3, y2]
  refine ⟨v, B, X', ⟨_, ⟨hv, ?_, ⟨by omega, fun y cy hy hn' => q10 y cy (by simpa using hn') hy, fun y cy hy => ?_⟩, q11, ⟨E', _, q1.1, by rw [q2.2.1]; exact e2, by rw [q2.2.1]; exact e3, by rw [q2.1]; exact obV, fun _ => by rw [hsz]; exact e5 i3⟩,
    ⟨E', cfV, kV, iV, fV, q1.1, gV, stV, by rw [q2.1]; exact knV, by rw [q2.1]; exact obV, by rw [q2.2.1]; exact asV, q3⟩, ⟨E', cfC, kC, iC, fC, q1.1, gC, stC, by rw [q2.1]; exact knV, by rw [q2.1]; exact obV, by rw [q2.2.1]; exact asC, q4⟩,
    ⟨V', ⟨q5.1, State.isArrayOf_alike al'.symm q5.2.1, q5.2.2.1⟩, q6, by rw [← al'.findClass]; exact q7, q8, fun j hj => by have := q9 j hj; rwa [Nat.zero_add] at this⟩, fun O n d w F n1 n2 => ?_⟩, hl, hc, hs⟩, st⟩
  · intro y hy
    simp only [List.mem_cons, List.not_mem_nil, or_false] at hy
    rcases hy with rfl | rfl <;> rfl
  · by_cases q : y = x
    · subst q
      cases hD.symm.trans hy
      exact ⟨E', q1.1, q2.2.1, q2.1, hsz⟩
    · exact ⟨cy, q10 y cy q hy, rfl, rfl, rfl⟩
  · obtain ⟨D3, cf, k, i, f, g1, g2, g3, g4, g5, g6, g7⟩ := F
    cases hD.symm.trans g1
    simp only [RoadKit.slotOf, g2, gV, gC, Option.map_some, Option.getD_some] at n1 n2
    exact ⟨E', cf, k, i, f, q1.1, g2, g3, by rw [q2.1]; exact g4, by rw [q2.1]; exact g5, by rw [q2.2.1]; exact g6, by rw [q2.2.2 f.slot (by simp [n1, n2])]; exact g7⟩
end StrChars.Road
namespace StrChars.Road
open Jvm Sem ClassFile Op Lib Jvm.Stand Jvm.Free Jvm.Free.XT
/-- WHAT COMES BACK, the byte[] as a list of values -/
def QA (Z : State) (x : Addr) (zn : Int32) (cs : List Int32) (h : Heap) (v : Option Value) (h' : Heap) (L : List Loc) : Prop := v = none ∧ (∀ y ∈ L, y.base = x) ∧ RoadKit.Keep h h' [x] ∧ h'.size = h.size + 1 ∧ RoadKit.Exa Z h' x ST ∧ RoadKit.Fld Z h' x ST "value" "[B" (.ref h.size) ∧ RoadKit.Fld Z h' x ST "coder" "B" (.int 0) ∧
  (∃ kb, Z.vm.findClass "[B" = some kb ∧ RoadKit.Arv Z h' h.size kb .byte zn (cs.map fun c => .int (lo8 c)) (.int 0)) ∧
  ∀ (O n d : String) (w : Value), RoadKit.Fld Z h x O n d w → RoadKit.slotOf Z O n d ≠ RoadKit.slotOf Z ST "value" "[B" → RoadKit.slotOf Z O n d ≠ RoadKit.slotOf Z ST "coder" "B" → RoadKit.Fld Z h' x O n d w
/-- **new String(chars) AT A CALL, THE ARRAYS AS LISTS**: the char[] at b holds cs, not empty, no char above 255 -/
theorem backArv {p : Program} {l : Launch} {e : Env} {R : Room} {s : State} {args : Array Value} {below : List Frame} {len W : Nat} {Z : State} {a0 : Array Value} {h : Heap} (hZ : Z.Warmed39 s.vm) (hw : ∀ d ∈ words, d.before a0 Z = true) {kI : Nat} (wi : (Jvm.Cond.instantiable ST kI).before a0 Z = true)
    {x b : Addr} {k : ClassId} {zn z : Int32} {cs : List Int32} {dv v0 c0 : Value} (E : RoadKit.Exa Z h x ST) (V : RoadKit.Fld Z h x ST "value" "[B" v0) (C : RoadKit.Fld Z h x ST "coder" "B" c0) (K : RoadKit.Arv Z h b k .char zn (cs.map Value.int) dv) (S : RoadKit.Sta Z h ST "COMPACT_STRINGS" "Z" (.int z)) (hz : ¬ z = 0)
    (hlen : zn.toNatClampNeg = cs.length) (h0 : 0 < cs.length) (hbig : cs.length ≤ 536870912) (hall : ∀ c ∈ cs, ¬ 255 < c) (hfr : 4 ≤ R.frames) (hlo : W + 65 ≤ R.locals) :
    Back l R p e below s args New1.yN len W (fun P a => a = #[.ref x, .ref b] ∧ P.U.heap = h ∧ P.cells + 1 ≤ R.cells ∧ P.slots + cs.length ≤ R.slots)
      (fun P _ v B => ∃ L, QA Z x zn cs h v B.U.heap L ∧ B.locs = P.locs ++ L ∧ B.cells = P.cells + 1 ∧ B.slots = P.slots + cs.length) := by
  obtain ⟨A, K1, K2, K3, K4, K5, K6⟩ := K
  have e : A.slots.size = cs.length := K3.trans hlen
  have hat : ∀ (i : Nat) (hi : i < cs.length), A.slots[i]? = some (.int cs[i]) := fun i hi => by rw [K5 i (by omega)]; simp [List.getD_eq_getElem?_getD, hi]
  have hcv : ∀ (i : Nat) (hi : i < cs.length), cv A i = cs[i] := fun i hi => by unfold cv; rw [hat i hi]
  have hty : Typed .char A := fun i v hv => by
    have hi : i < A.slots.size := (Array.getElem?_eq_some_iff.mp hv).1
    have q := K5 i hi
    rw [hv] at q
    rw [Option.some.inj q]
    exact K6 i hi
  refine Back.mono (back hZ hw wi E V C K1 hty S hz (by omega) (by omega) (fun i hi => by rw [hcv i (by omega)]; exact hall _ (List.getElem_mem _)) hfr hlo) (fun P a hp => ⟨hp.1, hp.2.1, hp.2.2.1, by rw [e]; exact hp.2.2.2⟩) (fun P a v B hp hq => ?_)
  obtain ⟨L, ⟨q1, q2, q3, q4, q5, q6, q7, ⟨V', v1, v2, v3, v4, v5⟩, q9⟩, hl, hc, hs⟩ := hq
  refine ⟨L, ⟨q1, q2, q3, q4, q5, q6, q7, ⟨V'.cls, v3, V', v1, rfl, by rw [v4, e, hlen], K4, fun i hi => ?_, fun i hi => ?_⟩, q9⟩, hl, hc, by rw [hs, e]⟩
  · have hi' : i < cs.length := by omega
    rw [v5 i (by omega), hcv i hi']; simp [List.getD_eq_getElem?_getD, hi']
  · have hi' : i < cs.length := by omega
    simp only [List.getD_eq_getElem?_getD, List.getElem?_map, List.getElem?_eq_getElem hi', Option.map_some, Option.getD_some]
    exact fits_lo8 _
end StrChars.Road
namespace StrChars.Road
open Jvm Sem ClassFile Op Lib Jvm.Stand Jvm.Free Jvm.Free.XT
/-- WHAT COMES BACK, in the writer's own shape -/
def QV (Z : State) (x : Addr) (N : Int32) (bs : List Int32) (h : Heap) (n0 : Nat) (v : Option Value) (h' : Heap) (L : List Loc) : Prop := v = none ∧ RoadKit.Fr n0 L ∧ RoadKit.Keep h h' [x] ∧ RoadKit.Exa Z h' x ST ∧ RoadKit.Fld Z h' x ST "coder" "B" (.int 0) ∧
  ∃ (t : Addr) (kb : ClassId), n0 ≤ t ∧ h.size ≤ t ∧ ¬ t = x ∧ RoadKit.Fld Z h' x ST "value" "[B" (.ref t) ∧ RoadKit.Arv Z h' t kb .byte N (bs.map Value.int) (.int 0)
/-- **new String(chars) AT A CALL, FOR THE WRITER**: a char[] of n known ints, each 0 to 255 -/
theorem backV {p : Program} {l : Launch} {e : Env} {R : Room} {s : State} {args : Array Value} {below : List Frame} {len W : Nat} {Z : State} {a0 : Array Value} {h : Heap} (hZ : Z.Warmed39 s.vm) (hw : ∀ d ∈ words, d.before a0 Z = true) {kI : Nat} (wi : (Jvm.Cond.instantiable ST kI).before a0 Z = true)
    {x b : Addr} {kC : ClassId} {cs bs : List Int32} {d v0 c0 : Value} {z N : Int32} {n n0 : Nat} (hx0 : n0 ≤ x) (hh0 : n0 ≤ h.size) (E : RoadKit.Exa Z h x ST) (V : RoadKit.Fld Z h x ST "value" "[B" v0) (C : RoadKit.Fld Z h x ST "coder" "B" c0) (K : RoadKit.Arv Z h b kC .char N (cs.map Value.int) d) (S : RoadKit.Sta Z h ST "COMPACT_STRINGS" "Z" (.int z)) (hz : ¬ z = 0)
    (hn : cs.length = n) (hN : N = Int32.ofNat n) (l0 : 0 < n) (l2 : n ≤ 4000) (hp : ∀ c ∈ cs, ¬ c < 0 ∧ ¬ (255 : Int32) < c) (hb : bs = cs.map (fun c => c.toInt8.toInt32)) (hfr : 4 ≤ R.frames) (hlo : W + 65 ≤ R.locals) :
    Back l R p e below s args (⟨"java/lang/String", "<init>", "([C)V"⟩ : MethodName) len W (fun P a => a = #[.ref x, .ref b] ∧ P.U.heap = h ∧ P.cells + 1 ≤ R.cells ∧ P.slots + n ≤ R.slots)
      (fun P _ v B => ∃ L, QV Z x N bs h n0 v B.U.heap L ∧ B.locs = P.locs ++ L ∧ B.cells = P.cells + 1 ∧ B.slots = P.slots + n) := by
  subst hn hN hb
  refine Back.mono (backArv hZ hw wi E V C K S hz (n32 (by omega)) l0 (by omega) (fun c hc => (hp c hc).2) hfr hlo) (fun P a hp => hp) (fun P a v B hp hq => ?_)
  obtain ⟨L, ⟨q1, q2, q3, q4, q5, q6, q7, ⟨kb, v1, v2⟩, q9⟩, hl, hc, hs⟩ := hq
  exact ⟨L, ⟨q1, fun y hy => by rw [q2 y hy]; exact hx0, q3, q5, q7, h.size, kb, hh0, Nat.le_refl _, Nat.ne_of_gt E.lt, q6, by rw [List.map_map]; exact v2⟩, hl, hc, hs⟩
end StrChars.Road
namespace StrChars
open Jvm Sem ClassFile Op Lib Jvm.Stand Jvm.Free.XT Jvm.Free.ALB Jvm.Free.JM Jvm.Free
open Jvm.Lib.Cold (StaticIs)
def hi8 (x : Int32) : Int32 := lo8 (x >>> ((8 : Int32) &&& 31))
/-- what StringUTF16.getChar makes of two bytes -/
def pairCh (u v : Int32) : Int32 := (((u &&& 255) <<< ((0 : Int32) &&& 31)) ||| ((v &&& 255) <<< ((8 : Int32) &&& 31))).toUInt32.toUInt16.toUInt32.toInt32
theorem shr0 (c : Int32) : c >>> ((0 : Int32) &&& 31) = c := by
  have e : ((0 : Int32) &&& 31) = 0 := by decide
  rw [e]
  apply Int32.toBitVec_inj.mp
  rw [Int32.toBitVec_shiftRight]
  have e1 : ((0 : Int32).toBitVec.smod 32) = 0#32 := by decide
  rw [e1, BitVec.sshiftRight_eq']
  exact BitVec.sshiftRight_zero
theorem lo8_and (x : Int32) : (lo8 x &&& 255).toBitVec.toNat = x.toBitVec.toNat % 256 := by
  have h : (lo8 x).toBitVec = (x.toBitVec.signExtend 8).signExtend 32 := by rw [lo8, Int8.toBitVec_toInt32, Int32.toBitVec_toInt8]
  rw [Int32.toBitVec_and, BitVec.toNat_and, h]
  have e : ((x.toBitVec.signExtend 8).signExtend 32).toNat % 256 = x.toBitVec.toNat % 256 := by
    rw [BitVec.toNat_signExtend]
    have hlt := x.toBitVec.isLt
    simp only [BitVec.toNat_setWidth, BitVec.toNat_signExtend]
    split <;> split <;> omega
  rw [← e]
  exact Nat.and_two_pow_sub_one_eq_mod _ 8
theorem pair_says {c : Int32} (h0 : ¬ c < 0) (h1 : ¬ 65535 < c) : pairCh (lo8 c) (hi8 c) = c := by
  rw [Int32.lt_iff_toInt_lt] at h0 h1
  have e0 : (0 : Int32).toInt = 0 := rfl
  have e1 : (65535 : Int32).toInt = 65535 := rfl
  have hc : c.toInt = c.toBitVec.toNat := by
    have := c.toBitVec.isLt
    have e : c.toInt = c.toBitVec.toInt := rfl
    rw [e] at h0 h1
    rw [e]
    rw [BitVec.toInt_eq_toNat_cond] at h0 h1 ⊢
    split at h0 <;> split <;> omega
  have hn : c.toBitVec.toNat < 65536 := by omega
  have a1 := lo8_and c
  have a2 : (hi8 c &&& 255).toBitVec.toNat = c.toBitVec.toNat / 256 := by
    rw [hi8, lo8_and]
    have e : ((8 : Int32) &&& 31) = 8 := by decide
    rw [e, Int32.toBitVec_shiftRight]
    have e2 : ((8 : Int32).toBitVec.smod 32) = 8#32 := by decide
    rw [e2, BitVec.sshiftRight_eq', BitVec.toNat_sshiftRight_of_msb_false (by rw [BitVec.msb_eq_false_iff_two_mul_lt]; omega)]
    show c.toBitVec.toNat >>> 8 % 256 = _
    rw [Nat.shiftRight_eq_div_pow]
    omega
  unfold pairCh
  apply Int32.toBitVec_inj.mp
  apply BitVec.eq_of_toNat_eq
  have f0 : ((0 : Int32) &&& 31) = 0 := by decide
  have f8 : ((8 : Int32) &&& 31) = 8 := by decide
  rw [f0, f8]
  have g : (((lo8 c &&& 255) <<< (0 : Int32)) ||| ((hi8 c &&& 255) <<< (8 : Int32))).toBitVec.toNat = c.toBitVec.toNat := by
    rw [Int32.toBitVec_or, Int32.toBitVec_shiftLeft, Int32.toBitVec_shiftLeft]
    have s0 : ((0 : Int32).toBitVec.smod 32) = 0#32 := by decide
    have s8 : ((8 : Int32).toBitVec.smod 32) = 8#32 := by decide
    rw [s0, s8, BitVec.toNat_or]
    simp only [BitVec.shiftLeft_eq', BitVec.toNat_shiftLeft, a1, a2]
    show (c.toBitVec.toNat % 256) <<< 0 % 2 ^ 32 ||| (c.toBitVec.toNat / 256) <<< 8 % 2 ^ 32 = _
    rw [Nat.shiftLeft_zero, Nat.mod_eq_of_lt (show c.toBitVec.toNat % 256 < 2 ^ 32 by omega), Nat.mod_eq_of_lt (show (c.toBitVec.toNat / 256) <<< 8 < 2 ^ 32 by rw [Nat.shiftLeft_eq]; omega), Nat.or_comm, ← Nat.shiftLeft_add_eq_or_of_lt (by omega), Nat.shiftLeft_eq]
    omega
  show BitVec.toNat (((((lo8 c &&& 255) <<< (0 : Int32)) ||| ((hi8 c &&& 255) <<< (8 : Int32))).toBitVec.setWidth 16).setWidth 32) = _
  rw [BitVec.toNat_setWidth, BitVec.toNat_setWidth, g]
  omega
end StrChars
namespace StrChars
open Jvm Sem ClassFile Op Lib Jvm.Stand Jvm.Free.XT Jvm.Free.ALB Jvm.Free.JM Jvm.Free
open Jvm.Lib.Cold (StaticIs)
theorem shr1 {n : Nat} (h : 2 * n < 2 ^ 31) : Int32.ofNat (2 * n) >>> ((1 : Int32) &&& 31) = Int32.ofNat n := by
  have e : ((1 : Int32) &&& 31) = 1 := by decide
  rw [e]
  apply Int32.toBitVec_inj.mp
  rw [Int32.toBitVec_shiftRight]
  have e1 : ((1 : Int32).toBitVec.smod 32) = 1#32 := by decide
  have hm : (BitVec.ofNat 32 (2 * n)).toNat = 2 * n := by rw [BitVec.toNat_ofNat, Nat.mod_eq_of_lt (by omega)]
  rw [e1, BitVec.sshiftRight_eq']
  apply BitVec.eq_of_toNat_eq
  show ((BitVec.ofNat 32 (2 * n)).sshiftRight 1).toNat = (BitVec.ofNat 32 n).toNat
  rw [BitVec.toNat_sshiftRight_of_msb_false (by rw [BitVec.msb_eq_false_iff_two_mul_lt, hm]; omega), hm, BitVec.toNat_ofNat, Nat.shiftRight_eq_div_pow]
  omega
/-- charAt's cast of a byte read back -/
def chr8 (u : Int32) : Int32 := (u &&& 255).toUInt32.toUInt16.toUInt32.toInt32
theorem chr8_lo8 {c : Int32} (h0 : ¬ c < 0) (h1 : ¬ 255 < c) : chr8 (lo8 c) = c := by
  have t : ∀ k : Fin 256, (Int32.ofNat k.val).toUInt32.toUInt16.toUInt32.toInt32 = Int32.ofNat k.val := by decide +kernel
  unfold chr8
  rw [lo8_mask h0 h1]
  rw [Int32.lt_iff_toInt_lt] at h0 h1
  have e0 : (0 : Int32).toInt = 0 := rfl
  have e1 : (255 : Int32).toInt = 255 := rfl
  obtain ⟨k, hk⟩ : ∃ k : Nat, c.toInt = k := ⟨c.toInt.toNat, by omega⟩
  have hx : c = Int32.ofNat k := Int32.toInt_inj.mp (by rw [hk, Int32.toInt_ofNat_small (by omega)])
  rw [hx]
  exact t ⟨k, by omega⟩
theorem narrow_ch {c : Int32} (h0 : ¬ c < 0) (h1 : ¬ 65535 < c) : narrow .char (.int c) = .int c := by
  have q : narrow .char (.int (pairCh (lo8 c) (hi8 c))) = .int (pairCh (lo8 c) (hi8 c)) := narrow_c _
  rwa [pair_says h0 h1] at q
/-- the array's cell V codes the n chars f 0 .. f (n - 1) by the coder cd, as the JDK does: coder 1 just where some char is above 255 -/
def Cod (cd : Int32) (n : Nat) (f : Nat → Int32) (V : Cell) : Prop := (cd = 0 ∧ V.slots.size = n ∧ ∀ j, j < n → V.slots[j]? = some (.int (lo8 (f j))) ∧ ¬ 255 < f j) ∨ (cd = 1 ∧ V.slots.size = 2 * n ∧ (∀ j, j < n → V.slots[2 * j]? = some (.int (lo8 (f j))) ∧ V.slots[2 * j + 1]? = some (.int (hi8 (f j)))) ∧ ∃ j, j < n ∧ 255 < f j)
theorem Cod.cd {cd : Int32} {n : Nat} {f : Nat → Int32} {V : Cell} (h : Cod cd n f V) : cd = 0 ∨ cd = 1 := h.imp (fun q => q.1) fun q => q.1
theorem Cod.len {cd : Int32} {n : Nat} {f : Nat → Int32} {V : Cell} (h : Cod cd n f V) (hs : V.slots.size < 2 ^ 31) : Int32.ofNat V.slots.size >>> (cd &&& 31) = Int32.ofNat n := by
  rcases h with ⟨rfl, h, -⟩ | ⟨rfl, h, -⟩
  · rw [shr0, h]
  · rw [h, shr1 (by omega)]
/-- **x is a String of the n chars f 0 .. f (n - 1)**, Latin-1 or UTF-16; its array at t has the cell V -/
def Txt (x t : Addr) (V : Cell) (cd : Int32) (n : Nat) (f : Nat → Int32) (U : State) : Prop := Exact "java/lang/String" x U ∧ Has x "java/lang/String" "value" "[B" (.ref t) U ∧ Has x "java/lang/String" "coder" "B" (.int cd) U ∧ XT.Arr .byte t V U ∧ Cod cd n f V ∧ ∀ j, j < n → ¬ f j < 0 ∧ ¬ 65535 < f j
theorem Txt.mv {x t : Addr} {V : Cell} {cd : Int32} {n : Nat} {f : Nat → Int32} {U U' : State} (h : Txt x t V cd n f U) (hal : U.vm.Alike U'.vm) (hh : U'.heap = U.heap) : Txt x t V cd n f U' := ⟨h.1.mv hal hh, h.2.1.mv hal hh, h.2.2.1.mv hal hh, h.2.2.2.1.mv hal hh, h.2.2.2.2⟩
namespace Cdr
def yN : MethodName := ⟨"java/lang/String", "coder", "()B"⟩
abbrev yB : ByteArray := jdk_42_method_152_code
theorem d0 : decode yB 0 = .ok (.getstatic 38, 3) := by decide +kernel
theorem d3 : decode yB 3 = .ok (.ifCond (.eq) 10, 3) := by decide +kernel
theorem d6 : decode yB 6 = .ok (.aload_n 0, 1) := by decide +kernel
theorem d7 : decode yB 7 = .ok (.getfield 15, 3) := by decide +kernel
theorem d10 : decode yB 10 = .ok (.goto 4, 3) := by decide +kernel
theorem d14 : decode yB 14 = .ok (.ireturn, 1) := by decide +kernel
def site : List Cond := [.fieldLink "java/lang/String" 38 "java/lang/String" "COMPACT_STRINGS" "Z", .fieldLink "java/lang/String" 15 "java/lang/String" "coder" "B"]
def tab : Cond := tabOf yN yB 1 (some .byte) site
def P (x : Addr) (cd z : Int32) (args : Array Value) (s : State) : Prop := args = #[.ref x] ∧ Has x "java/lang/String" "coder" "B" (.int cd) s ∧ (cd = 0 ∨ cd = 1) ∧ StaticIs s "java/lang/String" "COMPACT_STRINGS" "Z" (.int z) ∧ ¬ z = 0
def E (cd : Int32) (r : Option Value) (s u : State) : Prop := XT.PureE (some (.int cd)) r s u
theorem law (l : Launch) (x : Addr) (cd z : Int32) : Law l yN 1 0 0 0 yB 1 (some .byte) site (P x cd z) (E cd) [] 0 0 := by
  refine Law.of_walk (plainFor_of_name (by decide +kernel)) (by decide +kernel) (by decide +kernel) (by decide) (fun _ _ h => by rw [h.1]; rfl) (fun _ U U' hal hh h => ⟨h.1, h.2.1.mv hal hh, h.2.2.1, h.2.2.2.1.there hal hh, h.2.2.2.2⟩) (fun r U U' V V' h1 hal h2 h => XT.PureE.mv r U U' V V' h1 hal h2 h) ?_
  intro p e s m args below meth c s₁ X0 hexec hbytes hml hret hlk hnm hown hh0 W hP
  obtain ⟨rfl, hx, hc, s1, hz⟩ := hP
  have c1 : Steps p.tables e below (s₁.setTop (entryFrame m #[.ref x] 1)) (s₁.setTop (mkF m 0 #[.val (.ref x)] [])) := entry rfl
  obtain ⟨T2, X2, q2, st2⟩ := X0.sget hexec hown (wk W (.fieldLink "java/lang/String" 38 "java/lang/String" "COMPACT_STRINGS" "Z")) s1 (fun _ _ h => by rw [hh0]; exact h) (g := (mkF m 0 #[.val (.ref x)] [])) rfl (hb hbytes d0)
  have hh2 := q2.trans hh0
  have c3 : Steps p.tables e below (s₁.setTop (entryFrame m #[.ref x] 1)) (T2.setTop (mkF m 7 #[.val (.ref x)] [.ref x])) := (c1.trans (st2 _ (Steps.refl _))).trans (by
    refine XS.ifNo X2.here hexec rfl (hb hbytes d3) rfl (i0_eq_f hz) ?_
    refine XS.aloadN X2.here hexec rfl (hb hbytes d6) rfl rfl ?_
    exact Steps.refl _)
  obtain ⟨T4, X4, q4, st4⟩ := X2.hget hexec hown (wk W (.fieldLink "java/lang/String" 15 "java/lang/String" "coder" "B")) (hx.mv X2.warmed.alike hh2) (g := (mkF m 7 #[.val (.ref x)] [.ref x])) rfl (rest := []) rfl (hb hbytes d7)
  have c5 : Steps p.tables e below (s₁.setTop (entryFrame m #[.ref x] 1)) (T4.setTop (mkF m 14 #[.val (.ref x)] [.int cd])) := (c3.trans (st4 _ (Steps.refl _))).trans (by
    refine XS.goto X4.here hexec rfl (pc0 := 10) rfl (hb hbytes d10) (by decide) rfl ?_
    exact Steps.refl _)
  exact ⟨T4, some (.int cd), _, _, _, X4, rfl, rfl, rfl, (fun h => by cases h), ⟨rfl, q4.trans hh2⟩, fun fs hl => c5.trans (X4.ireturnOut hexec hret (by rcases hc with rfl | rfl <;> rfl) (Or.inr (Or.inr (Or.inl rfl))) (hb hbytes d14) hl)⟩
end Cdr
namespace Len
def yN : MethodName := ⟨"java/lang/String", "length", "()I"⟩
abbrev yB : ByteArray := jdk_42_method_54_code
theorem d0 : decode yB 0 = .ok (.aload_n 0, 1) := by decide +kernel
theorem d1 : decode yB 1 = .ok (.getfield 9, 3) := by decide +kernel
theorem d4 : decode yB 4 = .ok (.arraylength, 1) := by decide +kernel
theorem d5 : decode yB 5 = .ok (.aload_n 0, 1) := by decide +kernel
theorem d6 : decode yB 6 = .ok (.invokevirtual 335, 3) := by decide +kernel
theorem d9 : decode yB 9 = .ok (.ishr, 1) := by decide +kernel
theorem d10 : decode yB 10 = .ok (.ireturn, 1) := by decide +kernel
def site : List Cond := [.fieldLink "java/lang/String" 9 "java/lang/String" "value" "[B", Cdr.tab] ++ virtW "java/lang/String" 335 "java/lang/String" Cdr.yN Cdr.yN
def tab : Cond := tabOf yN yB 1 (some .int) site
def P (x t : Addr) (V : Cell) (cd : Int32) (n : Nat) (f : Nat → Int32) (z : Int32) (args : Array Value) (s : State) : Prop := args = #[.ref x] ∧ Txt x t V cd n f s ∧ StaticIs s "java/lang/String" "COMPACT_STRINGS" "Z" (.int z) ∧ ¬ z = 0
def E (n : Nat) (r : Option Value) (s u : State) : Prop := XT.PureE (some (.int (Int32.ofNat n))) r s u
/-- length() of a String of n chars, in either coding -/
theorem law (l : Launch) (x t : Addr) (V : Cell) (cd : Int32) (n : Nat) (f : Nat → Int32) (z : Int32) : Law l yN 1 0 1 13 yB 1 (some .int) site (P x t V cd n f z) (E n) [] 0 0 := by
  refine Law.of_walk (plainFor_of_name (by decide +kernel)) (by decide +kernel) (by decide +kernel) (by decide) (fun _ _ h => by rw [h.1]; rfl) (fun _ U U' hal hh h => ⟨h.1, h.2.1.mv hal hh, h.2.2.1.there hal hh, h.2.2.2⟩) (fun r U U' V V' h1 hal h2 h => XT.PureE.mv r U U' V V' h1 hal h2 h) ?_
  intro p e s m args below meth c s₁ X0 hexec hbytes hml hret hlk hnm hown hh0 W hP
  obtain ⟨rfl, hx, s1, hz⟩ := hP
  have v31 := hx.2.2.2.1.2.2.2
  have c1 : Steps p.tables e below (s₁.setTop (entryFrame m #[.ref x] 1)) (s₁.setTop (mkF m 1 #[.val (.ref x)] [.ref x])) := Steps.trans (entry rfl) (by
    show Steps p.tables e below (s₁.setTop (mkF m 0 #[.val (.ref x)] [])) _
    refine XS.aloadN X0.here hexec rfl (hb hbytes d0) rfl rfl ?_
    exact Steps.refl _)
  obtain ⟨T2, X2, q2, st2⟩ := X0.hget hexec hown (wk W (.fieldLink "java/lang/String" 9 "java/lang/String" "value" "[B")) (hx.mv X0.warmed.alike hh0).2.1 (g := (mkF m 1 #[.val (.ref x)] [.ref x])) rfl (rest := []) rfl (hb hbytes d1)
  have hh2 := q2.trans hh0
  have hx2 := hx.mv X2.warmed.alike hh2
  have c3 : Steps p.tables e below (s₁.setTop (entryFrame m #[.ref x] 1)) (T2.setTop (mkF m 6 #[.val (.ref x)] [.ref x, .int (Int32.ofNat V.slots.size)])) := (c1.trans (st2 _ (Steps.refl _))).trans (by
    refine X2.alen hexec hx2.2.2.2.1 rfl rfl (hb hbytes d4) ?_
    refine XS.aloadN X2.here hexec rfl (hb hbytes d5) rfl rfl ?_
    exact Steps.refl _)
  obtain ⟨v4, T4, X4, E4, g4⟩ := X2.callV hexec (Cdr.law l x cd z) hown (wks W (virtW "java/lang/String" 335 "java/lang/String" Cdr.yN Cdr.yN)) rfl (by decide) (wk W Cdr.tab) (W := 1) (Nat.le_of_ble_eq_true rfl) (Nat.le_of_ble_eq_true rfl) (Nat.le_refl _) (Nat.le_refl _) (hx2.1.fc X2.warmed.alike) hx2.1.is (g := (mkF m 6 #[.val (.ref x)] [.ref x, .int (Int32.ofNat V.slots.size)])) rfl (by rw [hml]; rfl) c3 (argsL := []) (rest := [.int (Int32.ofNat V.slots.size)]) rfl rfl (by show 2 * 0 + (1 + 0) ≤ _; decide) (hb hbytes d6) (⟨rfl, hx2.2.2.1, hx.2.2.2.2.1.cd, s1.there X2.warmed.alike hh2, hz⟩)
  obtain ⟨rfl, q4⟩ := E4
  have c5 : Steps p.tables e below (s₁.setTop (entryFrame m #[.ref x] 1)) (T4.setTop (mkF m 10 #[.val (.ref x)] [.int (Int32.ofNat V.slots.size >>> (cd &&& 31))])) := Steps.trans g4 (by
    refine ishr X4.here hexec rfl (hb hbytes d9) rfl ?_
    exact Steps.refl _)
  rw [hx.2.2.2.2.1.len v31] at c5
  exact ⟨T4, some (.int (Int32.ofNat n)), _, _, _, X4, rfl, rfl, rfl, (fun h => by cases h), ⟨rfl, q4.trans hh2⟩, fun fs hl => c5.trans (X4.ireturnOut hexec hret rfl (Or.inl rfl) (hb hbytes d10) hl)⟩
theorem pays {l : Launch} {R : Room} {p : Program} {e : Env} {below : List Frame} {s : State} {sargs : Array Value} {len W : Nat} (x t : Addr) (V : Cell) (cd : Int32) (n : Nat) (f : Nat → Int32) (z : Int32) (htab : tab.before sargs s = true) (hfr : 2 ≤ R.frames) (hlo : W + 25 ≤ R.locals) :
    Back l R p e below s sargs yN len W (fun A₁ a₁ => A₁.cells + 0 ≤ R.cells ∧ A₁.slots + 0 ≤ R.slots ∧ P x t V cd n f z a₁ A₁.U) (fun A₁ _ v₁ B₁ => E n v₁ A₁.U B₁.U ∧ B₁.locs = A₁.locs ++ [] ∧ B₁.cells = A₁.cells + 0 ∧ B₁.slots = A₁.slots + 0) :=
  (law l x t V cd n f z).pays htab hfr (by omega)
end Len
namespace IsL
def yN : MethodName := ⟨"java/lang/String", "isLatin1", "()Z"⟩
abbrev yB : ByteArray := jdk_42_method_154_code
theorem d0 : decode yB 0 = .ok (.getstatic 38, 3) := by decide +kernel
theorem d3 : decode yB 3 = .ok (.ifCond (.eq) 14, 3) := by decide +kernel
theorem d6 : decode yB 6 = .ok (.aload_n 0, 1) := by decide +kernel
theorem d7 : decode yB 7 = .ok (.getfield 15, 3) := by decide +kernel
theorem d10 : decode yB 10 = .ok (.ifCond (.ne) 7, 3) := by decide +kernel
theorem d13 : decode yB 13 = .ok (.iconst 1, 1) := by decide +kernel
theorem d14 : decode yB 14 = .ok (.goto 4, 3) := by decide +kernel
theorem d17 : decode yB 17 = .ok (.iconst 0, 1) := by decide +kernel
theorem d18 : decode yB 18 = .ok (.ireturn, 1) := by decide +kernel
def site : List Cond := [.fieldLink "java/lang/String" 38 "java/lang/String" "COMPACT_STRINGS" "Z", .fieldLink "java/lang/String" 15 "java/lang/String" "coder" "B"]
def tab : Cond := tabOf yN yB 1 (some .boolean) site
def P (x : Addr) (cd z : Int32) (args : Array Value) (s : State) : Prop := args = #[.ref x] ∧ Has x "java/lang/String" "coder" "B" (.int cd) s ∧ (cd = 0 ∨ cd = 1) ∧ StaticIs s "java/lang/String" "COMPACT_STRINGS" "Z" (.int z) ∧ ¬ z = 0
def E (cd : Int32) (r : Option Value) (s u : State) : Prop := XT.PureE (some (.int (1 - cd))) r s u
theorem law (l : Launch) (x : Addr) (cd z : Int32) : Law l yN 1 0 0 0 yB 1 (some .boolean) site (P x cd z) (E cd) [] 0 0 := by
  refine Law.of_walk (plainFor_of_name (by decide +kernel)) (by decide +kernel) (by decide +kernel) (by decide) (fun _ _ h => by rw [h.1]; rfl) (fun _ U U' hal hh h => ⟨h.1, h.2.1.mv hal hh, h.2.2.1, h.2.2.2.1.there hal hh, h.2.2.2.2⟩) (fun r U U' V V' h1 hal h2 h => XT.PureE.mv r U U' V V' h1 hal h2 h) ?_
  intro p e s m args below meth c s₁ X0 hexec hbytes hml hret hlk hnm hown hh0 W hP
  obtain ⟨rfl, hx, hc, s1, hz⟩ := hP
  have c1 : Steps p.tables e below (s₁.setTop (entryFrame m #[.ref x] 1)) (s₁.setTop (mkF m 0 #[.val (.ref x)] [])) := entry rfl
  obtain ⟨T2, X2, q2, st2⟩ := X0.sget hexec hown (wk W (.fieldLink "java/lang/String" 38 "java/lang/String" "COMPACT_STRINGS" "Z")) s1 (fun _ _ h => by rw [hh0]; exact h) (g := (mkF m 0 #[.val (.ref x)] [])) rfl (hb hbytes d0)
  have hh2 := q2.trans hh0
  have c3 : Steps p.tables e below (s₁.setTop (entryFrame m #[.ref x] 1)) (T2.setTop (mkF m 7 #[.val (.ref x)] [.ref x])) := (c1.trans (st2 _ (Steps.refl _))).trans (by
    refine XS.ifNo X2.here hexec rfl (hb hbytes d3) rfl (i0_eq_f hz) ?_
    refine XS.aloadN X2.here hexec rfl (hb hbytes d6) rfl rfl ?_
    exact Steps.refl _)
  obtain ⟨T4, X4, q4, st4⟩ := X2.hget hexec hown (wk W (.fieldLink "java/lang/String" 15 "java/lang/String" "coder" "B")) (hx.mv X2.warmed.alike hh2) (g := (mkF m 7 #[.val (.ref x)] [.ref x])) rfl (rest := []) rfl (hb hbytes d7)
  have c5 : Steps p.tables e below (s₁.setTop (entryFrame m #[.ref x] 1)) (T4.setTop (mkF m 10 #[.val (.ref x)] [.int cd])) := c3.trans (st4 _ (Steps.refl _))
  have c6 : Steps p.tables e below (s₁.setTop (entryFrame m #[.ref x] 1)) (T4.setTop (mkF m 18 #[.val (.ref x)] [.int (1 - cd)])) := by
    rcases hc with rfl | rfl
    · exact c5.trans (by
        refine XS.ifNo X4.here hexec rfl (hb hbytes d10) rfl (i0_ne_f rfl) ?_
        refine iconstV X4.here hexec rfl 1 (hb hbytes d13) (by decide) ?_
        refine XS.goto X4.here hexec rfl (pc0 := 14) rfl (hb hbytes d14) (by decide) rfl ?_
        exact Steps.refl _)
    · exact c5.trans (by
        refine XS.ifYes X4.here hexec rfl (pc0 := 10) rfl (hb hbytes d10) rfl (i0_ne_t (by decide)) (by decide) rfl ?_
        refine iconstV X4.here hexec rfl 0 (hb hbytes d17) (by decide) ?_
        exact Steps.refl _)
  exact ⟨T4, some (.int (1 - cd)), _, _, _, X4, rfl, rfl, rfl, (fun h => by cases h), ⟨rfl, q4.trans hh2⟩, fun fs hl => c6.trans (X4.ireturnOut hexec hret (by rcases hc with rfl | rfl <;> rfl) (Or.inr (Or.inl rfl)) (hb hbytes d18) hl)⟩
end IsL
namespace LChA
def yN : MethodName := ⟨"java/lang/StringLatin1", "charAt", "([BI)C"⟩
abbrev yB : ByteArray := jdk_43_method_2_code
theorem d0 : decode yB 0 = .ok (.iload_n 1, 1) := by decide +kernel
theorem d1 : decode yB 1 = .ok (.aload_n 0, 1) := by decide +kernel
theorem d2 : decode yB 2 = .ok (.arraylength, 1) := by decide +kernel
theorem d3 : decode yB 3 = .ok (.invokestatic 9, 3) := by decide +kernel
theorem d6 : decode yB 6 = .ok (.aload_n 0, 1) := by decide +kernel
theorem d7 : decode yB 7 = .ok (.iload_n 1, 1) := by decide +kernel
theorem d8 : decode yB 8 = .ok (.baload, 1) := by decide +kernel
theorem d9 : decode yB 9 = .ok (.sipush 255, 3) := by decide +kernel
theorem d12 : decode yB 12 = .ok (.iand, 1) := by decide +kernel
theorem d13 : decode yB 13 = .ok (.i2c, 1) := by decide +kernel
theorem d14 : decode yB 14 = .ok (.ireturn, 1) := by decide +kernel
def site : List Cond := [JO.Str_checkIndex.tab] ++ staticW "java/lang/StringLatin1" 9 JO.Str_checkIndex.yN
def tab : Cond := tabOf yN yB 2 (some .char) site
def P (t : Addr) (V : Cell) (i : Nat) (u : Int32) (fm : Value) (args : Array Value) (s : State) : Prop := args = #[.ref t, .int (Int32.ofNat i)] ∧ XT.Arr .byte t V s ∧ V.slots[i]? = some (.int u) ∧ (StaticIs s "jdk/internal/util/Preconditions" "SIOOBE_FORMATTER" "Ljava/util/function/BiFunction;" fm ∧ fm.isRef = true)
def E (u : Int32) (r : Option Value) (s w : State) : Prop := XT.PureE (some (.int (chr8 u))) r s w
theorem law (l : Launch) (t : Addr) (V : Cell) (i : Nat) (u : Int32) (fm : Value) : Law l yN 2 2 2 27 yB 2 (some .char) site (P t V i u fm) (E u) [] 0 0 := by
  refine Law.of_walk (plainFor_of_name (by decide +kernel)) (by decide +kernel) (by decide +kernel) (by decide) (fun _ _ h => by rw [h.1]; rfl) (fun _ U U' hal hh h => ⟨h.1, h.2.1.mv hal hh, h.2.2.1, h.2.2.2.1.there hal hh, h.2.2.2.2⟩) (fun r U U' V V' h1 hal h2 h => XT.PureE.mv r U U' V V' h1 hal h2 h) ?_
  intro p e s m args below meth c s₁ X0 hexec hbytes hml hret hlk hnm hown hh0 W hP
  obtain ⟨rfl, hV, hu, s1, rf⟩ := hP
  have v31 := hV.2.2.2
  have hi : i < V.slots.size := (Array.getElem?_eq_some_iff.mp hu).1
  have c1 : Steps p.tables e below (s₁.setTop (entryFrame m #[.ref t, .int (Int32.ofNat i)] 2)) (s₁.setTop (mkF m 0 #[.val (.ref t), .val (.int (Int32.ofNat i))] [])) := entry rfl
  have c2 : Steps p.tables e below (s₁.setTop (entryFrame m #[.ref t, .int (Int32.ofNat i)] 2)) (s₁.setTop (mkF m 3 #[.val (.ref t), .val (.int (Int32.ofNat i))] [.int (Int32.ofNat V.slots.size), .int (Int32.ofNat i)])) := c1.trans (by
    refine XS.iloadN X0.here hexec rfl (hb hbytes d0) rfl ?_
    refine XS.aloadN X0.here hexec rfl (hb hbytes d1) rfl rfl ?_
    refine X0.alen hexec (hV.mv X0.warmed.alike hh0) rfl rfl (hb hbytes d2) ?_
    exact Steps.refl _)
  obtain ⟨v3, T3, X3, E3, g3⟩ := X0.callS hexec (JO.Str_checkIndex.law l (Int32.ofNat i) (Int32.ofNat V.slots.size) fm) hown (wks W (staticW "java/lang/StringLatin1" 9 JO.Str_checkIndex.yN)) (wk W JO.Str_checkIndex.tab) (W := 0) (Nat.le_of_ble_eq_true rfl) (Nat.le_of_ble_eq_true rfl) (Nat.le_refl _) (Nat.le_refl _) (g := (mkF m 3 #[.val (.ref t), .val (.int (Int32.ofNat i))] [.int (Int32.ofNat V.slots.size), .int (Int32.ofNat i)])) rfl (by rw [hml]; rfl) c2 (argsL := [.int (Int32.ofNat i), .int (Int32.ofNat V.slots.size)]) (rest := []) rfl rfl (by show 2 * 0 + 0 ≤ _; decide) (hb hbytes d3) (⟨rfl, rf, s1.there X0.warmed.alike hh0, Int32.ofNat_not_neg (by omega), lt32 v31 hi⟩)
  obtain ⟨rfl, q3⟩ := E3
  have hh3 := q3.trans hh0
  have c4 : Steps p.tables e below (s₁.setTop (entryFrame m #[.ref t, .int (Int32.ofNat i)] 2)) (T3.setTop (mkF m 14 #[.val (.ref t), .val (.int (Int32.ofNat i))] [.int (chr8 u)])) := Steps.trans g3 (by
    refine XS.aloadN X3.here hexec rfl (hb hbytes d6) rfl rfl ?_
    refine XS.iloadN X3.here hexec rfl (hb hbytes d7) rfl ?_
    refine X3.aget hexec (hV.mv X3.warmed.alike hh3) rfl hu rfl rfl (hb hbytes d8) ?_
    refine sipushV X3.here hexec rfl 255 (hb hbytes d9) (by decide) ?_
    refine XS.iand X3.here hexec rfl (hb hbytes d12) rfl ?_
    refine i2c X3.here hexec rfl (hb hbytes d13) rfl ?_
    exact Steps.refl _)
  exact ⟨T3, some (.int (chr8 u)), _, _, _, X3, rfl, rfl, rfl, (fun h => by cases h), ⟨rfl, hh3⟩, fun fs hl => c4.trans (X3.ireturnOut hexec hret (narrow_c _) (Or.inr (Or.inr (Or.inr (Or.inl rfl)))) (hb hbytes d14) hl)⟩
end LChA
end StrChars
namespace StrChars.Road
open Jvm Sem ClassFile Op Lib Jvm.Stand Jvm.Free Jvm.Free.XT
open Jvm.Lib.Cold (StaticIs)
theorem consq {a : Array Value} {s : State} {c : Jvm.Cond} {L : List Jvm.Cond} (h0 : c.before a s = true) (h : ∀ w ∈ L, w.before a s = true) : ∀ w ∈ c :: L, w.before a s = true := fun w hw => (List.mem_cons.mp hw).elim (fun e => e ▸ h0) (h w)
/-- the words of String.length(), either coding -/
abbrev wordsLen : List Jvm.Cond := [.code Len.yN Len.yB 1 (some .int), .initialized ST, .fieldLink ST 9 ST "value" "[B", .fieldLink ST 38 ST "COMPACT_STRINGS" "Z", .fieldLink ST 15 ST "coder" "B", .code Cdr.yN Cdr.yB 1 (some .byte), .methodLink ST 335 Cdr.yN, .declares Cdr.yN, .selects ST Cdr.yN Cdr.yN, .instanceMethod Cdr.yN]
theorem tabLen_of {a : Array Value} {s : State} (h : ∀ w ∈ wordsLen, w.before a s = true) : Len.tab.before a s = true := by
  have hc : Cdr.tab.before a s = true := unparts (wk h (.code Cdr.yN Cdr.yB 1 (some .byte))) (wks h (.initialized Cdr.yN.cls :: Cdr.site))
  have q := consq hc h
  exact unparts (wk q (.code Len.yN Len.yB 1 (some .int))) (wks q (.initialized Len.yN.cls :: Len.site))
theorem movedLen {Z s : State} {a0 args : Array Value} (hZ : Z.Warmed39 s.vm) (hw : ∀ d ∈ wordsLen, d.before a0 Z = true) : ∀ d ∈ wordsLen, d.before args s = true := fun d hd => by
  have q := hw d hd
  have t : ∀ d ∈ wordsLen, d = .arrayClass .byte ∨ (d.onTables && d.keepsFace) = true := by decide +kernel
  rcases t d hd with rfl | t
  · exact RoadKit.mvA hZ q
  · exact RoadKit.mv hZ q t
/-- the bytes of the chars cs, low before high -/
def wideBytes : List Int32 → List Value
  | [] => []
  | c :: cs => .int (lo8 c) :: .int (hi8 c) :: wideBytes cs
theorem wide_lo (d : Value) : ∀ (cs : List Int32) (j : Nat), j < cs.length → (wideBytes cs).getD (2 * j) d = .int (lo8 (cs.getD j 0))
  | [], j, h => absurd h (Nat.not_lt_zero j)
  | c :: cs, 0, _ => rfl
  | c :: cs, j + 1, h => by
    have q := wide_lo d cs j (by simpa using h)
    rw [show 2 * (j + 1) = 2 * j + 1 + 1 from by omega]
    simpa [wideBytes] using q
theorem wide_hi (d : Value) : ∀ (cs : List Int32) (j : Nat), j < cs.length → (wideBytes cs).getD (2 * j + 1) d = .int (hi8 (cs.getD j 0))
  | [], j, h => absurd h (Nat.not_lt_zero j)
  | c :: cs, 0, _ => rfl
  | c :: cs, j + 1, h => by
    have q := wide_hi d cs j (by simpa using h)
    rw [show 2 * (j + 1) + 1 = 2 * j + 1 + 1 + 1 from by omega]
    simpa [wideBytes] using q
theorem low_at (d : Value) (cs : List Int32) (j : Nat) (h : j < cs.length) : (cs.map fun c => Value.int (lo8 c)).getD j d = .int (lo8 (cs.getD j 0)) := by
  simp [List.getD_eq_getElem?_getD, h]
/-- an array of N2 bytes vs codes the chars cs by the coder cd -/
def CodA (cs : List Int32) (cd N2 : Int32) (vs : List Value) : Prop := (cd = 0 ∧ N2 = Int32.ofNat cs.length ∧ vs = (cs.map fun c => Value.int (lo8 c)) ∧ ∀ c ∈ cs, ¬ 255 < c) ∨ (cd = 1 ∧ N2 = Int32.ofNat (2 * cs.length) ∧ vs = wideBytes cs ∧ ∃ c ∈ cs, 255 < c)
theorem CodA.cod {cs : List Int32} {cd N2 : Int32} {vs : List Value} {V : Cell} (h : CodA cs cd N2 vs) (hn : 2 * cs.length < 2 ^ 31) (hs : V.slots.size = N2.toNatClampNeg) (hv : RoadKit.Has V vs (.int 0)) : Cod cd cs.length (fun j => cs.getD j 0) V := by
  rcases h with ⟨rfl, rfl, rfl, h⟩ | ⟨rfl, rfl, rfl, c, hc, hw⟩
  · rw [n32 (by omega)] at hs
    exact Or.inl ⟨rfl, hs, fun j hj => ⟨by rw [hv j (by omega), low_at _ _ _ hj], by
      have e : cs.getD j 0 = cs[j] := by simp [List.getD_eq_getElem?_getD, hj]
      show ¬ 255 < cs.getD j 0
      rw [e]; exact h _ (List.getElem_mem _)⟩⟩
  · rw [n32 (by omega)] at hs
    obtain ⟨j, hj, rfl⟩ := List.getElem_of_mem hc
    exact Or.inr ⟨rfl, hs, fun j hj => ⟨by rw [hv _ (by omega), wide_lo _ _ _ hj], by rw [hv _ (by omega), wide_hi _ _ _ hj]⟩, j, hj, by
      have e : cs.getD j 0 = cs[j] := by simp [List.getD_eq_getElem?_getD, hj]
      show 255 < cs.getD j 0
      rw [e]; exact hw⟩
/-- an object of exactly java/lang/String, its two fields found: as the laws ask it -/
theorem strObj {Z U : State} {a0 : Array Value} {kI : Nat} (wi : (Jvm.Cond.instantiable ST kI).before a0 Z = true) (al : Z.vm.Alike U.vm) {x : Addr} {v0 c0 : Value} (E : RoadKit.Exa Z U.heap x ST) (V : RoadKit.Fld Z U.heap x ST "value" "[B" v0) (C : RoadKit.Fld Z U.heap x ST "coder" "B" c0) :
    ∃ (D : Cell) (fV fC : Field), Blank ST x D U ∧ Found ST "value" "[B" fV U ∧ Found ST "coder" "B" fC U ∧ D.slots[fV.slot]? = some v0 ∧ D.slots[fC.slot]? = some c0 ∧ RoadKit.slotOf Z ST "value" "[B" = fV.slot ∧ RoadKit.slotOf Z ST "coder" "B" = fC.slot := by
  obtain ⟨D, cfV, kV, iV, fV, hD, gV, stV, knV, obV, asV, slV⟩ := V
  obtain ⟨D', cfC, kC, iC, fC, hD', gC, stC, -, -, asC, slC⟩ := C
  cases hD.symm.trans hD'
  obtain ⟨D2, kD, e1, e2, e3, e4, e5⟩ := E
  cases hD.symm.trans e1
  obtain ⟨c2, k2, i1, i2, i3, -⟩ := Cond.instantiable_spec wi
  cases e2.symm.trans i1
  cases e3.symm.trans i2
  obtain ⟨kU, u1, u2⟩ := al.2.2 _ _ e3
  exact ⟨D, fV, fC, ⟨hD, ⟨knV, fun q hq => by rw [hq] at obV; cases obV⟩, by rw [al.findClass]; exact e2, kU, u1, by rw [u2]; exact i3, by rw [u2]; exact e5 i3⟩, ⟨SBG.found_only al ⟨cfV, kV, iV, gV⟩, stV⟩, ⟨SBG.found_only al ⟨cfC, kC, iC, gC⟩, stC⟩, slV, slC, by simp [RoadKit.slotOf, gV], by simp [RoadKit.slotOf, gC]⟩
theorem sta_is {Z U : State} (al : Z.vm.Alike U.vm) {C n d : String} {v : Value} (S : RoadKit.Sta Z U.heap C n d v) : StaticIs U C n d v := by
  obtain ⟨cfS, iS, kS, fS, st, cS, t1, t2, t3, t4, t5, t6, t7⟩ := S
  exact StaticIs.there (s := { Z with heap := U.heap }) ⟨cfS, iS, kS, fS, st, cS, t1, t2, t3, t4, t5, (fun q => by rw [q] at t6; cases t6), t7⟩ al rfl
/-- **length() OF SUCH A STRING** -/
theorem lenW {p : Program} {l : Launch} {e : Env} {R : Room} {s : State} {args : Array Value} {below : List Frame} {len W : Nat} {Z : State} {a0 : Array Value} {h : Heap} (hZ : Z.Warmed39 s.vm) (hw : ∀ d ∈ wordsLen, d.before a0 Z = true) {kI : Nat} (wi : (Jvm.Cond.instantiable ST kI).before a0 Z = true)
    {x t : Addr} {kb : ClassId} {cs : List Int32} {cd N2 z : Int32} {vs : List Value} (E : RoadKit.Exa Z h x ST) (V : RoadKit.Fld Z h x ST "value" "[B" (.ref t)) (C : RoadKit.Fld Z h x ST "coder" "B" (.int cd)) (K : RoadKit.Arv Z h t kb .byte N2 vs (.int 0)) (hc : CodA cs cd N2 vs) (hb : ∀ c ∈ cs, ¬ c < 0 ∧ ¬ (65535 : Int32) < c)
    (S : RoadKit.Sta Z h ST "COMPACT_STRINGS" "Z" (.int z)) (hz : ¬ z = 0) (l2 : cs.length ≤ 4000) (hfr : 2 ≤ R.frames) (hlo : W + 25 ≤ R.locals) :
    Back l R p e below s args (⟨"java/lang/String", "length", "()I"⟩ : MethodName) len W (fun P a => a = #[.ref x] ∧ P.U.heap = h ∧ P.cells + 0 ≤ R.cells ∧ P.slots + 0 ≤ R.slots)
      (fun P _ v B => ∃ L, (v = some (.int (Int32.ofNat cs.length)) ∧ L = [] ∧ B.U.heap = h) ∧ B.locs = P.locs ++ L ∧ B.cells = P.cells + 0 ∧ B.slots = P.slots + 0) := by
  obtain ⟨A, K1, K2, K3, K4, K5, K6⟩ := K
  have hcod := hc.cod (by omega) K3 K5
  intro m meth c P g ig mk a X hg hsize hdg hW hn hp'
  obtain ⟨rfl, rfl, r1, r2⟩ := hp'
  have al : Z.vm.Alike P.U.vm := hZ.alike.trans X.warmed.alike
  obtain ⟨D, fV, fC, hB, F1, F2, g1, g2, -, -⟩ := strObj wi al E V C
  have hx : Txt x t A cd cs.length (fun j => cs.getD j 0) P.U := ⟨⟨_, hB.2.2.1, D, hB.1, rfl, by cases q : D.vm <;> first | rfl | exact absurd q (hB.2.1.2 _)⟩, Has.of hB F1 g1, Has.of hB F2 g2, ⟨K1.1, State.isArrayOf_alike al K1.2.1, K1.2.2, by rcases hcod with ⟨-, q, -⟩ | ⟨-, q, -⟩ <;> omega⟩, hcod, fun j hj => by
    have e : cs.getD j 0 = cs[j] := by simp [List.getD_eq_getElem?_getD, hj]
    show ¬ cs.getD j 0 < 0 ∧ ¬ 65535 < cs.getD j 0
    rw [e]; exact hb _ (List.getElem_mem _)⟩
  obtain ⟨v, B, X', ⟨⟨hv, hh⟩, hl, hk, hs⟩, st⟩ := Len.pays x t A cd cs.length (fun j => cs.getD j 0) z (tabLen_of (movedLen hZ hw)) hfr hlo m meth c P g ig mk _ X hg hsize hdg hW hn ⟨r1, r2, rfl, hx, sta_is al S, hz⟩
  exact ⟨v, B, X', ⟨[], ⟨hv, rfl, hh⟩, hl, hk, hs⟩, st⟩
end StrChars.Road
namespace StrChars.Road
open Jvm Sem ClassFile Op Lib Jvm.Stand Jvm.Free Jvm.Free.XT
open Jvm.Lib.Cold (StaticIs)
/-- the road's facts of a String, as the laws ask it -/
theorem txt_of {Z U : State} {a0 : Array Value} {kI : Nat} (wi : (Jvm.Cond.instantiable ST kI).before a0 Z = true) (al : Z.vm.Alike U.vm) {x t : Addr} {kb : ClassId} {cs : List Int32} {cd N2 : Int32} {vs : List Value} (E : RoadKit.Exa Z U.heap x ST) (V : RoadKit.Fld Z U.heap x ST "value" "[B" (.ref t)) (C : RoadKit.Fld Z U.heap x ST "coder" "B" (.int cd)) (K : RoadKit.Arv Z U.heap t kb .byte N2 vs (.int 0)) (hc : CodA cs cd N2 vs) (hb : ∀ c ∈ cs, ¬ c < 0 ∧ ¬ (65535 : Int32) < c) (l2 : cs.length ≤ 4000) :
    ∃ A, Txt x t A cd cs.length (fun j => cs.getD j 0) U := by
  obtain ⟨A, K1, K2, K3, K4, K5, K6⟩ := K
  have hcod := hc.cod (by omega) K3 K5
  obtain ⟨D, fV, fC, hB, F1, F2, g1, g2, -, -⟩ := strObj wi al E V C
  exact ⟨A, ⟨_, hB.2.2.1, D, hB.1, rfl, by cases q : D.vm <;> first | rfl | exact absurd q (hB.2.1.2 _)⟩, Has.of hB F1 g1, Has.of hB F2 g2, ⟨K1.1, State.isArrayOf_alike al K1.2.1, K1.2.2, by rcases hcod with ⟨-, q, -⟩ | ⟨-, q, -⟩ <;> omega⟩, hcod, fun j hj => by
    have e : cs.getD j 0 = cs[j] := by simp [List.getD_eq_getElem?_getD, hj]
    show ¬ cs.getD j 0 < 0 ∧ ¬ 65535 < cs.getD j 0
    rw [e]; exact hb _ (List.getElem_mem _)⟩
end StrChars.Road
namespace StrChars
open Jvm Sem ClassFile Op Lib Jvm.Stand Jvm.Free.XT Jvm.Free.ALB Jvm.Free.JM Jvm.Free
open Jvm.Lib.Cold (StaticIs)
namespace ChN
def yN : MethodName := ⟨"java/lang/String", "charAt", "(I)C"⟩
abbrev yB : ByteArray := jdk_42_method_56_code
theorem d0 : decode yB 0 = .ok (.aload_n 0, 1) := by decide +kernel
theorem d1 : decode yB 1 = .ok (.invokevirtual 492, 3) := by decide +kernel
theorem d4 : decode yB 4 = .ok (.ifCond (.eq) 12, 3) := by decide +kernel
theorem d7 : decode yB 7 = .ok (.aload_n 0, 1) := by decide +kernel
theorem d8 : decode yB 8 = .ok (.getfield 9, 3) := by decide +kernel
theorem d11 : decode yB 11 = .ok (.iload_n 1, 1) := by decide +kernel
theorem d12 : decode yB 12 = .ok (.invokestatic 495, 3) := by decide +kernel
theorem d15 : decode yB 15 = .ok (.ireturn, 1) := by decide +kernel
def site : List Cond := [.fieldLink "java/lang/String" 9 "java/lang/String" "value" "[B", IsL.tab, LChA.tab] ++ virtW "java/lang/String" 492 "java/lang/String" IsL.yN IsL.yN ++ staticW "java/lang/String" 495 LChA.yN
def tab : Cond := tabOf yN yB 2 (some .char) site
def P (x t : Addr) (V : Cell) (n : Nat) (f : Nat → Int32) (z : Int32) (fm : Value) (i : Nat) (args : Array Value) (s : State) : Prop := args = #[.ref x, .int (Int32.ofNat i)] ∧ Txt x t V 0 n f s ∧ i < n ∧ StaticIs s "java/lang/String" "COMPACT_STRINGS" "Z" (.int z) ∧ ¬ z = 0 ∧ StaticIs s "jdk/internal/util/Preconditions" "SIOOBE_FORMATTER" "Ljava/util/function/BiFunction;" fm ∧ fm.isRef = true
def E (f : Nat → Int32) (i : Nat) (r : Option Value) (s u : State) : Prop := XT.PureE (some (.int (f i))) r s u
/-- charAt(i) of a Latin-1 String of n chars, i < n: f i -/
theorem law (l : Launch) (x t : Addr) (V : Cell) (n : Nat) (f : Nat → Int32) (z : Int32) (fm : Value) (i : Nat) : Law l yN 2 1 3 40 yB 2 (some .char) site (P x t V n f z fm i) (E f i) [] 0 0 := by
  refine Law.of_walk (plainFor_of_name (by decide +kernel)) (by decide +kernel) (by decide +kernel) (by decide) (fun _ _ h => by rw [h.1]; rfl) (fun _ U U' hal hh h => ⟨h.1, h.2.1.mv hal hh, h.2.2.1, h.2.2.2.1.there hal hh, h.2.2.2.2.1, h.2.2.2.2.2.1.there hal hh, h.2.2.2.2.2.2⟩) (fun r U U' V V' h1 hal h2 h => XT.PureE.mv r U U' V V' h1 hal h2 h) ?_
  intro p e s m args below meth c s₁ X0 hexec hbytes hml hret hlk hnm hown hh0 W hP
  obtain ⟨rfl, hx, hi, s1, hz, s3, rf⟩ := hP
  have v31 := hx.2.2.2.1.2.2.2
  have hr := hx.2.2.2.2.2 i hi
  have hx0 := hx.mv X0.warmed.alike hh0
  have c1 : Steps p.tables e below (s₁.setTop (entryFrame m #[.ref x, .int (Int32.ofNat i)] 2)) (s₁.setTop (mkF m 1 #[.val (.ref x), .val (.int (Int32.ofNat i))] [.ref x])) := Steps.trans (entry rfl) (by
    show Steps p.tables e below (s₁.setTop (mkF m 0 #[.val (.ref x), .val (.int (Int32.ofNat i))] [])) _
    refine XS.aloadN X0.here hexec rfl (hb hbytes d0) rfl rfl ?_
    exact Steps.refl _)
  obtain ⟨v2, T2, X2, E2, g2⟩ := X0.callV hexec (IsL.law l x 0 z) hown (wks W (virtW "java/lang/String" 492 "java/lang/String" IsL.yN IsL.yN)) rfl (by decide) (wk W IsL.tab) (W := 0) (Nat.le_of_ble_eq_true rfl) (Nat.le_of_ble_eq_true rfl) (Nat.le_refl _) (Nat.le_refl _) (hx0.1.fc X0.warmed.alike) hx0.1.is (g := (mkF m 1 #[.val (.ref x), .val (.int (Int32.ofNat i))] [.ref x])) rfl (by rw [hml]; rfl) c1 (argsL := []) (rest := []) rfl rfl (by show 2 * 0 + 0 ≤ _; decide) (hb hbytes d1) (⟨rfl, hx0.2.2.1, hx.2.2.2.2.1.cd, s1.there X0.warmed.alike hh0, hz⟩)
  obtain ⟨rfl, q2⟩ := E2
  have hh2 := q2.trans hh0
  have hx2 := hx.mv X2.warmed.alike hh2
  obtain ⟨-, k1, k2⟩ | ⟨k0, -⟩ := hx.2.2.2.2.1
  · have c3 : Steps p.tables e below (s₁.setTop (entryFrame m #[.ref x, .int (Int32.ofNat i)] 2)) (T2.setTop (mkF m 8 #[.val (.ref x), .val (.int (Int32.ofNat i))] [.ref x])) := Steps.trans g2 (by
      refine XS.ifNo X2.here hexec rfl (hb hbytes d4) rfl (i0_eq_f (by decide)) ?_
      refine XS.aloadN X2.here hexec rfl (hb hbytes d7) rfl rfl ?_
      exact Steps.refl _)
    obtain ⟨T4, X4, q4, st4⟩ := X2.hget hexec hown (wk W (.fieldLink "java/lang/String" 9 "java/lang/String" "value" "[B")) hx2.2.1 (g := (mkF m 8 #[.val (.ref x), .val (.int (Int32.ofNat i))] [.ref x])) rfl (rest := []) rfl (hb hbytes d8)
    have hh4 := q4.trans hh2
    have c5 : Steps p.tables e below (s₁.setTop (entryFrame m #[.ref x, .int (Int32.ofNat i)] 2)) (T4.setTop (mkF m 12 #[.val (.ref x), .val (.int (Int32.ofNat i))] [.int (Int32.ofNat i), .ref t])) := (c3.trans (st4 _ (Steps.refl _))).trans (by
      refine XS.iloadN X4.here hexec rfl (hb hbytes d11) rfl ?_
      exact Steps.refl _)
    obtain ⟨v6, T6, X6, E6, g6⟩ := X4.callS hexec (LChA.law l t V i (lo8 (f i)) fm) hown (wks W (staticW "java/lang/String" 495 LChA.yN)) (wk W LChA.tab) (W := 0) (Nat.le_of_ble_eq_true rfl) (Nat.le_of_ble_eq_true rfl) (Nat.le_refl _) (Nat.le_refl _) (g := (mkF m 12 #[.val (.ref x), .val (.int (Int32.ofNat i))] [.int (Int32.ofNat i), .ref t])) rfl (by rw [hml]; rfl) c5 (argsL := [.ref t, .int (Int32.ofNat i)]) (rest := []) rfl rfl (by show 2 * 0 + 0 ≤ _; decide) (hb hbytes d12) (⟨rfl, hx.2.2.2.1.mv X4.warmed.alike hh4, (k2 i hi).1, s3.there X4.warmed.alike hh4, rf⟩)
    obtain ⟨rfl, q6⟩ := E6
    rw [chr8_lo8 hr.1 (k2 i hi).2] at g6
    exact ⟨T6, some (.int (f i)), _, _, _, X6, rfl, rfl, rfl, (fun h => by cases h), ⟨rfl, q6.trans hh4⟩, fun fs hl => Steps.trans g6 (X6.ireturnOut hexec hret (narrow_ch hr.1 hr.2) (Or.inr (Or.inr (Or.inr (Or.inl rfl)))) (hb hbytes d15) hl)⟩
  · exact absurd k0 (by decide)
theorem pays {l : Launch} {R : Room} {p : Program} {e : Env} {below : List Frame} {s : State} {sargs : Array Value} {len W : Nat} (x t : Addr) (V : Cell) (n : Nat) (f : Nat → Int32) (z : Int32) (fm : Value) (i : Nat) (htab : tab.before sargs s = true) (hfr : 4 ≤ R.frames) (hlo : W + 53 ≤ R.locals) :
    Back l R p e below s sargs yN len W (fun A₁ a₁ => A₁.cells + 0 ≤ R.cells ∧ A₁.slots + 0 ≤ R.slots ∧ P x t V n f z fm i a₁ A₁.U) (fun A₁ _ v₁ B₁ => E f i v₁ A₁.U B₁.U ∧ B₁.locs = A₁.locs ++ [] ∧ B₁.cells = A₁.cells + 0 ∧ B₁.slots = A₁.slots + 0) :=
  (law l x t V n f z fm i).pays htab hfr (by omega)
end ChN
end StrChars
namespace StrChars.Road
open Jvm Sem ClassFile Op Lib Jvm.Stand Jvm.Free Jvm.Free.XT
open Jvm.Lib.Cold (StaticIs)
/-- the words of String.charAt(int), the Latin-1 road alone -/
abbrev wordsChN : List Jvm.Cond := [.code ChN.yN ChN.yB 2 (some .char), .initialized ST, .fieldLink ST 9 ST "value" "[B", .fieldLink ST 38 ST "COMPACT_STRINGS" "Z", .fieldLink ST 15 ST "coder" "B", .code IsL.yN IsL.yB 1 (some .boolean), .methodLink ST 492 IsL.yN, .declares IsL.yN, .selects ST IsL.yN IsL.yN, .instanceMethod IsL.yN,
  .methodLink ST 495 LChA.yN, .static LChA.yN, .code LChA.yN LChA.yB 2 (some .char), .initialized "java/lang/StringLatin1", .methodLink "java/lang/StringLatin1" 9 JO.Str_checkIndex.yN, .static JO.Str_checkIndex.yN, .code JO.Str_checkIndex.yN JO.Str_checkIndex.yB 2 none,
  .fieldLink ST 1053 "jdk/internal/util/Preconditions" "SIOOBE_FORMATTER" "Ljava/util/function/BiFunction;", .methodLink ST 1059 JC.PreCheck.yN, .static JC.PreCheck.yN, .code JC.PreCheck.yN JC.PreCheck.yB 3 (some .int), .initialized "jdk/internal/util/Preconditions"]
theorem tabChN_of {a : Array Value} {s : State} (h : ∀ w ∈ wordsChN, w.before a s = true) : ChN.tab.before a s = true := by
  have hp : JC.PreCheck.tab.before a s = true := unparts (wk h (.code JC.PreCheck.yN JC.PreCheck.yB 3 (some .int))) (wks h (.initialized JC.PreCheck.yN.cls :: JC.PreCheck.site))
  have qk := consq hp h
  have hk : JO.Str_checkIndex.tab.before a s = true := unparts (wk qk (.code JO.Str_checkIndex.yN JO.Str_checkIndex.yB 2 none)) (wks qk (.initialized JO.Str_checkIndex.yN.cls :: JO.Str_checkIndex.site))
  have ql := consq hk h
  have hl : LChA.tab.before a s = true := unparts (wk ql (.code LChA.yN LChA.yB 2 (some .char))) (wks ql (.initialized LChA.yN.cls :: LChA.site))
  have hi : IsL.tab.before a s = true := unparts (wk h (.code IsL.yN IsL.yB 1 (some .boolean))) (wks h (.initialized IsL.yN.cls :: IsL.site))
  have q := consq hi (consq hl h)
  exact unparts (wk q (.code ChN.yN ChN.yB 2 (some .char))) (wks q (.initialized ChN.yN.cls :: ChN.site))
theorem movedChN {Z s : State} {a0 args : Array Value} (hZ : Z.Warmed39 s.vm) (hw : ∀ d ∈ wordsChN, d.before a0 Z = true) : ∀ d ∈ wordsChN, d.before args s = true := fun d hd => by
  have t : ∀ d ∈ wordsChN, (d.onTables && d.keepsFace) = true := by decide +kernel
  exact RoadKit.mv hZ (hw d hd) (t d hd)
/-- **charAt(i) OF A LATIN-1 STRING**, i < n: the char -/
theorem chN {p : Program} {l : Launch} {e : Env} {R : Room} {s : State} {args : Array Value} {below : List Frame} {len W : Nat} {Z : State} {a0 : Array Value} {h : Heap} (hZ : Z.Warmed39 s.vm) (hw : ∀ d ∈ wordsChN, d.before a0 Z = true) {kI : Nat} (wi : (Jvm.Cond.instantiable ST kI).before a0 Z = true)
    {x t : Addr} {kb : ClassId} {cs : List Int32} {N2 z : Int32} {vs : List Value} {fm : Value} {i : Nat} {j : Int32} (E : RoadKit.Exa Z h x ST) (V : RoadKit.Fld Z h x ST "value" "[B" (.ref t)) (C : RoadKit.Fld Z h x ST "coder" "B" (.int 0)) (K : RoadKit.Arv Z h t kb .byte N2 vs (.int 0)) (hc : CodA cs 0 N2 vs) (hb : ∀ c ∈ cs, ¬ c < 0 ∧ ¬ (65535 : Int32) < c)
    (S : RoadKit.Sta Z h ST "COMPACT_STRINGS" "Z" (.int z)) (hz : ¬ z = 0) (F : RoadKit.Sta Z h "jdk/internal/util/Preconditions" "SIOOBE_FORMATTER" "Ljava/util/function/BiFunction;" fm) (rf : fm.isRef = true) (l2 : cs.length ≤ 4000) (hi : i < cs.length) (hj : j = Int32.ofNat i) (hfr : 4 ≤ R.frames) (hlo : W + 53 ≤ R.locals) :
    Back l R p e below s args (⟨"java/lang/String", "charAt", "(I)C"⟩ : MethodName) len W (fun P a => a = #[.ref x, .int j] ∧ P.U.heap = h ∧ P.cells + 0 ≤ R.cells ∧ P.slots + 0 ≤ R.slots)
      (fun P _ v B => ∃ L, (v = some (.int (cs.getD i 0)) ∧ L = [] ∧ B.U.heap = h) ∧ B.locs = P.locs ++ L ∧ B.cells = P.cells + 0 ∧ B.slots = P.slots + 0) := by
  subst hj
  intro m meth c P g ig mk a X hg hsize hdg hW hn hp'
  obtain ⟨rfl, rfl, r1, r2⟩ := hp'
  have al : Z.vm.Alike P.U.vm := hZ.alike.trans X.warmed.alike
  obtain ⟨A, hx⟩ := txt_of wi al E V C K hc hb l2
  obtain ⟨v, B, X', ⟨⟨hv, hh⟩, hl, hk, hs⟩, st⟩ := ChN.pays x t A cs.length (fun j => cs.getD j 0) z fm i (tabChN_of (movedChN hZ hw)) hfr hlo m meth c P g ig mk _ X hg hsize hdg hW hn ⟨r1, r2, rfl, hx, hi, sta_is al S, hz, sta_is al F, rf⟩
  exact ⟨v, B, X', ⟨[], ⟨hv, rfl, hh⟩, hl, hk, hs⟩, st⟩
/-- what backV says of its String, as the contracts of this text ask it: cs's low bytes, coder 0 -/
theorem codOf {cs : List Int32} {n : Nat} (hn : cs.length = n) (hb : ∀ c ∈ cs, ¬ 255 < c) : CodA cs 0 (Int32.ofNat n) ((cs.map lo8).map Value.int) := Or.inl ⟨rfl, by rw [hn], by simp [List.map_map, Function.comp_def], hb⟩
end StrChars.Road
end Jvm.Pilot.@@N@@
namespace Jvm.Pilot.@@N@@
open Jvm Jvm.ClassFile Sem Op Lib Jvm.Free Jvm.Stand Jvm.LawKit Jvm.RoadKit Bundle Jvm.Pilot.@@N@@.Jvm.D
/-- a String of known chars, Latin-1, at a -/
def StrV (Z : State) (h : Heap) (a : Addr) (cs : List Int32) : Prop := ∃ (b : Addr) (kb : ClassId) (N : Int32) (vs : List Value), Exa Z h a "java/lang/String" ∧ Fld Z h a "java/lang/String" "value" "[B" (.ref b) ∧ Fld Z h a "java/lang/String" "coder" "B" (.int 0) ∧ Arv Z h b kb .byte N vs (.int 0) ∧ StrChars.Road.CodA cs 0 N vs ∧ (∀ c ∈ cs, ¬ c < 0 ∧ ¬ (65535 : Int32) < c)
theorem StrV.exa {Z : State} {h : Heap} {a : Addr} {cs : List Int32} (S : StrV Z h a cs) : Exa Z h a "java/lang/String" := by obtain ⟨_, _, _, _, e, -⟩ := S; exact e
theorem StrV.lt {Z : State} {h : Heap} {a : Addr} {cs : List Int32} (S : StrV Z h a cs) : a < h.size := S.exa.lt
theorem StrV.ext {Z : State} {h h' : Heap} {a : Addr} {cs : List Int32} (S : StrV Z h a cs) (E : Ext h h') : StrV Z h' a cs := by
  obtain ⟨b, kb, N, vs, e, f, c, v, q⟩ := S
  exact ⟨b, kb, N, vs, e.ext E, f.ext E, c.ext E, v.ext E, q⟩
theorem StrV.keep0 {Z : State} {h h' : Heap} {a : Addr} {cs : List Int32} (S : StrV Z h a cs) (K : Keep h h' []) : StrV Z h' a cs := by
  obtain ⟨b, kb, N, vs, e, f, c, v, q⟩ := S
  exact ⟨b, kb, N, vs, e.keep K, f.keep K nin0, c.keep K nin0, v.keep K nin0, q⟩
/-- neither a String nor an array -/
def NStr (Z : State) (h : Heap) (x : Addr) : Prop := ∃ (C : String) (n : Nat) (a0 : Array Value), Exa Z h x C ∧ C ≠ "java/lang/String" ∧ (Jvm.Cond.instantiable C n).before a0 Z = true
theorem NStr.of {Z : State} {h : Heap} {x : Addr} {C : String} {n : Nat} {a0 : Array Value} (E : Exa Z h x C) (w : (Jvm.Cond.instantiable C n).before a0 Z = true) (q : C ≠ "java/lang/String") : NStr Z h x := ⟨C, n, a0, E, q, w⟩
theorem StrV.keepN {Z : State} {h h' : Heap} {a : Addr} {cs : List Int32} {ws : List Addr} (S : StrV Z h a cs) (K : Keep h h' ws) (hs : ∀ x ∈ ws, NStr Z h x) : StrV Z h' a cs := by
  obtain ⟨b, kb, N, vs, e, f, c, v, q⟩ := S
  have ha : a ∉ ws := fun m => by
    obtain ⟨C, n, a0, E, hne, w⟩ := hs a m
    exact Exa.ne E e hne rfl
  have hb : b ∉ ws := fun m => by
    obtain ⟨C, n, a0, E, hne, w⟩ := hs b m
    exact Exa.neArv E v w rfl
  exact ⟨b, kb, N, vs, e.keep K, f.keep K ha, c.keep K ha, v.keep K hb, q⟩
theorem own_keep {h h' : Heap} (e : h' = h) (ws : List Addr) : Keep h h' ws := by rw [e]; exact Keep.refl _ _
def own_c (x : Int32) : Int32 := ((x &&& (255 : Int32)).toUInt32.toUInt16.toUInt32.toInt32)
def own_k (x : Int32) : Int32 := nar .char (own_c x)
theorem own_k_lat (x : Int32) : ¬ own_k x < 0 ∧ ¬ (255 : Int32) < own_k x := by
  have t : ∀ k : Fin 256, ¬ nar .char ((Int32.ofNat k.val).toUInt32.toUInt16.toUInt32.toInt32) < 0 ∧ ¬ (255 : Int32) < nar .char ((Int32.ofNat k.val).toUInt32.toUInt16.toUInt32.toInt32) := by decide +kernel
  have h : (x &&& 255).toBitVec.toNat < 256 := by
    simp only [Int32.toBitVec_and, BitVec.toNat_and]
    exact Nat.lt_succ_of_le Nat.and_le_right
  have e : (x &&& 255) = Int32.ofNat (x &&& 255).toBitVec.toNat := by
    apply Int32.toBitVec_inj.mp
    show _ = BitVec.ofNat 32 _
    rw [BitVec.ofNat_toNat]; simp
  show ¬ nar .char ((x &&& (255 : Int32)).toUInt32.toUInt16.toUInt32.toInt32) < 0 ∧ ¬ (255 : Int32) < nar .char ((x &&& (255 : Int32)).toUInt32.toUInt16.toUInt32.toInt32)
  rw [e]
  exact t ⟨_, h⟩
theorem own_up (cs : List Int32) (h : ∀ c ∈ cs, ¬ c < 0 ∧ ¬ (255 : Int32) < c) : ∀ c ∈ cs, ¬ c < 0 ∧ ¬ (65535 : Int32) < c := fun c hc => ⟨(h c hc).1, fun q => (h c hc).2 (by rw [Int32.lt_iff_toInt_lt] at q ⊢; have e1 : (65535 : Int32).toInt = 65535 := rfl; have e2 : (255 : Int32).toInt = 255 := rfl; omega)⟩
/-- out of what backV answers -/
theorem own_mkStr {Z : State} {h : Heap} {a t : Addr} {kb : ClassId} {cs : List Int32} {n : Nat} (hn : cs.length = n) (hp : ∀ c ∈ cs, ¬ c < 0 ∧ ¬ (255 : Int32) < c) (E : Exa Z h a "java/lang/String") (C : Fld Z h a "java/lang/String" "coder" "B" (.int 0)) (V : Fld Z h a "java/lang/String" "value" "[B" (.ref t)) (A : Arv Z h t kb .byte (Int32.ofNat n) ((cs.map (fun c => c.toInt8.toInt32)).map Value.int) (.int 0)) : StrV Z h a cs :=
  ⟨t, kb, Int32.ofNat n, _, E, V, C, A, StrChars.Road.codOf hn (fun c hc => (hp c hc).2), own_up cs hp⟩
def own_EL : List (String × Nat) := [("com/example/treeward/treeward/engine/Finding", 23), ("java/lang/String", 7)]
theorem own_wS {Z : State} {a0 : Array Value} (hw : ∀ d ∈ tables_1, d.before a0 Z = true) : ∀ a ∈ Bundle.stringAtoms, a.before a0 Z = true := fun d hd => hw d ((by decide +kernel : ∀ d ∈ Bundle.stringAtoms, d ∈ tables_1) d hd)
theorem own_safeV {Z : State} {EL : List (String × Nat)} {vm : Vm} {h : Heap} {x : Addr} {k : ClassId} {ty : FieldType} {z : Int32} {vs : List Value} {dv : Value} (hal : Z.vm.Alike vm) (A : Arv Z h x k ty z vs dv) (ht : ty ≠ .byte) : Safe Z EL vm h x := by obtain ⟨c, B, -⟩ := A; exact Safe.arr hal B ht
/-- a call of a callee that may intern and that writes the object x -/
theorem own_backSHs {l : Launch} {p : Program} {e : Env} {R : Room} {s : State} {args : Array Value} {below : List Frame} {Z : State} {a0 : Array Value} {EL : List (String × Nat)} {h : Heap} {vm0 : Vm} {y : MethodName} {bytes : ByteArray} {maxL : Nat} {ret : Option FieldType} {rm : Room} {len W : Nat} {as' : Array Value} {Q : Option Value → Heap → List Loc → Prop} {x : Addr}
    (hM : MetFree l y (head1 [Jvm.Cond.code y bytes maxL ret] rm) (fun a U => a = as' ∧ Z.Warmed39 U.vm ∧ U.heap = h ∧ CHv Z EL U.vm h ∧ Safe Z EL U.vm h x) (fun _ _ _ _ _ => True) (fun _ U o U' => ∃ v L, o = .returned v ∧ Q v U'.heap L ∧ CHr Z EL U.vm U.heap U'.vm U'.heap ∧ ReturnedEndW U o U' L rm.cells rm.slots))
    (hZ : Z.Warmed39 vm0) (wc : (Jvm.Cond.code y bytes maxL ret).before a0 Z = true) (wz : (Jvm.Cond.initialized y.cls).before a0 Z = true) (hf : rm.frames + 1 ≤ R.frames) (hl : W + (maxL + 11) + rm.locals ≤ R.locals) (hEL : EW Z a0 EL) (H : CHv Z EL vm0 h) (hlt : x < h.size) (Sx : Safe Z EL vm0 h x) :
    BackS l R p e below (s.setVm vm0) args y len W (fun A a => a = as' ∧ A.U.heap = h ∧ A.cells + rm.cells ≤ R.cells ∧ A.slots + rm.slots ≤ R.slots)
      (fun A _ v B => ∃ L, Q v B.U.heap L ∧ B.locs = A.locs ++ L ∧ B.cells = A.cells + rm.cells ∧ B.slots = A.slots + rm.slots ∧ CHr Z EL vm0 h B.U.vm B.U.heap) := by
  refine BackS.of_freeW (bytes := bytes) (maxL := maxL) (ret := ret) (E := fun _ first o t L k n => k = rm.cells ∧ n = rm.slots ∧ (∃ v, o = .returned v ∧ Q v t.heap L) ∧ CHr Z EL first.vm first.heap t.vm t.heap) hM hf hl ?_ ?_ (fun _ _ _ _ _ _ _ _ _ => trivial) ?_ ?_
  · intro m meth c A a Y hp
    have hU : Z.Warmed39 A.U.vm := wtrans (s := s.setVm vm0) hZ Y.warmed
    refine ⟨?_, mv hU wc, mv hU wz, hp.2.2.1, hp.2.2.2⟩
    show (Jvm.Cond.and _ .tt).before a A.U = true
    rw [Cond.before_and, mv hU wc]; rfl
  · intro m meth c A a g mk Y hp
    have C := CHv.at Y hZ hEL H
    exact ⟨hp.1, wtrans (s := s.setVm vm0) hZ Y.warmed, hp.2.1, C.1, C.safe hlt Sx⟩
  · rintro _ _ _ _ ⟨v, L, h1, h2, h3, h4⟩
    exact ⟨L, _, _, h4, rfl, rfl, ⟨v, h1, h2⟩, h3⟩
  · rintro m meth c A a g mk v t L k n Y hp _ _ ⟨e1, e2, ⟨v', e3, e4⟩, e5⟩
    cases e3; subst e1 e2
    refine ⟨L, e4, rfl, rfl, rfl, (CHv.at Y hZ hEL H).trans ?_⟩
    rw [← hp.2.1]; exact e5
def QE (Z : State) (a1 : Addr) (h0 : Heap) (n0 : Nat) (v : Option Value) (h : Heap) (L : List Loc) : Prop := v = none ∧ Fr n0 L ∧ Keep h0 h [a1] ∧ StrV Z h a1 []
theorem own_hws {Z : State} {a0 : Array Value} (hw : ∀ d ∈ tables_1, d.before a0 Z = true) : ∀ d ∈ StrChars.Road.words, d.before a0 Z = true := fun d hd => hw d ((by decide +kernel : ∀ d ∈ StrChars.Road.words, d ∈ tables_1) d hd)
theorem own_hlen {Z : State} {a0 : Array Value} (hw : ∀ d ∈ tables_1, d.before a0 Z = true) : ∀ d ∈ StrChars.Road.wordsLen, d.before a0 Z = true := fun d hd => hw d ((by decide +kernel : ∀ d ∈ StrChars.Road.wordsLen, d ∈ tables_1) d hd)
theorem own_hch {Z : State} {a0 : Array Value} (hw : ∀ d ∈ tables_1, d.before a0 Z = true) : ∀ d ∈ StrChars.Road.wordsChN, d.before a0 Z = true := fun d hd => hw d ((by decide +kernel : ∀ d ∈ StrChars.Road.wordsChN, d ∈ tables_1) d hd)
theorem own_d_jdk_42_method_149_code_0 : decode jdk_42_method_149_code 0 = .ok (.aload_n 0, 1) := by decide +kernel
theorem own_d_jdk_42_method_149_code_1 : decode jdk_42_method_149_code 1 = .ok (.invokespecial 1, 3) := by decide +kernel
theorem own_d_jdk_42_method_149_code_4 : decode jdk_42_method_149_code 4 = .ok (.iload_n 3, 1) := by decide +kernel
theorem own_d_jdk_42_method_149_code_5 : decode jdk_42_method_149_code 5 = .ok (.ifCond .ne 22, 3) := by decide +kernel
theorem own_d_jdk_42_method_149_code_8 : decode jdk_42_method_149_code 8 = .ok (.aload_n 0, 1) := by decide +kernel
theorem own_d_jdk_42_method_149_code_9 : decode jdk_42_method_149_code 9 = .ok (.ldc 7, 2) := by decide +kernel
theorem own_d_jdk_42_method_149_code_11 : decode jdk_42_method_149_code 11 = .ok (.getfield 9, 3) := by decide +kernel
theorem own_d_jdk_42_method_149_code_14 : decode jdk_42_method_149_code 14 = .ok (.putfield 9, 3) := by decide +kernel
theorem own_d_jdk_42_method_149_code_17 : decode jdk_42_method_149_code 17 = .ok (.aload_n 0, 1) := by decide +kernel
theorem own_d_jdk_42_method_149_code_18 : decode jdk_42_method_149_code 18 = .ok (.ldc 7, 2) := by decide +kernel
theorem own_d_jdk_42_method_149_code_20 : decode jdk_42_method_149_code 20 = .ok (.getfield 15, 3) := by decide +kernel
theorem own_d_jdk_42_method_149_code_23 : decode jdk_42_method_149_code 23 = .ok (.putfield 15, 3) := by decide +kernel
theorem own_d_jdk_42_method_149_code_26 : decode jdk_42_method_149_code 26 = .ok (.return_, 1) := by decide +kernel
theorem own_lit_empty : (∀ c ∈ ("" : String).toList, c.toNat < 256) ∧ ("" : String).toList.map (fun c => Value.int (Jvm.Lit.byteI c.toNat.toUInt16)) = [] := by decide +kernel
theorem own_pn_java_lang_String : plainName "java/lang/String" = true := by first | (simp [plainName, overriddenIn]; done) | decide +kernel
theorem own_ef_jdk_42_method_149_code_xxxxn (m : MethodId) (x0 : Addr) (x1 : Addr) (x2 : Int32) (x3 : Int32) : entryFrame m #[(.ref x0), (.ref x1), (.int x2), (.int x3), .null] 6 = mkF m 0 #[.val (.ref x0), .val (.ref x1), .val (.int x2), .val (.int x3), .val .null, .unset] [] := by first | (simp [entryFrame, mkF, argsToLocals, Value.category]; done) | rfl
set_option maxRecDepth 65536 in
set_option maxHeartbeats 40000000 in
theorem rmE4 (l : Launch) (Z : State) (a0 : Array Value) (hw : ∀ d ∈ tables_1, d.before a0 Z = true) (ws : List Jvm.Cond) (hEL : EW Z a0 own_EL) (a1 a2 : Addr) (uv uc : Value) (h0 : Heap) (n0 : Nat) (Z0 : n0 ≤ h0.size) (E_a1 : Exa Z h0 a1 "java/lang/String") (F_value_a1 : Fld Z h0 a1 "java/lang/String" "value" "[B" uv) (F_coder_a1 : Fld Z h0 a1 "java/lang/String" "coder" "B" uc) (g_a1 : n0 ≤ a1) :
    MetFree l (⟨"java/lang/String", "<init>", "([CIILjava/lang/Void;)V"⟩ : MethodName) (head1 (Jvm.Cond.code (⟨"java/lang/String", "<init>", "([CIILjava/lang/Void;)V"⟩ : MethodName) jdk_42_method_149_code 6 none :: ws) ({ frames := 1, cells := 2, slots := 4, locals := 12 } : Room)) (fun a U => a = #[(.ref a1), (.ref a2), (.int (0 : Int32)), (.int (0 : Int32)), .null] ∧ Z.Warmed39 U.vm ∧ U.heap = h0 ∧ CHv Z own_EL U.vm h0 ∧ Safe Z own_EL U.vm h0 a1) (fun _ _ _ _ _ => True) (fun _ U o U' => ∃ v L, o = .returned v ∧ QE Z a1 h0 n0 v U'.heap L ∧ CHr Z own_EL U.vm U.heap U'.vm U'.heap ∧ ReturnedEndW U o U' L 2 4) := by
  refine MetFree.of_bodySF (plainFor_of_name own_pn_java_lang_String) hisR ?_
  intro p e s m args below meth c s₁ Bd hml0 hP hK
  obtain ⟨rfl, hZ, hh, hCH0, Sf_a1⟩ := hP
  have hx := Bd.exec
  have hby := Bd.bytes
  have hml : c.maxLocals = 6 := hml0
  have hown : s.vm.findClass "java/lang/String" = some m.cls := findClass_of_methodNamed Bd.named
  have hnm := (name_of_methodNamed Bd.named Bd.method).1
  have X0 : Stand p l e ({ frames := 1, cells := 2, slots := 4, locals := 12 } : Room) (s.setVm s.vm) m #[(.ref a1), (.ref a2), (.int (0 : Int32)), (.int (0 : Int32)), .null] below meth c s₁ [] 0 0 := Stand.of_body Bd
  have e0 : s₁.heap = h0 := by rw [← hh, Bd.state]; rfl
  have N0 := Fr.nil n0
  have CH0 : CHr Z own_EL s.vm h0 s.vm h0 := CHr.refl hCH0
  have hS0 : s.Since s.vm 0 := State.WarmedH.since (State.WarmedH.refl s) 0
  have pre0 : ∀ t, Steps p.tables e below (s₁.setTop (mkF m 0 #[.val (.ref a1), .val (.ref a2), .val (.int (0 : Int32)), .val (.int (0 : Int32)), .val .null, .unset] [])) t → Steps p.tables e below (s₁.setTop (entryFrame m #[(.ref a1), (.ref a2), (.int (0 : Int32)), (.int (0 : Int32)), .null] 6)) t := fun t k => castTop (own_ef_jdk_42_method_149_code_xxxxn m a1 a2 (0 : Int32) (0 : Int32)) k
  obtain ⟨T1, X1, e1, st1⟩ := initO X0 hx hZ hown (hw _ (List.mem_of_getElem? (i := 15) rfl)) (hw _ (List.mem_of_getElem? (i := 16) rfl)) (hw _ (List.mem_of_getElem? (i := 17) rfl)) e0 (g := (mkF m 1 #[.val (.ref a1), .val (.ref a2), .val (.int (0 : Int32)), .val (.int (0 : Int32)), .val .null, .unset] [(.ref a1)])) rfl (by rw [hml]; rfl) rfl (hb hby own_d_jdk_42_method_149_code_1) (by decide) (W := 0) (by show 2 * 0 + _ ≤ _; exact Nat.le_of_eq rfl) (by decide)
  obtain ⟨lit2, T2, h2, kl2, lba2, kk2, X2, e2, E2, hS2, hk2, hZ2, hown2, Ea2, Fc2, Fv2, V2, la2, lb2, C2, Lt2, sf2, st2⟩ := ldcCH X1 hx hZ hown (hw _ (List.mem_of_getElem? (i := 18) rfl)) (own_wS hw) e1 hS0 (Nat.zero_le _) hEL (by decide : ("java/lang/String", 7) ∈ own_EL) CH0.1 (vs := []) (z := (0 : Int32)) own_lit_empty (by decide) (by decide) (g := (mkF m 9 #[.val (.ref a1), .val (.ref a2), .val (.int (0 : Int32)), .val (.int (0 : Int32)), .val .null, .unset] [(.ref a1)])) rfl (hb hby own_d_jdk_42_method_149_code_9) (n := 0) (by decide) (by decide) (by decide) (by decide)
  have CH1 : CHr Z own_EL s.vm h0 T2.vm h2 := CH0.trans C2
  have K1 : Keep h0 h2 [a1] := (Keep.refl h0 [a1]).ext E2
  have f3 : Safe Z own_EL T2.vm h2 a1 := (C2.safe E_a1.lt Sf_a1)
  have ne2_a1 := sf2 a1 f3
  obtain ⟨T4, X4, e4, st4⟩ := getF X2 hx hZ2 hown2 (host := "") (Or.inl (hw _ (List.mem_of_getElem? (i := 24) rfl))) Via.refl e2 Fv2 (g := (mkF m 11 #[.val (.ref a1), .val (.ref a2), .val (.int (0 : Int32)), .val (.int (0 : Int32)), .val .null, .unset] [(.ref lit2), (.ref a1)])) rfl rfl (hb hby own_d_jdk_42_method_149_code_11)
  have f5 : Fld Z h2 a1 "java/lang/String" "value" "[B" uv := (F_value_a1.ext E2)
  have f6 : Exa Z h2 a1 "java/lang/String" := (E_a1.ext E2)
  obtain ⟨T7, h7, X7, e7, W7, st7⟩ := putF X4 hx hZ2 hown2 (host := "") (Or.inl (hw _ (List.mem_of_getElem? (i := 24) rfl))) Via.refl e4 f5 f6 (Or.inr ⟨(hw _ (List.mem_of_getElem? (i := 20) rfl)), rfl, hnm⟩) (hw _ (List.mem_of_getElem? (i := 5) rfl)) (ty := (.array .byte)) (by decide) rfl rfl (g := (mkF m 14 #[.val (.ref a1), .val (.ref a2), .val (.int (0 : Int32)), .val (.int (0 : Int32)), .val .null, .unset] [(.ref lba2), (.ref a1)])) rfl rfl (hb hby own_d_jdk_42_method_149_code_14)
  have Fw7 := f5.same W7
  have Nf7 := Fr.snoc X7 N0 g_a1
  have CH2 : CHr Z own_EL s.vm h0 T2.vm h7 := CH1.trans (CHr.wr W7 f3 CH1.1)
  have K2 : Keep h0 h7 [a1] := K1.wr W7 (Or.inl (List.mem_of_getElem? (i := 0) rfl))
  have f8 : Fld Z h7 lit2 "java/lang/String" "coder" "B" (.int 0) := (Fc2.other W7 (Or.inl (Ne.symm ne2_a1.1)))
  obtain ⟨T9, X9, e9, st9⟩ := getF X7 hx hZ2 hown2 (host := "") (Or.inl (hw _ (List.mem_of_getElem? (i := 25) rfl))) Via.refl e7 f8 (g := (mkF m 20 #[.val (.ref a1), .val (.ref a2), .val (.int (0 : Int32)), .val (.int (0 : Int32)), .val .null, .unset] [(.ref lit2), (.ref a1)])) rfl rfl (hb hby own_d_jdk_42_method_149_code_20)
  have f10 : Fld Z h7 a1 "java/lang/String" "coder" "B" uc := ((F_coder_a1.ext E2).other W7 (Or.inr (slot_ne (Or.inr (hw _ (List.mem_of_getElem? (i := 21) rfl))) (Or.inr (hw _ (List.mem_of_getElem? (i := 20) rfl))) (by decide) (t := .byte) (t' := (.array .byte)) (by decide) (by decide))))
  have f11 : Exa Z h7 a1 "java/lang/String" := (f6.wr W7)
  obtain ⟨T12, h12, X12, e12, W12, st12⟩ := putFN X9 hx hZ2 hown2 (hw _ (List.mem_of_getElem? (i := 25) rfl)) Via.refl e9 f10 f11 (Or.inr ⟨(hw _ (List.mem_of_getElem? (i := 21) rfl)), rfl, hnm⟩) (hw _ (List.mem_of_getElem? (i := 5) rfl)) (ty := .byte) (v' := (.int 0)) (by decide) rfl rfl (g := (mkF m 23 #[.val (.ref a1), .val (.ref a2), .val (.int (0 : Int32)), .val (.int (0 : Int32)), .val .null, .unset] [(.int 0), (.ref a1)])) rfl rfl (hb hby own_d_jdk_42_method_149_code_23)
  have Fw12 := f10.same W12
  have Nf12 := Fr.snoc X12 Nf7 g_a1
  have f13 : Safe Z own_EL T2.vm h7 a1 := (Safe.wr W7 f3 CH1.1 f3)
  have CH3 : CHr Z own_EL s.vm h0 T2.vm h12 := CH2.trans (CHr.wr W12 f13 CH2.1)
  have K3 : Keep h0 h12 [a1] := K2.wr W12 (Or.inl (List.mem_of_getElem? (i := 0) rfl))
  have f14 : Exa Z h12 a1 "java/lang/String" := (f11.wr W12)
  have f15 : Fld Z h12 a1 "java/lang/String" "value" "[B" (.ref lba2) := (Fw7.other W12 (Or.inr (slot_ne (Or.inr (hw _ (List.mem_of_getElem? (i := 20) rfl))) (Or.inr (hw _ (List.mem_of_getElem? (i := 21) rfl))) (by decide) (t := (.array .byte)) (t' := .byte) (by decide) (by decide))))
  have f16 : Arv Z h12 lba2 kk2 .byte (0 : Int32) [] (.int 0) := ((V2.other W7 (Ne.symm ne2_a1.2)).other W12 (Ne.symm ne2_a1.2))
  have hk_17 := Nat.le_trans hk2 (((Keep.refl h2 [a1]).wr W7 (Or.inl (List.mem_of_getElem? (i := 0) rfl))).wr W12 (Or.inl (List.mem_of_getElem? (i := 0) rfl))).1
  obtain ⟨fs, hr, hrun, hended, hend⟩ := X12.leaveW hS2 (by rw [e12]; exact hk_17) (v := none) (fun _ => rfl)
  refine ⟨_, _, pre0 _ ?_, hrun, hended, _, _, rfl, ?_, ?_, hend.1, hend.2.1, hend.2.2.1, hend.2.2.2.mono (by decide) (by decide)⟩
  · show Steps p.tables e below (s₁.setTop (mkF m 0 #[.val (.ref a1), .val (.ref a2), .val (.int (0 : Int32)), .val (.int (0 : Int32)), .val .null, .unset] [])) _
    refine XS.aloadN X0.here hx rfl (hb hby own_d_jdk_42_method_149_code_0) rfl rfl ?_
    show Steps p.tables e below (s₁.setTop (mkF m 1 #[.val (.ref a1), .val (.ref a2), .val (.int (0 : Int32)), .val (.int (0 : Int32)), .val .null, .unset] [(.ref a1)])) _
    refine st1 _ ?_
    refine XS.iloadN X1.here hx rfl (hb hby own_d_jdk_42_method_149_code_4) rfl ?_
    show Steps p.tables e below (T1.setTop (mkF m 5 #[.val (.ref a1), .val (.ref a2), .val (.int (0 : Int32)), .val (.int (0 : Int32)), .val .null, .unset] [(.int (0 : Int32))])) _
    refine XS.ifNo X1.here hx rfl (hb hby own_d_jdk_42_method_149_code_5) rfl ((if0 _ _).trans (teq (rfl : (0 : Int32) = (0 : Int32))).2) ?_
    refine XS.aloadN X1.here hx rfl (hb hby own_d_jdk_42_method_149_code_8) rfl rfl ?_
    show Steps p.tables e below (T1.setTop (mkF m 9 #[.val (.ref a1), .val (.ref a2), .val (.int (0 : Int32)), .val (.int (0 : Int32)), .val .null, .unset] [(.ref a1)])) _
    refine st2 _ ?_
    show Steps p.tables e below (T2.setTop (mkF m 11 #[.val (.ref a1), .val (.ref a2), .val (.int (0 : Int32)), .val (.int (0 : Int32)), .val .null, .unset] [(.ref lit2), (.ref a1)])) _
    refine st4 _ ?_
    show Steps p.tables e below (T4.setTop (mkF m 14 #[.val (.ref a1), .val (.ref a2), .val (.int (0 : Int32)), .val (.int (0 : Int32)), .val .null, .unset] [(.ref lba2), (.ref a1)])) _
    refine st7 _ ?_
    refine XS.aloadN X7.here hx rfl (hb hby own_d_jdk_42_method_149_code_17) rfl rfl ?_
    show Steps p.tables e below (T7.setTop (mkF m 18 #[.val (.ref a1), .val (.ref a2), .val (.int (0 : Int32)), .val (.int (0 : Int32)), .val .null, .unset] [(.ref a1)])) _
    refine ldcAgain X7 hx hZ2 hown2 (hw _ (List.mem_of_getElem? (i := 18) rfl)) Lt2 (g := (mkF m 18 #[.val (.ref a1), .val (.ref a2), .val (.int (0 : Int32)), .val (.int (0 : Int32)), .val .null, .unset] [(.ref a1)])) rfl (hb hby own_d_jdk_42_method_149_code_18) _ ?_
    show Steps p.tables e below (T7.setTop (mkF m 20 #[.val (.ref a1), .val (.ref a2), .val (.int (0 : Int32)), .val (.int (0 : Int32)), .val .null, .unset] [(.ref lit2), (.ref a1)])) _
    refine st9 _ ?_
    show Steps p.tables e below (T9.setTop (mkF m 23 #[.val (.ref a1), .val (.ref a2), .val (.int (0 : Int32)), .val (.int (0 : Int32)), .val .null, .unset] [(.int 0), (.ref a1)])) _
    refine st12 _ ?_
    show Steps p.tables e below (T12.setTop (mkF m 26 #[.val (.ref a1), .val (.ref a2), .val (.int (0 : Int32)), .val (.int (0 : Int32)), .val .null, .unset] [])) _
    exact X12.returnOut hx Bd.returns (hb hby own_d_jdk_42_method_149_code_26) hr
  · show QE Z a1 h0 n0 _ T12.heap _
    rw [e12]
    exact ⟨rfl, Nf12, K3, lba2, kk2, (0 : Int32), [], f14, f15, Fw12, f16, StrChars.Road.codOf (cs := []) (n := 0) rfl (fun c hc => nomatch hc), fun c hc => nomatch hc⟩
  · show CHr Z own_EL s.vm s.heap T12.vm T12.heap
    rw [hh, e12]
    exact CH3.trans (CHv.at X12 hZ2 hEL CH3.1)
theorem own_d_jdk_42_method_3_code_0 : decode jdk_42_method_3_code 0 = .ok (.aload_n 0, 1) := by decide +kernel
theorem own_d_jdk_42_method_3_code_1 : decode jdk_42_method_3_code 1 = .ok (.aload_n 1, 1) := by decide +kernel
theorem own_d_jdk_42_method_3_code_2 : decode jdk_42_method_3_code 2 = .ok (.iconst 0, 1) := by decide +kernel
theorem own_d_jdk_42_method_3_code_3 : decode jdk_42_method_3_code 3 = .ok (.aload_n 1, 1) := by decide +kernel
theorem own_d_jdk_42_method_3_code_4 : decode jdk_42_method_3_code 4 = .ok (.arraylength, 1) := by decide +kernel
theorem own_d_jdk_42_method_3_code_5 : decode jdk_42_method_3_code 5 = .ok (.aconst_null, 1) := by decide +kernel
theorem own_d_jdk_42_method_3_code_6 : decode jdk_42_method_3_code 6 = .ok (.invokespecial 27, 3) := by decide +kernel
theorem own_d_jdk_42_method_3_code_9 : decode jdk_42_method_3_code 9 = .ok (.return_, 1) := by decide +kernel
theorem own_pd___CIILjava_lang_Void__V : parseMethodDescriptor "([CIILjava/lang/Void;)V" = some ⟨[(.array .char), .int, .int, (.object "java/lang/Void")], none⟩ := by decide +kernel
theorem own_ef_jdk_42_method_3_code_xx (m : MethodId) (x0 : Addr) (x1 : Addr) : entryFrame m #[(.ref x0), (.ref x1)] 2 = mkF m 0 #[.val (.ref x0), .val (.ref x1)] [] := by first | (simp [entryFrame, mkF, argsToLocals, Value.category]; done) | rfl
set_option maxRecDepth 65536 in
set_option maxHeartbeats 40000000 in
theorem rmE1 (l : Launch) (Z : State) (a0 : Array Value) (hw : ∀ d ∈ tables_1, d.before a0 Z = true) (ws : List Jvm.Cond) (hEL : EW Z a0 own_EL) (a1 a2 : Addr) (uv uc : Value) (k2 : ClassId) (vs2 : List Value) (dv2 : Value) (h0 : Heap) (n0 : Nat) (Z0 : n0 ≤ h0.size) (E_a1 : Exa Z h0 a1 "java/lang/String") (F_value_a1 : Fld Z h0 a1 "java/lang/String" "value" "[B" uv) (F_coder_a1 : Fld Z h0 a1 "java/lang/String" "coder" "B" uc) (g_a1 : n0 ≤ a1) (V_a2 : Arv Z h0 a2 k2 .char (0 : Int32) vs2 dv2) :
    MetFree l (⟨"java/lang/String", "<init>", "([C)V"⟩ : MethodName) (head1 (Jvm.Cond.code (⟨"java/lang/String", "<init>", "([C)V"⟩ : MethodName) jdk_42_method_3_code 2 none :: ws) ({ frames := 2, cells := 2, slots := 4, locals := 29 } : Room)) (fun a U => a = #[(.ref a1), (.ref a2)] ∧ Z.Warmed39 U.vm ∧ U.heap = h0 ∧ CHv Z own_EL U.vm h0 ∧ Safe Z own_EL U.vm h0 a1) (fun _ _ _ _ _ => True) (fun _ U o U' => ∃ v L, o = .returned v ∧ QE Z a1 h0 n0 v U'.heap L ∧ CHr Z own_EL U.vm U.heap U'.vm U'.heap ∧ ReturnedEndW U o U' L 2 4) := by
  refine MetFree.of_bodySF (plainFor_of_name own_pn_java_lang_String) hisR ?_
  intro p e s m args below meth c s₁ Bd hml0 hP hK
  obtain ⟨rfl, hZ, hh, hCH0, Sf_a1⟩ := hP
  have hx := Bd.exec
  have hby := Bd.bytes
  have hml : c.maxLocals = 2 := hml0
  have hown : s.vm.findClass "java/lang/String" = some m.cls := findClass_of_methodNamed Bd.named
  have hnm := (name_of_methodNamed Bd.named Bd.method).1
  have X0 : Stand p l e ({ frames := 2, cells := 2, slots := 4, locals := 29 } : Room) (s.setVm s.vm) m #[(.ref a1), (.ref a2)] below meth c s₁ [] 0 0 := Stand.of_body Bd
  have e0 : s₁.heap = h0 := by rw [← hh, Bd.state]; rfl
  have N0 := Fr.nil n0
  have CH0 : CHr Z own_EL s.vm h0 s.vm h0 := CHr.refl hCH0
  have hS0 : s.Since s.vm 0 := State.WarmedH.since (State.WarmedH.refl s) 0
  have pre0 : ∀ t, Steps p.tables e below (s₁.setTop (mkF m 0 #[.val (.ref a1), .val (.ref a2)] [])) t → Steps p.tables e below (s₁.setTop (entryFrame m #[(.ref a1), (.ref a2)] 2)) t := fun t k => castTop (own_ef_jdk_42_method_3_code_xx m a1 a2) k
  obtain ⟨cl1, Ar1, q1, S1, N_1, H_1, G1⟩ := id V_a2
  obtain ⟨_, _, ⟨T2, L2, k2, n2⟩, -, X2', hs2, hg2, ⟨Lc2, hQ2, l2, y2, z2, C2⟩, st2⟩ := X0.specialBackS hx (y := (⟨"java/lang/String", "<init>", "([CIILjava/lang/Void;)V"⟩ : MethodName)) rfl hown (mvT hZ (hw _ (List.mem_of_getElem? (i := 11) rfl))) (mvT hZ (hw _ (List.mem_of_getElem? (i := 12) rfl))) (mvT hZ (hw _ (List.mem_of_getElem? (i := 14) rfl))) (by decide) (own_backSHs (x := a1) (W := 0) (rmE4 l Z a0 hw [] hEL a1 a2 uv uc h0 n0 Z0 E_a1 F_value_a1 F_coder_a1 g_a1) hZ (hw _ (List.mem_of_getElem? (i := 14) rfl)) (hw _ (List.mem_of_getElem? (i := 6) rfl)) (by decide) (by decide) hEL CH0.1 E_a1.lt Sf_a1) (g := (mkF m 6 #[.val (.ref a1), .val (.ref a2)] [.null, (.int (0 : Int32)), (.int (0 : Int32)), (.ref a2), (.ref a1)])) rfl (by rw [hml]; rfl) (Steps.refl _) (a := a1) (argsL := [(.ref a2), (.int (0 : Int32)), (.int (0 : Int32)), .null]) (rest := []) (lenOf own_pd___CIILjava_lang_Void__V rfl) rfl (by show 2 * 0 + _ ≤ _; exact Nat.le_of_eq rfl) (hb hby own_d_jdk_42_method_3_code_6) (fun _ _ => ⟨rfl, e0, (by decide : 0 + 2 ≤ _), (by decide : 0 + 4 ≤ _)⟩)
  dsimp only [Pt.U, Pt.locs, Pt.cells, Pt.slots] at X2' l2 y2 z2 st2 hQ2 C2 hs2 hg2
  subst l2 y2 z2
  obtain ⟨X2, hS2, hZ2, hown2⟩ := rebS hS0 (by rw [e0]; exact (Nat.zero_le _)) X2' hs2 hg2 hZ hown
  obtain ⟨rfl, N2q, K2q, SV2⟩ := hQ2
  have N2a := Fr.app N0 N2q
  have CH1 : CHr Z own_EL s.vm h0 T2.vm T2.heap := CH0.trans C2
  have K1 : Keep h0 T2.heap [a1] := (Keep.refl h0 [a1]).trans K2q (allS (Or.inl (List.mem_of_getElem? (i := 0) rfl)) all0)
  obtain ⟨fs, hr, hrun, hended, hend⟩ := X2.leaveW hS2 (Nat.le_refl _) (v := none) (fun _ => rfl)
  refine ⟨_, _, pre0 _ ?_, hrun, hended, _, _, rfl, ?_, ?_, hend.1, hend.2.1, hend.2.2.1, hend.2.2.2.mono (by decide) (by decide)⟩
  · show Steps p.tables e below (s₁.setTop (mkF m 0 #[.val (.ref a1), .val (.ref a2)] [])) _
    refine XS.aloadN X0.here hx rfl (hb hby own_d_jdk_42_method_3_code_0) rfl rfl ?_
    refine XS.aloadN X0.here hx rfl (hb hby own_d_jdk_42_method_3_code_1) rfl rfl ?_
    refine XS.iconst X0.here hx rfl (hb hby own_d_jdk_42_method_3_code_2) ?_
    show Steps p.tables e below (s₁.setTop (mkF m 3 #[.val (.ref a1), .val (.ref a2)] [(.int (0 : Int32)), (.ref a2), (.ref a1)])) _
    refine XS.aloadN X0.here hx rfl (hb hby own_d_jdk_42_method_3_code_3) rfl rfl ?_
    show Steps p.tables e below (s₁.setTop (mkF m 4 #[.val (.ref a1), .val (.ref a2)] [(.ref a2), (.int (0 : Int32)), (.ref a2), (.ref a1)])) _
    refine X0.arraylength hx (by rw [e0]; exact Ar1.1) (State.isArrayOf_alike hZ.alike Ar1.2.1) (g := (mkF m 4 #[.val (.ref a1), .val (.ref a2)] [(.ref a2), (.int (0 : Int32)), (.ref a2), (.ref a1)])) rfl rfl (hb hby own_d_jdk_42_method_3_code_4) _ ?_
    rw [len_of S1 N_1]
    refine XS.aconstNull X0.here hx rfl (hb hby own_d_jdk_42_method_3_code_5) ?_
    show Steps p.tables e below (s₁.setTop (mkF m 6 #[.val (.ref a1), .val (.ref a2)] [.null, (.int (0 : Int32)), (.int (0 : Int32)), (.ref a2), (.ref a1)])) _
    refine st2.trans ?_
    show Steps p.tables e below (T2.setTop (mkF m 9 #[.val (.ref a1), .val (.ref a2)] [])) _
    exact X2.returnOut hx Bd.returns (hb hby own_d_jdk_42_method_3_code_9) hr
  · show QE Z a1 h0 n0 _ T2.heap _
    exact ⟨rfl, N2a, K1, SV2⟩
  · show CHr Z own_EL s.vm s.heap T2.vm T2.heap
    rw [hh]
    exact CH1.trans (CHv.at X2 hZ2 hEL CH1.1)
def QB (b : Int32) (h0 : Heap) (n0 : Nat) (v : Option Value) (h : Heap) (L : List Loc) : Prop := v = some (.int b) ∧ Fr n0 L ∧ h = h0
def QN (a : Addr) (h0 : Heap) (n0 : Nat) (v : Option Value) (h : Heap) (L : List Loc) : Prop := v = some (.ref a) ∧ Fr n0 L ∧ h = h0
def QR (h0 : Heap) (n0 : Nat) (v : Option Value) (h : Heap) (L : List Loc) : Prop := v = none ∧ Fr n0 L ∧ h = h0
theorem own_toNat {n : Nat} (h : n < 2 ^ 31) : (Int32.ofNat n).toInt = n := Int32.toInt_ofNat_small h
theorem own_clamp {n : Nat} (h : n < 2 ^ 31) : (Int32.ofNat n).toNatClampNeg = n := by simp only [Int32.toNatClampNeg, own_toNat h]; omega
theorem own_nonneg {n : Nat} (h : n < 2 ^ 31) : ¬ (Int32.ofNat n < 0) := by rw [Int32.lt_iff_toInt_lt, own_toNat h]; show ¬ ((n : Int) < 0); omega
theorem own_lt_of {i n : Nat} (hi : i ≤ 4000) (hn : n ≤ 4000) : (Int32.ofNat i < Int32.ofNat n) ↔ i < n := by
  rw [Int32.lt_iff_toInt_lt, own_toNat (by omega), own_toNat (by omega)]; omega
theorem own_eq_of {i n : Nat} (hi : i ≤ 4000) (hn : n ≤ 4000) : (Int32.ofNat i = Int32.ofNat n) ↔ i = n := by
  constructor
  · intro h
    have q := congrArg Int32.toInt h
    rw [own_toNat (by omega), own_toNat (by omega)] at q; omega
  · intro h; rw [h]
theorem own_shl0 (x : Int32) : x <<< ((0 : Int32) &&& 31) = x := by
  apply Int32.toBitVec_inj.mp; simp
theorem own_shr0 (x : Int32) : x >>> ((0 : Int32) &&& 31) = x := by
  apply Int32.toBitVec_inj.mp; simp
theorem own_sub0 (x : Int32) : x - (0 : Int32) = x := by simp
def own_lo (c : Int32) : Value := .int (c.toInt8.toInt32)
/-- the String in its plain form -/
theorem StrV.form {Z : State} {h : Heap} {a : Addr} {cs : List Int32} (S : StrV Z h a cs) : ∃ (b : Addr) (kb : ClassId), Exa Z h a "java/lang/String" ∧ Fld Z h a "java/lang/String" "value" "[B" (.ref b) ∧ Fld Z h a "java/lang/String" "coder" "B" (.int (0 : Int32)) ∧ Arv Z h b kb .byte (Int32.ofNat cs.length) (cs.map own_lo) (.int (0 : Int32)) ∧ (∀ c ∈ cs, ¬ 255 < c) := by
  obtain ⟨b, kb, N, vs, e, f, c, v, q, u⟩ := S
  rcases q with ⟨-, rfl, rfl, q⟩ | ⟨q, -⟩
  · exact ⟨b, kb, e, f, c, v, q⟩
  · exact absurd q (by decide)
theorem own_us (cs : List Int32) : cs.map own_lo = (List.range cs.length).map fun i => (cs.map own_lo).getD (0 + i) (.int (0 : Int32)) := by
  apply List.ext_getElem
  · simp
  · intro i h1 h2
    simp at h1
    simp [List.getD_eq_getElem?_getD, h1]
theorem own_selSelf {s : State} {args : Array Value} {y : MethodName} (hinst : (Jvm.Cond.instanceMethod y).before args s = true) (hpriv : s.PrivateAt y) (nf : NotFace s y) (hy : y.cls ≠ "java/lang/invoke/MethodHandle" ∧ y.cls ≠ "java/lang/invoke/VarHandle") : (Jvm.Cond.selects y.cls y y).before args s = true := by
  obtain ⟨mk, methM, hnamed, hmethM, -, -⟩ := Cond.instanceMethod_spec hinst
  obtain ⟨k, hk, hni⟩ := nf mk hnamed
  exact selects_self_of_private (findClass_of_methodNamed hnamed) hk hni hpriv hinst hy
theorem own_nf {s : State} {y y2 : MethodName} (nf : NotFace s y2) (hd : ∃ m, s.methodNamed? y2 = some m) (e : y2.cls = y.cls) : NotFace s y := fun r h => by
  obtain ⟨m, hm⟩ := hd
  obtain ⟨k, hk, hni⟩ := nf m hm
  have h1 := findClass_of_methodNamed h
  have h2 := findClass_of_methodNamed hm
  rw [e, h1] at h2
  exact ⟨k, by rw [Option.some.inj h2]; exact hk, hni⟩
theorem own_same {s : State} {args : Array Value} {y y2 : MethodName} (hd : (Jvm.Cond.declares y).before args s = true) (nf : NotFace s y) (hy : y.cls ≠ "java/lang/invoke/MethodHandle" ∧ y.cls ≠ "java/lang/invoke/VarHandle") : (Jvm.Cond.sameMethod y.cls y.cls y.name y.desc).before args s = true := by
  obtain ⟨m, meth, hn, -, -, -⟩ := Cond.declares_spec hd
  obtain ⟨k, hk, hni⟩ := nf m hn
  have hc := findClass_of_methodNamed hn
  have hf := State.methodFound?_of_named hn hy
  have hn' : s.methodNamed? ⟨y.cls, y.name, y.desc⟩ = some m := hn
  simp [Cond.before, Cond.holds, Cond.value, hc, hf, hn', hk, hni]
theorem own_d_jdk_42_method_152_code_0 : decode jdk_42_method_152_code 0 = .ok (.getstatic 38, 3) := by decide +kernel
theorem own_d_jdk_42_method_152_code_3 : decode jdk_42_method_152_code 3 = .ok (.ifCond .eq 10, 3) := by decide +kernel
theorem own_d_jdk_42_method_152_code_6 : decode jdk_42_method_152_code 6 = .ok (.aload_n 0, 1) := by decide +kernel
theorem own_d_jdk_42_method_152_code_7 : decode jdk_42_method_152_code 7 = .ok (.getfield 15, 3) := by decide +kernel
theorem own_d_jdk_42_method_152_code_10 : decode jdk_42_method_152_code 10 = .ok (.goto 4, 3) := by decide +kernel
theorem own_d_jdk_42_method_152_code_14 : decode jdk_42_method_152_code 14 = .ok (.ireturn, 1) := by decide +kernel
theorem own_ef_jdk_42_method_152_code_x (m : MethodId) (x0 : Addr) : entryFrame m #[(.ref x0)] 1 = mkF m 0 #[.val (.ref x0)] [] := by first | (simp [entryFrame, mkF, argsToLocals, Value.category]; done) | rfl
set_option maxRecDepth 65536 in
set_option maxHeartbeats 40000000 in
theorem rmCd (l : Launch) (Z : State) (a0 : Array Value) (hw : ∀ d ∈ tables_1, d.before a0 Z = true) (ws : List Jvm.Cond) (a1 : Addr) (G1 : Int32) (G3 : Value) (h0 : Heap) (n0 : Nat) (Z0 : n0 ≤ h0.size) (O2 : Sta Z Z.heap "java/lang/String" "COMPACT_STRINGS" "Z" (.int G1)) (P5 : ¬ (G1 = (0 : Int32))) (O4 : Sta Z Z.heap "jdk/internal/util/Preconditions" "SIOOBE_FORMATTER" "Ljava/util/function/BiFunction;" G3) (rG3 : G3.isRef = true) (O0 : Old Z n0 h0) (F_coder_a1 : Fld Z h0 a1 "java/lang/String" "coder" "B" (.int (0 : Int32))) :
    MetFree l (⟨"java/lang/String", "coder", "()B"⟩ : MethodName) (head1 (Jvm.Cond.code (⟨"java/lang/String", "coder", "()B"⟩ : MethodName) jdk_42_method_152_code 1 (some .byte) :: ws) ({ frames := 0, cells := 0, slots := 0, locals := 0 } : Room)) (fun a U => a = #[(.ref a1)] ∧ Z.Warmed39 U.vm ∧ U.heap = h0) (fun _ _ _ _ _ => True) (fun _ U o U' => ∃ v L, o = .returned v ∧ QB 0 h0 n0 v U'.heap L ∧ FrameEnd U o U' L 0 0) := by
  refine MetFree.of_bodySF (plainFor_of_name own_pn_java_lang_String) hisR ?_
  intro p e s m args below meth c s₁ Bd hml0 hP hK
  obtain ⟨rfl, hZ, hh⟩ := hP
  have hx := Bd.exec
  have hby := Bd.bytes
  have hml : c.maxLocals = 1 := hml0
  have hown : s.vm.findClass "java/lang/String" = some m.cls := findClass_of_methodNamed Bd.named
  have hnm := (name_of_methodNamed Bd.named Bd.method).1
  have X0 : Stand p l e ({ frames := 0, cells := 0, slots := 0, locals := 0 } : Room) s m #[(.ref a1)] below meth c s₁ [] 0 0 := Stand.of_body Bd
  have e0 : s₁.heap = h0 := by rw [← hh, Bd.state]; rfl
  have N0 := Fr.nil n0
  have pre0 : ∀ t, Steps p.tables e below (s₁.setTop (mkF m 0 #[.val (.ref a1)] [])) t → Steps p.tables e below (s₁.setTop (entryFrame m #[(.ref a1)] 1)) t := fun t k => castTop (own_ef_jdk_42_method_152_code_x m a1) k
  obtain ⟨T1, X1, e1, st1⟩ := getS2 X0 hx hZ hown (host := "") (Or.inl (hw _ (List.mem_of_getElem? (i := 80) rfl))) Via.refl e0 (O2.ext O0.2) (g := (mkF m 0 #[.val (.ref a1)] [])) rfl (hb hby own_d_jdk_42_method_152_code_0)
  obtain ⟨T2, X2, e2, st2⟩ := getF X1 hx hZ hown (host := "") (Or.inl (hw _ (List.mem_of_getElem? (i := 25) rfl))) Via.refl e1 F_coder_a1 (g := (mkF m 7 #[.val (.ref a1)] [(.ref a1)])) rfl rfl (hb hby own_d_jdk_42_method_152_code_7)
  obtain ⟨fs, hr, hrun, hended, hW, hsame⟩ := X2.leave (v := some (.int (0 : Int32))) (fun h => by rw [Bd.returns] at h; cases h)
  refine ⟨_, _, pre0 _ ?_, hrun, hended, _, _, rfl, ?_, ⟨_, rfl⟩, hW, hsame.mono (by decide) (by decide)⟩
  · show Steps p.tables e below (s₁.setTop (mkF m 0 #[.val (.ref a1)] [])) _
    refine st1 _ ?_
    show Steps p.tables e below (T1.setTop (mkF m 3 #[.val (.ref a1)] [(.int G1)])) _
    refine XS.ifNo X1.here hx rfl (hb hby own_d_jdk_42_method_152_code_3) rfl ((if0 _ _).trans (feq (P5 : ¬ (G1 = (0 : Int32)))).1) ?_
    refine XS.aloadN X1.here hx rfl (hb hby own_d_jdk_42_method_152_code_6) rfl rfl ?_
    show Steps p.tables e below (T1.setTop (mkF m 7 #[.val (.ref a1)] [(.ref a1)])) _
    refine st2 _ ?_
    refine XS.goto X2.here hx rfl (pc0 := 10) (pc' := 14) rfl (hb hby own_d_jdk_42_method_152_code_10) (by decide) (by decide) ?_
    show Steps p.tables e below (T2.setTop (mkF m 14 #[.val (.ref a1)] [(.int (0 : Int32))])) _
    exact retN X2 hx (t := .byte) Bd.returns (by simp) (hb hby own_d_jdk_42_method_152_code_14) hr
  · show QB 0 h0 n0 _ T2.heap _
    rw [e2]
    exact ⟨rfl, N0, rfl⟩
def own_z16 : List Value := [(.int (0 : Int32)), (.int (0 : Int32)), (.int (0 : Int32)), (.int (0 : Int32)), (.int (0 : Int32)), (.int (0 : Int32)), (.int (0 : Int32)), (.int (0 : Int32)), (.int (0 : Int32)), (.int (0 : Int32)), (.int (0 : Int32)), (.int (0 : Int32)), (.int (0 : Int32)), (.int (0 : Int32)), (.int (0 : Int32)), (.int (0 : Int32))]
def QC (Z : State) (a1 : Addr) (h0 : Heap) (n0 : Nat) (v : Option Value) (h : Heap) (L : List Loc) : Prop := v = none ∧ Fr n0 L ∧ Keep h0 h [a1] ∧ ∃ (b : Addr) (k : ClassId), h0.size ≤ b ∧ Fld Z h a1 "java/lang/AbstractStringBuilder" "value" "[B" (.ref b) ∧ Fld Z h a1 "java/lang/AbstractStringBuilder" "coder" "B" (.int (0 : Int32)) ∧ Fld Z h a1 "java/lang/AbstractStringBuilder" "count" "I" (.int (0 : Int32)) ∧ Arv Z h b k .byte (16 : Int32) own_z16 (.int (0 : Int32))
theorem own_d_jdk_68_method_2_code_0 : decode jdk_68_method_2_code 0 = .ok (.aload_n 0, 1) := by decide +kernel
theorem own_d_jdk_68_method_2_code_1 : decode jdk_68_method_2_code 1 = .ok (.invokespecial 3, 3) := by decide +kernel
theorem own_d_jdk_68_method_2_code_4 : decode jdk_68_method_2_code 4 = .ok (.getstatic 18, 3) := by decide +kernel
theorem own_d_jdk_68_method_2_code_7 : decode jdk_68_method_2_code 7 = .ok (.ifCond .eq 18, 3) := by decide +kernel
theorem own_d_jdk_68_method_2_code_10 : decode jdk_68_method_2_code 10 = .ok (.aload_n 0, 1) := by decide +kernel
theorem own_d_jdk_68_method_2_code_11 : decode jdk_68_method_2_code 11 = .ok (.iload_n 1, 1) := by decide +kernel
theorem own_d_jdk_68_method_2_code_12 : decode jdk_68_method_2_code 12 = .ok (.newarray .byte, 2) := by decide +kernel
theorem own_d_jdk_68_method_2_code_14 : decode jdk_68_method_2_code 14 = .ok (.putfield 15, 3) := by decide +kernel
theorem own_d_jdk_68_method_2_code_17 : decode jdk_68_method_2_code 17 = .ok (.aload_n 0, 1) := by decide +kernel
theorem own_d_jdk_68_method_2_code_18 : decode jdk_68_method_2_code 18 = .ok (.iconst 0, 1) := by decide +kernel
theorem own_d_jdk_68_method_2_code_19 : decode jdk_68_method_2_code 19 = .ok (.putfield 22, 3) := by decide +kernel
theorem own_d_jdk_68_method_2_code_22 : decode jdk_68_method_2_code 22 = .ok (.goto 16, 3) := by decide +kernel
theorem own_d_jdk_68_method_2_code_38 : decode jdk_68_method_2_code 38 = .ok (.return_, 1) := by decide +kernel
theorem own_pn_java_lang_AbstractStringBuilder : plainName "java/lang/AbstractStringBuilder" = true := by first | (simp [plainName, overriddenIn]; done) | decide +kernel
theorem own_ef_jdk_68_method_2_code_xx (m : MethodId) (x0 : Addr) (x1 : Int32) : entryFrame m #[(.ref x0), (.int x1)] 2 = mkF m 0 #[.val (.ref x0), .val (.int x1)] [] := by first | (simp [entryFrame, mkF, argsToLocals, Value.category]; done) | rfl
set_option maxRecDepth 65536 in
set_option maxHeartbeats 40000000 in
theorem rmAi (l : Launch) (Z : State) (a0 : Array Value) (hw : ∀ d ∈ tables_1, d.before a0 Z = true) (ws : List Jvm.Cond) (a1 : Addr) (G1 : Int32) (G3 : Value) (h0 : Heap) (n0 : Nat) (Z0 : n0 ≤ h0.size) (O2 : Sta Z Z.heap "java/lang/String" "COMPACT_STRINGS" "Z" (.int G1)) (P5 : ¬ (G1 = (0 : Int32))) (O4 : Sta Z Z.heap "jdk/internal/util/Preconditions" "SIOOBE_FORMATTER" "Ljava/util/function/BiFunction;" G3) (rG3 : G3.isRef = true) (O0 : Old Z n0 h0) (E_a1 : Exa Z h0 a1 "java/lang/StringBuilder") (F_value_a1 : Fld Z h0 a1 "java/lang/AbstractStringBuilder" "value" "[B" .null) (F_coder_a1 : Fld Z h0 a1 "java/lang/AbstractStringBuilder" "coder" "B" (.int (0 : Int32))) (F_count_a1 : Fld Z h0 a1 "java/lang/AbstractStringBuilder" "count" "I" (.int (0 : Int32))) (g_a1 : n0 ≤ a1) :
    MetFree l (⟨"java/lang/AbstractStringBuilder", "<init>", "(I)V"⟩ : MethodName) (head1 (Jvm.Cond.code (⟨"java/lang/AbstractStringBuilder", "<init>", "(I)V"⟩ : MethodName) jdk_68_method_2_code 2 none :: ws) ({ frames := 1, cells := 1, slots := 16, locals := 12 } : Room)) (fun a U => a = #[(.ref a1), (.int (16 : Int32))] ∧ Z.Warmed39 U.vm ∧ U.heap = h0) (fun _ _ _ _ _ => True) (fun _ U o U' => ∃ v L, o = .returned v ∧ QC Z a1 h0 n0 v U'.heap L ∧ FrameEnd U o U' L 1 16) := by
  refine MetFree.of_bodySF (plainFor_of_name own_pn_java_lang_AbstractStringBuilder) hisR ?_
  intro p e s m args below meth c s₁ Bd hml0 hP hK
  obtain ⟨rfl, hZ, hh⟩ := hP
  have hx := Bd.exec
  have hby := Bd.bytes
  have hml : c.maxLocals = 2 := hml0
  have hown : s.vm.findClass "java/lang/AbstractStringBuilder" = some m.cls := findClass_of_methodNamed Bd.named
  have hnm := (name_of_methodNamed Bd.named Bd.method).1
  have X0 : Stand p l e ({ frames := 1, cells := 1, slots := 16, locals := 12 } : Room) s m #[(.ref a1), (.int (16 : Int32))] below meth c s₁ [] 0 0 := Stand.of_body Bd
  have e0 : s₁.heap = h0 := by rw [← hh, Bd.state]; rfl
  have N0 := Fr.nil n0
  have pre0 : ∀ t, Steps p.tables e below (s₁.setTop (mkF m 0 #[.val (.ref a1), .val (.int (16 : Int32))] [])) t → Steps p.tables e below (s₁.setTop (entryFrame m #[(.ref a1), (.int (16 : Int32))] 2)) t := fun t k => castTop (own_ef_jdk_68_method_2_code_xx m a1 (16 : Int32)) k
  obtain ⟨T1, X1, e1, st1⟩ := initO X0 hx hZ hown (hw _ (List.mem_of_getElem? (i := 54) rfl)) (hw _ (List.mem_of_getElem? (i := 16) rfl)) (hw _ (List.mem_of_getElem? (i := 17) rfl)) e0 (g := (mkF m 1 #[.val (.ref a1), .val (.int (16 : Int32))] [(.ref a1)])) rfl (by rw [hml]; rfl) rfl (hb hby own_d_jdk_68_method_2_code_1) (by decide) (W := 0) (by show 2 * 0 + _ ≤ _; exact Nat.le_of_eq rfl) (by decide)
  obtain ⟨T2, X2, e2, st2⟩ := getS2 X1 hx hZ hown (host := "") (Or.inl (hw _ (List.mem_of_getElem? (i := 55) rfl))) Via.refl e1 (O2.ext O0.2) (g := (mkF m 4 #[.val (.ref a1), .val (.int (16 : Int32))] [])) rfl (hb hby own_d_jdk_68_method_2_code_4)
  obtain ⟨T3, h3, ka3, X3, e3, E3, A3, st3⟩ := newP X2 hx hZ (hw _ (List.mem_of_getElem? (i := 19) rfl)) e2 (g := (mkF m 12 #[.val (.ref a1), .val (.int (16 : Int32))] [(.int (16 : Int32)), (.ref a1)])) rfl (hb hby own_d_jdk_68_method_2_code_12) rfl (by decide) (cap := 16) (by decide) (by decide) (by decide) (by decide)
  obtain ⟨b3, g3⟩ : ∃ z, z = h0.size := ⟨_, rfl⟩
  rw [← g3] at A3 st3
  have sz_b3 : h0.size ≤ b3 := Nat.le_trans (Keep.refl h0 [a1]).1 (Nat.le_of_eq g3.symm)
  have g_b3 : n0 ≤ b3 := Nat.le_trans Z0 sz_b3
  have K1 : Keep h0 h3 [a1] := (Keep.refl h0 [a1]).ext E3
  have V_b3 : Arv Z h3 b3 ka3 .byte (16 : Int32) [(.int (0 : Int32)), (.int (0 : Int32)), (.int (0 : Int32)), (.int (0 : Int32)), (.int (0 : Int32)), (.int (0 : Int32)), (.int (0 : Int32)), (.int (0 : Int32)), (.int (0 : Int32)), (.int (0 : Int32)), (.int (0 : Int32)), (.int (0 : Int32)), (.int (0 : Int32)), (.int (0 : Int32)), (.int (0 : Int32)), (.int (0 : Int32))] (.int (0 : Int32)) := (Arv.new A3 (by decide)).pad (pad_rep [] (.int (0 : Int32)) 16)
  have f4 : Fld Z h3 a1 "java/lang/AbstractStringBuilder" "value" "[B" .null := (F_value_a1.ext E3)
  have f5 : Exa Z h3 a1 "java/lang/StringBuilder" := (E_a1.ext E3)
  obtain ⟨T6, h6, X6, e6, W6, st6⟩ := putF X3 hx hZ hown (host := "") (Or.inl (hw _ (List.mem_of_getElem? (i := 56) rfl))) Via.refl e3 f4 f5 (Or.inl (hw _ (List.mem_of_getElem? (i := 57) rfl))) (hw _ (List.mem_of_getElem? (i := 43) rfl)) (ty := (.array .byte)) (by decide) rfl rfl (g := (mkF m 14 #[.val (.ref a1), .val (.int (16 : Int32))] [(.ref b3), (.ref a1)])) rfl rfl (hb hby own_d_jdk_68_method_2_code_14)
  have Fw6 := f4.same W6
  have Nf6 := Fr.snoc X6 N0 g_a1
  have K2 : Keep h0 h6 [a1] := K1.wr W6 (Or.inl (List.mem_of_getElem? (i := 0) rfl))
  have f7 : Fld Z h6 a1 "java/lang/AbstractStringBuilder" "coder" "B" (.int (0 : Int32)) := ((F_coder_a1.ext E3).other W6 (Or.inr (slot_ne (Or.inl (hw _ (List.mem_of_getElem? (i := 59) rfl))) (Or.inl (hw _ (List.mem_of_getElem? (i := 57) rfl))) (by decide) (t := .byte) (t' := (.array .byte)) (by decide) (by decide))))
  have f8 : Exa Z h6 a1 "java/lang/StringBuilder" := (f5.wr W6)
  obtain ⟨T9, h9, X9, e9, W9, st9⟩ := putFN X6 hx hZ hown (hw _ (List.mem_of_getElem? (i := 58) rfl)) Via.refl e6 f7 f8 (Or.inl (hw _ (List.mem_of_getElem? (i := 59) rfl))) (hw _ (List.mem_of_getElem? (i := 43) rfl)) (ty := .byte) (v' := (.int (0 : Int32))) (by decide) rfl rfl (g := (mkF m 19 #[.val (.ref a1), .val (.int (16 : Int32))] [(.int (0 : Int32)), (.ref a1)])) rfl rfl (hb hby own_d_jdk_68_method_2_code_19)
  have Fw9 := f7.same W9
  have Nf9 := Fr.snoc X9 Nf6 g_a1
  have K3 : Keep h0 h9 [a1] := K2.wr W9 (Or.inl (List.mem_of_getElem? (i := 0) rfl))
  have f10 : Fld Z h9 a1 "java/lang/AbstractStringBuilder" "value" "[B" (.ref b3) := (Fw6.other W9 (Or.inr (slot_ne (Or.inl (hw _ (List.mem_of_getElem? (i := 57) rfl))) (Or.inl (hw _ (List.mem_of_getElem? (i := 59) rfl))) (by decide) (t := (.array .byte)) (t' := .byte) (by decide) (by decide))))
  have f11 : Fld Z h9 a1 "java/lang/AbstractStringBuilder" "count" "I" (.int (0 : Int32)) := (((F_count_a1.ext E3).other W6 (Or.inr (slot_ne (Or.inl (hw _ (List.mem_of_getElem? (i := 82) rfl))) (Or.inl (hw _ (List.mem_of_getElem? (i := 57) rfl))) (by decide) (t := .int) (t' := (.array .byte)) (by decide) (by decide)))).other W9 (Or.inr (slot_ne (Or.inl (hw _ (List.mem_of_getElem? (i := 82) rfl))) (Or.inl (hw _ (List.mem_of_getElem? (i := 59) rfl))) (by decide) (t := .int) (t' := .byte) (by decide) (by decide))))
  have f12 : Arv Z h9 b3 ka3 .byte (16 : Int32) [(.int (0 : Int32)), (.int (0 : Int32)), (.int (0 : Int32)), (.int (0 : Int32)), (.int (0 : Int32)), (.int (0 : Int32)), (.int (0 : Int32)), (.int (0 : Int32)), (.int (0 : Int32)), (.int (0 : Int32)), (.int (0 : Int32)), (.int (0 : Int32)), (.int (0 : Int32)), (.int (0 : Int32)), (.int (0 : Int32)), (.int (0 : Int32))] (.int (0 : Int32)) := ((V_b3.other W6 (Ne.symm (Nat.ne_of_lt (Nat.lt_of_lt_of_le E_a1.lt (Nat.le_of_eq g3.symm))))).other W9 (Ne.symm (Nat.ne_of_lt (Nat.lt_of_lt_of_le E_a1.lt (Nat.le_of_eq g3.symm)))))
  obtain ⟨fs, hr, hrun, hended, hW, hsame⟩ := X9.leave (v := none) (fun _ => rfl)
  refine ⟨_, _, pre0 _ ?_, hrun, hended, _, _, rfl, ?_, ⟨_, rfl⟩, hW, hsame.mono (by decide) (by decide)⟩
  · show Steps p.tables e below (s₁.setTop (mkF m 0 #[.val (.ref a1), .val (.int (16 : Int32))] [])) _
    refine XS.aloadN X0.here hx rfl (hb hby own_d_jdk_68_method_2_code_0) rfl rfl ?_
    show Steps p.tables e below (s₁.setTop (mkF m 1 #[.val (.ref a1), .val (.int (16 : Int32))] [(.ref a1)])) _
    refine st1 _ ?_
    show Steps p.tables e below (T1.setTop (mkF m 4 #[.val (.ref a1), .val (.int (16 : Int32))] [])) _
    refine st2 _ ?_
    show Steps p.tables e below (T2.setTop (mkF m 7 #[.val (.ref a1), .val (.int (16 : Int32))] [(.int G1)])) _
    refine XS.ifNo X2.here hx rfl (hb hby own_d_jdk_68_method_2_code_7) rfl ((if0 _ _).trans (feq (P5 : ¬ (G1 = (0 : Int32)))).1) ?_
    refine XS.aloadN X2.here hx rfl (hb hby own_d_jdk_68_method_2_code_10) rfl rfl ?_
    refine XS.iloadN X2.here hx rfl (hb hby own_d_jdk_68_method_2_code_11) rfl ?_
    show Steps p.tables e below (T2.setTop (mkF m 12 #[.val (.ref a1), .val (.int (16 : Int32))] [(.int (16 : Int32)), (.ref a1)])) _
    refine st3 _ ?_
    show Steps p.tables e below (T3.setTop (mkF m 14 #[.val (.ref a1), .val (.int (16 : Int32))] [(.ref b3), (.ref a1)])) _
    refine st6 _ ?_
    refine XS.aloadN X6.here hx rfl (hb hby own_d_jdk_68_method_2_code_17) rfl rfl ?_
    refine XS.iconst X6.here hx rfl (hb hby own_d_jdk_68_method_2_code_18) ?_
    show Steps p.tables e below (T6.setTop (mkF m 19 #[.val (.ref a1), .val (.int (16 : Int32))] [(.int (0 : Int32)), (.ref a1)])) _
    refine st9 _ ?_
    refine XS.goto X9.here hx rfl (pc0 := 22) (pc' := 38) rfl (hb hby own_d_jdk_68_method_2_code_22) (by decide) (by decide) ?_
    show Steps p.tables e below (T9.setTop (mkF m 38 #[.val (.ref a1), .val (.int (16 : Int32))] [])) _
    exact X9.returnOut hx Bd.returns (hb hby own_d_jdk_68_method_2_code_38) hr
  · show QC Z a1 h0 n0 _ T9.heap _
    rw [e9]
    exact ⟨rfl, Nf9, K3, b3, ka3, sz_b3, f10, Fw9, f11, f12⟩
theorem own_d_jdk_67_method_1_code_0 : decode jdk_67_method_1_code 0 = .ok (.aload_n 0, 1) := by decide +kernel
theorem own_d_jdk_67_method_1_code_1 : decode jdk_67_method_1_code 1 = .ok (.bipush 16, 2) := by decide +kernel
theorem own_d_jdk_67_method_1_code_3 : decode jdk_67_method_1_code 3 = .ok (.invokespecial 1, 3) := by decide +kernel
theorem own_d_jdk_67_method_1_code_6 : decode jdk_67_method_1_code 6 = .ok (.return_, 1) := by decide +kernel
theorem own_pd__I_V : parseMethodDescriptor "(I)V" = some ⟨[.int], none⟩ := by decide +kernel
theorem own_pn_java_lang_StringBuilder : plainName "java/lang/StringBuilder" = true := by first | (simp [plainName, overriddenIn]; done) | decide +kernel
theorem own_ef_jdk_67_method_1_code_x (m : MethodId) (x0 : Addr) : entryFrame m #[(.ref x0)] 1 = mkF m 0 #[.val (.ref x0)] [] := by first | (simp [entryFrame, mkF, argsToLocals, Value.category]; done) | rfl
set_option maxRecDepth 65536 in
set_option maxHeartbeats 40000000 in
theorem rmSi (l : Launch) (Z : State) (a0 : Array Value) (hw : ∀ d ∈ tables_1, d.before a0 Z = true) (ws : List Jvm.Cond) (a1 : Addr) (G1 : Int32) (G3 : Value) (h0 : Heap) (n0 : Nat) (Z0 : n0 ≤ h0.size) (O2 : Sta Z Z.heap "java/lang/String" "COMPACT_STRINGS" "Z" (.int G1)) (P5 : ¬ (G1 = (0 : Int32))) (O4 : Sta Z Z.heap "jdk/internal/util/Preconditions" "SIOOBE_FORMATTER" "Ljava/util/function/BiFunction;" G3) (rG3 : G3.isRef = true) (O0 : Old Z n0 h0) (E_a1 : Exa Z h0 a1 "java/lang/StringBuilder") (F_value_a1 : Fld Z h0 a1 "java/lang/AbstractStringBuilder" "value" "[B" .null) (F_coder_a1 : Fld Z h0 a1 "java/lang/AbstractStringBuilder" "coder" "B" (.int (0 : Int32))) (F_count_a1 : Fld Z h0 a1 "java/lang/AbstractStringBuilder" "count" "I" (.int (0 : Int32))) (g_a1 : n0 ≤ a1) :
    MetFree l (⟨"java/lang/StringBuilder", "<init>", "()V"⟩ : MethodName) (head1 (Jvm.Cond.code (⟨"java/lang/StringBuilder", "<init>", "()V"⟩ : MethodName) jdk_67_method_1_code 1 none :: ws) ({ frames := 2, cells := 1, slots := 16, locals := 25 } : Room)) (fun a U => a = #[(.ref a1)] ∧ Z.Warmed39 U.vm ∧ U.heap = h0) (fun _ _ _ _ _ => True) (fun _ U o U' => ∃ v L, o = .returned v ∧ QC Z a1 h0 n0 v U'.heap L ∧ FrameEnd U o U' L 1 16) := by
  refine MetFree.of_bodySF (plainFor_of_name own_pn_java_lang_StringBuilder) hisR ?_
  intro p e s m args below meth c s₁ Bd hml0 hP hK
  obtain ⟨rfl, hZ, hh⟩ := hP
  have hx := Bd.exec
  have hby := Bd.bytes
  have hml : c.maxLocals = 1 := hml0
  have hown : s.vm.findClass "java/lang/StringBuilder" = some m.cls := findClass_of_methodNamed Bd.named
  have hnm := (name_of_methodNamed Bd.named Bd.method).1
  have X0 : Stand p l e ({ frames := 2, cells := 1, slots := 16, locals := 25 } : Room) s m #[(.ref a1)] below meth c s₁ [] 0 0 := Stand.of_body Bd
  have e0 : s₁.heap = h0 := by rw [← hh, Bd.state]; rfl
  have N0 := Fr.nil n0
  have pre0 : ∀ t, Steps p.tables e below (s₁.setTop (mkF m 0 #[.val (.ref a1)] [])) t → Steps p.tables e below (s₁.setTop (entryFrame m #[(.ref a1)] 1)) t := fun t k => castTop (own_ef_jdk_67_method_1_code_x m a1) k
  obtain ⟨_, _, ⟨T1, L1, k1, n1⟩, -, X1, ⟨Lc1, hQ1, l1, y1, z1⟩, st1⟩ := X0.specialBack hx (y := (⟨"java/lang/AbstractStringBuilder", "<init>", "(I)V"⟩ : MethodName)) rfl hown (mvT hZ (hw _ (List.mem_of_getElem? (i := 48) rfl))) (mvT hZ (hw _ (List.mem_of_getElem? (i := 49) rfl))) (mvT hZ (hw _ (List.mem_of_getElem? (i := 53) rfl))) (by decide) (backOf (W := 0) (rmAi l Z a0 hw [] a1 G1 G3 h0 n0 (Nat.le_trans Z0 (Keep.refl h0 [a1]).1) O2 P5 O4 rG3 O0 E_a1 F_value_a1 F_coder_a1 F_count_a1 g_a1) hZ (hw _ (List.mem_of_getElem? (i := 53) rfl)) (hw _ (List.mem_of_getElem? (i := 52) rfl)) (by decide) (by decide)) (g := (mkF m 3 #[.val (.ref a1)] [(.int (16 : Int32)), (.ref a1)])) rfl (by rw [hml]; rfl) (Steps.refl _) (a := a1) (argsL := [(.int (16 : Int32))]) (rest := []) (lenOf own_pd__I_V rfl) rfl (by show 2 * 0 + _ ≤ _; exact Nat.le_of_eq rfl) (hb hby own_d_jdk_67_method_1_code_3) (fun _ _ => ⟨rfl, e0, (by decide : 0 + 1 ≤ _), (by decide : 0 + 16 ≤ _)⟩)
  dsimp only [Pt.U, Pt.locs, Pt.cells, Pt.slots] at X1 l1 y1 z1 st1 hQ1
  subst l1 y1 z1
  obtain ⟨rfl, N1q, K1q, vb1, vk1, vs1, Gv1, Gc1, Gn1, Ga1⟩ := hQ1
  have N1a := Fr.app N0 N1q
  have K1 : Keep h0 T1.heap [a1] := (Keep.refl h0 [a1]).trans K1q (allS (Or.inl (List.mem_of_getElem? (i := 0) rfl)) all0)
  have sz_vb1 : h0.size ≤ vb1 := Nat.le_trans (Keep.refl h0 [a1]).1 vs1
  have g_vb1 : n0 ≤ vb1 := Nat.le_trans Z0 sz_vb1
  obtain ⟨fs, hr, hrun, hended, hW, hsame⟩ := X1.leave (v := none) (fun _ => rfl)
  refine ⟨_, _, pre0 _ ?_, hrun, hended, _, _, rfl, ?_, ⟨_, rfl⟩, hW, hsame.mono (by decide) (by decide)⟩
  · show Steps p.tables e below (s₁.setTop (mkF m 0 #[.val (.ref a1)] [])) _
    refine XS.aloadN X0.here hx rfl (hb hby own_d_jdk_67_method_1_code_0) rfl rfl ?_
    refine XS.bipush X0.here hx rfl (hb hby own_d_jdk_67_method_1_code_1) ?_
    show Steps p.tables e below (s₁.setTop (mkF m 3 #[.val (.ref a1)] [(.int (16 : Int32)), (.ref a1)])) _
    refine st1.trans ?_
    show Steps p.tables e below (T1.setTop (mkF m 6 #[.val (.ref a1)] [])) _
    exact X1.returnOut hx Bd.returns (hb hby own_d_jdk_67_method_1_code_6) hr
  · show QC Z a1 h0 n0 _ T1.heap _
    exact ⟨rfl, N1a, K1, vb1, vk1, sz_vb1, Gv1, Gc1, Gn1, Ga1⟩
theorem own_d_jdk_68_method_9_code_0 : decode jdk_68_method_9_code 0 = .ok (.aload_n 0, 1) := by decide +kernel
theorem own_d_jdk_68_method_9_code_1 : decode jdk_68_method_9_code 1 = .ok (.getfield 15, 3) := by decide +kernel
theorem own_d_jdk_68_method_9_code_4 : decode jdk_68_method_9_code 4 = .ok (.arraylength, 1) := by decide +kernel
theorem own_d_jdk_68_method_9_code_5 : decode jdk_68_method_9_code 5 = .ok (.aload_n 0, 1) := by decide +kernel
theorem own_d_jdk_68_method_9_code_6 : decode jdk_68_method_9_code 6 = .ok (.getfield 22, 3) := by decide +kernel
theorem own_d_jdk_68_method_9_code_9 : decode jdk_68_method_9_code 9 = .ok (.ishr, 1) := by decide +kernel
theorem own_d_jdk_68_method_9_code_10 : decode jdk_68_method_9_code 10 = .ok (.istore_n 2, 1) := by decide +kernel
theorem own_d_jdk_68_method_9_code_11 : decode jdk_68_method_9_code 11 = .ok (.iload_n 1, 1) := by decide +kernel
theorem own_d_jdk_68_method_9_code_12 : decode jdk_68_method_9_code 12 = .ok (.iload_n 2, 1) := by decide +kernel
theorem own_d_jdk_68_method_9_code_13 : decode jdk_68_method_9_code 13 = .ok (.isub, 1) := by decide +kernel
theorem own_d_jdk_68_method_9_code_14 : decode jdk_68_method_9_code 14 = .ok (.ifCond .le 24, 3) := by decide +kernel
theorem own_d_jdk_68_method_9_code_38 : decode jdk_68_method_9_code 38 = .ok (.return_, 1) := by decide +kernel
theorem own_ef_jdk_68_method_9_code_xx (m : MethodId) (x0 : Addr) (x1 : Int32) : entryFrame m #[(.ref x0), (.int x1)] 3 = mkF m 0 #[.val (.ref x0), .val (.int x1), .unset] [] := by first | (simp [entryFrame, mkF, argsToLocals, Value.category]; done) | rfl
set_option maxRecDepth 65536 in
set_option maxHeartbeats 40000000 in
theorem rmEn (l : Launch) (Z : State) (a0 : Array Value) (hw : ∀ d ∈ tables_1, d.before a0 Z = true) (ws : List Jvm.Cond) (a1 b : Addr) (kb : ClassId) (vd : List Value) (p2 : Int32) (h0 : Heap) (n0 : Nat) (Z0 : n0 ≤ h0.size) (E_a1 : Exa Z h0 a1 "java/lang/StringBuilder") (F_value_a1 : Fld Z h0 a1 "java/lang/AbstractStringBuilder" "value" "[B" (.ref b)) (F_coder_a1 : Fld Z h0 a1 "java/lang/AbstractStringBuilder" "coder" "B" (.int (0 : Int32))) (V_b : Arv Z h0 b kb .byte (16 : Int32) vd (.int (0 : Int32))) (hc14 : ¬ ((0 : Int32) < (p2 - ((16 : Int32) >>> ((0 : Int32) &&& 31))))) :
    MetFree l (⟨"java/lang/AbstractStringBuilder", "ensureCapacityInternal", "(I)V"⟩ : MethodName) (head1 (Jvm.Cond.code (⟨"java/lang/AbstractStringBuilder", "ensureCapacityInternal", "(I)V"⟩ : MethodName) jdk_68_method_9_code 3 none :: ws) ({ frames := 0, cells := 0, slots := 0, locals := 0 } : Room)) (fun a U => a = #[(.ref a1), (.int p2)] ∧ Z.Warmed39 U.vm ∧ U.heap = h0) (fun _ _ _ _ _ => True) (fun _ U o U' => ∃ v L, o = .returned v ∧ QR h0 n0 v U'.heap L ∧ FrameEnd U o U' L 0 0) := by
  refine MetFree.of_bodySF (plainFor_of_name own_pn_java_lang_AbstractStringBuilder) hisR ?_
  intro p e s m args below meth c s₁ Bd hml0 hP hK
  obtain ⟨rfl, hZ, hh⟩ := hP
  have hx := Bd.exec
  have hby := Bd.bytes
  have hml : c.maxLocals = 3 := hml0
  have hown : s.vm.findClass "java/lang/AbstractStringBuilder" = some m.cls := findClass_of_methodNamed Bd.named
  have hnm := (name_of_methodNamed Bd.named Bd.method).1
  have X0 : Stand p l e ({ frames := 0, cells := 0, slots := 0, locals := 0 } : Room) s m #[(.ref a1), (.int p2)] below meth c s₁ [] 0 0 := Stand.of_body Bd
  have e0 : s₁.heap = h0 := by rw [← hh, Bd.state]; rfl
  have N0 := Fr.nil n0
  have pre0 : ∀ t, Steps p.tables e below (s₁.setTop (mkF m 0 #[.val (.ref a1), .val (.int p2), .unset] [])) t → Steps p.tables e below (s₁.setTop (entryFrame m #[(.ref a1), (.int p2)] 3)) t := fun t k => castTop (own_ef_jdk_68_method_9_code_xx m a1 p2) k
  obtain ⟨T1, X1, e1, st1⟩ := getF X0 hx hZ hown (host := "") (Or.inl (hw _ (List.mem_of_getElem? (i := 56) rfl))) Via.refl e0 F_value_a1 (g := (mkF m 1 #[.val (.ref a1), .val (.int p2), .unset] [(.ref a1)])) rfl rfl (hb hby own_d_jdk_68_method_9_code_1)
  obtain ⟨cl2, Ar2, q2, S2, N_2, H_2, G2⟩ := id V_b
  obtain ⟨T3, X3, e3, st3⟩ := getF X1 hx hZ hown (host := "") (Or.inl (hw _ (List.mem_of_getElem? (i := 58) rfl))) Via.refl e1 F_coder_a1 (g := (mkF m 6 #[.val (.ref a1), .val (.int p2), .unset] [(.ref a1), (.int (16 : Int32))])) rfl rfl (hb hby own_d_jdk_68_method_9_code_6)
  obtain ⟨fs, hr, hrun, hended, hW, hsame⟩ := X3.leave (v := none) (fun _ => rfl)
  refine ⟨_, _, pre0 _ ?_, hrun, hended, _, _, rfl, ?_, ⟨_, rfl⟩, hW, hsame.mono (by decide) (by decide)⟩
  · show Steps p.tables e below (s₁.setTop (mkF m 0 #[.val (.ref a1), .val (.int p2), .unset] [])) _
    refine XS.aloadN X0.here hx rfl (hb hby own_d_jdk_68_method_9_code_0) rfl rfl ?_
    show Steps p.tables e below (s₁.setTop (mkF m 1 #[.val (.ref a1), .val (.int p2), .unset] [(.ref a1)])) _
    refine st1 _ ?_
    show Steps p.tables e below (T1.setTop (mkF m 4 #[.val (.ref a1), .val (.int p2), .unset] [(.ref b)])) _
    refine X1.arraylength hx (by rw [e1]; exact Ar2.1) (State.isArrayOf_alike hZ.alike Ar2.2.1) (g := (mkF m 4 #[.val (.ref a1), .val (.int p2), .unset] [(.ref b)])) rfl rfl (hb hby own_d_jdk_68_method_9_code_4) _ ?_
    rw [len_of S2 N_2]
    refine XS.aloadN X1.here hx rfl (hb hby own_d_jdk_68_method_9_code_5) rfl rfl ?_
    show Steps p.tables e below (T1.setTop (mkF m 6 #[.val (.ref a1), .val (.int p2), .unset] [(.ref a1), (.int (16 : Int32))])) _
    refine st3 _ ?_
    refine XS.ishr X3.here hx rfl (hb hby own_d_jdk_68_method_9_code_9) rfl ?_
    refine XS.istoreN X3.here hx rfl (hb hby own_d_jdk_68_method_9_code_10) rfl (l' := #[.val (.ref a1), .val (.int p2), .val (.int ((16 : Int32) >>> ((0 : Int32) &&& 31)))]) rfl ?_
    show Steps p.tables e below (T3.setTop (mkF m 11 #[.val (.ref a1), .val (.int p2), .val (.int ((16 : Int32) >>> ((0 : Int32) &&& 31)))] [])) _
    refine XS.iloadN X3.here hx rfl (hb hby own_d_jdk_68_method_9_code_11) rfl ?_
    refine XS.iloadN X3.here hx rfl (hb hby own_d_jdk_68_method_9_code_12) rfl ?_
    refine XS.isub X3.here hx rfl (hb hby own_d_jdk_68_method_9_code_13) rfl ?_
    show Steps p.tables e below (T3.setTop (mkF m 14 #[.val (.ref a1), .val (.int p2), .val (.int ((16 : Int32) >>> ((0 : Int32) &&& 31)))] [(.int (p2 - ((16 : Int32) >>> ((0 : Int32) &&& 31))))])) _
    refine XS.ifYes X3.here hx rfl (pc0 := 14) (pc' := 38) rfl (hb hby own_d_jdk_68_method_9_code_14) rfl ((if0 _ _).trans (flt hc14).2.2.2) (by decide) (by decide) ?_
    show Steps p.tables e below (T3.setTop (mkF m 38 #[.val (.ref a1), .val (.int p2), .val (.int ((16 : Int32) >>> ((0 : Int32) &&& 31)))] [])) _
    exact X3.returnOut hx Bd.returns (hb hby own_d_jdk_68_method_9_code_38) hr
  · show QR h0 n0 _ T3.heap _
    rw [e3]
    exact ⟨rfl, N0, rfl⟩
theorem own_ens {m : Nat} (h : m ≤ 16) : ¬ ((0 : Int32) < (Int32.ofNat m - ((16 : Int32) >>> ((0 : Int32) &&& 31)))) := by
  have e : ((16 : Int32) >>> ((0 : Int32) &&& 31)) = 16 := by decide
  rw [e, Int32.lt_iff_toInt_lt, Int32.toInt_sub, own_toNat (by omega)]
  have e1 : (16 : Int32).toInt = 16 := rfl
  have e2 : (0 : Int32).toInt = 0 := rfl
  rw [e1, e2, Int.bmod_eq_of_le_mul_two (by omega) (by omega)]; omega
theorem own_d_jdk_68_method_71_code_0 : decode jdk_68_method_71_code 0 = .ok (.getstatic 18, 3) := by decide +kernel
theorem own_d_jdk_68_method_71_code_3 : decode jdk_68_method_71_code 3 = .ok (.ifCond .eq 18, 3) := by decide +kernel
theorem own_d_jdk_68_method_71_code_6 : decode jdk_68_method_71_code 6 = .ok (.aload_n 0, 1) := by decide +kernel
theorem own_d_jdk_68_method_71_code_7 : decode jdk_68_method_71_code 7 = .ok (.getfield 22, 3) := by decide +kernel
theorem own_d_jdk_68_method_71_code_10 : decode jdk_68_method_71_code 10 = .ok (.aload_n 1, 1) := by decide +kernel
theorem own_d_jdk_68_method_71_code_11 : decode jdk_68_method_71_code 11 = .ok (.invokevirtual 40, 3) := by decide +kernel
theorem own_d_jdk_68_method_71_code_14 : decode jdk_68_method_71_code 14 = .ok (.if_icmp .eq 7, 3) := by decide +kernel
theorem own_d_jdk_68_method_71_code_21 : decode jdk_68_method_71_code 21 = .ok (.return_, 1) := by decide +kernel
theorem own_pd___B : parseMethodDescriptor "()B" = some ⟨[], some .byte⟩ := by decide +kernel
theorem own_ef_jdk_68_method_71_code_xx (m : MethodId) (x0 : Addr) (x1 : Addr) : entryFrame m #[(.ref x0), (.ref x1)] 2 = mkF m 0 #[.val (.ref x0), .val (.ref x1)] [] := by first | (simp [entryFrame, mkF, argsToLocals, Value.category]; done) | rfl
set_option maxRecDepth 65536 in
set_option maxHeartbeats 40000000 in
theorem rmIn (l : Launch) (Z : State) (a0 : Array Value) (hw : ∀ d ∈ tables_1, d.before a0 Z = true) (ws : List Jvm.Cond) (a1 a2 : Addr) (ds : List Int32) (G1 : Int32) (G3 : Value) (h0 : Heap) (n0 : Nat) (Z0 : n0 ≤ h0.size) (O2 : Sta Z Z.heap "java/lang/String" "COMPACT_STRINGS" "Z" (.int G1)) (P5 : ¬ (G1 = (0 : Int32))) (O4 : Sta Z Z.heap "jdk/internal/util/Preconditions" "SIOOBE_FORMATTER" "Ljava/util/function/BiFunction;" G3) (rG3 : G3.isRef = true) (O0 : Old Z n0 h0) (F_coder_a1 : Fld Z h0 a1 "java/lang/AbstractStringBuilder" "coder" "B" (.int (0 : Int32))) (S_a2 : StrV Z h0 a2 ds) :
    MetFree l (⟨"java/lang/AbstractStringBuilder", "inflateIfNeededFor", "(Ljava/lang/String;)V"⟩ : MethodName) (head1 (Jvm.Cond.code (⟨"java/lang/AbstractStringBuilder", "inflateIfNeededFor", "(Ljava/lang/String;)V"⟩ : MethodName) jdk_68_method_71_code 2 none :: ws) ({ frames := 1, cells := 0, slots := 0, locals := 14 } : Room)) (fun a U => a = #[(.ref a1), (.ref a2)] ∧ Z.Warmed39 U.vm ∧ U.heap = h0) (fun _ _ _ _ _ => True) (fun _ U o U' => ∃ v L, o = .returned v ∧ QR h0 n0 v U'.heap L ∧ FrameEnd U o U' L 0 0) := by
  refine MetFree.of_bodySF (plainFor_of_name own_pn_java_lang_AbstractStringBuilder) hisR ?_
  intro p e s m args below meth c s₁ Bd hml0 hP hK
  obtain ⟨rfl, hZ, hh⟩ := hP
  have hx := Bd.exec
  have hby := Bd.bytes
  have hml : c.maxLocals = 2 := hml0
  have hown : s.vm.findClass "java/lang/AbstractStringBuilder" = some m.cls := findClass_of_methodNamed Bd.named
  have hnm := (name_of_methodNamed Bd.named Bd.method).1
  have X0 : Stand p l e ({ frames := 1, cells := 0, slots := 0, locals := 14 } : Room) s m #[(.ref a1), (.ref a2)] below meth c s₁ [] 0 0 := Stand.of_body Bd
  have e0 : s₁.heap = h0 := by rw [← hh, Bd.state]; rfl
  have N0 := Fr.nil n0
  have pre0 : ∀ t, Steps p.tables e below (s₁.setTop (mkF m 0 #[.val (.ref a1), .val (.ref a2)] [])) t → Steps p.tables e below (s₁.setTop (entryFrame m #[(.ref a1), (.ref a2)] 2)) t := fun t k => castTop (own_ef_jdk_68_method_71_code_xx m a1 a2) k
  obtain ⟨T1, X1, e1, st1⟩ := getS2 X0 hx hZ hown (host := "") (Or.inl (hw _ (List.mem_of_getElem? (i := 55) rfl))) Via.refl e0 (O2.ext O0.2) (g := (mkF m 0 #[.val (.ref a1), .val (.ref a2)] [])) rfl (hb hby own_d_jdk_68_method_71_code_0)
  obtain ⟨T2, X2, e2, st2⟩ := getF X1 hx hZ hown (host := "") (Or.inl (hw _ (List.mem_of_getElem? (i := 58) rfl))) Via.refl e1 F_coder_a1 (g := (mkF m 7 #[.val (.ref a1), .val (.ref a2)] [(.ref a1)])) rfl rfl (hb hby own_d_jdk_68_method_71_code_7)
  obtain ⟨sb4, sk4, sE4, sV4, sC4, sA4, sL4⟩ := S_a2.form
  obtain ⟨cq3, kq3, q3a, q3b, q3c⟩ := isOf hZ e2 S_a2.exa
  obtain ⟨_, _, ⟨T3, L3, k3, n3⟩, -, X3, ⟨Lc3, hQ3, l3, y3, z3⟩, st3⟩ := X2.virtualBack hx (y := (⟨"java/lang/String", "coder", "()B"⟩ : MethodName)) (z := (⟨"java/lang/String", "coder", "()B"⟩ : MethodName)) hown (mvT hZ (hw _ (List.mem_of_getElem? (i := 98) rfl))) (mvT hZ (hw _ (List.mem_of_getElem? (i := 76) rfl))) (notFace_of_selects (args := #[]) (mvT hZ (hw _ (List.mem_of_getElem? (i := 78) rfl)))) (mvT hZ (hw _ (List.mem_of_getElem? (i := 78) rfl))) (mvT hZ (hw _ (List.mem_of_getElem? (i := 77) rfl))) (by decide) (backOf (W := 1) (rmCd l Z a0 hw [] a2 G1 G3 h0 n0 (Nat.le_trans Z0 (Keep.refl h0 []).1) O2 P5 O4 rG3 O0 sC4) hZ (hw _ (List.mem_of_getElem? (i := 79) rfl)) (hw _ (List.mem_of_getElem? (i := 6) rfl)) (by decide) (by decide)) q3a q3c (g := (mkF m 11 #[.val (.ref a1), .val (.ref a2)] [(.ref a2), (.int (0 : Int32))])) rfl (by rw [hml]; rfl) (Steps.refl _) (argsL := []) (rest := [(.int (0 : Int32))]) (lenOf own_pd___B rfl) rfl (by show 2 * 0 + _ ≤ _; exact Nat.le_of_eq rfl) (hb hby own_d_jdk_68_method_71_code_11) (fun _ _ => ⟨rfl, e2, (by decide : 0 + 0 ≤ _), (by decide : 0 + 0 ≤ _)⟩)
  dsimp only [Pt.U, Pt.locs, Pt.cells, Pt.slots] at X3 l3 y3 z3 st3 hQ3
  subst l3 y3 z3
  obtain ⟨rfl, N3q, e3q⟩ := hQ3
  have N3a := Fr.app N0 N3q
  obtain ⟨fs, hr, hrun, hended, hW, hsame⟩ := X3.leave (v := none) (fun _ => rfl)
  refine ⟨_, _, pre0 _ ?_, hrun, hended, _, _, rfl, ?_, ⟨_, rfl⟩, hW, hsame.mono (by decide) (by decide)⟩
  · show Steps p.tables e below (s₁.setTop (mkF m 0 #[.val (.ref a1), .val (.ref a2)] [])) _
    refine st1 _ ?_
    show Steps p.tables e below (T1.setTop (mkF m 3 #[.val (.ref a1), .val (.ref a2)] [(.int G1)])) _
    refine XS.ifNo X1.here hx rfl (hb hby own_d_jdk_68_method_71_code_3) rfl ((if0 _ _).trans (feq (P5 : ¬ (G1 = (0 : Int32)))).1) ?_
    refine XS.aloadN X1.here hx rfl (hb hby own_d_jdk_68_method_71_code_6) rfl rfl ?_
    show Steps p.tables e below (T1.setTop (mkF m 7 #[.val (.ref a1), .val (.ref a2)] [(.ref a1)])) _
    refine st2 _ ?_
    refine XS.aloadN X2.here hx rfl (hb hby own_d_jdk_68_method_71_code_10) rfl rfl ?_
    show Steps p.tables e below (T2.setTop (mkF m 11 #[.val (.ref a1), .val (.ref a2)] [(.ref a2), (.int (0 : Int32))])) _
    refine st3.trans ?_
    show Steps p.tables e below (T3.setTop (mkF m 14 #[.val (.ref a1), .val (.ref a2)] [(.int (0 : Int32)), (.int (0 : Int32))])) _
    refine XS.icmpYes X3.here hx rfl (pc0 := 14) (pc' := 21) rfl (hb hby own_d_jdk_68_method_71_code_14) rfl (teq (rfl : (0 : Int32) = (0 : Int32))).1 (by decide) (by decide) ?_
    show Steps p.tables e below (T3.setTop (mkF m 21 #[.val (.ref a1), .val (.ref a2)] [])) _
    exact X3.returnOut hx Bd.returns (hb hby own_d_jdk_68_method_71_code_21) hr
  · show QR h0 n0 _ T3.heap _
    rw [e3q]
    exact ⟨rfl, N3a, rfl⟩
def own_ins (vd : List Value) (i : Nat) (ds : List Int32) : List Value := vd.take i ++ ds.map own_lo ++ vd.drop (i + ds.length)
def QG (Z : State) (b : Addr) (kb : ClassId) (us : List Value) (h0 : Heap) (n0 : Nat) (v : Option Value) (h : Heap) (L : List Loc) : Prop := v = none ∧ Fr n0 L ∧ Keep h0 h [b] ∧ Arv Z h b kb .byte (16 : Int32) us (.int (0 : Int32))
theorem own_h4 (x : Int32) : (0 : Int32).toNatClampNeg + x.toNatClampNeg ≤ x.toNatClampNeg := by show 0 + _ ≤ _; omega
theorem own_h5 {i n : Nat} (h : i + n ≤ 16) : (Int32.ofNat i).toNatClampNeg + (Int32.ofNat n).toNatClampNeg ≤ (16 : Int32).toNatClampNeg := by
  rw [own_clamp (by omega), own_clamp (by omega)]; exact h
theorem own_us2 {cs : List Int32} (h : cs.length ≤ 4000) : cs.map own_lo = (List.range (Int32.ofNat cs.length).toNatClampNeg).map fun i => (cs.map own_lo).getD ((0 : Int32).toNatClampNeg + i) (.int (0 : Int32)) := by
  rw [own_clamp (by omega)]; exact own_us cs
theorem own_d_jdk_42_method_147_code_0 : decode jdk_42_method_147_code 0 = .ok (.aload_n 0, 1) := by decide +kernel
theorem own_d_jdk_42_method_147_code_1 : decode jdk_42_method_147_code 1 = .ok (.invokevirtual 335, 3) := by decide +kernel
theorem own_d_jdk_42_method_147_code_4 : decode jdk_42_method_147_code 4 = .ok (.iload_n 3, 1) := by decide +kernel
theorem own_d_jdk_42_method_147_code_5 : decode jdk_42_method_147_code 5 = .ok (.if_icmp .ne 23, 3) := by decide +kernel
theorem own_d_jdk_42_method_147_code_8 : decode jdk_42_method_147_code 8 = .ok (.aload_n 0, 1) := by decide +kernel
theorem own_d_jdk_42_method_147_code_9 : decode jdk_42_method_147_code 9 = .ok (.getfield 9, 3) := by decide +kernel
theorem own_d_jdk_42_method_147_code_12 : decode jdk_42_method_147_code 12 = .ok (.iconst 0, 1) := by decide +kernel
theorem own_d_jdk_42_method_147_code_13 : decode jdk_42_method_147_code 13 = .ok (.aload_n 1, 1) := by decide +kernel
theorem own_d_jdk_42_method_147_code_14 : decode jdk_42_method_147_code 14 = .ok (.iload_n 2, 1) := by decide +kernel
theorem own_d_jdk_42_method_147_code_15 : decode jdk_42_method_147_code 15 = .ok (.iload_n 3, 1) := by decide +kernel
theorem own_d_jdk_42_method_147_code_16 : decode jdk_42_method_147_code 16 = .ok (.ishl, 1) := by decide +kernel
theorem own_d_jdk_42_method_147_code_17 : decode jdk_42_method_147_code 17 = .ok (.aload_n 0, 1) := by decide +kernel
theorem own_d_jdk_42_method_147_code_18 : decode jdk_42_method_147_code 18 = .ok (.getfield 9, 3) := by decide +kernel
theorem own_d_jdk_42_method_147_code_21 : decode jdk_42_method_147_code 21 = .ok (.arraylength, 1) := by decide +kernel
theorem own_d_jdk_42_method_147_code_22 : decode jdk_42_method_147_code 22 = .ok (.invokestatic 212, 3) := by decide +kernel
theorem own_d_jdk_42_method_147_code_25 : decode jdk_42_method_147_code 25 = .ok (.goto 18, 3) := by decide +kernel
theorem own_d_jdk_42_method_147_code_43 : decode jdk_42_method_147_code 43 = .ok (.return_, 1) := by decide +kernel
theorem own_ef_jdk_42_method_147_code_xxxx (m : MethodId) (x0 : Addr) (x1 : Addr) (x2 : Int32) (x3 : Int32) : entryFrame m #[(.ref x0), (.ref x1), (.int x2), (.int x3)] 4 = mkF m 0 #[.val (.ref x0), .val (.ref x1), .val (.int x2), .val (.int x3)] [] := by first | (simp [entryFrame, mkF, argsToLocals, Value.category]; done) | rfl
set_option maxRecDepth 65536 in
set_option maxHeartbeats 40000000 in
theorem rmGb (l : Launch) (Z : State) (a0 : Array Value) (hw : ∀ d ∈ tables_1, d.before a0 Z = true) (ws : List Jvm.Cond) (a1 b : Addr) (kb : ClassId) (i : Nat) (vd : List Value) (ds : List Int32) (G1 : Int32) (G3 : Value) (h0 : Heap) (n0 : Nat) (Z0 : n0 ≤ h0.size) (O2 : Sta Z Z.heap "java/lang/String" "COMPACT_STRINGS" "Z" (.int G1)) (P5 : ¬ (G1 = (0 : Int32))) (O4 : Sta Z Z.heap "jdk/internal/util/Preconditions" "SIOOBE_FORMATTER" "Ljava/util/function/BiFunction;" G3) (rG3 : G3.isRef = true) (O0 : Old Z n0 h0) (S_a1 : StrV Z h0 a1 ds) (V_b : Arv Z h0 b kb .byte (16 : Int32) vd (.int (0 : Int32))) (hvd : vd.length = 16) (hfit : i + ds.length ≤ 16) (g_b : n0 ≤ b) :
    MetFree l (⟨"java/lang/String", "getBytes", "([BIB)V"⟩ : MethodName) (head1 (Jvm.Cond.code (⟨"java/lang/String", "getBytes", "([BIB)V"⟩ : MethodName) jdk_42_method_147_code 4 none :: ws) ({ frames := 1, cells := 0, slots := 0, locals := 40 } : Room)) (fun a U => a = #[(.ref a1), (.ref b), (.int (Int32.ofNat i)), (.int (0 : Int32))] ∧ Z.Warmed39 U.vm ∧ U.heap = h0) (fun _ _ _ _ _ => True) (fun _ U o U' => ∃ v L, o = .returned v ∧ QG Z b kb (own_ins vd i ds) h0 n0 v U'.heap L ∧ FrameEnd U o U' L 0 0) := by
  refine MetFree.of_bodySF (plainFor_of_name own_pn_java_lang_String) hisR ?_
  intro p e s m args below meth c s₁ Bd hml0 hP hK
  obtain ⟨rfl, hZ, hh⟩ := hP
  have hx := Bd.exec
  have hby := Bd.bytes
  have hml : c.maxLocals = 4 := hml0
  have hown : s.vm.findClass "java/lang/String" = some m.cls := findClass_of_methodNamed Bd.named
  have hnm := (name_of_methodNamed Bd.named Bd.method).1
  have X0 : Stand p l e ({ frames := 1, cells := 0, slots := 0, locals := 40 } : Room) s m #[(.ref a1), (.ref b), (.int (Int32.ofNat i)), (.int (0 : Int32))] below meth c s₁ [] 0 0 := Stand.of_body Bd
  have e0 : s₁.heap = h0 := by rw [← hh, Bd.state]; rfl
  have N0 := Fr.nil n0
  have pre0 : ∀ t, Steps p.tables e below (s₁.setTop (mkF m 0 #[.val (.ref a1), .val (.ref b), .val (.int (Int32.ofNat i)), .val (.int (0 : Int32))] [])) t → Steps p.tables e below (s₁.setTop (entryFrame m #[(.ref a1), (.ref b), (.int (Int32.ofNat i)), (.int (0 : Int32))] 4)) t := fun t k => castTop (own_ef_jdk_42_method_147_code_xxxx m a1 b (Int32.ofNat i) (0 : Int32)) k
  obtain ⟨sb2, sk2, sE2, sV2, sC2, sA2, sL2⟩ := S_a1.form
  obtain ⟨cq1, kq1, q1a, q1b, q1c⟩ := isOf hZ e0 S_a1.exa
  obtain ⟨_, _, ⟨T1, L1, k1, n1⟩, -, X1, ⟨Lc1, hQ1, l1, y1, z1⟩, st1⟩ := X0.virtualBack hx (y := (⟨"java/lang/String", "coder", "()B"⟩ : MethodName)) (z := (⟨"java/lang/String", "coder", "()B"⟩ : MethodName)) hown (mvT hZ (hw _ (List.mem_of_getElem? (i := 75) rfl))) (mvT hZ (hw _ (List.mem_of_getElem? (i := 76) rfl))) (notFace_of_selects (args := #[]) (mvT hZ (hw _ (List.mem_of_getElem? (i := 78) rfl)))) (mvT hZ (hw _ (List.mem_of_getElem? (i := 78) rfl))) (mvT hZ (hw _ (List.mem_of_getElem? (i := 77) rfl))) (by decide) (backOf (W := 0) (rmCd l Z a0 hw [] a1 G1 G3 h0 n0 (Nat.le_trans Z0 (Keep.refl h0 [b]).1) O2 P5 O4 rG3 O0 sC2) hZ (hw _ (List.mem_of_getElem? (i := 79) rfl)) (hw _ (List.mem_of_getElem? (i := 6) rfl)) (by decide) (by decide)) q1a q1c (g := (mkF m 1 #[.val (.ref a1), .val (.ref b), .val (.int (Int32.ofNat i)), .val (.int (0 : Int32))] [(.ref a1)])) rfl (by rw [hml]; rfl) (Steps.refl _) (argsL := []) (rest := []) (lenOf own_pd___B rfl) rfl (by show 2 * 0 + _ ≤ _; exact Nat.le_of_eq rfl) (hb hby own_d_jdk_42_method_147_code_1) (fun _ _ => ⟨rfl, e0, (by decide : 0 + 0 ≤ _), (by decide : 0 + 0 ≤ _)⟩)
  dsimp only [Pt.U, Pt.locs, Pt.cells, Pt.slots] at X1 l1 y1 z1 st1 hQ1
  subst l1 y1 z1
  obtain ⟨rfl, N1q, e1q⟩ := hQ1
  have N1a := Fr.app N0 N1q
  obtain ⟨T3, X3, e3, st3⟩ := getF X1 hx hZ hown (host := "") (Or.inl (hw _ (List.mem_of_getElem? (i := 24) rfl))) Via.refl e1q sV2 (g := (mkF m 9 #[.val (.ref a1), .val (.ref b), .val (.int (Int32.ofNat i)), .val (.int (0 : Int32))] [(.ref a1)])) rfl rfl (hb hby own_d_jdk_42_method_147_code_9)
  obtain ⟨T4, X4, e4, st4⟩ := getF X3 hx hZ hown (host := "") (Or.inl (hw _ (List.mem_of_getElem? (i := 24) rfl))) Via.refl e3 sV2 (g := (mkF m 18 #[.val (.ref a1), .val (.ref b), .val (.int (Int32.ofNat i)), .val (.int (0 : Int32))] [(.ref a1), (.int (Int32.ofNat i)), (.ref b), (.int (0 : Int32)), (.ref sb2)])) rfl rfl (hb hby own_d_jdk_42_method_147_code_18)
  obtain ⟨cl5, Ar5, q5, S5, N_5, H_5, G5⟩ := id sA2
  obtain ⟨T6, h6, Lq6, X6, e6, N6a, Kq6, Aq6, st6⟩ := cpA X4 hx hZ hown (hw _ (List.mem_of_getElem? (i := 104) rfl)) (hw _ (List.mem_of_getElem? (i := 107) rfl)) (hw _ (List.mem_of_getElem? (i := 105) rfl)) (hw _ (List.mem_of_getElem? (i := 106) rfl)) e4 sA2 V_b (Or.inl ⟨rfl, rfl⟩) (by decide) (own_nonneg (by omega)) (own_nonneg (by omega)) (own_h4 _) (own_h5 hfit) (us := (ds.map own_lo)) (own_us2 (by omega)) (by rw [own_clamp (by omega), own_clamp (by omega), hvd]; exact hfit) N1a g_b (g := (mkF m 22 #[.val (.ref a1), .val (.ref b), .val (.int (Int32.ofNat i)), .val (.int (0 : Int32))] [(.int (Int32.ofNat ds.length)), (.int (Int32.ofNat i)), (.ref b), (.int (0 : Int32)), (.ref sb2)])) rfl (by rw [hml]; rfl) rfl (hb hby own_d_jdk_42_method_147_code_22) (by decide) (W := 0) (by show 2 * 0 + _ ≤ _; exact Nat.le_of_eq rfl) (by decide)
  have Aw6 : Arv Z h6 b kb .byte (16 : Int32) (own_ins vd i ds) (.int (0 : Int32)) := by
    have q := Aq6
    rw [own_clamp (by omega), own_clamp (by omega)] at q; exact q
  have K1 : Keep h0 h6 [b] := (Keep.refl h0 [b]).trans Kq6 (allS (Or.inl (List.mem_of_getElem? (i := 0) rfl)) all0)
  obtain ⟨fs, hr, hrun, hended, hW, hsame⟩ := X6.leave (v := none) (fun _ => rfl)
  refine ⟨_, _, pre0 _ ?_, hrun, hended, _, _, rfl, ?_, ⟨_, rfl⟩, hW, hsame.mono (by decide) (by decide)⟩
  · show Steps p.tables e below (s₁.setTop (mkF m 0 #[.val (.ref a1), .val (.ref b), .val (.int (Int32.ofNat i)), .val (.int (0 : Int32))] [])) _
    refine XS.aloadN X0.here hx rfl (hb hby own_d_jdk_42_method_147_code_0) rfl rfl ?_
    show Steps p.tables e below (s₁.setTop (mkF m 1 #[.val (.ref a1), .val (.ref b), .val (.int (Int32.ofNat i)), .val (.int (0 : Int32))] [(.ref a1)])) _
    refine st1.trans ?_
    refine XS.iloadN X1.here hx rfl (hb hby own_d_jdk_42_method_147_code_4) rfl ?_
    show Steps p.tables e below (T1.setTop (mkF m 5 #[.val (.ref a1), .val (.ref b), .val (.int (Int32.ofNat i)), .val (.int (0 : Int32))] [(.int (0 : Int32)), (.int (0 : Int32))])) _
    refine XS.icmpNo X1.here hx rfl (hb hby own_d_jdk_42_method_147_code_5) rfl (teq (rfl : (0 : Int32) = (0 : Int32))).2 ?_
    refine XS.aloadN X1.here hx rfl (hb hby own_d_jdk_42_method_147_code_8) rfl rfl ?_
    show Steps p.tables e below (T1.setTop (mkF m 9 #[.val (.ref a1), .val (.ref b), .val (.int (Int32.ofNat i)), .val (.int (0 : Int32))] [(.ref a1)])) _
    refine st3 _ ?_
    refine XS.iconst X3.here hx rfl (hb hby own_d_jdk_42_method_147_code_12) ?_
    refine XS.aloadN X3.here hx rfl (hb hby own_d_jdk_42_method_147_code_13) rfl rfl ?_
    show Steps p.tables e below (T3.setTop (mkF m 14 #[.val (.ref a1), .val (.ref b), .val (.int (Int32.ofNat i)), .val (.int (0 : Int32))] [(.ref b), (.int (0 : Int32)), (.ref sb2)])) _
    refine XS.iloadN X3.here hx rfl (hb hby own_d_jdk_42_method_147_code_14) rfl ?_
    refine XS.iloadN X3.here hx rfl (hb hby own_d_jdk_42_method_147_code_15) rfl ?_
    refine XS.ishl X3.here hx rfl (hb hby own_d_jdk_42_method_147_code_16) rfl ?_
    show Steps p.tables e below (T3.setTop (mkF m 17 #[.val (.ref a1), .val (.ref b), .val (.int (Int32.ofNat i)), .val (.int (0 : Int32))] [(.int ((Int32.ofNat i) <<< ((0 : Int32) &&& 31))), (.ref b), (.int (0 : Int32)), (.ref sb2)])) _
    rw [own_shl0]
    refine XS.aloadN X3.here hx rfl (hb hby own_d_jdk_42_method_147_code_17) rfl rfl ?_
    show Steps p.tables e below (T3.setTop (mkF m 18 #[.val (.ref a1), .val (.ref b), .val (.int (Int32.ofNat i)), .val (.int (0 : Int32))] [(.ref a1), (.int (Int32.ofNat i)), (.ref b), (.int (0 : Int32)), (.ref sb2)])) _
    refine st4 _ ?_
    show Steps p.tables e below (T4.setTop (mkF m 21 #[.val (.ref a1), .val (.ref b), .val (.int (Int32.ofNat i)), .val (.int (0 : Int32))] [(.ref sb2), (.int (Int32.ofNat i)), (.ref b), (.int (0 : Int32)), (.ref sb2)])) _
    refine X4.arraylength hx (by rw [e4]; exact Ar5.1) (State.isArrayOf_alike hZ.alike Ar5.2.1) (g := (mkF m 21 #[.val (.ref a1), .val (.ref b), .val (.int (Int32.ofNat i)), .val (.int (0 : Int32))] [(.ref sb2), (.int (Int32.ofNat i)), (.ref b), (.int (0 : Int32)), (.ref sb2)])) rfl rfl (hb hby own_d_jdk_42_method_147_code_21) _ ?_
    rw [len_of S5 N_5]
    show Steps p.tables e below (T4.setTop (mkF m 22 #[.val (.ref a1), .val (.ref b), .val (.int (Int32.ofNat i)), .val (.int (0 : Int32))] [(.int (Int32.ofNat ds.length)), (.int (Int32.ofNat i)), (.ref b), (.int (0 : Int32)), (.ref sb2)])) _
    refine st6 _ ?_
    refine XS.goto X6.here hx rfl (pc0 := 25) (pc' := 43) rfl (hb hby own_d_jdk_42_method_147_code_25) (by decide) (by decide) ?_
    show Steps p.tables e below (T6.setTop (mkF m 43 #[.val (.ref a1), .val (.ref b), .val (.int (Int32.ofNat i)), .val (.int (0 : Int32))] [])) _
    exact X6.returnOut hx Bd.returns (hb hby own_d_jdk_42_method_147_code_43) hr
  · show QG Z b kb (own_ins vd i ds) h0 n0 _ T6.heap _
    rw [e6]
    exact ⟨rfl, N6a, K1, Aw6⟩
theorem own_d_jdk_68_method_73_code_0 : decode jdk_68_method_73_code 0 = .ok (.aload_n 0, 1) := by decide +kernel
theorem own_d_jdk_68_method_73_code_1 : decode jdk_68_method_73_code 1 = .ok (.aload_n 2, 1) := by decide +kernel
theorem own_d_jdk_68_method_73_code_2 : decode jdk_68_method_73_code 2 = .ok (.invokevirtual 397, 3) := by decide +kernel
theorem own_d_jdk_68_method_73_code_5 : decode jdk_68_method_73_code 5 = .ok (.aload_n 2, 1) := by decide +kernel
theorem own_d_jdk_68_method_73_code_6 : decode jdk_68_method_73_code 6 = .ok (.aload_n 0, 1) := by decide +kernel
theorem own_d_jdk_68_method_73_code_7 : decode jdk_68_method_73_code 7 = .ok (.getfield 15, 3) := by decide +kernel
theorem own_d_jdk_68_method_73_code_10 : decode jdk_68_method_73_code 10 = .ok (.iload_n 1, 1) := by decide +kernel
theorem own_d_jdk_68_method_73_code_11 : decode jdk_68_method_73_code 11 = .ok (.aload_n 0, 1) := by decide +kernel
theorem own_d_jdk_68_method_73_code_12 : decode jdk_68_method_73_code 12 = .ok (.getfield 22, 3) := by decide +kernel
theorem own_d_jdk_68_method_73_code_15 : decode jdk_68_method_73_code 15 = .ok (.invokevirtual 399, 3) := by decide +kernel
theorem own_d_jdk_68_method_73_code_18 : decode jdk_68_method_73_code 18 = .ok (.return_, 1) := by decide +kernel
theorem own_pd__Ljava_lang_String__V : parseMethodDescriptor "(Ljava/lang/String;)V" = some ⟨[(.object "java/lang/String")], none⟩ := by decide +kernel
theorem own_pd___BIB_V : parseMethodDescriptor "([BIB)V" = some ⟨[(.array .byte), .int, .byte], none⟩ := by decide +kernel
theorem own_ef_jdk_68_method_73_code_xxx (m : MethodId) (x0 : Addr) (x1 : Int32) (x2 : Addr) : entryFrame m #[(.ref x0), (.int x1), (.ref x2)] 3 = mkF m 0 #[.val (.ref x0), .val (.int x1), .val (.ref x2)] [] := by first | (simp [entryFrame, mkF, argsToLocals, Value.category]; done) | rfl
set_option maxRecDepth 65536 in
set_option maxHeartbeats 40000000 in
theorem rmPu (l : Launch) (Z : State) (a0 : Array Value) (hw : ∀ d ∈ tables_1, d.before a0 Z = true) (ws : List Jvm.Cond) (a1 a3 b : Addr) (kb : ClassId) (i : Nat) (vd : List Value) (ds : List Int32) (G1 : Int32) (G3 : Value) (h0 : Heap) (n0 : Nat) (Z0 : n0 ≤ h0.size) (O2 : Sta Z Z.heap "java/lang/String" "COMPACT_STRINGS" "Z" (.int G1)) (P5 : ¬ (G1 = (0 : Int32))) (O4 : Sta Z Z.heap "jdk/internal/util/Preconditions" "SIOOBE_FORMATTER" "Ljava/util/function/BiFunction;" G3) (rG3 : G3.isRef = true) (O0 : Old Z n0 h0) (E_a1 : Exa Z h0 a1 "java/lang/StringBuilder") (F_value_a1 : Fld Z h0 a1 "java/lang/AbstractStringBuilder" "value" "[B" (.ref b)) (F_coder_a1 : Fld Z h0 a1 "java/lang/AbstractStringBuilder" "coder" "B" (.int (0 : Int32))) (V_b : Arv Z h0 b kb .byte (16 : Int32) vd (.int (0 : Int32))) (S_a3 : StrV Z h0 a3 ds) (hvd : vd.length = 16) (hfit : i + ds.length ≤ 16) (g_b : n0 ≤ b) :
    MetFree l (⟨"java/lang/AbstractStringBuilder", "putStringAt", "(ILjava/lang/String;)V"⟩ : MethodName) (head1 (Jvm.Cond.code (⟨"java/lang/AbstractStringBuilder", "putStringAt", "(ILjava/lang/String;)V"⟩ : MethodName) jdk_68_method_73_code 3 none :: ws) ({ frames := 2, cells := 0, slots := 0, locals := 55 } : Room)) (fun a U => a = #[(.ref a1), (.int (Int32.ofNat i)), (.ref a3)] ∧ Z.Warmed39 U.vm ∧ U.heap = h0) (fun _ _ _ _ _ => True) (fun _ U o U' => ∃ v L, o = .returned v ∧ QG Z b kb (own_ins vd i ds) h0 n0 v U'.heap L ∧ FrameEnd U o U' L 0 0) := by
  refine MetFree.of_bodySF (plainFor_of_name own_pn_java_lang_AbstractStringBuilder) hisR ?_
  intro p e s m args below meth c s₁ Bd hml0 hP hK
  obtain ⟨rfl, hZ, hh⟩ := hP
  have hx := Bd.exec
  have hby := Bd.bytes
  have hml : c.maxLocals = 3 := hml0
  have hown : s.vm.findClass "java/lang/AbstractStringBuilder" = some m.cls := findClass_of_methodNamed Bd.named
  have hnm := (name_of_methodNamed Bd.named Bd.method).1
  have X0 : Stand p l e ({ frames := 2, cells := 0, slots := 0, locals := 55 } : Room) s m #[(.ref a1), (.int (Int32.ofNat i)), (.ref a3)] below meth c s₁ [] 0 0 := Stand.of_body Bd
  have e0 : s₁.heap = h0 := by rw [← hh, Bd.state]; rfl
  have N0 := Fr.nil n0
  have pre0 : ∀ t, Steps p.tables e below (s₁.setTop (mkF m 0 #[.val (.ref a1), .val (.int (Int32.ofNat i)), .val (.ref a3)] [])) t → Steps p.tables e below (s₁.setTop (entryFrame m #[(.ref a1), (.int (Int32.ofNat i)), (.ref a3)] 3)) t := fun t k => castTop (own_ef_jdk_68_method_73_code_xxx m a1 (Int32.ofNat i) a3) k
  obtain ⟨cq1, q1, q1'⟩ := E_a1.cell
  obtain ⟨_, _, ⟨T1, L1, k1, n1⟩, -, X1, ⟨Lc1, hQ1, l1, y1, z1⟩, st1⟩ := X0.privateBack hx (y := (⟨"java/lang/AbstractStringBuilder", "inflateIfNeededFor", "(Ljava/lang/String;)V"⟩ : MethodName)) hown (mvT hZ (hw _ (List.mem_of_getElem? (i := 93) rfl))) (mvT hZ (hw _ (List.mem_of_getElem? (i := 94) rfl))) (own_selSelf (mvT hZ (hw _ (List.mem_of_getElem? (i := 94) rfl))) (Cond.privateMethod_at (mvP hZ (hw _ (List.mem_of_getElem? (i := 95) rfl)) (args := #[]))) (notFace_of_selects (args := #[]) (mvT hZ (hw _ (List.mem_of_getElem? (i := 96) rfl)))) (by decide)) (Cond.privateMethod_at (mvP hZ (hw _ (List.mem_of_getElem? (i := 95) rfl)) (args := #[]))) (mvT hZ (hw _ (List.mem_of_getElem? (i := 97) rfl))) (by decide) (backOf (W := 0) (rmIn l Z a0 hw [] a1 a3 ds G1 G3 h0 n0 (Nat.le_trans Z0 (Keep.refl h0 [b]).1) O2 P5 O4 rG3 O0 F_coder_a1 S_a3) hZ (hw _ (List.mem_of_getElem? (i := 97) rfl)) (hw _ (List.mem_of_getElem? (i := 52) rfl)) (by decide) (by decide)) (g := (mkF m 2 #[.val (.ref a1), .val (.int (Int32.ofNat i)), .val (.ref a3)] [(.ref a3), (.ref a1)])) rfl (by rw [hml]; rfl) (Steps.refl _) (a := a1) (by rw [e0]; exact q1) q1' (argsL := [(.ref a3)]) (rest := []) (lenOf own_pd__Ljava_lang_String__V rfl) rfl (by show 2 * 0 + _ ≤ _; exact Nat.le_of_eq rfl) (hb hby own_d_jdk_68_method_73_code_2) (fun _ _ => ⟨rfl, e0, (by decide : 0 + 0 ≤ _), (by decide : 0 + 0 ≤ _)⟩)
  dsimp only [Pt.U, Pt.locs, Pt.cells, Pt.slots] at X1 l1 y1 z1 st1 hQ1
  subst l1 y1 z1
  obtain ⟨rfl, N1q, e1q⟩ := hQ1
  have N1a := Fr.app N0 N1q
  obtain ⟨T2, X2, e2, st2⟩ := getF X1 hx hZ hown (host := "") (Or.inl (hw _ (List.mem_of_getElem? (i := 56) rfl))) Via.refl e1q F_value_a1 (g := (mkF m 7 #[.val (.ref a1), .val (.int (Int32.ofNat i)), .val (.ref a3)] [(.ref a1), (.ref a3)])) rfl rfl (hb hby own_d_jdk_68_method_73_code_7)
  obtain ⟨T3, X3, e3, st3⟩ := getF X2 hx hZ hown (host := "") (Or.inl (hw _ (List.mem_of_getElem? (i := 58) rfl))) Via.refl e2 F_coder_a1 (g := (mkF m 12 #[.val (.ref a1), .val (.int (Int32.ofNat i)), .val (.ref a3)] [(.ref a1), (.int (Int32.ofNat i)), (.ref b), (.ref a3)])) rfl rfl (hb hby own_d_jdk_68_method_73_code_12)
  obtain ⟨cq4, kq4, q4a, q4b, q4c⟩ := isOf hZ e3 S_a3.exa
  obtain ⟨_, _, ⟨T4, L4, k4, n4⟩, -, X4, ⟨Lc4, hQ4, l4, y4, z4⟩, st4⟩ := X3.virtualBack hx (y := (⟨"java/lang/String", "getBytes", "([BIB)V"⟩ : MethodName)) (z := (⟨"java/lang/String", "getBytes", "([BIB)V"⟩ : MethodName)) hown (mvT hZ (hw _ (List.mem_of_getElem? (i := 99) rfl))) (mvT hZ (hw _ (List.mem_of_getElem? (i := 100) rfl))) (notFace_of_selects (args := #[]) (mvT hZ (hw _ (List.mem_of_getElem? (i := 102) rfl)))) (mvT hZ (hw _ (List.mem_of_getElem? (i := 102) rfl))) (mvT hZ (hw _ (List.mem_of_getElem? (i := 101) rfl))) (by decide) (backOf (W := 0) (rmGb l Z a0 hw [] a3 b kb i vd ds G1 G3 h0 n0 (Nat.le_trans Z0 (Keep.refl h0 [b]).1) O2 P5 O4 rG3 O0 S_a3 V_b hvd hfit g_b) hZ (hw _ (List.mem_of_getElem? (i := 103) rfl)) (hw _ (List.mem_of_getElem? (i := 6) rfl)) (by decide) (by decide)) q4a q4c (g := (mkF m 15 #[.val (.ref a1), .val (.int (Int32.ofNat i)), .val (.ref a3)] [(.int (0 : Int32)), (.int (Int32.ofNat i)), (.ref b), (.ref a3)])) rfl (by rw [hml]; rfl) (Steps.refl _) (argsL := [(.ref b), (.int (Int32.ofNat i)), (.int (0 : Int32))]) (rest := []) (lenOf own_pd___BIB_V rfl) rfl (by show 2 * 0 + _ ≤ _; exact Nat.le_of_eq rfl) (hb hby own_d_jdk_68_method_73_code_15) (fun _ _ => ⟨rfl, e3, (by decide : 0 + 0 ≤ _), (by decide : 0 + 0 ≤ _)⟩)
  dsimp only [Pt.U, Pt.locs, Pt.cells, Pt.slots] at X4 l4 y4 z4 st4 hQ4
  subst l4 y4 z4
  obtain ⟨rfl, N4q, K4q, Ab4⟩ := hQ4
  have N4a := Fr.app N1a N4q
  have K1 : Keep h0 T4.heap [b] := (Keep.refl h0 [b]).trans K4q (allS (Or.inl (List.mem_of_getElem? (i := 0) rfl)) all0)
  obtain ⟨fs, hr, hrun, hended, hW, hsame⟩ := X4.leave (v := none) (fun _ => rfl)
  refine ⟨_, _, pre0 _ ?_, hrun, hended, _, _, rfl, ?_, ⟨_, rfl⟩, hW, hsame.mono (by decide) (by decide)⟩
  · show Steps p.tables e below (s₁.setTop (mkF m 0 #[.val (.ref a1), .val (.int (Int32.ofNat i)), .val (.ref a3)] [])) _
    refine XS.aloadN X0.here hx rfl (hb hby own_d_jdk_68_method_73_code_0) rfl rfl ?_
    refine XS.aloadN X0.here hx rfl (hb hby own_d_jdk_68_method_73_code_1) rfl rfl ?_
    show Steps p.tables e below (s₁.setTop (mkF m 2 #[.val (.ref a1), .val (.int (Int32.ofNat i)), .val (.ref a3)] [(.ref a3), (.ref a1)])) _
    refine st1.trans ?_
    refine XS.aloadN X1.here hx rfl (hb hby own_d_jdk_68_method_73_code_5) rfl rfl ?_
    refine XS.aloadN X1.here hx rfl (hb hby own_d_jdk_68_method_73_code_6) rfl rfl ?_
    show Steps p.tables e below (T1.setTop (mkF m 7 #[.val (.ref a1), .val (.int (Int32.ofNat i)), .val (.ref a3)] [(.ref a1), (.ref a3)])) _
    refine st2 _ ?_
    refine XS.iloadN X2.here hx rfl (hb hby own_d_jdk_68_method_73_code_10) rfl ?_
    refine XS.aloadN X2.here hx rfl (hb hby own_d_jdk_68_method_73_code_11) rfl rfl ?_
    show Steps p.tables e below (T2.setTop (mkF m 12 #[.val (.ref a1), .val (.int (Int32.ofNat i)), .val (.ref a3)] [(.ref a1), (.int (Int32.ofNat i)), (.ref b), (.ref a3)])) _
    refine st3 _ ?_
    show Steps p.tables e below (T3.setTop (mkF m 15 #[.val (.ref a1), .val (.int (Int32.ofNat i)), .val (.ref a3)] [(.int (0 : Int32)), (.int (Int32.ofNat i)), (.ref b), (.ref a3)])) _
    refine st4.trans ?_
    show Steps p.tables e below (T4.setTop (mkF m 18 #[.val (.ref a1), .val (.int (Int32.ofNat i)), .val (.ref a3)] [])) _
    exact X4.returnOut hx Bd.returns (hb hby own_d_jdk_68_method_73_code_18) hr
  · show QG Z b kb (own_ins vd i ds) h0 n0 _ T4.heap _
    exact ⟨rfl, N4a, K1, Ab4⟩
def QAp (Z : State) (a1 b : Addr) (kb : ClassId) (m : Nat) (us : List Value) (h0 : Heap) (n0 : Nat) (v : Option Value) (h : Heap) (L : List Loc) : Prop := v = some (.ref a1) ∧ Fr n0 L ∧ Keep h0 h [b, a1] ∧ Fld Z h a1 "java/lang/AbstractStringBuilder" "value" "[B" (.ref b) ∧ Fld Z h a1 "java/lang/AbstractStringBuilder" "coder" "B" (.int (0 : Int32)) ∧ Fld Z h a1 "java/lang/AbstractStringBuilder" "count" "I" (.int (Int32.ofNat m)) ∧ Arv Z h b kb .byte (16 : Int32) us (.int (0 : Int32))
theorem own_addN (i n : Nat) : Int32.ofNat i + Int32.ofNat n = Int32.ofNat (i + n) := (Int32.ofNat_add i n).symm
theorem own_named {s : State} {args : Array Value} {y : MethodName} (h : (Jvm.Cond.declares y).before args s = true) : ∃ m, s.methodNamed? y = some m := by
  obtain ⟨m, -, h, -⟩ := Cond.declares_spec h; exact ⟨m, h⟩
theorem own_d_jdk_68_method_22_code_0 : decode jdk_68_method_22_code 0 = .ok (.aload_n 1, 1) := by decide +kernel
theorem own_d_jdk_68_method_22_code_1 : decode jdk_68_method_22_code 1 = .ok (.ifnonnull 8, 3) := by decide +kernel
theorem own_d_jdk_68_method_22_code_9 : decode jdk_68_method_22_code 9 = .ok (.aload_n 1, 1) := by decide +kernel
theorem own_d_jdk_68_method_22_code_10 : decode jdk_68_method_22_code 10 = .ok (.invokevirtual 32, 3) := by decide +kernel
theorem own_d_jdk_68_method_22_code_13 : decode jdk_68_method_22_code 13 = .ok (.istore_n 2, 1) := by decide +kernel
theorem own_d_jdk_68_method_22_code_14 : decode jdk_68_method_22_code 14 = .ok (.aload_n 0, 1) := by decide +kernel
theorem own_d_jdk_68_method_22_code_15 : decode jdk_68_method_22_code 15 = .ok (.aload_n 0, 1) := by decide +kernel
theorem own_d_jdk_68_method_22_code_16 : decode jdk_68_method_22_code 16 = .ok (.getfield 79, 3) := by decide +kernel
theorem own_d_jdk_68_method_22_code_19 : decode jdk_68_method_22_code 19 = .ok (.iload_n 2, 1) := by decide +kernel
theorem own_d_jdk_68_method_22_code_20 : decode jdk_68_method_22_code 20 = .ok (.iadd, 1) := by decide +kernel
theorem own_d_jdk_68_method_22_code_21 : decode jdk_68_method_22_code 21 = .ok (.invokevirtual 100, 3) := by decide +kernel
theorem own_d_jdk_68_method_22_code_24 : decode jdk_68_method_22_code 24 = .ok (.aload_n 0, 1) := by decide +kernel
theorem own_d_jdk_68_method_22_code_25 : decode jdk_68_method_22_code 25 = .ok (.aload_n 0, 1) := by decide +kernel
theorem own_d_jdk_68_method_22_code_26 : decode jdk_68_method_22_code 26 = .ok (.getfield 79, 3) := by decide +kernel
theorem own_d_jdk_68_method_22_code_29 : decode jdk_68_method_22_code 29 = .ok (.aload_n 1, 1) := by decide +kernel
theorem own_d_jdk_68_method_22_code_30 : decode jdk_68_method_22_code 30 = .ok (.invokevirtual 208, 3) := by decide +kernel
theorem own_d_jdk_68_method_22_code_33 : decode jdk_68_method_22_code 33 = .ok (.aload_n 0, 1) := by decide +kernel
theorem own_d_jdk_68_method_22_code_34 : decode jdk_68_method_22_code 34 = .ok (.dup, 1) := by decide +kernel
theorem own_d_jdk_68_method_22_code_35 : decode jdk_68_method_22_code 35 = .ok (.getfield 79, 3) := by decide +kernel
theorem own_d_jdk_68_method_22_code_38 : decode jdk_68_method_22_code 38 = .ok (.iload_n 2, 1) := by decide +kernel
theorem own_d_jdk_68_method_22_code_39 : decode jdk_68_method_22_code 39 = .ok (.iadd, 1) := by decide +kernel
theorem own_d_jdk_68_method_22_code_40 : decode jdk_68_method_22_code 40 = .ok (.putfield 79, 3) := by decide +kernel
theorem own_d_jdk_68_method_22_code_43 : decode jdk_68_method_22_code 43 = .ok (.aload_n 0, 1) := by decide +kernel
theorem own_d_jdk_68_method_22_code_44 : decode jdk_68_method_22_code 44 = .ok (.areturn, 1) := by decide +kernel
theorem own_pd___I : parseMethodDescriptor "()I" = some ⟨[], some .int⟩ := by decide +kernel
theorem own_pd__ILjava_lang_String__V : parseMethodDescriptor "(ILjava/lang/String;)V" = some ⟨[.int, (.object "java/lang/String")], none⟩ := by decide +kernel
theorem own_ef_jdk_68_method_22_code_xx (m : MethodId) (x0 : Addr) (x1 : Addr) : entryFrame m #[(.ref x0), (.ref x1)] 3 = mkF m 0 #[.val (.ref x0), .val (.ref x1), .unset] [] := by first | (simp [entryFrame, mkF, argsToLocals, Value.category]; done) | rfl
set_option maxRecDepth 65536 in
set_option maxHeartbeats 40000000 in
theorem rmAa (l : Launch) (Z : State) (a0 : Array Value) (hw : ∀ d ∈ tables_1, d.before a0 Z = true) (ws : List Jvm.Cond) (a1 a2 b : Addr) (kb : ClassId) (i : Nat) (vd : List Value) (ds : List Int32) (G1 : Int32) (G3 : Value) (h0 : Heap) (n0 : Nat) (Z0 : n0 ≤ h0.size) (O2 : Sta Z Z.heap "java/lang/String" "COMPACT_STRINGS" "Z" (.int G1)) (P5 : ¬ (G1 = (0 : Int32))) (O4 : Sta Z Z.heap "jdk/internal/util/Preconditions" "SIOOBE_FORMATTER" "Ljava/util/function/BiFunction;" G3) (rG3 : G3.isRef = true) (O0 : Old Z n0 h0) (E_a1 : Exa Z h0 a1 "java/lang/StringBuilder") (F_value_a1 : Fld Z h0 a1 "java/lang/AbstractStringBuilder" "value" "[B" (.ref b)) (F_coder_a1 : Fld Z h0 a1 "java/lang/AbstractStringBuilder" "coder" "B" (.int (0 : Int32))) (F_count_a1 : Fld Z h0 a1 "java/lang/AbstractStringBuilder" "count" "I" (.int (Int32.ofNat i))) (V_b : Arv Z h0 b kb .byte (16 : Int32) vd (.int (0 : Int32))) (S_a2 : StrV Z h0 a2 ds) (hvd : vd.length = 16) (hfit : i + ds.length ≤ 16) (g_a1 : n0 ≤ a1) (g_b : n0 ≤ b) :
    MetFree l (⟨"java/lang/AbstractStringBuilder", "append", "(Ljava/lang/String;)Ljava/lang/AbstractStringBuilder;"⟩ : MethodName) (head1 (Jvm.Cond.code (⟨"java/lang/AbstractStringBuilder", "append", "(Ljava/lang/String;)Ljava/lang/AbstractStringBuilder;"⟩ : MethodName) jdk_68_method_22_code 3 (some (.object "java/lang/AbstractStringBuilder")) :: ws) ({ frames := 3, cells := 0, slots := 0, locals := 70 } : Room)) (fun a U => a = #[(.ref a1), (.ref a2)] ∧ Z.Warmed39 U.vm ∧ U.heap = h0) (fun _ _ _ _ _ => True) (fun _ U o U' => ∃ v L, o = .returned v ∧ QAp Z a1 b kb (i + ds.length) (own_ins vd i ds) h0 n0 v U'.heap L ∧ FrameEnd U o U' L 0 0) := by
  refine MetFree.of_bodySF (plainFor_of_name own_pn_java_lang_AbstractStringBuilder) hisR ?_
  intro p e s m args below meth c s₁ Bd hml0 hP hK
  obtain ⟨rfl, hZ, hh⟩ := hP
  have hx := Bd.exec
  have hby := Bd.bytes
  have hml : c.maxLocals = 3 := hml0
  have hown : s.vm.findClass "java/lang/AbstractStringBuilder" = some m.cls := findClass_of_methodNamed Bd.named
  have hnm := (name_of_methodNamed Bd.named Bd.method).1
  have X0 : Stand p l e ({ frames := 3, cells := 0, slots := 0, locals := 70 } : Room) s m #[(.ref a1), (.ref a2)] below meth c s₁ [] 0 0 := Stand.of_body Bd
  have e0 : s₁.heap = h0 := by rw [← hh, Bd.state]; rfl
  have N0 := Fr.nil n0
  have pre0 : ∀ t, Steps p.tables e below (s₁.setTop (mkF m 0 #[.val (.ref a1), .val (.ref a2), .unset] [])) t → Steps p.tables e below (s₁.setTop (entryFrame m #[(.ref a1), (.ref a2)] 3)) t := fun t k => castTop (own_ef_jdk_68_method_22_code_xx m a1 a2) k
  obtain ⟨sb2, sk2, sN2, sv2, sE2, sV2, sC2, sA2, sc2, su2⟩ := id S_a2
  obtain ⟨cq1, kq1, q1a, q1b, q1c⟩ := isOf hZ e0 S_a2.exa
  obtain ⟨_, _, ⟨T1, L1, k1, n1⟩, -, X1, ⟨Lc1, hQ1, l1, y1, z1⟩, st1⟩ := X0.virtualBack hx (y := (⟨"java/lang/String", "length", "()I"⟩ : MethodName)) (z := (⟨"java/lang/String", "length", "()I"⟩ : MethodName)) hown (mvT hZ (hw _ (List.mem_of_getElem? (i := 70) rfl))) (mvT hZ (hw _ (List.mem_of_getElem? (i := 71) rfl))) (notFace_of_selects (args := #[]) (mvT hZ (hw _ (List.mem_of_getElem? (i := 73) rfl)))) (mvT hZ (hw _ (List.mem_of_getElem? (i := 73) rfl))) (mvT hZ (hw _ (List.mem_of_getElem? (i := 72) rfl))) (by decide) (StrChars.Road.lenW (W := 0) hZ (own_hlen hw) (kI := 4) (hw _ (List.mem_of_getElem? (i := 5) rfl)) sE2 sV2 sC2 sA2 sc2 su2 (O2.ext O0.2) P5 (by omega) (by decide) (by decide)) q1a q1c (g := (mkF m 10 #[.val (.ref a1), .val (.ref a2), .unset] [(.ref a2)])) rfl (by rw [hml]; rfl) (Steps.refl _) (argsL := []) (rest := []) (lenOf own_pd___I rfl) rfl (by show 2 * 0 + _ ≤ _; exact Nat.le_of_eq rfl) (hb hby own_d_jdk_68_method_22_code_10) (fun _ _ => ⟨rfl, e0, (by decide : 0 + 0 ≤ _), (by decide : 0 + 0 ≤ _)⟩)
  dsimp only [Pt.U, Pt.locs, Pt.cells, Pt.slots] at X1 l1 y1 z1 st1 hQ1
  subst l1 y1 z1
  obtain ⟨rfl, rfl, e1q⟩ := hQ1
  have N1a := Fr.app N0 (Fr.nil n0)
  obtain ⟨T3, X3, e3, st3⟩ := getF X1 hx hZ hown (host := "") (Or.inl (hw _ (List.mem_of_getElem? (i := 81) rfl))) Via.refl e1q F_count_a1 (g := (mkF m 16 #[.val (.ref a1), .val (.ref a2), .val (.int (Int32.ofNat ds.length))] [(.ref a1), (.ref a1)])) rfl rfl (hb hby own_d_jdk_68_method_22_code_16)
  obtain ⟨cq4, q4, q4'⟩ := E_a1.cell
  obtain ⟨_, _, ⟨T4, L4, k4, n4⟩, -, X4, ⟨Lc4, hQ4, l4, y4, z4⟩, st4⟩ := X3.privateBack hx (y := (⟨"java/lang/AbstractStringBuilder", "ensureCapacityInternal", "(I)V"⟩ : MethodName)) hown (mvT hZ (hw _ (List.mem_of_getElem? (i := 83) rfl))) (mvT hZ (hw _ (List.mem_of_getElem? (i := 84) rfl))) (own_selSelf (mvT hZ (hw _ (List.mem_of_getElem? (i := 84) rfl))) (Cond.privateMethod_at (mvP hZ (hw _ (List.mem_of_getElem? (i := 85) rfl)) (args := #[]))) (notFace_of_selects (args := #[]) (mvT hZ (hw _ (List.mem_of_getElem? (i := 86) rfl)))) (by decide)) (Cond.privateMethod_at (mvP hZ (hw _ (List.mem_of_getElem? (i := 85) rfl)) (args := #[]))) (mvT hZ (hw _ (List.mem_of_getElem? (i := 87) rfl))) (by decide) (backOf (W := 0) (rmEn l Z a0 hw [] a1 b kb vd (Int32.ofNat (i + ds.length)) h0 n0 (Nat.le_trans Z0 (Keep.refl h0 [b, a1]).1) E_a1 F_value_a1 F_coder_a1 V_b (own_ens hfit)) hZ (hw _ (List.mem_of_getElem? (i := 87) rfl)) (hw _ (List.mem_of_getElem? (i := 52) rfl)) (by decide) (by decide)) (g := (mkF m 21 #[.val (.ref a1), .val (.ref a2), .val (.int (Int32.ofNat ds.length))] [(.int (Int32.ofNat (i + ds.length))), (.ref a1)])) rfl (by rw [hml]; rfl) (Steps.refl _) (a := a1) (by rw [e3]; exact q4) q4' (argsL := [(.int (Int32.ofNat (i + ds.length)))]) (rest := []) (lenOf own_pd__I_V rfl) rfl (by show 2 * 0 + _ ≤ _; exact Nat.le_of_eq rfl) (hb hby own_d_jdk_68_method_22_code_21) (fun _ _ => ⟨rfl, e3, (by decide : 0 + 0 ≤ _), (by decide : 0 + 0 ≤ _)⟩)
  dsimp only [Pt.U, Pt.locs, Pt.cells, Pt.slots] at X4 l4 y4 z4 st4 hQ4
  subst l4 y4 z4
  obtain ⟨rfl, N4q, e4q⟩ := hQ4
  have N4a := Fr.app N1a N4q
  obtain ⟨T5, X5, e5, st5⟩ := getF X4 hx hZ hown (host := "") (Or.inl (hw _ (List.mem_of_getElem? (i := 81) rfl))) Via.refl e4q F_count_a1 (g := (mkF m 26 #[.val (.ref a1), .val (.ref a2), .val (.int (Int32.ofNat ds.length))] [(.ref a1), (.ref a1)])) rfl rfl (hb hby own_d_jdk_68_method_22_code_26)
  obtain ⟨cq6, q6, q6'⟩ := E_a1.cell
  obtain ⟨_, _, ⟨T6, L6, k6, n6⟩, -, X6, ⟨Lc6, hQ6, l6, y6, z6⟩, st6⟩ := X5.privateBack hx (y := (⟨"java/lang/AbstractStringBuilder", "putStringAt", "(ILjava/lang/String;)V"⟩ : MethodName)) hown (mvT hZ (hw _ (List.mem_of_getElem? (i := 88) rfl))) (mvT hZ (hw _ (List.mem_of_getElem? (i := 89) rfl))) (own_selSelf (mvT hZ (hw _ (List.mem_of_getElem? (i := 89) rfl))) (Cond.privateMethod_at (mvP hZ (hw _ (List.mem_of_getElem? (i := 90) rfl)) (args := #[]))) (notFace_of_selects (args := #[]) (mvT hZ (hw _ (List.mem_of_getElem? (i := 91) rfl)))) (by decide)) (Cond.privateMethod_at (mvP hZ (hw _ (List.mem_of_getElem? (i := 90) rfl)) (args := #[]))) (mvT hZ (hw _ (List.mem_of_getElem? (i := 92) rfl))) (by decide) (backOf (W := 0) (rmPu l Z a0 hw [] a1 a2 b kb i vd ds G1 G3 h0 n0 (Nat.le_trans Z0 (Keep.refl h0 [b, a1]).1) O2 P5 O4 rG3 O0 E_a1 F_value_a1 F_coder_a1 V_b S_a2 hvd hfit g_b) hZ (hw _ (List.mem_of_getElem? (i := 92) rfl)) (hw _ (List.mem_of_getElem? (i := 52) rfl)) (by decide) (by decide)) (g := (mkF m 30 #[.val (.ref a1), .val (.ref a2), .val (.int (Int32.ofNat ds.length))] [(.ref a2), (.int (Int32.ofNat i)), (.ref a1)])) rfl (by rw [hml]; rfl) (Steps.refl _) (a := a1) (by rw [e5]; exact q6) q6' (argsL := [(.int (Int32.ofNat i)), (.ref a2)]) (rest := []) (lenOf own_pd__ILjava_lang_String__V rfl) rfl (by show 2 * 0 + _ ≤ _; exact Nat.le_of_eq rfl) (hb hby own_d_jdk_68_method_22_code_30) (fun _ _ => ⟨rfl, e5, (by decide : 0 + 0 ≤ _), (by decide : 0 + 0 ≤ _)⟩)
  dsimp only [Pt.U, Pt.locs, Pt.cells, Pt.slots] at X6 l6 y6 z6 st6 hQ6
  subst l6 y6 z6
  obtain ⟨rfl, N6q, K6q, Ab6⟩ := hQ6
  have N6a := Fr.app N4a N6q
  have K1 : Keep h0 T6.heap [b, a1] := (Keep.refl h0 [b, a1]).trans K6q (allS (Or.inl (List.mem_of_getElem? (i := 0) rfl)) all0)
  have f7 : Fld Z T6.heap a1 "java/lang/AbstractStringBuilder" "count" "I" (.int (Int32.ofNat i)) := (F_count_a1.keep K6q (ninS (Exa.neArv E_a1 V_b (hw _ (List.mem_of_getElem? (i := 43) rfl))) nin0))
  obtain ⟨T8, X8, e8, st8⟩ := getF X6 hx hZ hown (host := "") (Or.inl (hw _ (List.mem_of_getElem? (i := 81) rfl))) Via.refl rfl f7 (g := (mkF m 35 #[.val (.ref a1), .val (.ref a2), .val (.int (Int32.ofNat ds.length))] [(.ref a1), (.ref a1)])) rfl rfl (hb hby own_d_jdk_68_method_22_code_35)
  have f9 : Exa Z T6.heap a1 "java/lang/StringBuilder" := (E_a1.keep K6q)
  obtain ⟨T10, h10, X10, e10, W10, st10⟩ := putF X8 hx hZ hown (host := "") (Or.inl (hw _ (List.mem_of_getElem? (i := 81) rfl))) Via.refl e8 f7 f9 (Or.inl (hw _ (List.mem_of_getElem? (i := 82) rfl))) (hw _ (List.mem_of_getElem? (i := 43) rfl)) (ty := .int) (by decide) rfl rfl (g := (mkF m 40 #[.val (.ref a1), .val (.ref a2), .val (.int (Int32.ofNat ds.length))] [(.int (Int32.ofNat (i + ds.length))), (.ref a1)])) rfl rfl (hb hby own_d_jdk_68_method_22_code_40)
  have Fw10 := f7.same W10
  have Nf10 := Fr.snoc X10 N6a g_a1
  have K2 : Keep h0 h10 [b, a1] := K1.wr W10 (Or.inl (List.mem_of_getElem? (i := 1) rfl))
  have f11 : Fld Z h10 a1 "java/lang/AbstractStringBuilder" "value" "[B" (.ref b) := ((F_value_a1.keep K6q (ninS (Exa.neArv E_a1 V_b (hw _ (List.mem_of_getElem? (i := 43) rfl))) nin0)).other W10 (Or.inr (slot_ne (Or.inl (hw _ (List.mem_of_getElem? (i := 57) rfl))) (Or.inl (hw _ (List.mem_of_getElem? (i := 82) rfl))) (by decide) (t := (.array .byte)) (t' := .int) (by decide) (by decide))))
  have f12 : Fld Z h10 a1 "java/lang/AbstractStringBuilder" "coder" "B" (.int (0 : Int32)) := ((F_coder_a1.keep K6q (ninS (Exa.neArv E_a1 V_b (hw _ (List.mem_of_getElem? (i := 43) rfl))) nin0)).other W10 (Or.inr (slot_ne (Or.inl (hw _ (List.mem_of_getElem? (i := 59) rfl))) (Or.inl (hw _ (List.mem_of_getElem? (i := 82) rfl))) (by decide) (t := .byte) (t' := .int) (by decide) (by decide))))
  have f13 : Arv Z h10 b kb .byte (16 : Int32) (own_ins vd i ds) (.int (0 : Int32)) := (Ab6.other W10 (Ne.symm (Exa.neArv f9 Ab6 (hw _ (List.mem_of_getElem? (i := 43) rfl)))))
  obtain ⟨fs, hr, hrun, hended, hW, hsame⟩ := X10.leave (v := some (.ref a1)) (fun h => by rw [Bd.returns] at h; cases h)
  refine ⟨_, _, pre0 _ ?_, hrun, hended, _, _, rfl, ?_, ⟨_, rfl⟩, hW, hsame.mono (by decide) (by decide)⟩
  · show Steps p.tables e below (s₁.setTop (mkF m 0 #[.val (.ref a1), .val (.ref a2), .unset] [])) _
    refine XS.aloadN X0.here hx rfl (hb hby own_d_jdk_68_method_22_code_0) rfl rfl ?_
    show Steps p.tables e below (s₁.setTop (mkF m 1 #[.val (.ref a1), .val (.ref a2), .unset] [(.ref a2)])) _
    refine XS.ifnonnullYes X0.here hx rfl (pc0 := 1) (pc' := 9) rfl (hb hby own_d_jdk_68_method_22_code_1) rfl (by decide) (by decide) ?_
    refine XS.aloadN X0.here hx rfl (hb hby own_d_jdk_68_method_22_code_9) rfl rfl ?_
    show Steps p.tables e below (s₁.setTop (mkF m 10 #[.val (.ref a1), .val (.ref a2), .unset] [(.ref a2)])) _
    refine st1.trans ?_
    refine XS.istoreN X1.here hx rfl (hb hby own_d_jdk_68_method_22_code_13) rfl (l' := #[.val (.ref a1), .val (.ref a2), .val (.int (Int32.ofNat ds.length))]) rfl ?_
    refine XS.aloadN X1.here hx rfl (hb hby own_d_jdk_68_method_22_code_14) rfl rfl ?_
    show Steps p.tables e below (T1.setTop (mkF m 15 #[.val (.ref a1), .val (.ref a2), .val (.int (Int32.ofNat ds.length))] [(.ref a1)])) _
    refine XS.aloadN X1.here hx rfl (hb hby own_d_jdk_68_method_22_code_15) rfl rfl ?_
    show Steps p.tables e below (T1.setTop (mkF m 16 #[.val (.ref a1), .val (.ref a2), .val (.int (Int32.ofNat ds.length))] [(.ref a1), (.ref a1)])) _
    refine st3 _ ?_
    refine XS.iloadN X3.here hx rfl (hb hby own_d_jdk_68_method_22_code_19) rfl ?_
    refine XS.iadd X3.here hx rfl (hb hby own_d_jdk_68_method_22_code_20) rfl ?_
    show Steps p.tables e below (T3.setTop (mkF m 21 #[.val (.ref a1), .val (.ref a2), .val (.int (Int32.ofNat ds.length))] [(.int ((Int32.ofNat i) + (Int32.ofNat ds.length))), (.ref a1)])) _
    rw [own_addN]
    show Steps p.tables e below (T3.setTop (mkF m 21 #[.val (.ref a1), .val (.ref a2), .val (.int (Int32.ofNat ds.length))] [(.int (Int32.ofNat (i + ds.length))), (.ref a1)])) _
    refine st4.trans ?_
    refine XS.aloadN X4.here hx rfl (hb hby own_d_jdk_68_method_22_code_24) rfl rfl ?_
    refine XS.aloadN X4.here hx rfl (hb hby own_d_jdk_68_method_22_code_25) rfl rfl ?_
    show Steps p.tables e below (T4.setTop (mkF m 26 #[.val (.ref a1), .val (.ref a2), .val (.int (Int32.ofNat ds.length))] [(.ref a1), (.ref a1)])) _
    refine st5 _ ?_
    refine XS.aloadN X5.here hx rfl (hb hby own_d_jdk_68_method_22_code_29) rfl rfl ?_
    show Steps p.tables e below (T5.setTop (mkF m 30 #[.val (.ref a1), .val (.ref a2), .val (.int (Int32.ofNat ds.length))] [(.ref a2), (.int (Int32.ofNat i)), (.ref a1)])) _
    refine st6.trans ?_
    refine XS.aloadN X6.here hx rfl (hb hby own_d_jdk_68_method_22_code_33) rfl rfl ?_
    refine XS.dup X6.here hx rfl (hb hby own_d_jdk_68_method_22_code_34) rfl rfl ?_
    show Steps p.tables e below (T6.setTop (mkF m 35 #[.val (.ref a1), .val (.ref a2), .val (.int (Int32.ofNat ds.length))] [(.ref a1), (.ref a1)])) _
    refine st8 _ ?_
    refine XS.iloadN X8.here hx rfl (hb hby own_d_jdk_68_method_22_code_38) rfl ?_
    refine XS.iadd X8.here hx rfl (hb hby own_d_jdk_68_method_22_code_39) rfl ?_
    show Steps p.tables e below (T8.setTop (mkF m 40 #[.val (.ref a1), .val (.ref a2), .val (.int (Int32.ofNat ds.length))] [(.int ((Int32.ofNat i) + (Int32.ofNat ds.length))), (.ref a1)])) _
    rw [own_addN]
    show Steps p.tables e below (T8.setTop (mkF m 40 #[.val (.ref a1), .val (.ref a2), .val (.int (Int32.ofNat ds.length))] [(.int (Int32.ofNat (i + ds.length))), (.ref a1)])) _
    refine st10 _ ?_
    refine XS.aloadN X10.here hx rfl (hb hby own_d_jdk_68_method_22_code_43) rfl rfl ?_
    show Steps p.tables e below (T10.setTop (mkF m 44 #[.val (.ref a1), .val (.ref a2), .val (.int (Int32.ofNat ds.length))] [(.ref a1)])) _
    jvm_step X10.here [X10.here.top, hx, (hb hby own_d_jdk_68_method_22_code_44), X10.method', Bd.returns, Value.isRef, FieldType.isReference]
    first | (intro acts; rw [hr _ acts rfl rfl rfl]) | rw [hr _ _ rfl rfl rfl]
    exact Steps.refl _
  · show QAp Z a1 b kb (i + ds.length) (own_ins vd i ds) h0 n0 _ T10.heap _
    rw [e10]
    exact ⟨rfl, Nf10, K2, f11, f12, Fw10, f13⟩
theorem own_d_jdk_67_method_7_code_0 : decode jdk_67_method_7_code 0 = .ok (.aload_n 0, 1) := by decide +kernel
theorem own_d_jdk_67_method_7_code_1 : decode jdk_67_method_7_code 1 = .ok (.aload_n 1, 1) := by decide +kernel
theorem own_d_jdk_67_method_7_code_2 : decode jdk_67_method_7_code 2 = .ok (.invokespecial 29, 3) := by decide +kernel
theorem own_d_jdk_67_method_7_code_5 : decode jdk_67_method_7_code 5 = .ok (.pop, 1) := by decide +kernel
theorem own_d_jdk_67_method_7_code_6 : decode jdk_67_method_7_code 6 = .ok (.aload_n 0, 1) := by decide +kernel
theorem own_d_jdk_67_method_7_code_7 : decode jdk_67_method_7_code 7 = .ok (.areturn, 1) := by decide +kernel
theorem own_pd__Ljava_lang_String__Ljava_lang_AbstractStringBuilder_ : parseMethodDescriptor "(Ljava/lang/String;)Ljava/lang/AbstractStringBuilder;" = some ⟨[(.object "java/lang/String")], some (.object "java/lang/AbstractStringBuilder")⟩ := by decide +kernel
theorem own_ef_jdk_67_method_7_code_xx (m : MethodId) (x0 : Addr) (x1 : Addr) : entryFrame m #[(.ref x0), (.ref x1)] 2 = mkF m 0 #[.val (.ref x0), .val (.ref x1)] [] := by first | (simp [entryFrame, mkF, argsToLocals, Value.category]; done) | rfl
set_option maxRecDepth 65536 in
set_option maxHeartbeats 40000000 in
theorem rmSa (l : Launch) (Z : State) (a0 : Array Value) (hw : ∀ d ∈ tables_1, d.before a0 Z = true) (ws : List Jvm.Cond) (a1 a2 b : Addr) (kb : ClassId) (i : Nat) (vd : List Value) (ds : List Int32) (G1 : Int32) (G3 : Value) (h0 : Heap) (n0 : Nat) (Z0 : n0 ≤ h0.size) (O2 : Sta Z Z.heap "java/lang/String" "COMPACT_STRINGS" "Z" (.int G1)) (P5 : ¬ (G1 = (0 : Int32))) (O4 : Sta Z Z.heap "jdk/internal/util/Preconditions" "SIOOBE_FORMATTER" "Ljava/util/function/BiFunction;" G3) (rG3 : G3.isRef = true) (O0 : Old Z n0 h0) (E_a1 : Exa Z h0 a1 "java/lang/StringBuilder") (F_value_a1 : Fld Z h0 a1 "java/lang/AbstractStringBuilder" "value" "[B" (.ref b)) (F_coder_a1 : Fld Z h0 a1 "java/lang/AbstractStringBuilder" "coder" "B" (.int (0 : Int32))) (F_count_a1 : Fld Z h0 a1 "java/lang/AbstractStringBuilder" "count" "I" (.int (Int32.ofNat i))) (V_b : Arv Z h0 b kb .byte (16 : Int32) vd (.int (0 : Int32))) (S_a2 : StrV Z h0 a2 ds) (hvd : vd.length = 16) (hfit : i + ds.length ≤ 16) (g_a1 : n0 ≤ a1) (g_b : n0 ≤ b) :
    MetFree l (⟨"java/lang/StringBuilder", "append", "(Ljava/lang/String;)Ljava/lang/StringBuilder;"⟩ : MethodName) (head1 (Jvm.Cond.code (⟨"java/lang/StringBuilder", "append", "(Ljava/lang/String;)Ljava/lang/StringBuilder;"⟩ : MethodName) jdk_67_method_7_code 2 (some (.object "java/lang/StringBuilder")) :: ws) ({ frames := 4, cells := 0, slots := 0, locals := 85 } : Room)) (fun a U => a = #[(.ref a1), (.ref a2)] ∧ Z.Warmed39 U.vm ∧ U.heap = h0) (fun _ _ _ _ _ => True) (fun _ U o U' => ∃ v L, o = .returned v ∧ QAp Z a1 b kb (i + ds.length) (own_ins vd i ds) h0 n0 v U'.heap L ∧ FrameEnd U o U' L 0 0) := by
  refine MetFree.of_bodySF (plainFor_of_name own_pn_java_lang_StringBuilder) hisR ?_
  intro p e s m args below meth c s₁ Bd hml0 hP hK
  obtain ⟨rfl, hZ, hh⟩ := hP
  have hx := Bd.exec
  have hby := Bd.bytes
  have hml : c.maxLocals = 2 := hml0
  have hown : s.vm.findClass "java/lang/StringBuilder" = some m.cls := findClass_of_methodNamed Bd.named
  have hnm := (name_of_methodNamed Bd.named Bd.method).1
  have X0 : Stand p l e ({ frames := 4, cells := 0, slots := 0, locals := 85 } : Room) s m #[(.ref a1), (.ref a2)] below meth c s₁ [] 0 0 := Stand.of_body Bd
  have e0 : s₁.heap = h0 := by rw [← hh, Bd.state]; rfl
  have N0 := Fr.nil n0
  have pre0 : ∀ t, Steps p.tables e below (s₁.setTop (mkF m 0 #[.val (.ref a1), .val (.ref a2)] [])) t → Steps p.tables e below (s₁.setTop (entryFrame m #[(.ref a1), (.ref a2)] 2)) t := fun t k => castTop (own_ef_jdk_67_method_7_code_xx m a1 a2) k
  obtain ⟨_, _, ⟨T1, L1, k1, n1⟩, -, X1, ⟨Lc1, hQ1, l1, y1, z1⟩, st1⟩ := superBack X0 hx hZ (y := (⟨"java/lang/AbstractStringBuilder", "append", "(Ljava/lang/String;)Ljava/lang/AbstractStringBuilder;"⟩ : MethodName)) hown (hw _ (List.mem_of_getElem? (i := 65) rfl)) (own_same (y2 := (⟨"java/lang/AbstractStringBuilder", "append", "(Ljava/lang/String;)Ljava/lang/AbstractStringBuilder;"⟩ : MethodName)) (hw _ (List.mem_of_getElem? (i := 68) rfl)) (own_nf (notFace_of_selects (args := a0) (hw _ (List.mem_of_getElem? (i := 124) rfl))) (own_named (hw _ (List.mem_of_getElem? (i := 122) rfl))) rfl) (by decide)) (hw _ (List.mem_of_getElem? (i := 66) rfl)) (hw _ (List.mem_of_getElem? (i := 67) rfl)) (by decide) (backOf (W := 0) (rmAa l Z a0 hw [] a1 a2 b kb i vd ds G1 G3 h0 n0 (Nat.le_trans Z0 (Keep.refl h0 [a1, b]).1) O2 P5 O4 rG3 O0 E_a1 F_value_a1 F_coder_a1 F_count_a1 V_b S_a2 hvd hfit g_a1 g_b) hZ (hw _ (List.mem_of_getElem? (i := 69) rfl)) (hw _ (List.mem_of_getElem? (i := 52) rfl)) (by decide) (by decide)) e0 (Ins.self E_a1) (g := (mkF m 2 #[.val (.ref a1), .val (.ref a2)] [(.ref a2), (.ref a1)])) rfl (by rw [hml]; rfl) (hw _ (List.mem_of_getElem? (i := 69) rfl)) (argsL := [(.ref a2)]) (rest := []) (lenOf own_pd__Ljava_lang_String__Ljava_lang_AbstractStringBuilder_ rfl) rfl (by show 2 * 0 + _ ≤ _; exact Nat.le_of_eq rfl) (hb hby own_d_jdk_67_method_7_code_2) (fun _ _ => ⟨rfl, e0, (by decide : 0 + 0 ≤ _), (by decide : 0 + 0 ≤ _)⟩)
  dsimp only [Pt.U, Pt.locs, Pt.cells, Pt.slots] at X1 l1 y1 z1 st1 hQ1
  subst l1 y1 z1
  obtain ⟨rfl, N1q, K1q, Gv1, Gc1, Gn1, Ga1⟩ := hQ1
  have N1a := Fr.app N0 N1q
  have K1 : Keep h0 T1.heap [a1, b] := (Keep.refl h0 [a1, b]).trans K1q (allS (Or.inl (List.mem_of_getElem? (i := 1) rfl)) (allS (Or.inl (List.mem_of_getElem? (i := 0) rfl)) all0))
  obtain ⟨fs, hr, hrun, hended, hW, hsame⟩ := X1.leave (v := some (.ref a1)) (fun h => by rw [Bd.returns] at h; cases h)
  refine ⟨_, _, pre0 _ ?_, hrun, hended, _, _, rfl, ?_, ⟨_, rfl⟩, hW, hsame.mono (by decide) (by decide)⟩
  · show Steps p.tables e below (s₁.setTop (mkF m 0 #[.val (.ref a1), .val (.ref a2)] [])) _
    refine XS.aloadN X0.here hx rfl (hb hby own_d_jdk_67_method_7_code_0) rfl rfl ?_
    refine XS.aloadN X0.here hx rfl (hb hby own_d_jdk_67_method_7_code_1) rfl rfl ?_
    show Steps p.tables e below (s₁.setTop (mkF m 2 #[.val (.ref a1), .val (.ref a2)] [(.ref a2), (.ref a1)])) _
    refine st1.trans ?_
    refine XS.pop X1.here hx rfl (hb hby own_d_jdk_67_method_7_code_5) rfl rfl ?_
    refine XS.aloadN X1.here hx rfl (hb hby own_d_jdk_67_method_7_code_6) rfl rfl ?_
    show Steps p.tables e below (T1.setTop (mkF m 7 #[.val (.ref a1), .val (.ref a2)] [(.ref a1)])) _
    jvm_step X1.here [X1.here.top, hx, (hb hby own_d_jdk_67_method_7_code_7), X1.method', Bd.returns, Value.isRef, FieldType.isReference]
    first | (intro acts; rw [hr _ acts rfl rfl rfl]) | rw [hr _ _ rfl rfl rfl]
    exact Steps.refl _
  · show QAp Z a1 b kb (i + ds.length) (own_ins vd i ds) h0 n0 _ T1.heap _
    exact ⟨rfl, N1a, (Keep.refl h0 [b, a1]).trans K1 (allS (Or.inl (List.mem_of_getElem? (i := 1) rfl)) (allS (Or.inl (List.mem_of_getElem? (i := 0) rfl)) all0)), Gv1, Gc1, Gn1, Ga1⟩
theorem own_d_jdk_65_method_131_code_0 : decode jdk_65_method_131_code 0 = .ok (.iload_n 1, 1) := by decide +kernel
theorem own_d_jdk_65_method_131_code_1 : decode jdk_65_method_131_code 1 = .ok (.iload_n 0, 1) := by decide +kernel
theorem own_d_jdk_65_method_131_code_2 : decode jdk_65_method_131_code 2 = .ok (.if_icmp .ge 35, 3) := by decide +kernel
theorem own_d_jdk_65_method_131_code_37 : decode jdk_65_method_131_code 37 = .ok (.return_, 1) := by decide +kernel
theorem own_pn_java_util_Arrays : plainName "java/util/Arrays" = true := by first | (simp [plainName, overriddenIn]; done) | decide +kernel
theorem own_ef_jdk_65_method_131_code_xx (m : MethodId) (x0 : Int32) (x1 : Int32) : entryFrame m #[(.int x0), (.int x1)] 2 = mkF m 0 #[.val (.int x0), .val (.int x1)] [] := by first | (simp [entryFrame, mkF, argsToLocals, Value.category]; done) | rfl
set_option maxRecDepth 65536 in
set_option maxHeartbeats 40000000 in
theorem rmCk (l : Launch) (Z : State) (a0 : Array Value) (hw : ∀ d ∈ tables_1, d.before a0 Z = true) (ws : List Jvm.Cond) (p1 p2 : Int32) (h0 : Heap) (n0 : Nat) (Z0 : n0 ≤ h0.size) (hc : ¬ (p2 < p1)) :
    MetFree l (⟨"java/util/Arrays", "checkLength", "(II)V"⟩ : MethodName) (head1 (Jvm.Cond.code (⟨"java/util/Arrays", "checkLength", "(II)V"⟩ : MethodName) jdk_65_method_131_code 2 none :: ws) ({ frames := 0, cells := 0, slots := 0, locals := 0 } : Room)) (fun a U => a = #[(.int p1), (.int p2)] ∧ Z.Warmed39 U.vm ∧ U.heap = h0) (fun _ _ _ _ _ => True) (fun _ U o U' => ∃ v L, o = .returned v ∧ QR h0 n0 v U'.heap L ∧ FrameEnd U o U' L 0 0) := by
  refine MetFree.of_bodySF (plainFor_of_name own_pn_java_util_Arrays) hisR ?_
  intro p e s m args below meth c s₁ Bd hml0 hP hK
  obtain ⟨rfl, hZ, hh⟩ := hP
  have hx := Bd.exec
  have hby := Bd.bytes
  have hml : c.maxLocals = 2 := hml0
  have hown : s.vm.findClass "java/util/Arrays" = some m.cls := findClass_of_methodNamed Bd.named
  have hnm := (name_of_methodNamed Bd.named Bd.method).1
  have X0 : Stand p l e ({ frames := 0, cells := 0, slots := 0, locals := 0 } : Room) s m #[(.int p1), (.int p2)] below meth c s₁ [] 0 0 := Stand.of_body Bd
  have e0 : s₁.heap = h0 := by rw [← hh, Bd.state]; rfl
  have N0 := Fr.nil n0
  have pre0 : ∀ t, Steps p.tables e below (s₁.setTop (mkF m 0 #[.val (.int p1), .val (.int p2)] [])) t → Steps p.tables e below (s₁.setTop (entryFrame m #[(.int p1), (.int p2)] 2)) t := fun t k => castTop (own_ef_jdk_65_method_131_code_xx m p1 p2) k
  obtain ⟨fs, hr, hrun, hended, hW, hsame⟩ := X0.leave (v := none) (fun _ => rfl)
  refine ⟨_, _, pre0 _ ?_, hrun, hended, _, _, rfl, ?_, ⟨_, rfl⟩, hW, hsame.mono (by decide) (by decide)⟩
  · show Steps p.tables e below (s₁.setTop (mkF m 0 #[.val (.int p1), .val (.int p2)] [])) _
    refine XS.iloadN X0.here hx rfl (hb hby own_d_jdk_65_method_131_code_0) rfl ?_
    refine XS.iloadN X0.here hx rfl (hb hby own_d_jdk_65_method_131_code_1) rfl ?_
    show Steps p.tables e below (s₁.setTop (mkF m 2 #[.val (.int p1), .val (.int p2)] [(.int p1), (.int p2)])) _
    refine XS.icmpYes X0.here hx rfl (pc0 := 2) (pc' := 37) rfl (hb hby own_d_jdk_65_method_131_code_2) rfl (flt (hc : ¬ (p2 < p1))).2.1 (by decide) (by decide) ?_
    show Steps p.tables e below (s₁.setTop (mkF m 37 #[.val (.int p1), .val (.int p2)] [])) _
    exact X0.returnOut hx Bd.returns (hb hby own_d_jdk_65_method_131_code_37) hr
  · show QR h0 n0 _ s₁.heap _
    rw [e0]
    exact ⟨rfl, N0, rfl⟩
theorem own_d_jdk_29_method_69_code_0 : decode jdk_29_method_69_code 0 = .ok (.iload_n 0, 1) := by decide +kernel
theorem own_d_jdk_29_method_69_code_1 : decode jdk_29_method_69_code 1 = .ok (.iload_n 1, 1) := by decide +kernel
theorem own_d_jdk_29_method_69_code_2 : decode jdk_29_method_69_code 2 = .ok (.if_icmp .gt 7, 3) := by decide +kernel
theorem own_d_jdk_29_method_69_code_9 : decode jdk_29_method_69_code 9 = .ok (.iload_n 1, 1) := by decide +kernel
theorem own_d_jdk_29_method_69_code_10 : decode jdk_29_method_69_code 10 = .ok (.ireturn, 1) := by decide +kernel
theorem own_ef_jdk_29_method_69_code_xx (m : MethodId) (x0 : Int32) (x1 : Int32) : entryFrame m #[(.int x0), (.int x1)] 2 = mkF m 0 #[.val (.int x0), .val (.int x1)] [] := by first | (simp [entryFrame, mkF, argsToLocals, Value.category]; done) | rfl
set_option maxRecDepth 65536 in
set_option maxHeartbeats 40000000 in
theorem rmMn (l : Launch) (Z : State) (a0 : Array Value) (hw : ∀ d ∈ tables_1, d.before a0 Z = true) (ws : List Jvm.Cond) (p1 p2 : Int32) (h0 : Heap) (n0 : Nat) (Z0 : n0 ≤ h0.size) (hc : p2 < p1) :
    MetFree l (⟨"java/lang/Math", "min", "(II)I"⟩ : MethodName) (head1 (Jvm.Cond.code (⟨"java/lang/Math", "min", "(II)I"⟩ : MethodName) jdk_29_method_69_code 2 (some .int) :: ws) ({ frames := 0, cells := 0, slots := 0, locals := 0 } : Room)) (fun a U => a = #[(.int p1), (.int p2)] ∧ Z.Warmed39 U.vm ∧ U.heap = h0) (fun _ _ _ _ _ => True) (fun _ U o U' => ∃ v L, o = .returned v ∧ QB p2 h0 n0 v U'.heap L ∧ FrameEnd U o U' L 0 0) := by
  refine MetFree.of_bodySF (Jvm.Free.JP.mathPlain rfl (by decide +kernel)) hisR ?_
  intro p e s m args below meth c s₁ Bd hml0 hP hK
  obtain ⟨rfl, hZ, hh⟩ := hP
  have hx := Bd.exec
  have hby := Bd.bytes
  have hml : c.maxLocals = 2 := hml0
  have hown : s.vm.findClass "java/lang/Math" = some m.cls := findClass_of_methodNamed Bd.named
  have hnm := (name_of_methodNamed Bd.named Bd.method).1
  have X0 : Stand p l e ({ frames := 0, cells := 0, slots := 0, locals := 0 } : Room) s m #[(.int p1), (.int p2)] below meth c s₁ [] 0 0 := Stand.of_body Bd
  have e0 : s₁.heap = h0 := by rw [← hh, Bd.state]; rfl
  have N0 := Fr.nil n0
  have pre0 : ∀ t, Steps p.tables e below (s₁.setTop (mkF m 0 #[.val (.int p1), .val (.int p2)] [])) t → Steps p.tables e below (s₁.setTop (entryFrame m #[(.int p1), (.int p2)] 2)) t := fun t k => castTop (own_ef_jdk_29_method_69_code_xx m p1 p2) k
  obtain ⟨fs, hr, hrun, hended, hW, hsame⟩ := X0.leave (v := some (.int p2)) (fun h => by rw [Bd.returns] at h; cases h)
  refine ⟨_, _, pre0 _ ?_, hrun, hended, _, _, rfl, ?_, ⟨_, rfl⟩, hW, hsame.mono (by decide) (by decide)⟩
  · show Steps p.tables e below (s₁.setTop (mkF m 0 #[.val (.int p1), .val (.int p2)] [])) _
    refine XS.iloadN X0.here hx rfl (hb hby own_d_jdk_29_method_69_code_0) rfl ?_
    refine XS.iloadN X0.here hx rfl (hb hby own_d_jdk_29_method_69_code_1) rfl ?_
    show Steps p.tables e below (s₁.setTop (mkF m 2 #[.val (.int p1), .val (.int p2)] [(.int p2), (.int p1)])) _
    refine XS.icmpYes X0.here hx rfl (pc0 := 2) (pc' := 9) rfl (hb hby own_d_jdk_29_method_69_code_2) rfl (tlt (hc : p2 < p1)).2.2.1 (by decide) (by decide) ?_
    refine XS.iloadN X0.here hx rfl (hb hby own_d_jdk_29_method_69_code_9) rfl ?_
    show Steps p.tables e below (s₁.setTop (mkF m 10 #[.val (.int p1), .val (.int p2)] [(.int p2)])) _
    exact retI X0 hx Bd.returns (hb hby own_d_jdk_29_method_69_code_10) hr
  · show QB p2 h0 n0 _ s₁.heap _
    rw [e0]
    exact ⟨rfl, N0, rfl⟩
def QCr (Z : State) (m : Nat) (us : List Value) (h0 : Heap) (n0 : Nat) (v : Option Value) (h : Heap) (L : List Loc) : Prop := ∃ (t : Addr) (k : ClassId), v = some (.ref t) ∧ Fr n0 L ∧ Keep h0 h [] ∧ h0.size ≤ t ∧ Arv Z h t k .byte (Int32.ofNat m) us (.int (0 : Int32))
theorem own_take {vd : List Value} {m : Nat} (h : m ≤ vd.length) (hm : m ≤ 4000) : vd.take m = (List.range (Int32.ofNat m).toNatClampNeg).map fun i => vd.getD ((0 : Int32).toNatClampNeg + i) (.int (0 : Int32)) := by
  rw [own_clamp (by omega)]
  apply List.ext_getElem
  · simp [h]
  · intro i h1 h2
    simp at h1 h2
    have : i < vd.length := by omega
    show _ = _
    simp [List.getD_eq_getElem?_getD, this]
theorem own_fill {us : List Value} {m : Nat} {d : Value} (hm : m ≤ 4000) (h : us.length = m) : ([] ++ List.replicate m d).take (0 : Int32).toNatClampNeg ++ us ++ ([] ++ List.replicate m d).drop ((0 : Int32).toNatClampNeg + (Int32.ofNat m).toNatClampNeg) = us := by
  rw [own_clamp (by omega)]
  show ([] : List Value) ++ us ++ ([] ++ List.replicate m d).drop (0 + m) = us
  simp
theorem own_lt16 {m : Nat} (h : m < 16) : Int32.ofNat m < (16 : Int32) - (0 : Int32) := by rw [own_sub0]; exact (own_lt_of (n := 16) (by omega) (by omega)).mpr h
theorem own_ne16 {m : Nat} (h : m < 16) : ¬ (Int32.ofNat m = (16 : Int32)) := fun q => by have := (own_eq_of (i := m) (n := 16) (by omega) (by omega)).mp q; omega
theorem own_d_jdk_65_method_133_code_0 : decode jdk_65_method_133_code 0 = .ok (.iload_n 1, 1) := by decide +kernel
theorem own_d_jdk_65_method_133_code_1 : decode jdk_65_method_133_code 1 = .ok (.iload_n 2, 1) := by decide +kernel
theorem own_d_jdk_65_method_133_code_2 : decode jdk_65_method_133_code 2 = .ok (.invokestatic 343, 3) := by decide +kernel
theorem own_d_jdk_65_method_133_code_5 : decode jdk_65_method_133_code 5 = .ok (.iload_n 2, 1) := by decide +kernel
theorem own_d_jdk_65_method_133_code_6 : decode jdk_65_method_133_code 6 = .ok (.iload_n 1, 1) := by decide +kernel
theorem own_d_jdk_65_method_133_code_7 : decode jdk_65_method_133_code 7 = .ok (.isub, 1) := by decide +kernel
theorem own_d_jdk_65_method_133_code_8 : decode jdk_65_method_133_code 8 = .ok (.istore_n 3, 1) := by decide +kernel
theorem own_d_jdk_65_method_133_code_9 : decode jdk_65_method_133_code 9 = .ok (.iload_n 3, 1) := by decide +kernel
theorem own_d_jdk_65_method_133_code_10 : decode jdk_65_method_133_code 10 = .ok (.newarray .byte, 2) := by decide +kernel
theorem own_d_jdk_65_method_133_code_12 : decode jdk_65_method_133_code 12 = .ok (.astore 4, 2) := by decide +kernel
theorem own_d_jdk_65_method_133_code_14 : decode jdk_65_method_133_code 14 = .ok (.aload_n 0, 1) := by decide +kernel
theorem own_d_jdk_65_method_133_code_15 : decode jdk_65_method_133_code 15 = .ok (.iload_n 1, 1) := by decide +kernel
theorem own_d_jdk_65_method_133_code_16 : decode jdk_65_method_133_code 16 = .ok (.aload 4, 2) := by decide +kernel
theorem own_d_jdk_65_method_133_code_18 : decode jdk_65_method_133_code 18 = .ok (.iconst 0, 1) := by decide +kernel
theorem own_d_jdk_65_method_133_code_19 : decode jdk_65_method_133_code 19 = .ok (.aload_n 0, 1) := by decide +kernel
theorem own_d_jdk_65_method_133_code_20 : decode jdk_65_method_133_code 20 = .ok (.arraylength, 1) := by decide +kernel
theorem own_d_jdk_65_method_133_code_21 : decode jdk_65_method_133_code 21 = .ok (.iload_n 1, 1) := by decide +kernel
theorem own_d_jdk_65_method_133_code_22 : decode jdk_65_method_133_code 22 = .ok (.isub, 1) := by decide +kernel
theorem own_d_jdk_65_method_133_code_23 : decode jdk_65_method_133_code 23 = .ok (.iload_n 3, 1) := by decide +kernel
theorem own_d_jdk_65_method_133_code_24 : decode jdk_65_method_133_code 24 = .ok (.invokestatic 304, 3) := by decide +kernel
theorem own_d_jdk_65_method_133_code_27 : decode jdk_65_method_133_code 27 = .ok (.invokestatic 150, 3) := by decide +kernel
theorem own_d_jdk_65_method_133_code_30 : decode jdk_65_method_133_code 30 = .ok (.aload 4, 2) := by decide +kernel
theorem own_d_jdk_65_method_133_code_32 : decode jdk_65_method_133_code 32 = .ok (.areturn, 1) := by decide +kernel
theorem own_pd__II_V : parseMethodDescriptor "(II)V" = some ⟨[.int, .int], none⟩ := by decide +kernel
theorem own_pd__II_I : parseMethodDescriptor "(II)I" = some ⟨[.int, .int], some .int⟩ := by decide +kernel
theorem own_ef_jdk_65_method_133_code_xxx (m : MethodId) (x0 : Addr) (x1 : Int32) (x2 : Int32) : entryFrame m #[(.ref x0), (.int x1), (.int x2)] 5 = mkF m 0 #[.val (.ref x0), .val (.int x1), .val (.int x2), .unset, .unset] [] := by first | (simp [entryFrame, mkF, argsToLocals, Value.category]; done) | rfl
set_option maxRecDepth 65536 in
set_option maxHeartbeats 40000000 in
theorem rmCb (l : Launch) (Z : State) (a0 : Array Value) (hw : ∀ d ∈ tables_1, d.before a0 Z = true) (ws : List Jvm.Cond) (a1 : Addr) (kb : ClassId) (mm : Nat) (vd : List Value) (h0 : Heap) (n0 : Nat) (Z0 : n0 ≤ h0.size) (V_a1 : Arv Z h0 a1 kb .byte (16 : Int32) vd (.int (0 : Int32))) (hvd : vd.length = 16) (hm : mm < 16) :
    MetFree l (⟨"java/util/Arrays", "copyOfRangeByte", "([BII)[B"⟩ : MethodName) (head1 (Jvm.Cond.code (⟨"java/util/Arrays", "copyOfRangeByte", "([BII)[B"⟩ : MethodName) jdk_65_method_133_code 5 (some (.array .byte)) :: ws) ({ frames := 1, cells := 1, slots := 16, locals := 40 } : Room)) (fun a U => a = #[(.ref a1), (.int (0 : Int32)), (.int (Int32.ofNat mm))] ∧ Z.Warmed39 U.vm ∧ U.heap = h0) (fun _ _ _ _ _ => True) (fun _ U o U' => ∃ v L, o = .returned v ∧ QCr Z mm (vd.take mm) h0 n0 v U'.heap L ∧ FrameEnd U o U' L 1 16) := by
  refine MetFree.of_bodySF (plainFor_of_name own_pn_java_util_Arrays) hisR ?_
  intro p e s m args below meth c s₁ Bd hml0 hP hK
  obtain ⟨rfl, hZ, hh⟩ := hP
  have hx := Bd.exec
  have hby := Bd.bytes
  have hml : c.maxLocals = 5 := hml0
  have hown : s.vm.findClass "java/util/Arrays" = some m.cls := findClass_of_methodNamed Bd.named
  have hnm := (name_of_methodNamed Bd.named Bd.method).1
  have X0 : Stand p l e ({ frames := 1, cells := 1, slots := 16, locals := 40 } : Room) s m #[(.ref a1), (.int (0 : Int32)), (.int (Int32.ofNat mm))] below meth c s₁ [] 0 0 := Stand.of_body Bd
  have e0 : s₁.heap = h0 := by rw [← hh, Bd.state]; rfl
  have N0 := Fr.nil n0
  have pre0 : ∀ t, Steps p.tables e below (s₁.setTop (mkF m 0 #[.val (.ref a1), .val (.int (0 : Int32)), .val (.int (Int32.ofNat mm)), .unset, .unset] [])) t → Steps p.tables e below (s₁.setTop (entryFrame m #[(.ref a1), (.int (0 : Int32)), (.int (Int32.ofNat mm))] 5)) t := fun t k => castTop (own_ef_jdk_65_method_133_code_xxx m a1 (0 : Int32) (Int32.ofNat mm)) k
  obtain ⟨_, _, ⟨T1, L1, k1, n1⟩, -, X1, ⟨Lc1, hQ1, l1, y1, z1⟩, st1⟩ := Jvm.LawKit.callS X0 hx (y := (⟨"java/util/Arrays", "checkLength", "(II)V"⟩ : MethodName)) hown (mvT hZ (hw _ (List.mem_of_getElem? (i := 146) rfl))) (mvT hZ (hw _ (List.mem_of_getElem? (i := 147) rfl))) (mvT hZ (hw _ (List.mem_of_getElem? (i := 141) rfl))) (mvT hZ (hw _ (List.mem_of_getElem? (i := 148) rfl))) (by decide) (backOf (W := 0) (rmCk l Z a0 hw [] (0 : Int32) (Int32.ofNat mm) h0 n0 (Nat.le_trans Z0 (Keep.refl h0 []).1) (own_nonneg (by omega))) hZ (hw _ (List.mem_of_getElem? (i := 148) rfl)) (hw _ (List.mem_of_getElem? (i := 141) rfl)) (by decide) (by decide)) (g := (mkF m 2 #[.val (.ref a1), .val (.int (0 : Int32)), .val (.int (Int32.ofNat mm)), .unset, .unset] [(.int (Int32.ofNat mm)), (.int (0 : Int32))])) rfl (by rw [hml]; rfl) (argsL := [(.int (0 : Int32)), (.int (Int32.ofNat mm))]) (rest := []) (lenOf own_pd__II_V rfl) rfl (by show 2 * 0 + _ ≤ _; exact Nat.le_of_eq rfl) (hb hby own_d_jdk_65_method_133_code_2) (fun _ _ => ⟨rfl, e0, (by decide : 0 + 0 ≤ _), (by decide : 0 + 0 ≤ _)⟩)
  dsimp only [Pt.U, Pt.locs, Pt.cells, Pt.slots] at X1 l1 y1 z1 st1 hQ1
  subst l1 y1 z1
  obtain ⟨rfl, N1q, e1q⟩ := hQ1
  have N1a := Fr.app N0 N1q
  obtain ⟨T2, h2, ka2, X2, e2, E2, A2, st2⟩ := newP X1 hx hZ (hw _ (List.mem_of_getElem? (i := 19) rfl)) e1q (g := (mkF m 10 #[.val (.ref a1), .val (.int (0 : Int32)), .val (.int (Int32.ofNat mm)), .val (.int (Int32.ofNat mm)), .unset] [(.int (Int32.ofNat mm))])) rfl (hb hby own_d_jdk_65_method_133_code_10) rfl (own_nonneg (by omega)) (cap := 16) (by rw [own_clamp (by omega)]; omega) (by decide) (by decide) (by decide)
  obtain ⟨b2, g2⟩ : ∃ z, z = h0.size := ⟨_, rfl⟩
  rw [← g2] at A2 st2
  have sz_b2 : h0.size ≤ b2 := Nat.le_trans (Keep.refl h0 []).1 (Nat.le_of_eq g2.symm)
  have g_b2 : n0 ≤ b2 := Nat.le_trans Z0 sz_b2
  have K1 : Keep h0 h2 [] := (Keep.refl h0 []).ext E2
  have V_b2 : Arv Z h2 b2 ka2 .byte (Int32.ofNat mm) [] (.int (0 : Int32)) := Arv.new A2 (own_nonneg (by omega))
  have f3 : Arv Z h2 a1 kb .byte (16 : Int32) vd (.int (0 : Int32)) := (V_a1.ext E2)
  obtain ⟨cl4, Ar4, q4, S4, N_4, H_4, G4⟩ := id f3
  obtain ⟨_, _, ⟨T5, L5, k5, n5⟩, -, X5, ⟨Lc5, hQ5, l5, y5, z5⟩, st5⟩ := Jvm.LawKit.callS X2 hx (y := (⟨"java/lang/Math", "min", "(II)I"⟩ : MethodName)) hown (mvT hZ (hw _ (List.mem_of_getElem? (i := 149) rfl))) (mvT hZ (hw _ (List.mem_of_getElem? (i := 150) rfl))) (mvT hZ (hw _ (List.mem_of_getElem? (i := 151) rfl))) (mvT hZ (hw _ (List.mem_of_getElem? (i := 152) rfl))) (by decide) (backOf (W := 4) (rmMn l Z a0 hw [] ((16 : Int32) - (0 : Int32)) (Int32.ofNat mm) h2 n0 (Nat.le_trans Z0 K1.1) (own_lt16 hm)) hZ (hw _ (List.mem_of_getElem? (i := 152) rfl)) (hw _ (List.mem_of_getElem? (i := 151) rfl)) (by decide) (by decide)) (g := (mkF m 24 #[.val (.ref a1), .val (.int (0 : Int32)), .val (.int (Int32.ofNat mm)), .val (.int (Int32.ofNat mm)), .val (.ref b2)] [(.int (Int32.ofNat mm)), (.int ((16 : Int32) - (0 : Int32))), (.int (0 : Int32)), (.ref b2), (.int (0 : Int32)), (.ref a1)])) rfl (by rw [hml]; rfl) (argsL := [(.int ((16 : Int32) - (0 : Int32))), (.int (Int32.ofNat mm))]) (rest := [(.int (0 : Int32)), (.ref b2), (.int (0 : Int32)), (.ref a1)]) (lenOf own_pd__II_I rfl) rfl (by show 2 * 0 + _ ≤ _; exact Nat.le_of_eq rfl) (hb hby own_d_jdk_65_method_133_code_24) (fun _ _ => ⟨rfl, e2, (by decide : 1 + 0 ≤ _), (by decide : 16 + 0 ≤ _)⟩)
  dsimp only [Pt.U, Pt.locs, Pt.cells, Pt.slots] at X5 l5 y5 z5 st5 hQ5
  subst l5 y5 z5
  obtain ⟨rfl, N5q, e5q⟩ := hQ5
  have N5a := Fr.app N1a N5q
  have Vp6 : Arv Z h2 b2 ka2 .byte (Int32.ofNat mm) ([] ++ List.replicate mm (.int (0 : Int32))) (.int (0 : Int32)) := V_b2.pad (pad_rep [] (.int (0 : Int32)) mm)
  obtain ⟨T7, h7, Lq7, X7, e7, N7a, Kq7, Aq7, st7⟩ := cpA X5 hx hZ hown (hw _ (List.mem_of_getElem? (i := 153) rfl)) (hw _ (List.mem_of_getElem? (i := 107) rfl)) (hw _ (List.mem_of_getElem? (i := 105) rfl)) (hw _ (List.mem_of_getElem? (i := 106) rfl)) e5q f3 Vp6 (Or.inl ⟨rfl, rfl⟩) (by decide) (by decide) (own_nonneg (by omega)) (own_h5 (i := 0) (by omega)) (own_h4 _) (us := (vd.take mm)) (own_take (by omega) (by omega)) (by rw [own_clamp (by omega)]; show 0 + mm ≤ _; simp) N5a g_b2 (g := (mkF m 27 #[.val (.ref a1), .val (.int (0 : Int32)), .val (.int (Int32.ofNat mm)), .val (.int (Int32.ofNat mm)), .val (.ref b2)] [(.int (Int32.ofNat mm)), (.int (0 : Int32)), (.ref b2), (.int (0 : Int32)), (.ref a1)])) rfl (by rw [hml]; rfl) rfl (hb hby own_d_jdk_65_method_133_code_27) (by decide) (W := 0) (by show 2 * 0 + _ ≤ _; exact Nat.le_of_eq rfl) (by decide)
  have Aw7 : Arv Z h7 b2 ka2 .byte (Int32.ofNat mm) (vd.take mm) (.int (0 : Int32)) := by
    have q := Aq7
    rw [own_fill (by omega) (by simp [hvd]; omega)] at q; exact q
  have K2 : Keep h0 h7 [] := K1.trans Kq7 (allS (Or.inr sz_b2) all0)
  obtain ⟨fs, hr, hrun, hended, hW, hsame⟩ := X7.leave (v := some (.ref b2)) (fun h => by rw [Bd.returns] at h; cases h)
  refine ⟨_, _, pre0 _ ?_, hrun, hended, _, _, rfl, ?_, ⟨_, rfl⟩, hW, hsame.mono (by decide) (by decide)⟩
  · show Steps p.tables e below (s₁.setTop (mkF m 0 #[.val (.ref a1), .val (.int (0 : Int32)), .val (.int (Int32.ofNat mm)), .unset, .unset] [])) _
    refine XS.iloadN X0.here hx rfl (hb hby own_d_jdk_65_method_133_code_0) rfl ?_
    refine XS.iloadN X0.here hx rfl (hb hby own_d_jdk_65_method_133_code_1) rfl ?_
    show Steps p.tables e below (s₁.setTop (mkF m 2 #[.val (.ref a1), .val (.int (0 : Int32)), .val (.int (Int32.ofNat mm)), .unset, .unset] [(.int (Int32.ofNat mm)), (.int (0 : Int32))])) _
    refine st1 _ ?_
    refine XS.iloadN X1.here hx rfl (hb hby own_d_jdk_65_method_133_code_5) rfl ?_
    refine XS.iloadN X1.here hx rfl (hb hby own_d_jdk_65_method_133_code_6) rfl ?_
    show Steps p.tables e below (T1.setTop (mkF m 7 #[.val (.ref a1), .val (.int (0 : Int32)), .val (.int (Int32.ofNat mm)), .unset, .unset] [(.int (0 : Int32)), (.int (Int32.ofNat mm))])) _
    refine XS.isub X1.here hx rfl (hb hby own_d_jdk_65_method_133_code_7) rfl ?_
    show Steps p.tables e below (T1.setTop (mkF m 8 #[.val (.ref a1), .val (.int (0 : Int32)), .val (.int (Int32.ofNat mm)), .unset, .unset] [(.int ((Int32.ofNat mm) - (0 : Int32)))])) _
    rw [own_sub0]
    refine XS.istoreN X1.here hx rfl (hb hby own_d_jdk_65_method_133_code_8) rfl (l' := #[.val (.ref a1), .val (.int (0 : Int32)), .val (.int (Int32.ofNat mm)), .val (.int (Int32.ofNat mm)), .unset]) rfl ?_
    refine XS.iloadN X1.here hx rfl (hb hby own_d_jdk_65_method_133_code_9) rfl ?_
    show Steps p.tables e below (T1.setTop (mkF m 10 #[.val (.ref a1), .val (.int (0 : Int32)), .val (.int (Int32.ofNat mm)), .val (.int (Int32.ofNat mm)), .unset] [(.int (Int32.ofNat mm))])) _
    refine st2 _ ?_
    refine XS.astore X2.here hx rfl (hb hby own_d_jdk_65_method_133_code_12) rfl rfl (l' := #[.val (.ref a1), .val (.int (0 : Int32)), .val (.int (Int32.ofNat mm)), .val (.int (Int32.ofNat mm)), .val (.ref b2)]) rfl ?_
    refine XS.aloadN X2.here hx rfl (hb hby own_d_jdk_65_method_133_code_14) rfl rfl ?_
    show Steps p.tables e below (T2.setTop (mkF m 15 #[.val (.ref a1), .val (.int (0 : Int32)), .val (.int (Int32.ofNat mm)), .val (.int (Int32.ofNat mm)), .val (.ref b2)] [(.ref a1)])) _
    refine XS.iloadN X2.here hx rfl (hb hby own_d_jdk_65_method_133_code_15) rfl ?_
    refine XS.aload X2.here hx rfl (hb hby own_d_jdk_65_method_133_code_16) rfl rfl ?_
    refine XS.iconst X2.here hx rfl (hb hby own_d_jdk_65_method_133_code_18) ?_
    show Steps p.tables e below (T2.setTop (mkF m 19 #[.val (.ref a1), .val (.int (0 : Int32)), .val (.int (Int32.ofNat mm)), .val (.int (Int32.ofNat mm)), .val (.ref b2)] [(.int (0 : Int32)), (.ref b2), (.int (0 : Int32)), (.ref a1)])) _
    refine XS.aloadN X2.here hx rfl (hb hby own_d_jdk_65_method_133_code_19) rfl rfl ?_
    show Steps p.tables e below (T2.setTop (mkF m 20 #[.val (.ref a1), .val (.int (0 : Int32)), .val (.int (Int32.ofNat mm)), .val (.int (Int32.ofNat mm)), .val (.ref b2)] [(.ref a1), (.int (0 : Int32)), (.ref b2), (.int (0 : Int32)), (.ref a1)])) _
    refine X2.arraylength hx (by rw [e2]; exact Ar4.1) (State.isArrayOf_alike hZ.alike Ar4.2.1) (g := (mkF m 20 #[.val (.ref a1), .val (.int (0 : Int32)), .val (.int (Int32.ofNat mm)), .val (.int (Int32.ofNat mm)), .val (.ref b2)] [(.ref a1), (.int (0 : Int32)), (.ref b2), (.int (0 : Int32)), (.ref a1)])) rfl rfl (hb hby own_d_jdk_65_method_133_code_20) _ ?_
    rw [len_of S4 N_4]
    refine XS.iloadN X2.here hx rfl (hb hby own_d_jdk_65_method_133_code_21) rfl ?_
    refine XS.isub X2.here hx rfl (hb hby own_d_jdk_65_method_133_code_22) rfl ?_
    show Steps p.tables e below (T2.setTop (mkF m 23 #[.val (.ref a1), .val (.int (0 : Int32)), .val (.int (Int32.ofNat mm)), .val (.int (Int32.ofNat mm)), .val (.ref b2)] [(.int ((16 : Int32) - (0 : Int32))), (.int (0 : Int32)), (.ref b2), (.int (0 : Int32)), (.ref a1)])) _
    refine XS.iloadN X2.here hx rfl (hb hby own_d_jdk_65_method_133_code_23) rfl ?_
    show Steps p.tables e below (T2.setTop (mkF m 24 #[.val (.ref a1), .val (.int (0 : Int32)), .val (.int (Int32.ofNat mm)), .val (.int (Int32.ofNat mm)), .val (.ref b2)] [(.int (Int32.ofNat mm)), (.int ((16 : Int32) - (0 : Int32))), (.int (0 : Int32)), (.ref b2), (.int (0 : Int32)), (.ref a1)])) _
    refine st5 _ ?_
    show Steps p.tables e below (T5.setTop (mkF m 27 #[.val (.ref a1), .val (.int (0 : Int32)), .val (.int (Int32.ofNat mm)), .val (.int (Int32.ofNat mm)), .val (.ref b2)] [(.int (Int32.ofNat mm)), (.int (0 : Int32)), (.ref b2), (.int (0 : Int32)), (.ref a1)])) _
    refine st7 _ ?_
    refine XS.aload X7.here hx rfl (hb hby own_d_jdk_65_method_133_code_30) rfl rfl ?_
    show Steps p.tables e below (T7.setTop (mkF m 32 #[.val (.ref a1), .val (.int (0 : Int32)), .val (.int (Int32.ofNat mm)), .val (.int (Int32.ofNat mm)), .val (.ref b2)] [(.ref b2)])) _
    jvm_step X7.here [X7.here.top, hx, (hb hby own_d_jdk_65_method_133_code_32), X7.method', Bd.returns, Value.isRef, FieldType.isReference]
    first | (intro acts; rw [hr _ acts rfl rfl rfl]) | rw [hr _ _ rfl rfl rfl]
    exact Steps.refl _
  · show QCr Z mm (vd.take mm) h0 n0 _ T7.heap _
    rw [e7]
    exact ⟨b2, ka2, rfl, N7a, K2, sz_b2, Aw7⟩
theorem own_d_jdk_65_method_132_code_0 : decode jdk_65_method_132_code 0 = .ok (.iload_n 1, 1) := by decide +kernel
theorem own_d_jdk_65_method_132_code_1 : decode jdk_65_method_132_code 1 = .ok (.ifCond .ne 9, 3) := by decide +kernel
theorem own_d_jdk_65_method_132_code_4 : decode jdk_65_method_132_code 4 = .ok (.iload_n 2, 1) := by decide +kernel
theorem own_d_jdk_65_method_132_code_5 : decode jdk_65_method_132_code 5 = .ok (.aload_n 0, 1) := by decide +kernel
theorem own_d_jdk_65_method_132_code_6 : decode jdk_65_method_132_code 6 = .ok (.arraylength, 1) := by decide +kernel
theorem own_d_jdk_65_method_132_code_7 : decode jdk_65_method_132_code 7 = .ok (.if_icmp .eq 10, 3) := by decide +kernel
theorem own_d_jdk_65_method_132_code_10 : decode jdk_65_method_132_code 10 = .ok (.aload_n 0, 1) := by decide +kernel
theorem own_d_jdk_65_method_132_code_11 : decode jdk_65_method_132_code 11 = .ok (.iload_n 1, 1) := by decide +kernel
theorem own_d_jdk_65_method_132_code_12 : decode jdk_65_method_132_code 12 = .ok (.iload_n 2, 1) := by decide +kernel
theorem own_d_jdk_65_method_132_code_13 : decode jdk_65_method_132_code 13 = .ok (.invokestatic 339, 3) := by decide +kernel
theorem own_d_jdk_65_method_132_code_16 : decode jdk_65_method_132_code 16 = .ok (.areturn, 1) := by decide +kernel
theorem own_pd___BII__B : parseMethodDescriptor "([BII)[B" = some ⟨[(.array .byte), .int, .int], some (.array .byte)⟩ := by decide +kernel
theorem own_ef_jdk_65_method_132_code_xxx (m : MethodId) (x0 : Addr) (x1 : Int32) (x2 : Int32) : entryFrame m #[(.ref x0), (.int x1), (.int x2)] 3 = mkF m 0 #[.val (.ref x0), .val (.int x1), .val (.int x2)] [] := by first | (simp [entryFrame, mkF, argsToLocals, Value.category]; done) | rfl
set_option maxRecDepth 65536 in
set_option maxHeartbeats 40000000 in
theorem rmCr (l : Launch) (Z : State) (a0 : Array Value) (hw : ∀ d ∈ tables_1, d.before a0 Z = true) (ws : List Jvm.Cond) (a1 : Addr) (kb : ClassId) (mm : Nat) (vd : List Value) (h0 : Heap) (n0 : Nat) (Z0 : n0 ≤ h0.size) (V_a1 : Arv Z h0 a1 kb .byte (16 : Int32) vd (.int (0 : Int32))) (hvd : vd.length = 16) (hm : mm < 16) :
    MetFree l (⟨"java/util/Arrays", "copyOfRange", "([BII)[B"⟩ : MethodName) (head1 (Jvm.Cond.code (⟨"java/util/Arrays", "copyOfRange", "([BII)[B"⟩ : MethodName) jdk_65_method_132_code 3 (some (.array .byte)) :: ws) ({ frames := 2, cells := 1, slots := 16, locals := 60 } : Room)) (fun a U => a = #[(.ref a1), (.int (0 : Int32)), (.int (Int32.ofNat mm))] ∧ Z.Warmed39 U.vm ∧ U.heap = h0) (fun _ _ _ _ _ => True) (fun _ U o U' => ∃ v L, o = .returned v ∧ QCr Z mm (vd.take mm) h0 n0 v U'.heap L ∧ FrameEnd U o U' L 1 16) := by
  refine MetFree.of_bodySF (plainFor_of_name own_pn_java_util_Arrays) hisR ?_
  intro p e s m args below meth c s₁ Bd hml0 hP hK
  obtain ⟨rfl, hZ, hh⟩ := hP
  have hx := Bd.exec
  have hby := Bd.bytes
  have hml : c.maxLocals = 3 := hml0
  have hown : s.vm.findClass "java/util/Arrays" = some m.cls := findClass_of_methodNamed Bd.named
  have hnm := (name_of_methodNamed Bd.named Bd.method).1
  have X0 : Stand p l e ({ frames := 2, cells := 1, slots := 16, locals := 60 } : Room) s m #[(.ref a1), (.int (0 : Int32)), (.int (Int32.ofNat mm))] below meth c s₁ [] 0 0 := Stand.of_body Bd
  have e0 : s₁.heap = h0 := by rw [← hh, Bd.state]; rfl
  have N0 := Fr.nil n0
  have pre0 : ∀ t, Steps p.tables e below (s₁.setTop (mkF m 0 #[.val (.ref a1), .val (.int (0 : Int32)), .val (.int (Int32.ofNat mm))] [])) t → Steps p.tables e below (s₁.setTop (entryFrame m #[(.ref a1), (.int (0 : Int32)), (.int (Int32.ofNat mm))] 3)) t := fun t k => castTop (own_ef_jdk_65_method_132_code_xxx m a1 (0 : Int32) (Int32.ofNat mm)) k
  obtain ⟨cl1, Ar1, q1, S1, N_1, H_1, G1⟩ := id V_a1
  obtain ⟨_, _, ⟨T2, L2, k2, n2⟩, -, X2, ⟨Lc2, hQ2, l2, y2, z2⟩, st2⟩ := Jvm.LawKit.callS X0 hx (y := (⟨"java/util/Arrays", "copyOfRangeByte", "([BII)[B"⟩ : MethodName)) hown (mvT hZ (hw _ (List.mem_of_getElem? (i := 143) rfl))) (mvT hZ (hw _ (List.mem_of_getElem? (i := 144) rfl))) (mvT hZ (hw _ (List.mem_of_getElem? (i := 141) rfl))) (mvT hZ (hw _ (List.mem_of_getElem? (i := 145) rfl))) (by decide) (backOf (W := 0) (rmCb l Z a0 hw [] a1 kb mm vd h0 n0 (Nat.le_trans Z0 (Keep.refl h0 []).1) V_a1 hvd hm) hZ (hw _ (List.mem_of_getElem? (i := 145) rfl)) (hw _ (List.mem_of_getElem? (i := 141) rfl)) (by decide) (by decide)) (g := (mkF m 13 #[.val (.ref a1), .val (.int (0 : Int32)), .val (.int (Int32.ofNat mm))] [(.int (Int32.ofNat mm)), (.int (0 : Int32)), (.ref a1)])) rfl (by rw [hml]; rfl) (argsL := [(.ref a1), (.int (0 : Int32)), (.int (Int32.ofNat mm))]) (rest := []) (lenOf own_pd___BII__B rfl) rfl (by show 2 * 0 + _ ≤ _; exact Nat.le_of_eq rfl) (hb hby own_d_jdk_65_method_132_code_13) (fun _ _ => ⟨rfl, e0, (by decide : 0 + 1 ≤ _), (by decide : 0 + 16 ≤ _)⟩)
  dsimp only [Pt.U, Pt.locs, Pt.cells, Pt.slots] at X2 l2 y2 z2 st2 hQ2
  subst l2 y2 z2
  obtain ⟨t2, tk2, rfl, N2q, K2q, ts2, Ta2⟩ := hQ2
  have N2a := Fr.app N0 N2q
  have K1 : Keep h0 T2.heap [] := (Keep.refl h0 []).trans K2q all0
  have sz_t2 : h0.size ≤ t2 := Nat.le_trans (Keep.refl h0 []).1 ts2
  have g_t2 : n0 ≤ t2 := Nat.le_trans Z0 sz_t2
  obtain ⟨fs, hr, hrun, hended, hW, hsame⟩ := X2.leave (v := some (.ref t2)) (fun h => by rw [Bd.returns] at h; cases h)
  refine ⟨_, _, pre0 _ ?_, hrun, hended, _, _, rfl, ?_, ⟨_, rfl⟩, hW, hsame.mono (by decide) (by decide)⟩
  · show Steps p.tables e below (s₁.setTop (mkF m 0 #[.val (.ref a1), .val (.int (0 : Int32)), .val (.int (Int32.ofNat mm))] [])) _
    refine XS.iloadN X0.here hx rfl (hb hby own_d_jdk_65_method_132_code_0) rfl ?_
    show Steps p.tables e below (s₁.setTop (mkF m 1 #[.val (.ref a1), .val (.int (0 : Int32)), .val (.int (Int32.ofNat mm))] [(.int (0 : Int32))])) _
    refine XS.ifNo X0.here hx rfl (hb hby own_d_jdk_65_method_132_code_1) rfl ((if0 _ _).trans (teq (rfl : (0 : Int32) = (0 : Int32))).2) ?_
    refine XS.iloadN X0.here hx rfl (hb hby own_d_jdk_65_method_132_code_4) rfl ?_
    refine XS.aloadN X0.here hx rfl (hb hby own_d_jdk_65_method_132_code_5) rfl rfl ?_
    show Steps p.tables e below (s₁.setTop (mkF m 6 #[.val (.ref a1), .val (.int (0 : Int32)), .val (.int (Int32.ofNat mm))] [(.ref a1), (.int (Int32.ofNat mm))])) _
    refine X0.arraylength hx (by rw [e0]; exact Ar1.1) (State.isArrayOf_alike hZ.alike Ar1.2.1) (g := (mkF m 6 #[.val (.ref a1), .val (.int (0 : Int32)), .val (.int (Int32.ofNat mm))] [(.ref a1), (.int (Int32.ofNat mm))])) rfl rfl (hb hby own_d_jdk_65_method_132_code_6) _ ?_
    rw [len_of S1 N_1]
    show Steps p.tables e below (s₁.setTop (mkF m 7 #[.val (.ref a1), .val (.int (0 : Int32)), .val (.int (Int32.ofNat mm))] [(.int (16 : Int32)), (.int (Int32.ofNat mm))])) _
    refine XS.icmpNo X0.here hx rfl (hb hby own_d_jdk_65_method_132_code_7) rfl (feq (own_ne16 hm : ¬ ((Int32.ofNat mm) = (16 : Int32)))).1 ?_
    refine XS.aloadN X0.here hx rfl (hb hby own_d_jdk_65_method_132_code_10) rfl rfl ?_
    refine XS.iloadN X0.here hx rfl (hb hby own_d_jdk_65_method_132_code_11) rfl ?_
    show Steps p.tables e below (s₁.setTop (mkF m 12 #[.val (.ref a1), .val (.int (0 : Int32)), .val (.int (Int32.ofNat mm))] [(.int (0 : Int32)), (.ref a1)])) _
    refine XS.iloadN X0.here hx rfl (hb hby own_d_jdk_65_method_132_code_12) rfl ?_
    show Steps p.tables e below (s₁.setTop (mkF m 13 #[.val (.ref a1), .val (.int (0 : Int32)), .val (.int (Int32.ofNat mm))] [(.int (Int32.ofNat mm)), (.int (0 : Int32)), (.ref a1)])) _
    refine st2 _ ?_
    show Steps p.tables e below (T2.setTop (mkF m 16 #[.val (.ref a1), .val (.int (0 : Int32)), .val (.int (Int32.ofNat mm))] [(.ref t2)])) _
    jvm_step X2.here [X2.here.top, hx, (hb hby own_d_jdk_65_method_132_code_16), X2.method', Bd.returns, Value.isRef, FieldType.isReference]
    first | (intro acts; rw [hr _ acts rfl rfl rfl]) | rw [hr _ _ rfl rfl rfl]
    exact Steps.refl _
  · show QCr Z mm (vd.take mm) h0 n0 _ T2.heap _
    exact ⟨t2, tk2, rfl, N2a, K1, sz_t2, Ta2⟩
theorem own_d_jdk_68_method_64_code_0 : decode jdk_68_method_64_code 0 = .ok (.aload_n 0, 1) := by decide +kernel
theorem own_d_jdk_68_method_64_code_1 : decode jdk_68_method_64_code 1 = .ok (.getfield 15, 3) := by decide +kernel
theorem own_d_jdk_68_method_64_code_4 : decode jdk_68_method_64_code 4 = .ok (.areturn, 1) := by decide +kernel
theorem own_ef_jdk_68_method_64_code_x (m : MethodId) (x0 : Addr) : entryFrame m #[(.ref x0)] 1 = mkF m 0 #[.val (.ref x0)] [] := by first | (simp [entryFrame, mkF, argsToLocals, Value.category]; done) | rfl
set_option maxRecDepth 65536 in
set_option maxHeartbeats 40000000 in
theorem rmGv (l : Launch) (Z : State) (a0 : Array Value) (hw : ∀ d ∈ tables_1, d.before a0 Z = true) (ws : List Jvm.Cond) (a1 b : Addr) (h0 : Heap) (n0 : Nat) (Z0 : n0 ≤ h0.size) (F_value_a1 : Fld Z h0 a1 "java/lang/AbstractStringBuilder" "value" "[B" (.ref b)) :
    MetFree l (⟨"java/lang/AbstractStringBuilder", "getValue", "()[B"⟩ : MethodName) (head1 (Jvm.Cond.code (⟨"java/lang/AbstractStringBuilder", "getValue", "()[B"⟩ : MethodName) jdk_68_method_64_code 1 (some (.array .byte)) :: ws) ({ frames := 0, cells := 0, slots := 0, locals := 0 } : Room)) (fun a U => a = #[(.ref a1)] ∧ Z.Warmed39 U.vm ∧ U.heap = h0) (fun _ _ _ _ _ => True) (fun _ U o U' => ∃ v L, o = .returned v ∧ QN b h0 n0 v U'.heap L ∧ FrameEnd U o U' L 0 0) := by
  refine MetFree.of_bodySF (plainFor_of_name own_pn_java_lang_AbstractStringBuilder) hisR ?_
  intro p e s m args below meth c s₁ Bd hml0 hP hK
  obtain ⟨rfl, hZ, hh⟩ := hP
  have hx := Bd.exec
  have hby := Bd.bytes
  have hml : c.maxLocals = 1 := hml0
  have hown : s.vm.findClass "java/lang/AbstractStringBuilder" = some m.cls := findClass_of_methodNamed Bd.named
  have hnm := (name_of_methodNamed Bd.named Bd.method).1
  have X0 : Stand p l e ({ frames := 0, cells := 0, slots := 0, locals := 0 } : Room) s m #[(.ref a1)] below meth c s₁ [] 0 0 := Stand.of_body Bd
  have e0 : s₁.heap = h0 := by rw [← hh, Bd.state]; rfl
  have N0 := Fr.nil n0
  have pre0 : ∀ t, Steps p.tables e below (s₁.setTop (mkF m 0 #[.val (.ref a1)] [])) t → Steps p.tables e below (s₁.setTop (entryFrame m #[(.ref a1)] 1)) t := fun t k => castTop (own_ef_jdk_68_method_64_code_x m a1) k
  obtain ⟨T1, X1, e1, st1⟩ := getF X0 hx hZ hown (host := "") (Or.inl (hw _ (List.mem_of_getElem? (i := 56) rfl))) Via.refl e0 F_value_a1 (g := (mkF m 1 #[.val (.ref a1)] [(.ref a1)])) rfl rfl (hb hby own_d_jdk_68_method_64_code_1)
  obtain ⟨fs, hr, hrun, hended, hW, hsame⟩ := X1.leave (v := some (.ref b)) (fun h => by rw [Bd.returns] at h; cases h)
  refine ⟨_, _, pre0 _ ?_, hrun, hended, _, _, rfl, ?_, ⟨_, rfl⟩, hW, hsame.mono (by decide) (by decide)⟩
  · show Steps p.tables e below (s₁.setTop (mkF m 0 #[.val (.ref a1)] [])) _
    refine XS.aloadN X0.here hx rfl (hb hby own_d_jdk_68_method_64_code_0) rfl rfl ?_
    show Steps p.tables e below (s₁.setTop (mkF m 1 #[.val (.ref a1)] [(.ref a1)])) _
    refine st1 _ ?_
    show Steps p.tables e below (T1.setTop (mkF m 4 #[.val (.ref a1)] [(.ref b)])) _
    jvm_step X1.here [X1.here.top, hx, (hb hby own_d_jdk_68_method_64_code_4), X1.method', Bd.returns, Value.isRef, FieldType.isReference]
    first | (intro acts; rw [hr _ acts rfl rfl rfl]) | rw [hr _ _ rfl rfl rfl]
    exact Steps.refl _
  · show QN b h0 n0 _ T1.heap _
    rw [e1]
    exact ⟨rfl, N0, rfl⟩
theorem own_d_jdk_68_method_6_code_0 : decode jdk_68_method_6_code 0 = .ok (.aload_n 0, 1) := by decide +kernel
theorem own_d_jdk_68_method_6_code_1 : decode jdk_68_method_6_code 1 = .ok (.getfield 79, 3) := by decide +kernel
theorem own_d_jdk_68_method_6_code_4 : decode jdk_68_method_6_code 4 = .ok (.ireturn, 1) := by decide +kernel
theorem own_ef_jdk_68_method_6_code_x (m : MethodId) (x0 : Addr) : entryFrame m #[(.ref x0)] 1 = mkF m 0 #[.val (.ref x0)] [] := by first | (simp [entryFrame, mkF, argsToLocals, Value.category]; done) | rfl
set_option maxRecDepth 65536 in
set_option maxHeartbeats 40000000 in
theorem rmAl (l : Launch) (Z : State) (a0 : Array Value) (hw : ∀ d ∈ tables_1, d.before a0 Z = true) (ws : List Jvm.Cond) (a1 : Addr) (p2 : Int32) (h0 : Heap) (n0 : Nat) (Z0 : n0 ≤ h0.size) (F_count_a1 : Fld Z h0 a1 "java/lang/AbstractStringBuilder" "count" "I" (.int p2)) :
    MetFree l (⟨"java/lang/AbstractStringBuilder", "length", "()I"⟩ : MethodName) (head1 (Jvm.Cond.code (⟨"java/lang/AbstractStringBuilder", "length", "()I"⟩ : MethodName) jdk_68_method_6_code 1 (some .int) :: ws) ({ frames := 0, cells := 0, slots := 0, locals := 0 } : Room)) (fun a U => a = #[(.ref a1)] ∧ Z.Warmed39 U.vm ∧ U.heap = h0) (fun _ _ _ _ _ => True) (fun _ U o U' => ∃ v L, o = .returned v ∧ QB p2 h0 n0 v U'.heap L ∧ FrameEnd U o U' L 0 0) := by
  refine MetFree.of_bodySF (plainFor_of_name own_pn_java_lang_AbstractStringBuilder) hisR ?_
  intro p e s m args below meth c s₁ Bd hml0 hP hK
  obtain ⟨rfl, hZ, hh⟩ := hP
  have hx := Bd.exec
  have hby := Bd.bytes
  have hml : c.maxLocals = 1 := hml0
  have hown : s.vm.findClass "java/lang/AbstractStringBuilder" = some m.cls := findClass_of_methodNamed Bd.named
  have hnm := (name_of_methodNamed Bd.named Bd.method).1
  have X0 : Stand p l e ({ frames := 0, cells := 0, slots := 0, locals := 0 } : Room) s m #[(.ref a1)] below meth c s₁ [] 0 0 := Stand.of_body Bd
  have e0 : s₁.heap = h0 := by rw [← hh, Bd.state]; rfl
  have N0 := Fr.nil n0
  have pre0 : ∀ t, Steps p.tables e below (s₁.setTop (mkF m 0 #[.val (.ref a1)] [])) t → Steps p.tables e below (s₁.setTop (entryFrame m #[(.ref a1)] 1)) t := fun t k => castTop (own_ef_jdk_68_method_6_code_x m a1) k
  obtain ⟨T1, X1, e1, st1⟩ := getF X0 hx hZ hown (host := "") (Or.inl (hw _ (List.mem_of_getElem? (i := 81) rfl))) Via.refl e0 F_count_a1 (g := (mkF m 1 #[.val (.ref a1)] [(.ref a1)])) rfl rfl (hb hby own_d_jdk_68_method_6_code_1)
  obtain ⟨fs, hr, hrun, hended, hW, hsame⟩ := X1.leave (v := some (.int p2)) (fun h => by rw [Bd.returns] at h; cases h)
  refine ⟨_, _, pre0 _ ?_, hrun, hended, _, _, rfl, ?_, ⟨_, rfl⟩, hW, hsame.mono (by decide) (by decide)⟩
  · show Steps p.tables e below (s₁.setTop (mkF m 0 #[.val (.ref a1)] [])) _
    refine XS.aloadN X0.here hx rfl (hb hby own_d_jdk_68_method_6_code_0) rfl rfl ?_
    show Steps p.tables e below (s₁.setTop (mkF m 1 #[.val (.ref a1)] [(.ref a1)])) _
    refine st1 _ ?_
    show Steps p.tables e below (T1.setTop (mkF m 4 #[.val (.ref a1)] [(.int p2)])) _
    exact retI X1 hx Bd.returns (hb hby own_d_jdk_68_method_6_code_4) hr
  · show QB p2 h0 n0 _ T1.heap _
    rw [e1]
    exact ⟨rfl, N0, rfl⟩
theorem own_d_jdk_67_method_93_code_0 : decode jdk_67_method_93_code 0 = .ok (.aload_n 0, 1) := by decide +kernel
theorem own_d_jdk_67_method_93_code_1 : decode jdk_67_method_93_code 1 = .ok (.invokespecial 343, 3) := by decide +kernel
theorem own_d_jdk_67_method_93_code_4 : decode jdk_67_method_93_code 4 = .ok (.ireturn, 1) := by decide +kernel
theorem own_ef_jdk_67_method_93_code_x (m : MethodId) (x0 : Addr) : entryFrame m #[(.ref x0)] 1 = mkF m 0 #[.val (.ref x0)] [] := by first | (simp [entryFrame, mkF, argsToLocals, Value.category]; done) | rfl
set_option maxRecDepth 65536 in
set_option maxHeartbeats 40000000 in
theorem rmSl (l : Launch) (Z : State) (a0 : Array Value) (hw : ∀ d ∈ tables_1, d.before a0 Z = true) (ws : List Jvm.Cond) (a1 : Addr) (p2 : Int32) (h0 : Heap) (n0 : Nat) (Z0 : n0 ≤ h0.size) (E_a1 : Exa Z h0 a1 "java/lang/StringBuilder") (F_count_a1 : Fld Z h0 a1 "java/lang/AbstractStringBuilder" "count" "I" (.int p2)) :
    MetFree l (⟨"java/lang/StringBuilder", "length", "()I"⟩ : MethodName) (head1 (Jvm.Cond.code (⟨"java/lang/StringBuilder", "length", "()I"⟩ : MethodName) jdk_67_method_93_code 1 (some .int) :: ws) ({ frames := 1, cells := 0, slots := 0, locals := 14 } : Room)) (fun a U => a = #[(.ref a1)] ∧ Z.Warmed39 U.vm ∧ U.heap = h0) (fun _ _ _ _ _ => True) (fun _ U o U' => ∃ v L, o = .returned v ∧ QB p2 h0 n0 v U'.heap L ∧ FrameEnd U o U' L 0 0) := by
  refine MetFree.of_bodySF (plainFor_of_name own_pn_java_lang_StringBuilder) hisR ?_
  intro p e s m args below meth c s₁ Bd hml0 hP hK
  obtain ⟨rfl, hZ, hh⟩ := hP
  have hx := Bd.exec
  have hby := Bd.bytes
  have hml : c.maxLocals = 1 := hml0
  have hown : s.vm.findClass "java/lang/StringBuilder" = some m.cls := findClass_of_methodNamed Bd.named
  have hnm := (name_of_methodNamed Bd.named Bd.method).1
  have X0 : Stand p l e ({ frames := 1, cells := 0, slots := 0, locals := 14 } : Room) s m #[(.ref a1)] below meth c s₁ [] 0 0 := Stand.of_body Bd
  have e0 : s₁.heap = h0 := by rw [← hh, Bd.state]; rfl
  have N0 := Fr.nil n0
  have pre0 : ∀ t, Steps p.tables e below (s₁.setTop (mkF m 0 #[.val (.ref a1)] [])) t → Steps p.tables e below (s₁.setTop (entryFrame m #[(.ref a1)] 1)) t := fun t k => castTop (own_ef_jdk_67_method_93_code_x m a1) k
  obtain ⟨_, _, ⟨T1, L1, k1, n1⟩, -, X1, ⟨Lc1, hQ1, l1, y1, z1⟩, st1⟩ := superBack X0 hx hZ (y := (⟨"java/lang/AbstractStringBuilder", "length", "()I"⟩ : MethodName)) hown (hw _ (List.mem_of_getElem? (i := 132) rfl)) (own_same (y2 := (⟨"java/lang/AbstractStringBuilder", "length", "()I"⟩ : MethodName)) (hw _ (List.mem_of_getElem? (i := 127) rfl)) (own_nf (notFace_of_selects (args := a0) (hw _ (List.mem_of_getElem? (i := 124) rfl))) (own_named (hw _ (List.mem_of_getElem? (i := 122) rfl))) rfl) (by decide)) (hw _ (List.mem_of_getElem? (i := 128) rfl)) (hw _ (List.mem_of_getElem? (i := 67) rfl)) (by decide) (backOf (W := 0) (rmAl l Z a0 hw [] a1 p2 h0 n0 (Nat.le_trans Z0 (Keep.refl h0 []).1) F_count_a1) hZ (hw _ (List.mem_of_getElem? (i := 133) rfl)) (hw _ (List.mem_of_getElem? (i := 52) rfl)) (by decide) (by decide)) e0 (Ins.self E_a1) (g := (mkF m 1 #[.val (.ref a1)] [(.ref a1)])) rfl (by rw [hml]; rfl) (hw _ (List.mem_of_getElem? (i := 133) rfl)) (argsL := []) (rest := []) (lenOf own_pd___I rfl) rfl (by show 2 * 0 + _ ≤ _; exact Nat.le_of_eq rfl) (hb hby own_d_jdk_67_method_93_code_1) (fun _ _ => ⟨rfl, e0, (by decide : 0 + 0 ≤ _), (by decide : 0 + 0 ≤ _)⟩)
  dsimp only [Pt.U, Pt.locs, Pt.cells, Pt.slots] at X1 l1 y1 z1 st1 hQ1
  subst l1 y1 z1
  obtain ⟨rfl, N1q, e1q⟩ := hQ1
  have N1a := Fr.app N0 N1q
  obtain ⟨fs, hr, hrun, hended, hW, hsame⟩ := X1.leave (v := some (.int p2)) (fun h => by rw [Bd.returns] at h; cases h)
  refine ⟨_, _, pre0 _ ?_, hrun, hended, _, _, rfl, ?_, ⟨_, rfl⟩, hW, hsame.mono (by decide) (by decide)⟩
  · show Steps p.tables e below (s₁.setTop (mkF m 0 #[.val (.ref a1)] [])) _
    refine XS.aloadN X0.here hx rfl (hb hby own_d_jdk_67_method_93_code_0) rfl rfl ?_
    show Steps p.tables e below (s₁.setTop (mkF m 1 #[.val (.ref a1)] [(.ref a1)])) _
    refine st1.trans ?_
    show Steps p.tables e below (T1.setTop (mkF m 4 #[.val (.ref a1)] [(.int p2)])) _
    exact retI X1 hx Bd.returns (hb hby own_d_jdk_67_method_93_code_4) hr
  · show QB p2 h0 n0 _ T1.heap _
    rw [e1q]
    exact ⟨rfl, N1a, rfl⟩
theorem own_d_jdk_68_method_68_code_0 : decode jdk_68_method_68_code 0 = .ok (.getstatic 18, 3) := by decide +kernel
theorem own_d_jdk_68_method_68_code_3 : decode jdk_68_method_68_code 3 = .ok (.ifCond .eq 14, 3) := by decide +kernel
theorem own_d_jdk_68_method_68_code_6 : decode jdk_68_method_68_code 6 = .ok (.aload_n 0, 1) := by decide +kernel
theorem own_d_jdk_68_method_68_code_7 : decode jdk_68_method_68_code 7 = .ok (.getfield 22, 3) := by decide +kernel
theorem own_d_jdk_68_method_68_code_10 : decode jdk_68_method_68_code 10 = .ok (.ifCond .ne 7, 3) := by decide +kernel
theorem own_d_jdk_68_method_68_code_13 : decode jdk_68_method_68_code 13 = .ok (.iconst 1, 1) := by decide +kernel
theorem own_d_jdk_68_method_68_code_14 : decode jdk_68_method_68_code 14 = .ok (.goto 4, 3) := by decide +kernel
theorem own_d_jdk_68_method_68_code_18 : decode jdk_68_method_68_code 18 = .ok (.ireturn, 1) := by decide +kernel
theorem own_ef_jdk_68_method_68_code_x (m : MethodId) (x0 : Addr) : entryFrame m #[(.ref x0)] 1 = mkF m 0 #[.val (.ref x0)] [] := by first | (simp [entryFrame, mkF, argsToLocals, Value.category]; done) | rfl
set_option maxRecDepth 65536 in
set_option maxHeartbeats 40000000 in
theorem rmIl (l : Launch) (Z : State) (a0 : Array Value) (hw : ∀ d ∈ tables_1, d.before a0 Z = true) (ws : List Jvm.Cond) (a1 : Addr) (G1 : Int32) (G3 : Value) (h0 : Heap) (n0 : Nat) (Z0 : n0 ≤ h0.size) (O2 : Sta Z Z.heap "java/lang/String" "COMPACT_STRINGS" "Z" (.int G1)) (P5 : ¬ (G1 = (0 : Int32))) (O4 : Sta Z Z.heap "jdk/internal/util/Preconditions" "SIOOBE_FORMATTER" "Ljava/util/function/BiFunction;" G3) (rG3 : G3.isRef = true) (O0 : Old Z n0 h0) (F_coder_a1 : Fld Z h0 a1 "java/lang/AbstractStringBuilder" "coder" "B" (.int (0 : Int32))) :
    MetFree l (⟨"java/lang/AbstractStringBuilder", "isLatin1", "()Z"⟩ : MethodName) (head1 (Jvm.Cond.code (⟨"java/lang/AbstractStringBuilder", "isLatin1", "()Z"⟩ : MethodName) jdk_68_method_68_code 1 (some .boolean) :: ws) ({ frames := 0, cells := 0, slots := 0, locals := 0 } : Room)) (fun a U => a = #[(.ref a1)] ∧ Z.Warmed39 U.vm ∧ U.heap = h0) (fun _ _ _ _ _ => True) (fun _ U o U' => ∃ v L, o = .returned v ∧ QB 1 h0 n0 v U'.heap L ∧ FrameEnd U o U' L 0 0) := by
  refine MetFree.of_bodySF (plainFor_of_name own_pn_java_lang_AbstractStringBuilder) hisR ?_
  intro p e s m args below meth c s₁ Bd hml0 hP hK
  obtain ⟨rfl, hZ, hh⟩ := hP
  have hx := Bd.exec
  have hby := Bd.bytes
  have hml : c.maxLocals = 1 := hml0
  have hown : s.vm.findClass "java/lang/AbstractStringBuilder" = some m.cls := findClass_of_methodNamed Bd.named
  have hnm := (name_of_methodNamed Bd.named Bd.method).1
  have X0 : Stand p l e ({ frames := 0, cells := 0, slots := 0, locals := 0 } : Room) s m #[(.ref a1)] below meth c s₁ [] 0 0 := Stand.of_body Bd
  have e0 : s₁.heap = h0 := by rw [← hh, Bd.state]; rfl
  have N0 := Fr.nil n0
  have pre0 : ∀ t, Steps p.tables e below (s₁.setTop (mkF m 0 #[.val (.ref a1)] [])) t → Steps p.tables e below (s₁.setTop (entryFrame m #[(.ref a1)] 1)) t := fun t k => castTop (own_ef_jdk_68_method_68_code_x m a1) k
  obtain ⟨T1, X1, e1, st1⟩ := getS2 X0 hx hZ hown (host := "") (Or.inl (hw _ (List.mem_of_getElem? (i := 55) rfl))) Via.refl e0 (O2.ext O0.2) (g := (mkF m 0 #[.val (.ref a1)] [])) rfl (hb hby own_d_jdk_68_method_68_code_0)
  obtain ⟨T2, X2, e2, st2⟩ := getF X1 hx hZ hown (host := "") (Or.inl (hw _ (List.mem_of_getElem? (i := 58) rfl))) Via.refl e1 F_coder_a1 (g := (mkF m 7 #[.val (.ref a1)] [(.ref a1)])) rfl rfl (hb hby own_d_jdk_68_method_68_code_7)
  obtain ⟨fs, hr, hrun, hended, hW, hsame⟩ := X2.leave (v := some (.int (1 : Int32))) (fun h => by rw [Bd.returns] at h; cases h)
  refine ⟨_, _, pre0 _ ?_, hrun, hended, _, _, rfl, ?_, ⟨_, rfl⟩, hW, hsame.mono (by decide) (by decide)⟩
  · show Steps p.tables e below (s₁.setTop (mkF m 0 #[.val (.ref a1)] [])) _
    refine st1 _ ?_
    show Steps p.tables e below (T1.setTop (mkF m 3 #[.val (.ref a1)] [(.int G1)])) _
    refine XS.ifNo X1.here hx rfl (hb hby own_d_jdk_68_method_68_code_3) rfl ((if0 _ _).trans (feq (P5 : ¬ (G1 = (0 : Int32)))).1) ?_
    refine XS.aloadN X1.here hx rfl (hb hby own_d_jdk_68_method_68_code_6) rfl rfl ?_
    show Steps p.tables e below (T1.setTop (mkF m 7 #[.val (.ref a1)] [(.ref a1)])) _
    refine st2 _ ?_
    show Steps p.tables e below (T2.setTop (mkF m 10 #[.val (.ref a1)] [(.int (0 : Int32))])) _
    refine XS.ifNo X2.here hx rfl (hb hby own_d_jdk_68_method_68_code_10) rfl ((if0 _ _).trans (teq (rfl : (0 : Int32) = (0 : Int32))).2) ?_
    refine XS.iconst X2.here hx rfl (hb hby own_d_jdk_68_method_68_code_13) ?_
    refine XS.goto X2.here hx rfl (pc0 := 14) (pc' := 18) rfl (hb hby own_d_jdk_68_method_68_code_14) (by decide) (by decide) ?_
    show Steps p.tables e below (T2.setTop (mkF m 18 #[.val (.ref a1)] [(.int (1 : Int32))])) _
    exact retN X2 hx (t := .boolean) Bd.returns (by simp) (hb hby own_d_jdk_68_method_68_code_18) hr
  · show QB 1 h0 n0 _ T2.heap _
    rw [e2]
    exact ⟨rfl, N0, rfl⟩
def QSt (Z : State) (a1 : Addr) (cs : List Int32) (h0 : Heap) (n0 : Nat) (v : Option Value) (h : Heap) (L : List Loc) : Prop := v = none ∧ Fr n0 L ∧ Keep h0 h [a1] ∧ StrV Z h a1 cs
def QSr (Z : State) (cs : List Int32) (h0 : Heap) (n0 : Nat) (v : Option Value) (h : Heap) (L : List Loc) : Prop := ∃ b : Addr, v = some (.ref b) ∧ Fr n0 L ∧ Keep h0 h [] ∧ StrV Z h b cs
theorem own_mk {Z : State} {h : Heap} {a t : Addr} {kb : ClassId} {cs : List Int32} {us : List Value} (hp : ∀ c ∈ cs, ¬ c < 0 ∧ ¬ (255 : Int32) < c) (E : Exa Z h a "java/lang/String") (C : Fld Z h a "java/lang/String" "coder" "B" (.int (0 : Int32))) (V : Fld Z h a "java/lang/String" "value" "[B" (.ref t)) (A : Arv Z h t kb .byte (Int32.ofNat cs.length) us (.int (0 : Int32))) (e : us = cs.map own_lo) : StrV Z h a cs := by
  subst e
  exact ⟨t, kb, _, _, E, V, C, A, Or.inl ⟨rfl, rfl, rfl, fun c hc => (hp c hc).2⟩, own_up cs hp⟩
theorem own_d_jdk_42_method_150_code_0 : decode jdk_42_method_150_code 0 = .ok (.aload_n 0, 1) := by decide +kernel
theorem own_d_jdk_42_method_150_code_1 : decode jdk_42_method_150_code 1 = .ok (.invokespecial 1, 3) := by decide +kernel
theorem own_d_jdk_42_method_150_code_4 : decode jdk_42_method_150_code 4 = .ok (.aload_n 1, 1) := by decide +kernel
theorem own_d_jdk_42_method_150_code_5 : decode jdk_42_method_150_code 5 = .ok (.invokevirtual 552, 3) := by decide +kernel
theorem own_d_jdk_42_method_150_code_8 : decode jdk_42_method_150_code 8 = .ok (.astore_n 3, 1) := by decide +kernel
theorem own_d_jdk_42_method_150_code_9 : decode jdk_42_method_150_code 9 = .ok (.aload_n 1, 1) := by decide +kernel
theorem own_d_jdk_42_method_150_code_10 : decode jdk_42_method_150_code 10 = .ok (.invokevirtual 549, 3) := by decide +kernel
theorem own_d_jdk_42_method_150_code_13 : decode jdk_42_method_150_code 13 = .ok (.istore 4, 2) := by decide +kernel
theorem own_d_jdk_42_method_150_code_15 : decode jdk_42_method_150_code 15 = .ok (.aload_n 1, 1) := by decide +kernel
theorem own_d_jdk_42_method_150_code_16 : decode jdk_42_method_150_code 16 = .ok (.invokevirtual 1047, 3) := by decide +kernel
theorem own_d_jdk_42_method_150_code_19 : decode jdk_42_method_150_code 19 = .ok (.ifCond .eq 22, 3) := by decide +kernel
theorem own_d_jdk_42_method_150_code_22 : decode jdk_42_method_150_code 22 = .ok (.aload_n 0, 1) := by decide +kernel
theorem own_d_jdk_42_method_150_code_23 : decode jdk_42_method_150_code 23 = .ok (.iconst 0, 1) := by decide +kernel
theorem own_d_jdk_42_method_150_code_24 : decode jdk_42_method_150_code 24 = .ok (.putfield 15, 3) := by decide +kernel
theorem own_d_jdk_42_method_150_code_27 : decode jdk_42_method_150_code 27 = .ok (.aload_n 0, 1) := by decide +kernel
theorem own_d_jdk_42_method_150_code_28 : decode jdk_42_method_150_code 28 = .ok (.aload_n 3, 1) := by decide +kernel
theorem own_d_jdk_42_method_150_code_29 : decode jdk_42_method_150_code 29 = .ok (.iconst 0, 1) := by decide +kernel
theorem own_d_jdk_42_method_150_code_30 : decode jdk_42_method_150_code 30 = .ok (.iload 4, 2) := by decide +kernel
theorem own_d_jdk_42_method_150_code_32 : decode jdk_42_method_150_code 32 = .ok (.invokestatic 54, 3) := by decide +kernel
theorem own_d_jdk_42_method_150_code_35 : decode jdk_42_method_150_code 35 = .ok (.putfield 9, 3) := by decide +kernel
theorem own_d_jdk_42_method_150_code_38 : decode jdk_42_method_150_code 38 = .ok (.goto 59, 3) := by decide +kernel
theorem own_d_jdk_42_method_150_code_97 : decode jdk_42_method_150_code 97 = .ok (.return_, 1) := by decide +kernel
theorem own_pd____B : parseMethodDescriptor "()[B" = some ⟨[], some (.array .byte)⟩ := by decide +kernel
theorem own_pd___Z : parseMethodDescriptor "()Z" = some ⟨[], some .boolean⟩ := by decide +kernel
theorem own_ef_jdk_42_method_150_code_xxn (m : MethodId) (x0 : Addr) (x1 : Addr) : entryFrame m #[(.ref x0), (.ref x1), .null] 5 = mkF m 0 #[.val (.ref x0), .val (.ref x1), .val .null, .unset, .unset] [] := by first | (simp [entryFrame, mkF, argsToLocals, Value.category]; done) | rfl
set_option maxRecDepth 65536 in
set_option maxHeartbeats 40000000 in
theorem rmIa (l : Launch) (Z : State) (a0 : Array Value) (hw : ∀ d ∈ tables_1, d.before a0 Z = true) (ws : List Jvm.Cond) (a1 a2 b : Addr) (kb : ClassId) (vd : List Value) (cs : List Int32) (uv uc : Value) (G1 : Int32) (G3 : Value) (h0 : Heap) (n0 : Nat) (Z0 : n0 ≤ h0.size) (O2 : Sta Z Z.heap "java/lang/String" "COMPACT_STRINGS" "Z" (.int G1)) (P5 : ¬ (G1 = (0 : Int32))) (O4 : Sta Z Z.heap "jdk/internal/util/Preconditions" "SIOOBE_FORMATTER" "Ljava/util/function/BiFunction;" G3) (rG3 : G3.isRef = true) (O0 : Old Z n0 h0) (E_a1 : Exa Z h0 a1 "java/lang/String") (F_value_a1 : Fld Z h0 a1 "java/lang/String" "value" "[B" uv) (F_coder_a1 : Fld Z h0 a1 "java/lang/String" "coder" "B" uc) (g_a1 : n0 ≤ a1) (E_a2 : Exa Z h0 a2 "java/lang/StringBuilder") (F_value_a2 : Fld Z h0 a2 "java/lang/AbstractStringBuilder" "value" "[B" (.ref b)) (F_coder_a2 : Fld Z h0 a2 "java/lang/AbstractStringBuilder" "coder" "B" (.int (0 : Int32))) (F_count_a2 : Fld Z h0 a2 "java/lang/AbstractStringBuilder" "count" "I" (.int (Int32.ofNat cs.length))) (V_b : Arv Z h0 b kb .byte (16 : Int32) vd (.int (0 : Int32))) (hvd : vd.length = 16) (hm : cs.length < 16) (hcs : vd.take cs.length = cs.map own_lo) (hp : ∀ c ∈ cs, ¬ c < 0 ∧ ¬ (255 : Int32) < c) :
    MetFree l (⟨"java/lang/String", "<init>", "(Ljava/lang/AbstractStringBuilder;Ljava/lang/Void;)V"⟩ : MethodName) (head1 (Jvm.Cond.code (⟨"java/lang/String", "<init>", "(Ljava/lang/AbstractStringBuilder;Ljava/lang/Void;)V"⟩ : MethodName) jdk_42_method_150_code 5 none :: ws) ({ frames := 3, cells := 1, slots := 16, locals := 76 } : Room)) (fun a U => a = #[(.ref a1), (.ref a2), .null] ∧ Z.Warmed39 U.vm ∧ U.heap = h0) (fun _ _ _ _ _ => True) (fun _ U o U' => ∃ v L, o = .returned v ∧ QSt Z a1 cs h0 n0 v U'.heap L ∧ FrameEnd U o U' L 1 16) := by
  refine MetFree.of_bodySF (plainFor_of_name own_pn_java_lang_String) hisR ?_
  intro p e s m args below meth c s₁ Bd hml0 hP hK
  obtain ⟨rfl, hZ, hh⟩ := hP
  have hx := Bd.exec
  have hby := Bd.bytes
  have hml : c.maxLocals = 5 := hml0
  have hown : s.vm.findClass "java/lang/String" = some m.cls := findClass_of_methodNamed Bd.named
  have hnm := (name_of_methodNamed Bd.named Bd.method).1
  have X0 : Stand p l e ({ frames := 3, cells := 1, slots := 16, locals := 76 } : Room) s m #[(.ref a1), (.ref a2), .null] below meth c s₁ [] 0 0 := Stand.of_body Bd
  have e0 : s₁.heap = h0 := by rw [← hh, Bd.state]; rfl
  have N0 := Fr.nil n0
  have pre0 : ∀ t, Steps p.tables e below (s₁.setTop (mkF m 0 #[.val (.ref a1), .val (.ref a2), .val .null, .unset, .unset] [])) t → Steps p.tables e below (s₁.setTop (entryFrame m #[(.ref a1), (.ref a2), .null] 5)) t := fun t k => castTop (own_ef_jdk_42_method_150_code_xxn m a1 a2) k
  obtain ⟨T1, X1, e1, st1⟩ := initO X0 hx hZ hown (hw _ (List.mem_of_getElem? (i := 15) rfl)) (hw _ (List.mem_of_getElem? (i := 16) rfl)) (hw _ (List.mem_of_getElem? (i := 17) rfl)) e0 (g := (mkF m 1 #[.val (.ref a1), .val (.ref a2), .val .null, .unset, .unset] [(.ref a1)])) rfl (by rw [hml]; rfl) rfl (hb hby own_d_jdk_42_method_150_code_1) (by decide) (W := 0) (by show 2 * 0 + _ ≤ _; exact Nat.le_of_eq rfl) (by decide)
  obtain ⟨cq2, kq2, q2a, q2b, q2c⟩ := isOf hZ e1 E_a2
  obtain ⟨_, _, ⟨T2, L2, k2, n2⟩, -, X2, ⟨Lc2, hQ2, l2, y2, z2⟩, st2⟩ := X1.virtualBack hx (y := (⟨"java/lang/AbstractStringBuilder", "getValue", "()[B"⟩ : MethodName)) (z := (⟨"java/lang/AbstractStringBuilder", "getValue", "()[B"⟩ : MethodName)) hown (mvT hZ (hw _ (List.mem_of_getElem? (i := 121) rfl))) (mvT hZ (hw _ (List.mem_of_getElem? (i := 122) rfl))) (notFace_of_selects (args := #[]) (mvT hZ (hw _ (List.mem_of_getElem? (i := 124) rfl)))) (mvT hZ (hw _ (List.mem_of_getElem? (i := 124) rfl))) (mvT hZ (hw _ (List.mem_of_getElem? (i := 123) rfl))) (by decide) (backOf (W := 0) (rmGv l Z a0 hw [] a2 b h0 n0 (Nat.le_trans Z0 (Keep.refl h0 [a1]).1) F_value_a2) hZ (hw _ (List.mem_of_getElem? (i := 125) rfl)) (hw _ (List.mem_of_getElem? (i := 52) rfl)) (by decide) (by decide)) q2a q2c (g := (mkF m 5 #[.val (.ref a1), .val (.ref a2), .val .null, .unset, .unset] [(.ref a2)])) rfl (by rw [hml]; rfl) (Steps.refl _) (argsL := []) (rest := []) (lenOf own_pd____B rfl) rfl (by show 2 * 0 + _ ≤ _; exact Nat.le_of_eq rfl) (hb hby own_d_jdk_42_method_150_code_5) (fun _ _ => ⟨rfl, e1, (by decide : 0 + 0 ≤ _), (by decide : 0 + 0 ≤ _)⟩)
  dsimp only [Pt.U, Pt.locs, Pt.cells, Pt.slots] at X2 l2 y2 z2 st2 hQ2
  subst l2 y2 z2
  obtain ⟨rfl, N2q, e2q⟩ := hQ2
  have N2a := Fr.app N0 N2q
  obtain ⟨cq3, kq3, q3a, q3b, q3c⟩ := isOf hZ e2q E_a2
  obtain ⟨_, _, ⟨T3, L3, k3, n3⟩, -, X3, ⟨Lc3, hQ3, l3, y3, z3⟩, st3⟩ := X2.virtualBack hx (y := (⟨"java/lang/AbstractStringBuilder", "length", "()I"⟩ : MethodName)) (z := (⟨"java/lang/StringBuilder", "length", "()I"⟩ : MethodName)) hown (mvT hZ (hw _ (List.mem_of_getElem? (i := 126) rfl))) (mvT hZ (hw _ (List.mem_of_getElem? (i := 127) rfl))) (own_nf (notFace_of_selects (args := #[]) (mvT hZ (hw _ (List.mem_of_getElem? (i := 124) rfl)))) (own_named (args := #[]) (mvT hZ (hw _ (List.mem_of_getElem? (i := 122) rfl)))) rfl) (mvT hZ (hw _ (List.mem_of_getElem? (i := 129) rfl))) (mvT hZ (hw _ (List.mem_of_getElem? (i := 130) rfl))) (by decide) (backOf (W := 0) (rmSl l Z a0 hw [] a2 (Int32.ofNat cs.length) h0 n0 (Nat.le_trans Z0 (Keep.refl h0 [a1]).1) E_a2 F_count_a2) hZ (hw _ (List.mem_of_getElem? (i := 131) rfl)) (hw _ (List.mem_of_getElem? (i := 44) rfl)) (by decide) (by decide)) q3a q3c (g := (mkF m 10 #[.val (.ref a1), .val (.ref a2), .val .null, .val (.ref b), .unset] [(.ref a2)])) rfl (by rw [hml]; rfl) (Steps.refl _) (argsL := []) (rest := []) (lenOf own_pd___I rfl) rfl (by show 2 * 0 + _ ≤ _; exact Nat.le_of_eq rfl) (hb hby own_d_jdk_42_method_150_code_10) (fun _ _ => ⟨rfl, e2q, (by decide : 0 + 0 ≤ _), (by decide : 0 + 0 ≤ _)⟩)
  dsimp only [Pt.U, Pt.locs, Pt.cells, Pt.slots] at X3 l3 y3 z3 st3 hQ3
  subst l3 y3 z3
  obtain ⟨rfl, N3q, e3q⟩ := hQ3
  have N3a := Fr.app N2a N3q
  obtain ⟨cq4, kq4, q4a, q4b, q4c⟩ := isOf hZ e3q E_a2
  obtain ⟨_, _, ⟨T4, L4, k4, n4⟩, -, X4, ⟨Lc4, hQ4, l4, y4, z4⟩, st4⟩ := X3.virtualBack hx (y := (⟨"java/lang/AbstractStringBuilder", "isLatin1", "()Z"⟩ : MethodName)) (z := (⟨"java/lang/AbstractStringBuilder", "isLatin1", "()Z"⟩ : MethodName)) hown (mvT hZ (hw _ (List.mem_of_getElem? (i := 134) rfl))) (mvT hZ (hw _ (List.mem_of_getElem? (i := 135) rfl))) (notFace_of_selects (args := #[]) (mvT hZ (hw _ (List.mem_of_getElem? (i := 137) rfl)))) (mvT hZ (hw _ (List.mem_of_getElem? (i := 137) rfl))) (mvT hZ (hw _ (List.mem_of_getElem? (i := 136) rfl))) (by decide) (backOf (W := 0) (rmIl l Z a0 hw [] a2 G1 G3 h0 n0 (Nat.le_trans Z0 (Keep.refl h0 [a1]).1) O2 P5 O4 rG3 O0 F_coder_a2) hZ (hw _ (List.mem_of_getElem? (i := 138) rfl)) (hw _ (List.mem_of_getElem? (i := 52) rfl)) (by decide) (by decide)) q4a q4c (g := (mkF m 16 #[.val (.ref a1), .val (.ref a2), .val .null, .val (.ref b), .val (.int (Int32.ofNat cs.length))] [(.ref a2)])) rfl (by rw [hml]; rfl) (Steps.refl _) (argsL := []) (rest := []) (lenOf own_pd___Z rfl) rfl (by show 2 * 0 + _ ≤ _; exact Nat.le_of_eq rfl) (hb hby own_d_jdk_42_method_150_code_16) (fun _ _ => ⟨rfl, e3q, (by decide : 0 + 0 ≤ _), (by decide : 0 + 0 ≤ _)⟩)
  dsimp only [Pt.U, Pt.locs, Pt.cells, Pt.slots] at X4 l4 y4 z4 st4 hQ4
  subst l4 y4 z4
  obtain ⟨rfl, N4q, e4q⟩ := hQ4
  have N4a := Fr.app N3a N4q
  obtain ⟨T5, h5, X5, e5, W5, st5⟩ := putFN X4 hx hZ hown (hw _ (List.mem_of_getElem? (i := 25) rfl)) Via.refl e4q F_coder_a1 E_a1 (Or.inr ⟨(hw _ (List.mem_of_getElem? (i := 21) rfl)), rfl, hnm⟩) (hw _ (List.mem_of_getElem? (i := 5) rfl)) (ty := .byte) (v' := (.int (0 : Int32))) (by decide) rfl rfl (g := (mkF m 24 #[.val (.ref a1), .val (.ref a2), .val .null, .val (.ref b), .val (.int (Int32.ofNat cs.length))] [(.int (0 : Int32)), (.ref a1)])) rfl rfl (hb hby own_d_jdk_42_method_150_code_24)
  have Fw5 := F_coder_a1.same W5
  have Nf5 := Fr.snoc X5 N4a g_a1
  have K1 : Keep h0 h5 [a1] := (Keep.refl h0 [a1]).wr W5 (Or.inl (List.mem_of_getElem? (i := 0) rfl))
  have f7 : Arv Z h5 b kb .byte (16 : Int32) vd (.int (0 : Int32)) := (V_b.other W5 (Ne.symm (Exa.neArv E_a1 V_b (hw _ (List.mem_of_getElem? (i := 5) rfl)))))
  obtain ⟨_, _, ⟨T6, L6, k6, n6⟩, -, X6, ⟨Lc6, hQ6, l6, y6, z6⟩, st6⟩ := Jvm.LawKit.callS X5 hx (y := (⟨"java/util/Arrays", "copyOfRange", "([BII)[B"⟩ : MethodName)) hown (mvT hZ (hw _ (List.mem_of_getElem? (i := 139) rfl))) (mvT hZ (hw _ (List.mem_of_getElem? (i := 140) rfl))) (mvT hZ (hw _ (List.mem_of_getElem? (i := 141) rfl))) (mvT hZ (hw _ (List.mem_of_getElem? (i := 142) rfl))) (by decide) (backOf (W := 1) (rmCr l Z a0 hw [] b kb cs.length vd h5 n0 (Nat.le_trans Z0 K1.1) f7 hvd hm) hZ (hw _ (List.mem_of_getElem? (i := 142) rfl)) (hw _ (List.mem_of_getElem? (i := 141) rfl)) (by decide) (by decide)) (g := (mkF m 32 #[.val (.ref a1), .val (.ref a2), .val .null, .val (.ref b), .val (.int (Int32.ofNat cs.length))] [(.int (Int32.ofNat cs.length)), (.int (0 : Int32)), (.ref b), (.ref a1)])) rfl (by rw [hml]; rfl) (argsL := [(.ref b), (.int (0 : Int32)), (.int (Int32.ofNat cs.length))]) (rest := [(.ref a1)]) (lenOf own_pd___BII__B rfl) rfl (by show 2 * 0 + _ ≤ _; exact Nat.le_of_eq rfl) (hb hby own_d_jdk_42_method_150_code_32) (fun _ _ => ⟨rfl, e5, (by decide : 0 + 1 ≤ _), (by decide : 0 + 16 ≤ _)⟩)
  dsimp only [Pt.U, Pt.locs, Pt.cells, Pt.slots] at X6 l6 y6 z6 st6 hQ6
  subst l6 y6 z6
  obtain ⟨t6, tk6, rfl, N6q, K6q, ts6, Ta6⟩ := hQ6
  have N6a := Fr.app Nf5 N6q
  have K2 : Keep h0 T6.heap [a1] := K1.trans K6q all0
  have sz_t6 : h0.size ≤ t6 := Nat.le_trans K1.1 ts6
  have g_t6 : n0 ≤ t6 := Nat.le_trans Z0 sz_t6
  have f8 : Fld Z T6.heap a1 "java/lang/String" "value" "[B" uv := ((F_value_a1.other W5 (Or.inr (slot_ne (Or.inr (hw _ (List.mem_of_getElem? (i := 20) rfl))) (Or.inr (hw _ (List.mem_of_getElem? (i := 21) rfl))) (by decide) (t := (.array .byte)) (t' := .byte) (by decide) (by decide)))).keep K6q nin0)
  have f9 : Exa Z T6.heap a1 "java/lang/String" := ((E_a1.wr W5).keep K6q)
  obtain ⟨T10, h10, X10, e10, W10, st10⟩ := putF X6 hx hZ hown (host := "") (Or.inl (hw _ (List.mem_of_getElem? (i := 24) rfl))) Via.refl rfl f8 f9 (Or.inr ⟨(hw _ (List.mem_of_getElem? (i := 20) rfl)), rfl, hnm⟩) (hw _ (List.mem_of_getElem? (i := 5) rfl)) (ty := (.array .byte)) (by decide) rfl rfl (g := (mkF m 35 #[.val (.ref a1), .val (.ref a2), .val .null, .val (.ref b), .val (.int (Int32.ofNat cs.length))] [(.ref t6), (.ref a1)])) rfl rfl (hb hby own_d_jdk_42_method_150_code_35)
  have Fw10 := f8.same W10
  have Nf10 := Fr.snoc X10 N6a g_a1
  have K3 : Keep h0 h10 [a1] := K2.wr W10 (Or.inl (List.mem_of_getElem? (i := 0) rfl))
  have f11 : Exa Z h10 a1 "java/lang/String" := (f9.wr W10)
  have f12 : Fld Z h10 a1 "java/lang/String" "coder" "B" (.int (0 : Int32)) := ((Fw5.keep K6q nin0).other W10 (Or.inr (slot_ne (Or.inr (hw _ (List.mem_of_getElem? (i := 21) rfl))) (Or.inr (hw _ (List.mem_of_getElem? (i := 20) rfl))) (by decide) (t := .byte) (t' := (.array .byte)) (by decide) (by decide))))
  have f13 : Exa Z h5 a1 "java/lang/String" := (E_a1.wr W5)
  have f14 : Arv Z h10 t6 tk6 .byte (Int32.ofNat cs.length) (vd.take cs.length) (.int (0 : Int32)) := (Ta6.other W10 (Ne.symm (Nat.ne_of_lt (Nat.lt_of_lt_of_le f13.lt ts6))))
  obtain ⟨fs, hr, hrun, hended, hW, hsame⟩ := X10.leave (v := none) (fun _ => rfl)
  refine ⟨_, _, pre0 _ ?_, hrun, hended, _, _, rfl, ?_, ⟨_, rfl⟩, hW, hsame.mono (by decide) (by decide)⟩
  · show Steps p.tables e below (s₁.setTop (mkF m 0 #[.val (.ref a1), .val (.ref a2), .val .null, .unset, .unset] [])) _
    refine XS.aloadN X0.here hx rfl (hb hby own_d_jdk_42_method_150_code_0) rfl rfl ?_
    show Steps p.tables e below (s₁.setTop (mkF m 1 #[.val (.ref a1), .val (.ref a2), .val .null, .unset, .unset] [(.ref a1)])) _
    refine st1 _ ?_
    refine XS.aloadN X1.here hx rfl (hb hby own_d_jdk_42_method_150_code_4) rfl rfl ?_
    show Steps p.tables e below (T1.setTop (mkF m 5 #[.val (.ref a1), .val (.ref a2), .val .null, .unset, .unset] [(.ref a2)])) _
    refine st2.trans ?_
    refine XS.astoreN X2.here hx rfl (hb hby own_d_jdk_42_method_150_code_8) rfl rfl (l' := #[.val (.ref a1), .val (.ref a2), .val .null, .val (.ref b), .unset]) rfl ?_
    refine XS.aloadN X2.here hx rfl (hb hby own_d_jdk_42_method_150_code_9) rfl rfl ?_
    show Steps p.tables e below (T2.setTop (mkF m 10 #[.val (.ref a1), .val (.ref a2), .val .null, .val (.ref b), .unset] [(.ref a2)])) _
    refine st3.trans ?_
    refine XS.istore X3.here hx rfl (hb hby own_d_jdk_42_method_150_code_13) rfl (l' := #[.val (.ref a1), .val (.ref a2), .val .null, .val (.ref b), .val (.int (Int32.ofNat cs.length))]) rfl ?_
    refine XS.aloadN X3.here hx rfl (hb hby own_d_jdk_42_method_150_code_15) rfl rfl ?_
    show Steps p.tables e below (T3.setTop (mkF m 16 #[.val (.ref a1), .val (.ref a2), .val .null, .val (.ref b), .val (.int (Int32.ofNat cs.length))] [(.ref a2)])) _
    refine st4.trans ?_
    show Steps p.tables e below (T4.setTop (mkF m 19 #[.val (.ref a1), .val (.ref a2), .val .null, .val (.ref b), .val (.int (Int32.ofNat cs.length))] [(.int (1 : Int32))])) _
    refine XS.ifNo X4.here hx rfl (hb hby own_d_jdk_42_method_150_code_19) rfl ((if0 _ _).trans (feq (by decide : ¬ ((1 : Int32) = (0 : Int32)))).1) ?_
    refine XS.aloadN X4.here hx rfl (hb hby own_d_jdk_42_method_150_code_22) rfl rfl ?_
    refine XS.iconst X4.here hx rfl (hb hby own_d_jdk_42_method_150_code_23) ?_
    show Steps p.tables e below (T4.setTop (mkF m 24 #[.val (.ref a1), .val (.ref a2), .val .null, .val (.ref b), .val (.int (Int32.ofNat cs.length))] [(.int (0 : Int32)), (.ref a1)])) _
    refine st5 _ ?_
    refine XS.aloadN X5.here hx rfl (hb hby own_d_jdk_42_method_150_code_27) rfl rfl ?_
    refine XS.aloadN X5.here hx rfl (hb hby own_d_jdk_42_method_150_code_28) rfl rfl ?_
    show Steps p.tables e below (T5.setTop (mkF m 29 #[.val (.ref a1), .val (.ref a2), .val .null, .val (.ref b), .val (.int (Int32.ofNat cs.length))] [(.ref b), (.ref a1)])) _
    refine XS.iconst X5.here hx rfl (hb hby own_d_jdk_42_method_150_code_29) ?_
    refine XS.iload X5.here hx rfl (hb hby own_d_jdk_42_method_150_code_30) rfl ?_
    show Steps p.tables e below (T5.setTop (mkF m 32 #[.val (.ref a1), .val (.ref a2), .val .null, .val (.ref b), .val (.int (Int32.ofNat cs.length))] [(.int (Int32.ofNat cs.length)), (.int (0 : Int32)), (.ref b), (.ref a1)])) _
    refine st6 _ ?_
    show Steps p.tables e below (T6.setTop (mkF m 35 #[.val (.ref a1), .val (.ref a2), .val .null, .val (.ref b), .val (.int (Int32.ofNat cs.length))] [(.ref t6), (.ref a1)])) _
    refine st10 _ ?_
    refine XS.goto X10.here hx rfl (pc0 := 38) (pc' := 97) rfl (hb hby own_d_jdk_42_method_150_code_38) (by decide) (by decide) ?_
    show Steps p.tables e below (T10.setTop (mkF m 97 #[.val (.ref a1), .val (.ref a2), .val .null, .val (.ref b), .val (.int (Int32.ofNat cs.length))] [])) _
    exact X10.returnOut hx Bd.returns (hb hby own_d_jdk_42_method_150_code_97) hr
  · show QSt Z a1 cs h0 n0 _ T10.heap _
    rw [e10]
    exact ⟨rfl, Nf10, K3, own_mk hp f11 f12 Fw10 f14 hcs⟩
theorem own_d_jdk_42_method_53_code_0 : decode jdk_42_method_53_code 0 = .ok (.aload_n 0, 1) := by decide +kernel
theorem own_d_jdk_42_method_53_code_1 : decode jdk_42_method_53_code 1 = .ok (.aload_n 1, 1) := by decide +kernel
theorem own_d_jdk_42_method_53_code_2 : decode jdk_42_method_53_code 2 = .ok (.aconst_null, 1) := by decide +kernel
theorem own_d_jdk_42_method_53_code_3 : decode jdk_42_method_53_code 3 = .ok (.invokespecial 489, 3) := by decide +kernel
theorem own_d_jdk_42_method_53_code_6 : decode jdk_42_method_53_code 6 = .ok (.return_, 1) := by decide +kernel
theorem own_pd__Ljava_lang_AbstractStringBuilder_Ljava_lang_Void__V : parseMethodDescriptor "(Ljava/lang/AbstractStringBuilder;Ljava/lang/Void;)V" = some ⟨[(.object "java/lang/AbstractStringBuilder"), (.object "java/lang/Void")], none⟩ := by decide +kernel
theorem own_ef_jdk_42_method_53_code_xx (m : MethodId) (x0 : Addr) (x1 : Addr) : entryFrame m #[(.ref x0), (.ref x1)] 2 = mkF m 0 #[.val (.ref x0), .val (.ref x1)] [] := by first | (simp [entryFrame, mkF, argsToLocals, Value.category]; done) | rfl
set_option maxRecDepth 65536 in
set_option maxHeartbeats 40000000 in
theorem rmIs (l : Launch) (Z : State) (a0 : Array Value) (hw : ∀ d ∈ tables_1, d.before a0 Z = true) (ws : List Jvm.Cond) (a1 a2 b : Addr) (kb : ClassId) (vd : List Value) (cs : List Int32) (uv uc : Value) (G1 : Int32) (G3 : Value) (h0 : Heap) (n0 : Nat) (Z0 : n0 ≤ h0.size) (O2 : Sta Z Z.heap "java/lang/String" "COMPACT_STRINGS" "Z" (.int G1)) (P5 : ¬ (G1 = (0 : Int32))) (O4 : Sta Z Z.heap "jdk/internal/util/Preconditions" "SIOOBE_FORMATTER" "Ljava/util/function/BiFunction;" G3) (rG3 : G3.isRef = true) (O0 : Old Z n0 h0) (E_a1 : Exa Z h0 a1 "java/lang/String") (F_value_a1 : Fld Z h0 a1 "java/lang/String" "value" "[B" uv) (F_coder_a1 : Fld Z h0 a1 "java/lang/String" "coder" "B" uc) (g_a1 : n0 ≤ a1) (E_a2 : Exa Z h0 a2 "java/lang/StringBuilder") (F_value_a2 : Fld Z h0 a2 "java/lang/AbstractStringBuilder" "value" "[B" (.ref b)) (F_coder_a2 : Fld Z h0 a2 "java/lang/AbstractStringBuilder" "coder" "B" (.int (0 : Int32))) (F_count_a2 : Fld Z h0 a2 "java/lang/AbstractStringBuilder" "count" "I" (.int (Int32.ofNat cs.length))) (V_b : Arv Z h0 b kb .byte (16 : Int32) vd (.int (0 : Int32))) (hvd : vd.length = 16) (hm : cs.length < 16) (hcs : vd.take cs.length = cs.map own_lo) (hp : ∀ c ∈ cs, ¬ c < 0 ∧ ¬ (255 : Int32) < c) :
    MetFree l (⟨"java/lang/String", "<init>", "(Ljava/lang/StringBuilder;)V"⟩ : MethodName) (head1 (Jvm.Cond.code (⟨"java/lang/String", "<init>", "(Ljava/lang/StringBuilder;)V"⟩ : MethodName) jdk_42_method_53_code 2 none :: ws) ({ frames := 4, cells := 1, slots := 16, locals := 92 } : Room)) (fun a U => a = #[(.ref a1), (.ref a2)] ∧ Z.Warmed39 U.vm ∧ U.heap = h0) (fun _ _ _ _ _ => True) (fun _ U o U' => ∃ v L, o = .returned v ∧ QSt Z a1 cs h0 n0 v U'.heap L ∧ FrameEnd U o U' L 1 16) := by
  refine MetFree.of_bodySF (plainFor_of_name own_pn_java_lang_String) hisR ?_
  intro p e s m args below meth c s₁ Bd hml0 hP hK
  obtain ⟨rfl, hZ, hh⟩ := hP
  have hx := Bd.exec
  have hby := Bd.bytes
  have hml : c.maxLocals = 2 := hml0
  have hown : s.vm.findClass "java/lang/String" = some m.cls := findClass_of_methodNamed Bd.named
  have hnm := (name_of_methodNamed Bd.named Bd.method).1
  have X0 : Stand p l e ({ frames := 4, cells := 1, slots := 16, locals := 92 } : Room) s m #[(.ref a1), (.ref a2)] below meth c s₁ [] 0 0 := Stand.of_body Bd
  have e0 : s₁.heap = h0 := by rw [← hh, Bd.state]; rfl
  have N0 := Fr.nil n0
  have pre0 : ∀ t, Steps p.tables e below (s₁.setTop (mkF m 0 #[.val (.ref a1), .val (.ref a2)] [])) t → Steps p.tables e below (s₁.setTop (entryFrame m #[(.ref a1), (.ref a2)] 2)) t := fun t k => castTop (own_ef_jdk_42_method_53_code_xx m a1 a2) k
  obtain ⟨_, _, ⟨T1, L1, k1, n1⟩, -, X1, ⟨Lc1, hQ1, l1, y1, z1⟩, st1⟩ := X0.specialBack hx (y := (⟨"java/lang/String", "<init>", "(Ljava/lang/AbstractStringBuilder;Ljava/lang/Void;)V"⟩ : MethodName)) rfl hown (mvT hZ (hw _ (List.mem_of_getElem? (i := 118) rfl))) (mvT hZ (hw _ (List.mem_of_getElem? (i := 119) rfl))) (mvT hZ (hw _ (List.mem_of_getElem? (i := 120) rfl))) (by decide) (backOf (W := 0) (rmIa l Z a0 hw [] a1 a2 b kb vd cs uv uc G1 G3 h0 n0 (Nat.le_trans Z0 (Keep.refl h0 [a1]).1) O2 P5 O4 rG3 O0 E_a1 F_value_a1 F_coder_a1 g_a1 E_a2 F_value_a2 F_coder_a2 F_count_a2 V_b hvd hm hcs hp) hZ (hw _ (List.mem_of_getElem? (i := 120) rfl)) (hw _ (List.mem_of_getElem? (i := 6) rfl)) (by decide) (by decide)) (g := (mkF m 3 #[.val (.ref a1), .val (.ref a2)] [.null, (.ref a2), (.ref a1)])) rfl (by rw [hml]; rfl) (Steps.refl _) (a := a1) (argsL := [(.ref a2), .null]) (rest := []) (lenOf own_pd__Ljava_lang_AbstractStringBuilder_Ljava_lang_Void__V rfl) rfl (by show 2 * 0 + _ ≤ _; exact Nat.le_of_eq rfl) (hb hby own_d_jdk_42_method_53_code_3) (fun _ _ => ⟨rfl, e0, (by decide : 0 + 1 ≤ _), (by decide : 0 + 16 ≤ _)⟩)
  dsimp only [Pt.U, Pt.locs, Pt.cells, Pt.slots] at X1 l1 y1 z1 st1 hQ1
  subst l1 y1 z1
  obtain ⟨rfl, N1q, K1q, SV1⟩ := hQ1
  have N1a := Fr.app N0 N1q
  have K1 : Keep h0 T1.heap [a1] := (Keep.refl h0 [a1]).trans K1q (allS (Or.inl (List.mem_of_getElem? (i := 0) rfl)) all0)
  obtain ⟨fs, hr, hrun, hended, hW, hsame⟩ := X1.leave (v := none) (fun _ => rfl)
  refine ⟨_, _, pre0 _ ?_, hrun, hended, _, _, rfl, ?_, ⟨_, rfl⟩, hW, hsame.mono (by decide) (by decide)⟩
  · show Steps p.tables e below (s₁.setTop (mkF m 0 #[.val (.ref a1), .val (.ref a2)] [])) _
    refine XS.aloadN X0.here hx rfl (hb hby own_d_jdk_42_method_53_code_0) rfl rfl ?_
    refine XS.aloadN X0.here hx rfl (hb hby own_d_jdk_42_method_53_code_1) rfl rfl ?_
    refine XS.aconstNull X0.here hx rfl (hb hby own_d_jdk_42_method_53_code_2) ?_
    show Steps p.tables e below (s₁.setTop (mkF m 3 #[.val (.ref a1), .val (.ref a2)] [.null, (.ref a2), (.ref a1)])) _
    refine st1.trans ?_
    show Steps p.tables e below (T1.setTop (mkF m 6 #[.val (.ref a1), .val (.ref a2)] [])) _
    exact X1.returnOut hx Bd.returns (hb hby own_d_jdk_42_method_53_code_6) hr
  · show QSt Z a1 cs h0 n0 _ T1.heap _
    exact ⟨rfl, N1a, K1, SV1⟩
theorem own_d_jdk_67_method_42_code_0 : decode jdk_67_method_42_code 0 = .ok (.new 18, 3) := by decide +kernel
theorem own_d_jdk_67_method_42_code_3 : decode jdk_67_method_42_code 3 = .ok (.dup, 1) := by decide +kernel
theorem own_d_jdk_67_method_42_code_4 : decode jdk_67_method_42_code 4 = .ok (.aload_n 0, 1) := by decide +kernel
theorem own_d_jdk_67_method_42_code_5 : decode jdk_67_method_42_code 5 = .ok (.invokespecial 137, 3) := by decide +kernel
theorem own_d_jdk_67_method_42_code_8 : decode jdk_67_method_42_code 8 = .ok (.areturn, 1) := by decide +kernel
theorem own_pd__Ljava_lang_StringBuilder__V : parseMethodDescriptor "(Ljava/lang/StringBuilder;)V" = some ⟨[(.object "java/lang/StringBuilder")], none⟩ := by decide +kernel
theorem own_ef_jdk_67_method_42_code_x (m : MethodId) (x0 : Addr) : entryFrame m #[(.ref x0)] 1 = mkF m 0 #[.val (.ref x0)] [] := by first | (simp [entryFrame, mkF, argsToLocals, Value.category]; done) | rfl
set_option maxRecDepth 65536 in
set_option maxHeartbeats 40000000 in
theorem rmTs (l : Launch) (Z : State) (a0 : Array Value) (hw : ∀ d ∈ tables_1, d.before a0 Z = true) (ws : List Jvm.Cond) (a2 b : Addr) (kb : ClassId) (vd : List Value) (cs : List Int32) (G1 : Int32) (G3 : Value) (h0 : Heap) (n0 : Nat) (Z0 : n0 ≤ h0.size) (O2 : Sta Z Z.heap "java/lang/String" "COMPACT_STRINGS" "Z" (.int G1)) (P5 : ¬ (G1 = (0 : Int32))) (O4 : Sta Z Z.heap "jdk/internal/util/Preconditions" "SIOOBE_FORMATTER" "Ljava/util/function/BiFunction;" G3) (rG3 : G3.isRef = true) (O0 : Old Z n0 h0) (E_a2 : Exa Z h0 a2 "java/lang/StringBuilder") (F_value_a2 : Fld Z h0 a2 "java/lang/AbstractStringBuilder" "value" "[B" (.ref b)) (F_coder_a2 : Fld Z h0 a2 "java/lang/AbstractStringBuilder" "coder" "B" (.int (0 : Int32))) (F_count_a2 : Fld Z h0 a2 "java/lang/AbstractStringBuilder" "count" "I" (.int (Int32.ofNat cs.length))) (V_b : Arv Z h0 b kb .byte (16 : Int32) vd (.int (0 : Int32))) (hvd : vd.length = 16) (hm : cs.length < 16) (hcs : vd.take cs.length = cs.map own_lo) (hp : ∀ c ∈ cs, ¬ c < 0 ∧ ¬ (255 : Int32) < c) :
    MetFree l (⟨"java/lang/StringBuilder", "toString", "()Ljava/lang/String;"⟩ : MethodName) (head1 (Jvm.Cond.code (⟨"java/lang/StringBuilder", "toString", "()Ljava/lang/String;"⟩ : MethodName) jdk_67_method_42_code 1 (some (.object "java/lang/String")) :: ws) ({ frames := 5, cells := 2, slots := 20, locals := 106 } : Room)) (fun a U => a = #[(.ref a2)] ∧ Z.Warmed39 U.vm ∧ U.heap = h0) (fun _ _ _ _ _ => True) (fun _ U o U' => ∃ v L, o = .returned v ∧ QSr Z cs h0 n0 v U'.heap L ∧ FrameEnd U o U' L 2 20) := by
  refine MetFree.of_bodySF (plainFor_of_name own_pn_java_lang_StringBuilder) hisR ?_
  intro p e s m args below meth c s₁ Bd hml0 hP hK
  obtain ⟨rfl, hZ, hh⟩ := hP
  have hx := Bd.exec
  have hby := Bd.bytes
  have hml : c.maxLocals = 1 := hml0
  have hown : s.vm.findClass "java/lang/StringBuilder" = some m.cls := findClass_of_methodNamed Bd.named
  have hnm := (name_of_methodNamed Bd.named Bd.method).1
  have X0 : Stand p l e ({ frames := 5, cells := 2, slots := 20, locals := 106 } : Room) s m #[(.ref a2)] below meth c s₁ [] 0 0 := Stand.of_body Bd
  have e0 : s₁.heap = h0 := by rw [← hh, Bd.state]; rfl
  have N0 := Fr.nil n0
  have pre0 : ∀ t, Steps p.tables e below (s₁.setTop (mkF m 0 #[.val (.ref a2)] [])) t → Steps p.tables e below (s₁.setTop (entryFrame m #[(.ref a2)] 1)) t := fun t k => castTop (own_ef_jdk_67_method_42_code_x m a2) k
  obtain ⟨T1, h1, X1, e1, E1, A1, D1, -, st1⟩ := newO X0 hx hZ hown (hw _ (List.mem_of_getElem? (i := 114) rfl)) (hw _ (List.mem_of_getElem? (i := 5) rfl)) (hw _ (List.mem_of_getElem? (i := 6) rfl)) e0 (g := (mkF m 0 #[.val (.ref a2)] [])) rfl (hb hby own_d_jdk_67_method_42_code_0) (by decide) (by decide)
  obtain ⟨b1, g1⟩ : ∃ z, z = h0.size := ⟨_, rfl⟩
  rw [← g1] at A1 D1 st1
  have sz_b1 : h0.size ≤ b1 := Nat.le_trans (Keep.refl h0 []).1 (Nat.le_of_eq g1.symm)
  have g_b1 : n0 ≤ b1 := Nat.le_trans Z0 sz_b1
  have K1 : Keep h0 h1 [] := (Keep.refl h0 []).ext E1
  have F_value_b1 : Fld Z h1 b1 "java/lang/String" "value" "[B" .null := D1 (Or.inr (hw _ (List.mem_of_getElem? (i := 20) rfl))) (ty := (.array .byte)) (by decide)
  have F_coder_b1 : Fld Z h1 b1 "java/lang/String" "coder" "B" (.int (0 : Int32)) := D1 (Or.inr (hw _ (List.mem_of_getElem? (i := 21) rfl))) (ty := .byte) (by decide)
  have f3 : Old Z n0 h1 := (O0.ext E1)
  have f4 : Exa Z h1 a2 "java/lang/StringBuilder" := (E_a2.ext E1)
  have f5 : Fld Z h1 a2 "java/lang/AbstractStringBuilder" "value" "[B" (.ref b) := (F_value_a2.ext E1)
  have f6 : Fld Z h1 a2 "java/lang/AbstractStringBuilder" "coder" "B" (.int (0 : Int32)) := (F_coder_a2.ext E1)
  have f7 : Fld Z h1 a2 "java/lang/AbstractStringBuilder" "count" "I" (.int (Int32.ofNat cs.length)) := (F_count_a2.ext E1)
  have f8 : Arv Z h1 b kb .byte (16 : Int32) vd (.int (0 : Int32)) := (V_b.ext E1)
  obtain ⟨_, _, ⟨T2, L2, k2, n2⟩, -, X2, ⟨Lc2, hQ2, l2, y2, z2⟩, st2⟩ := X1.specialBack hx (y := (⟨"java/lang/String", "<init>", "(Ljava/lang/StringBuilder;)V"⟩ : MethodName)) rfl hown (mvT hZ (hw _ (List.mem_of_getElem? (i := 115) rfl))) (mvT hZ (hw _ (List.mem_of_getElem? (i := 116) rfl))) (mvT hZ (hw _ (List.mem_of_getElem? (i := 117) rfl))) (by decide) (backOf (W := 1) (rmIs l Z a0 hw [] b1 a2 b kb vd cs .null (.int (0 : Int32)) G1 G3 h1 n0 (Nat.le_trans Z0 K1.1) O2 P5 O4 rG3 f3 A1 F_value_b1 F_coder_b1 g_b1 f4 f5 f6 f7 f8 hvd hm hcs hp) hZ (hw _ (List.mem_of_getElem? (i := 117) rfl)) (hw _ (List.mem_of_getElem? (i := 6) rfl)) (by decide) (by decide)) (g := (mkF m 5 #[.val (.ref a2)] [(.ref a2), (.ref b1), (.ref b1)])) rfl (by rw [hml]; rfl) (Steps.refl _) (a := b1) (argsL := [(.ref a2)]) (rest := [(.ref b1)]) (lenOf own_pd__Ljava_lang_StringBuilder__V rfl) rfl (by show 2 * 0 + _ ≤ _; exact Nat.le_of_eq rfl) (hb hby own_d_jdk_67_method_42_code_5) (fun _ _ => ⟨rfl, e1, (by decide : 1 + 1 ≤ _), (by decide : 4 + 16 ≤ _)⟩)
  dsimp only [Pt.U, Pt.locs, Pt.cells, Pt.slots] at X2 l2 y2 z2 st2 hQ2
  subst l2 y2 z2
  obtain ⟨rfl, N2q, K2q, SV2⟩ := hQ2
  have N2a := Fr.app N0 N2q
  have K2 : Keep h0 T2.heap [] := K1.trans K2q (allS (Or.inr sz_b1) all0)
  obtain ⟨fs, hr, hrun, hended, hW, hsame⟩ := X2.leave (v := some (.ref b1)) (fun h => by rw [Bd.returns] at h; cases h)
  refine ⟨_, _, pre0 _ ?_, hrun, hended, _, _, rfl, ?_, ⟨_, rfl⟩, hW, hsame.mono (by decide) (by decide)⟩
  · show Steps p.tables e below (s₁.setTop (mkF m 0 #[.val (.ref a2)] [])) _
    refine st1 _ ?_
    refine XS.dup X1.here hx rfl (hb hby own_d_jdk_67_method_42_code_3) rfl rfl ?_
    refine XS.aloadN X1.here hx rfl (hb hby own_d_jdk_67_method_42_code_4) rfl rfl ?_
    show Steps p.tables e below (T1.setTop (mkF m 5 #[.val (.ref a2)] [(.ref a2), (.ref b1), (.ref b1)])) _
    refine st2.trans ?_
    show Steps p.tables e below (T2.setTop (mkF m 8 #[.val (.ref a2)] [(.ref b1)])) _
    jvm_step X2.here [X2.here.top, hx, (hb hby own_d_jdk_67_method_42_code_8), X2.method', Bd.returns, Value.isRef, FieldType.isReference]
    first | (intro acts; rw [hr _ acts rfl rfl rfl]) | rw [hr _ _ rfl rfl rfl]
    exact Steps.refl _
  · show QSr Z cs h0 n0 _ T2.heap _
    exact ⟨b1, rfl, N2a, K2, SV2⟩
def QF (Z : State) (a1 a2 a3 : Addr) (h0 : Heap) (n0 : Nat) (v : Option Value) (h : Heap) (L : List Loc) : Prop := v = none ∧ Fr n0 L ∧ Keep h0 h [a1] ∧ Fld Z h a1 "com/example/treeward/treeward/engine/Finding" "resource" "Ljava/lang/String;" (.ref a2) ∧ Fld Z h a1 "com/example/treeward/treeward/engine/Finding" "problem" "Ljava/lang/String;" (.ref a3)
theorem own_d_prog_2_method_1_code_0 : decode prog_2_method_1_code 0 = .ok (.aload_n 0, 1) := by decide +kernel
theorem own_d_prog_2_method_1_code_1 : decode prog_2_method_1_code 1 = .ok (.invokespecial 1, 3) := by decide +kernel
theorem own_d_prog_2_method_1_code_4 : decode prog_2_method_1_code 4 = .ok (.aload_n 0, 1) := by decide +kernel
theorem own_d_prog_2_method_1_code_5 : decode prog_2_method_1_code 5 = .ok (.aload_n 1, 1) := by decide +kernel
theorem own_d_prog_2_method_1_code_6 : decode prog_2_method_1_code 6 = .ok (.putfield 7, 3) := by decide +kernel
theorem own_d_prog_2_method_1_code_9 : decode prog_2_method_1_code 9 = .ok (.aload_n 0, 1) := by decide +kernel
theorem own_d_prog_2_method_1_code_10 : decode prog_2_method_1_code 10 = .ok (.aload_n 2, 1) := by decide +kernel
theorem own_d_prog_2_method_1_code_11 : decode prog_2_method_1_code 11 = .ok (.putfield 13, 3) := by decide +kernel
theorem own_d_prog_2_method_1_code_14 : decode prog_2_method_1_code 14 = .ok (.return_, 1) := by decide +kernel
theorem own_pn_com_example_treeward_treeward_engine_Finding : plainName "com/example/treeward/treeward/engine/Finding" = true := by first | (simp [plainName, overriddenIn]; done) | decide +kernel
theorem own_ef_prog_2_method_1_code_xxx (m : MethodId) (x0 : Addr) (x1 : Addr) (x2 : Addr) : entryFrame m #[(.ref x0), (.ref x1), (.ref x2)] 3 = mkF m 0 #[.val (.ref x0), .val (.ref x1), .val (.ref x2)] [] := by first | (simp [entryFrame, mkF, argsToLocals, Value.category]; done) | rfl
set_option maxRecDepth 65536 in
set_option maxHeartbeats 40000000 in
theorem rmFi (l : Launch) (Z : State) (a0 : Array Value) (hw : ∀ d ∈ tables_1, d.before a0 Z = true) (ws : List Jvm.Cond) (a1 a2 a3 : Addr) (h0 : Heap) (n0 : Nat) (Z0 : n0 ≤ h0.size) (E_a1 : Exa Z h0 a1 "com/example/treeward/treeward/engine/Finding") (F_resource_a1 : Fld Z h0 a1 "com/example/treeward/treeward/engine/Finding" "resource" "Ljava/lang/String;" .null) (F_problem_a1 : Fld Z h0 a1 "com/example/treeward/treeward/engine/Finding" "problem" "Ljava/lang/String;" .null) (g_a1 : n0 ≤ a1) :
    MetFree l (⟨"com/example/treeward/treeward/engine/Finding", "<init>", "(Ljava/lang/String;Ljava/lang/String;)V"⟩ : MethodName) (head1 (Jvm.Cond.code (⟨"com/example/treeward/treeward/engine/Finding", "<init>", "(Ljava/lang/String;Ljava/lang/String;)V"⟩ : MethodName) prog_2_method_1_code 3 none :: ws) ({ frames := 1, cells := 0, slots := 0, locals := 12 } : Room)) (fun a U => a = #[(.ref a1), (.ref a2), (.ref a3)] ∧ Z.Warmed39 U.vm ∧ U.heap = h0) (fun _ _ _ _ _ => True) (fun _ U o U' => ∃ v L, o = .returned v ∧ QF Z a1 a2 a3 h0 n0 v U'.heap L ∧ FrameEnd U o U' L 0 0) := by
  refine MetFree.of_bodySF (plainFor_of_name own_pn_com_example_treeward_treeward_engine_Finding) hisR ?_
  intro p e s m args below meth c s₁ Bd hml0 hP hK
  obtain ⟨rfl, hZ, hh⟩ := hP
  have hx := Bd.exec
  have hby := Bd.bytes
  have hml : c.maxLocals = 3 := hml0
  have hown : s.vm.findClass "com/example/treeward/treeward/engine/Finding" = some m.cls := findClass_of_methodNamed Bd.named
  have hnm := (name_of_methodNamed Bd.named Bd.method).1
  have X0 : Stand p l e ({ frames := 1, cells := 0, slots := 0, locals := 12 } : Room) s m #[(.ref a1), (.ref a2), (.ref a3)] below meth c s₁ [] 0 0 := Stand.of_body Bd
  have e0 : s₁.heap = h0 := by rw [← hh, Bd.state]; rfl
  have N0 := Fr.nil n0
  have pre0 : ∀ t, Steps p.tables e below (s₁.setTop (mkF m 0 #[.val (.ref a1), .val (.ref a2), .val (.ref a3)] [])) t → Steps p.tables e below (s₁.setTop (entryFrame m #[(.ref a1), (.ref a2), (.ref a3)] 3)) t := fun t k => castTop (own_ef_prog_2_method_1_code_xxx m a1 a2 a3) k
  obtain ⟨T1, X1, e1, st1⟩ := initO X0 hx hZ hown (hw _ (List.mem_of_getElem? (i := 32) rfl)) (hw _ (List.mem_of_getElem? (i := 16) rfl)) (hw _ (List.mem_of_getElem? (i := 17) rfl)) e0 (g := (mkF m 1 #[.val (.ref a1), .val (.ref a2), .val (.ref a3)] [(.ref a1)])) rfl (by rw [hml]; rfl) rfl (hb hby own_d_prog_2_method_1_code_1) (by decide) (W := 0) (by show 2 * 0 + _ ≤ _; exact Nat.le_of_eq rfl) (by decide)
  obtain ⟨T2, h2, X2, e2, W2, st2⟩ := putF X1 hx hZ hown (host := "") (Or.inl (hw _ (List.mem_of_getElem? (i := 33) rfl))) Via.refl e1 F_resource_a1 E_a1 (Or.inr ⟨(hw _ (List.mem_of_getElem? (i := 34) rfl)), rfl, hnm⟩) (hw _ (List.mem_of_getElem? (i := 27) rfl)) (ty := (.object "java/lang/String")) (by decide) rfl rfl (g := (mkF m 6 #[.val (.ref a1), .val (.ref a2), .val (.ref a3)] [(.ref a2), (.ref a1)])) rfl rfl (hb hby own_d_prog_2_method_1_code_6)
  have Fw2 := F_resource_a1.same W2
  have Nf2 := Fr.snoc X2 N0 g_a1
  have K1 : Keep h0 h2 [a1] := (Keep.refl h0 [a1]).wr W2 (Or.inl (List.mem_of_getElem? (i := 0) rfl))
  have f3 : Fld Z h2 a1 "com/example/treeward/treeward/engine/Finding" "problem" "Ljava/lang/String;" .null := (F_problem_a1.other W2 (Or.inr (slot_ne (Or.inr (hw _ (List.mem_of_getElem? (i := 36) rfl))) (Or.inr (hw _ (List.mem_of_getElem? (i := 34) rfl))) (by decide) (t := (.object "java/lang/String")) (t' := (.object "java/lang/String")) (by decide) (by decide))))
  have f4 : Exa Z h2 a1 "com/example/treeward/treeward/engine/Finding" := (E_a1.wr W2)
  obtain ⟨T5, h5, X5, e5, W5, st5⟩ := putF X2 hx hZ hown (host := "") (Or.inl (hw _ (List.mem_of_getElem? (i := 35) rfl))) Via.refl e2 f3 f4 (Or.inr ⟨(hw _ (List.mem_of_getElem? (i := 36) rfl)), rfl, hnm⟩) (hw _ (List.mem_of_getElem? (i := 27) rfl)) (ty := (.object "java/lang/String")) (by decide) rfl rfl (g := (mkF m 11 #[.val (.ref a1), .val (.ref a2), .val (.ref a3)] [(.ref a3), (.ref a1)])) rfl rfl (hb hby own_d_prog_2_method_1_code_11)
  have Fw5 := f3.same W5
  have Nf5 := Fr.snoc X5 Nf2 g_a1
  have K2 : Keep h0 h5 [a1] := K1.wr W5 (Or.inl (List.mem_of_getElem? (i := 0) rfl))
  have f6 : Fld Z h5 a1 "com/example/treeward/treeward/engine/Finding" "resource" "Ljava/lang/String;" (.ref a2) := (Fw2.other W5 (Or.inr (slot_ne (Or.inr (hw _ (List.mem_of_getElem? (i := 34) rfl))) (Or.inr (hw _ (List.mem_of_getElem? (i := 36) rfl))) (by decide) (t := (.object "java/lang/String")) (t' := (.object "java/lang/String")) (by decide) (by decide))))
  obtain ⟨fs, hr, hrun, hended, hW, hsame⟩ := X5.leave (v := none) (fun _ => rfl)
  refine ⟨_, _, pre0 _ ?_, hrun, hended, _, _, rfl, ?_, ⟨_, rfl⟩, hW, hsame.mono (by decide) (by decide)⟩
  · show Steps p.tables e below (s₁.setTop (mkF m 0 #[.val (.ref a1), .val (.ref a2), .val (.ref a3)] [])) _
    refine XS.aloadN X0.here hx rfl (hb hby own_d_prog_2_method_1_code_0) rfl rfl ?_
    show Steps p.tables e below (s₁.setTop (mkF m 1 #[.val (.ref a1), .val (.ref a2), .val (.ref a3)] [(.ref a1)])) _
    refine st1 _ ?_
    refine XS.aloadN X1.here hx rfl (hb hby own_d_prog_2_method_1_code_4) rfl rfl ?_
    refine XS.aloadN X1.here hx rfl (hb hby own_d_prog_2_method_1_code_5) rfl rfl ?_
    show Steps p.tables e below (T1.setTop (mkF m 6 #[.val (.ref a1), .val (.ref a2), .val (.ref a3)] [(.ref a2), (.ref a1)])) _
    refine st2 _ ?_
    refine XS.aloadN X2.here hx rfl (hb hby own_d_prog_2_method_1_code_9) rfl rfl ?_
    refine XS.aloadN X2.here hx rfl (hb hby own_d_prog_2_method_1_code_10) rfl rfl ?_
    show Steps p.tables e below (T2.setTop (mkF m 11 #[.val (.ref a1), .val (.ref a2), .val (.ref a3)] [(.ref a3), (.ref a1)])) _
    refine st5 _ ?_
    show Steps p.tables e below (T5.setTop (mkF m 14 #[.val (.ref a1), .val (.ref a2), .val (.ref a3)] [])) _
    exact X5.returnOut hx Bd.returns (hb hby own_d_prog_2_method_1_code_14) hr
  · show QF Z a1 a2 a3 h0 n0 _ T5.heap _
    rw [e5]
    exact ⟨rfl, Nf5, K2, f6, Fw5⟩
def own_sep : List Int32 := [58, 32]
theorem own_sep_lat : ∀ c ∈ own_sep, ¬ c < 0 ∧ ¬ (255 : Int32) < c := by decide
theorem own_z16_len : own_z16.length = 16 := rfl
theorem own_ins_len {vd : List Value} {i : Nat} {ds : List Int32} (h : vd.length = 16) (hf : i + ds.length ≤ 16) : (own_ins vd i ds).length = 16 := by
  simp only [own_ins, List.length_append, List.length_take, List.length_drop, List.length_map]; omega
theorem own_ins_take {vd : List Value} {cs ds : List Int32} (h : vd.length = 16) (hf : cs.length + ds.length ≤ 16) (e : vd.take cs.length = cs.map own_lo) : (own_ins vd cs.length ds).take (cs.length + ds.length) = (cs ++ ds).map own_lo := by
  rw [own_ins, e, List.map_append]
  have : (cs.map own_lo ++ ds.map own_lo).length = cs.length + ds.length := by simp
  rw [← this, List.take_left]
def own_v1 (rs : List Int32) : List Value := own_ins own_z16 0 rs
def own_v2 (rs : List Int32) : List Value := own_ins (own_v1 rs) (0 + rs.length) own_sep
def own_v3 (rs ps : List Int32) : List Value := own_ins (own_v2 rs) (0 + rs.length + own_sep.length) ps
theorem own_v1_len {rs : List Int32} (h : rs.length ≤ 3) : (own_v1 rs).length = 16 := own_ins_len own_z16_len (by omega)
theorem own_v2_len {rs : List Int32} (h : rs.length ≤ 3) : (own_v2 rs).length = 16 := own_ins_len (own_v1_len h) (by have : own_sep.length = 2 := rfl; omega)
theorem own_v3_len {rs ps : List Int32} (h : rs.length ≤ 3) (h2 : ps.length ≤ 3) : (own_v3 rs ps).length = 16 := own_ins_len (own_v2_len h) (by have : own_sep.length = 2 := rfl; omega)
theorem own_v3_take {rs ps : List Int32} (h : rs.length ≤ 3) (h2 : ps.length ≤ 3) : (own_v3 rs ps).take (rs ++ own_sep ++ ps).length = (rs ++ own_sep ++ ps).map own_lo := by
  have e1 : (own_v1 rs).take rs.length = rs.map own_lo := by
    have q := own_ins_take (vd := own_z16) (cs := []) (ds := rs) own_z16_len (by simp; omega) rfl
    simpa [own_v1] using q
  have e2 : (own_v2 rs).take (rs ++ own_sep).length = (rs ++ own_sep).map own_lo := by
    have q := own_ins_take (ds := own_sep) (own_v1_len h) (by have : own_sep.length = 2 := rfl; omega) e1
    rw [List.length_append]; unfold own_v2; rw [Nat.zero_add]; exact q
  have e3 := own_ins_take (ds := ps) (own_v2_len h) (by have : own_sep.length = 2 := rfl; rw [List.length_append]; omega) e2
  rw [List.length_append (as := rs ++ own_sep)]
  unfold own_v3
  rw [Nat.zero_add]; rw [List.length_append] at e3 ⊢; exact e3
theorem own_lat3 {rs ps : List Int32} (h : ∀ c ∈ rs, ¬ c < 0 ∧ ¬ (255 : Int32) < c) (h2 : ∀ c ∈ ps, ¬ c < 0 ∧ ¬ (255 : Int32) < c) : ∀ c ∈ rs ++ own_sep ++ ps, ¬ c < 0 ∧ ¬ (255 : Int32) < c := by
  intro c hc
  rcases List.mem_append.mp hc with hc | hc
  · rcases List.mem_append.mp hc with hc | hc
    · exact h c hc
    · exact own_sep_lat c hc
  · exact h2 c hc
theorem own_d_prog_2_method_4_code_0 : decode prog_2_method_4_code 0 = .ok (.new 16, 3) := by decide +kernel
theorem own_d_prog_2_method_4_code_3 : decode prog_2_method_4_code 3 = .ok (.dup, 1) := by decide +kernel
theorem own_d_prog_2_method_4_code_4 : decode prog_2_method_4_code 4 = .ok (.invokespecial 18, 3) := by decide +kernel
theorem own_d_prog_2_method_4_code_7 : decode prog_2_method_4_code 7 = .ok (.aload_n 0, 1) := by decide +kernel
theorem own_d_prog_2_method_4_code_8 : decode prog_2_method_4_code 8 = .ok (.getfield 7, 3) := by decide +kernel
theorem own_d_prog_2_method_4_code_11 : decode prog_2_method_4_code 11 = .ok (.invokevirtual 19, 3) := by decide +kernel
theorem own_d_prog_2_method_4_code_14 : decode prog_2_method_4_code 14 = .ok (.ldc 23, 2) := by decide +kernel
theorem own_d_prog_2_method_4_code_16 : decode prog_2_method_4_code 16 = .ok (.invokevirtual 19, 3) := by decide +kernel
theorem own_d_prog_2_method_4_code_19 : decode prog_2_method_4_code 19 = .ok (.aload_n 0, 1) := by decide +kernel
theorem own_d_prog_2_method_4_code_20 : decode prog_2_method_4_code 20 = .ok (.getfield 13, 3) := by decide +kernel
theorem own_d_prog_2_method_4_code_23 : decode prog_2_method_4_code 23 = .ok (.invokevirtual 19, 3) := by decide +kernel
theorem own_d_prog_2_method_4_code_26 : decode prog_2_method_4_code 26 = .ok (.invokevirtual 25, 3) := by decide +kernel
theorem own_d_prog_2_method_4_code_29 : decode prog_2_method_4_code 29 = .ok (.areturn, 1) := by decide +kernel
theorem own_pd___V : parseMethodDescriptor "()V" = some ⟨[], none⟩ := by decide +kernel
theorem own_pd__Ljava_lang_String__Ljava_lang_StringBuilder_ : parseMethodDescriptor "(Ljava/lang/String;)Ljava/lang/StringBuilder;" = some ⟨[(.object "java/lang/String")], some (.object "java/lang/StringBuilder")⟩ := by decide +kernel
theorem own_lit__58__32_ : (∀ c ∈ (": " : String).toList, c.toNat < 256) ∧ (": " : String).toList.map (fun c => Value.int (Jvm.Lit.byteI c.toNat.toUInt16)) = [.int (58 : Int32), .int (32 : Int32)] := by decide +kernel
theorem own_pd___Ljava_lang_String_ : parseMethodDescriptor "()Ljava/lang/String;" = some ⟨[], some (.object "java/lang/String")⟩ := by decide +kernel
theorem own_ef_prog_2_method_4_code_x (m : MethodId) (x0 : Addr) : entryFrame m #[(.ref x0)] 1 = mkF m 0 #[.val (.ref x0)] [] := by first | (simp [entryFrame, mkF, argsToLocals, Value.category]; done) | rfl
set_option maxRecDepth 65536 in
set_option maxHeartbeats 40000000 in
theorem rmFt (l : Launch) (Z : State) (a0 : Array Value) (hw : ∀ d ∈ tables_1, d.before a0 Z = true) (ws : List Jvm.Cond) (hEL : EW Z a0 own_EL) (a1 a2 a3 : Addr) (rs ps : List Int32) (G1 : Int32) (G3 : Value) (h0 : Heap) (n0 : Nat) (Z0 : n0 ≤ h0.size) (O2 : Sta Z Z.heap "java/lang/String" "COMPACT_STRINGS" "Z" (.int G1)) (P5 : ¬ (G1 = (0 : Int32))) (O4 : Sta Z Z.heap "jdk/internal/util/Preconditions" "SIOOBE_FORMATTER" "Ljava/util/function/BiFunction;" G3) (rG3 : G3.isRef = true) (O0 : Old Z n0 h0) (E_a1 : Exa Z h0 a1 "com/example/treeward/treeward/engine/Finding") (F_resource_a1 : Fld Z h0 a1 "com/example/treeward/treeward/engine/Finding" "resource" "Ljava/lang/String;" (.ref a2)) (F_problem_a1 : Fld Z h0 a1 "com/example/treeward/treeward/engine/Finding" "problem" "Ljava/lang/String;" (.ref a3)) (S_a2 : StrV Z h0 a2 rs) (S_a3 : StrV Z h0 a3 ps) (hr3 : rs.length ≤ 3) (hp3 : ps.length ≤ 3) (hrl : ∀ c ∈ rs, ¬ c < 0 ∧ ¬ (255 : Int32) < c) (hpl : ∀ c ∈ ps, ¬ c < 0 ∧ ¬ (255 : Int32) < c) :
    MetFree l (⟨"com/example/treeward/treeward/engine/Finding", "toString", "()Ljava/lang/String;"⟩ : MethodName) (head1 (Jvm.Cond.code (⟨"com/example/treeward/treeward/engine/Finding", "toString", "()Ljava/lang/String;"⟩ : MethodName) prog_2_method_4_code 1 (some (.object "java/lang/String")) :: ws) ({ frames := 6, cells := 6, slots := 60, locals := 120 } : Room)) (fun a U => a = #[(.ref a1)] ∧ Z.Warmed39 U.vm ∧ U.heap = h0 ∧ CHv Z own_EL U.vm h0) (fun _ _ _ _ _ => True) (fun _ U o U' => ∃ v L, o = .returned v ∧ QSr Z (rs ++ own_sep ++ ps) h0 n0 v U'.heap L ∧ CHr Z own_EL U.vm U.heap U'.vm U'.heap ∧ ReturnedEndW U o U' L 6 60) := by
  refine MetFree.of_bodySF (plainFor_of_name own_pn_com_example_treeward_treeward_engine_Finding) hisR ?_
  intro p e s m args below meth c s₁ Bd hml0 hP hK
  obtain ⟨rfl, hZ, hh, hCH0⟩ := hP
  have hx := Bd.exec
  have hby := Bd.bytes
  have hml : c.maxLocals = 1 := hml0
  have hown : s.vm.findClass "com/example/treeward/treeward/engine/Finding" = some m.cls := findClass_of_methodNamed Bd.named
  have hnm := (name_of_methodNamed Bd.named Bd.method).1
  have X0 : Stand p l e ({ frames := 6, cells := 6, slots := 60, locals := 120 } : Room) (s.setVm s.vm) m #[(.ref a1)] below meth c s₁ [] 0 0 := Stand.of_body Bd
  have e0 : s₁.heap = h0 := by rw [← hh, Bd.state]; rfl
  have N0 := Fr.nil n0
  have CH0 : CHr Z own_EL s.vm h0 s.vm h0 := CHr.refl hCH0
  have hS0 : s.Since s.vm 0 := State.WarmedH.since (State.WarmedH.refl s) 0
  have pre0 : ∀ t, Steps p.tables e below (s₁.setTop (mkF m 0 #[.val (.ref a1)] [])) t → Steps p.tables e below (s₁.setTop (entryFrame m #[(.ref a1)] 1)) t := fun t k => castTop (own_ef_prog_2_method_4_code_x m a1) k
  obtain ⟨T1, h1, X1, e1, E1, A1, D1, -, st1⟩ := newO X0 hx hZ hown (hw _ (List.mem_of_getElem? (i := 42) rfl)) (hw _ (List.mem_of_getElem? (i := 43) rfl)) (hw _ (List.mem_of_getElem? (i := 44) rfl)) e0 (g := (mkF m 0 #[.val (.ref a1)] [])) rfl (hb hby own_d_prog_2_method_4_code_0) (by decide) (by decide)
  obtain ⟨b1, g1⟩ : ∃ z, z = h0.size := ⟨_, rfl⟩
  rw [← g1] at A1 D1 st1
  have sz_b1 : h0.size ≤ b1 := Nat.le_trans (Keep.refl h0 []).1 (Nat.le_of_eq g1.symm)
  have g_b1 : n0 ≤ b1 := Nat.le_trans Z0 sz_b1
  have CH1 : CHr Z own_EL s.vm h0 s.vm h1 := CH0.trans (CHr.ext E1 CH0.1)
  have K1 : Keep h0 h1 [] := (Keep.refl h0 []).ext E1
  have F_value_b1 : Fld Z h1 b1 "java/lang/AbstractStringBuilder" "value" "[B" .null := D1 (Or.inl (hw _ (List.mem_of_getElem? (i := 57) rfl))) (ty := (.array .byte)) (by decide)
  have F_coder_b1 : Fld Z h1 b1 "java/lang/AbstractStringBuilder" "coder" "B" (.int (0 : Int32)) := D1 (Or.inl (hw _ (List.mem_of_getElem? (i := 59) rfl))) (ty := .byte) (by decide)
  have F_count_b1 : Fld Z h1 b1 "java/lang/AbstractStringBuilder" "count" "I" (.int (0 : Int32)) := D1 (Or.inl (hw _ (List.mem_of_getElem? (i := 82) rfl))) (ty := .int) (by decide)
  have f3 : Old Z n0 h1 := (O0.ext E1)
  obtain ⟨_, _, ⟨T2, L2, k2, n2⟩, -, X2, ⟨Lc2, hQ2, l2, y2, z2⟩, st2⟩ := X1.specialBack hx (y := (⟨"java/lang/StringBuilder", "<init>", "()V"⟩ : MethodName)) rfl hown (mvT hZ (hw _ (List.mem_of_getElem? (i := 45) rfl))) (mvT hZ (hw _ (List.mem_of_getElem? (i := 46) rfl))) (mvT hZ (hw _ (List.mem_of_getElem? (i := 47) rfl))) (by decide) (backOf (W := 1) (rmSi l Z a0 hw [] b1 G1 G3 h1 n0 (Nat.le_trans Z0 K1.1) O2 P5 O4 rG3 f3 A1 F_value_b1 F_coder_b1 F_count_b1 g_b1) hZ (hw _ (List.mem_of_getElem? (i := 47) rfl)) (hw _ (List.mem_of_getElem? (i := 44) rfl)) (by decide) (by decide)) (g := (mkF m 4 #[.val (.ref a1)] [(.ref b1), (.ref b1)])) rfl (by rw [hml]; rfl) (Steps.refl _) (a := b1) (argsL := []) (rest := [(.ref b1)]) (lenOf own_pd___V rfl) rfl (by show 2 * 0 + _ ≤ _; exact Nat.le_of_eq rfl) (hb hby own_d_prog_2_method_4_code_4) (fun _ _ => ⟨rfl, e1, (by decide : 1 + 1 ≤ _), (by decide : 4 + 16 ≤ _)⟩)
  dsimp only [Pt.U, Pt.locs, Pt.cells, Pt.slots] at X2 l2 y2 z2 st2 hQ2
  subst l2 y2 z2
  obtain ⟨rfl, N2q, K2q, vb2, vk2, vs2, Gv2, Gc2, Gn2, Ga2⟩ := hQ2
  have N2a := Fr.app N0 N2q
  have CH2 : CHr Z own_EL s.vm h0 s.vm T2.heap := CH1.trans (CHr.keep K2q (allS (Safe.exa (hZ : Z.Warmed39 s.vm).alike A1 (by decide) (by decide)) all0) CH1.1)
  have K2 : Keep h0 T2.heap [] := K1.trans K2q (allS (Or.inr sz_b1) all0)
  have sz_vb2 : h0.size ≤ vb2 := Nat.le_trans K1.1 vs2
  have g_vb2 : n0 ≤ vb2 := Nat.le_trans Z0 sz_vb2
  have f4 : Fld Z T2.heap a1 "com/example/treeward/treeward/engine/Finding" "resource" "Ljava/lang/String;" (.ref a2) := ((F_resource_a1.ext E1).keep K2q (ninS (Nat.ne_of_lt (Nat.lt_of_lt_of_le E_a1.lt (Nat.le_of_eq g1.symm))) nin0))
  obtain ⟨T5, X5, e5, st5⟩ := getF X2 hx hZ hown (host := "") (Or.inl (hw _ (List.mem_of_getElem? (i := 33) rfl))) Via.refl rfl f4 (g := (mkF m 8 #[.val (.ref a1)] [(.ref a1), (.ref b1)])) rfl rfl (hb hby own_d_prog_2_method_4_code_8)
  have f7 : Old Z n0 T2.heap := (f3.keep K2q (allS g_b1 all0))
  have f8 : Exa Z T2.heap b1 "java/lang/StringBuilder" := (A1.keep K2q)
  have f9 : StrV Z T2.heap a2 rs := (S_a2.keep0 (((Keep.refl h0 []).ext E1).trans K2q (allS (Or.inr (Nat.le_trans (Keep.refl h0 []).1 (Nat.le_of_eq g1.symm))) all0)))
  obtain ⟨cq6, kq6, q6a, q6b, q6c⟩ := isOf hZ e5 f8
  obtain ⟨_, _, ⟨T6, L6, k6, n6⟩, -, X6, ⟨Lc6, hQ6, l6, y6, z6⟩, st6⟩ := X5.virtualBack hx (y := (⟨"java/lang/StringBuilder", "append", "(Ljava/lang/String;)Ljava/lang/StringBuilder;"⟩ : MethodName)) (z := (⟨"java/lang/StringBuilder", "append", "(Ljava/lang/String;)Ljava/lang/StringBuilder;"⟩ : MethodName)) hown (mvT hZ (hw _ (List.mem_of_getElem? (i := 60) rfl))) (mvT hZ (hw _ (List.mem_of_getElem? (i := 61) rfl))) (notFace_of_selects (args := #[]) (mvT hZ (hw _ (List.mem_of_getElem? (i := 63) rfl)))) (mvT hZ (hw _ (List.mem_of_getElem? (i := 63) rfl))) (mvT hZ (hw _ (List.mem_of_getElem? (i := 62) rfl))) (by decide) (backOf (W := 0) (rmSa l Z a0 hw [] b1 a2 vb2 vk2 0 own_z16 rs G1 G3 T2.heap n0 (Nat.le_trans Z0 K2.1) O2 P5 O4 rG3 f7 f8 Gv2 Gc2 Gn2 Ga2 f9 own_z16_len (by omega) g_b1 g_vb2) hZ (hw _ (List.mem_of_getElem? (i := 64) rfl)) (hw _ (List.mem_of_getElem? (i := 44) rfl)) (by decide) (by decide)) q6a q6c (g := (mkF m 11 #[.val (.ref a1)] [(.ref a2), (.ref b1)])) rfl (by rw [hml]; rfl) (Steps.refl _) (argsL := [(.ref a2)]) (rest := []) (lenOf own_pd__Ljava_lang_String__Ljava_lang_StringBuilder_ rfl) rfl (by show 2 * 0 + _ ≤ _; exact Nat.le_of_eq rfl) (hb hby own_d_prog_2_method_4_code_11) (fun _ _ => ⟨rfl, e5, (by decide : 2 + 0 ≤ _), (by decide : 20 + 0 ≤ _)⟩)
  dsimp only [Pt.U, Pt.locs, Pt.cells, Pt.slots] at X6 l6 y6 z6 st6 hQ6
  subst l6 y6 z6
  obtain ⟨rfl, N6q, K6q, Gv6, Gc6, Gn6, Ga6⟩ := hQ6
  have N6a := Fr.app N2a N6q
  have f10 : Safe Z own_EL s.vm T2.heap vb2 := (Safe.keep K2q (allS (Safe.exa (hZ : Z.Warmed39 s.vm).alike A1 (by decide) (by decide)) all0) CH1.1 (Safe.new vs2))
  have CH3 : CHr Z own_EL s.vm h0 s.vm T6.heap := CH2.trans (CHr.keep K6q (allS f10 (allS (Safe.exa (hZ : Z.Warmed39 s.vm).alike f8 (by decide) (by decide)) all0)) CH2.1)
  have K3 : Keep h0 T6.heap [] := K2.trans K6q (allS (Or.inr sz_vb2) (allS (Or.inr sz_b1) all0))
  obtain ⟨lit11, T11, h11, kl11, lba11, kk11, X11, e11, E11, hS11, hk11, hZ11, hown11, Ea11, Fc11, Fv11, V11, la11, lb11, C11, Lt11, sf11, st11⟩ := ldcCH X6 hx hZ hown (hw _ (List.mem_of_getElem? (i := 108) rfl)) (own_wS hw) rfl hS0 (Nat.zero_le _) hEL (by decide : ("com/example/treeward/treeward/engine/Finding", 23) ∈ own_EL) CH3.1 (vs := [.int (58 : Int32), .int (32 : Int32)]) (z := (2 : Int32)) own_lit__58__32_ (by decide) (by decide) (g := (mkF m 14 #[.val (.ref a1)] [(.ref b1)])) rfl (hb hby own_d_prog_2_method_4_code_14) (n := 8) (by decide) (by decide) (by decide) (by decide)
  have CH4 : CHr Z own_EL s.vm h0 T11.vm h11 := CH3.trans C11
  have K4 : Keep h0 h11 [] := K3.ext E11
  have f12 : Safe Z own_EL T11.vm h11 vb2 := (C11.safe Ga6.lt (Safe.keep K6q (allS f10 (allS (Safe.exa (hZ : Z.Warmed39 s.vm).alike f8 (by decide) (by decide)) all0)) CH2.1 f10))
  have ne11_vb2 := sf11 vb2 f12
  have SL11 : StrV Z h11 lit11 own_sep := ⟨lba11, kk11, _, _, Ea11, Fv11, Fc11, V11, StrChars.Road.codOf (cs := own_sep) (n := 2) rfl (fun c hc => (own_sep_lat c hc).2), own_up _ own_sep_lat⟩
  have f14 : Old Z n0 h11 := ((f7.keep K6q (allS g_vb2 (allS g_b1 all0))).ext E11)
  have f15 : Exa Z h11 b1 "java/lang/StringBuilder" := ((f8.keep K6q).ext E11)
  have f16 : Fld Z h11 b1 "java/lang/AbstractStringBuilder" "value" "[B" (.ref vb2) := (Gv6.ext E11)
  have f17 : Fld Z h11 b1 "java/lang/AbstractStringBuilder" "coder" "B" (.int (0 : Int32)) := (Gc6.ext E11)
  have f18 : Fld Z h11 b1 "java/lang/AbstractStringBuilder" "count" "I" (.int (Int32.ofNat (0 + rs.length))) := (Gn6.ext E11)
  have f19 : Arv Z h11 vb2 vk2 .byte (16 : Int32) (own_ins own_z16 0 rs) (.int (0 : Int32)) := (Ga6.ext E11)
  obtain ⟨cq13, kq13, q13a, q13b, q13c⟩ := isOf hZ11 e11 f15
  obtain ⟨_, _, ⟨T13, L13, k13, n13⟩, -, X13, ⟨Lc13, hQ13, l13, y13, z13⟩, st13⟩ := X11.virtualBack hx (y := (⟨"java/lang/StringBuilder", "append", "(Ljava/lang/String;)Ljava/lang/StringBuilder;"⟩ : MethodName)) (z := (⟨"java/lang/StringBuilder", "append", "(Ljava/lang/String;)Ljava/lang/StringBuilder;"⟩ : MethodName)) hown11 (mvT hZ11 (hw _ (List.mem_of_getElem? (i := 60) rfl))) (mvT hZ11 (hw _ (List.mem_of_getElem? (i := 61) rfl))) (notFace_of_selects (args := #[]) (mvT hZ11 (hw _ (List.mem_of_getElem? (i := 63) rfl)))) (mvT hZ11 (hw _ (List.mem_of_getElem? (i := 63) rfl))) (mvT hZ11 (hw _ (List.mem_of_getElem? (i := 62) rfl))) (by decide) (backOf (W := 0) (rmSa l Z a0 hw [] b1 lit11 vb2 vk2 (0 + rs.length) (own_ins own_z16 0 rs) own_sep G1 G3 h11 n0 (Nat.le_trans Z0 K4.1) O2 P5 O4 rG3 f14 f15 f16 f17 f18 f19 SL11 (own_v1_len hr3) (by have : own_sep.length = 2 := rfl; omega) g_b1 g_vb2) hZ11 (hw _ (List.mem_of_getElem? (i := 64) rfl)) (hw _ (List.mem_of_getElem? (i := 44) rfl)) (by decide) (by decide)) q13a q13c (g := (mkF m 16 #[.val (.ref a1)] [(.ref lit11), (.ref b1)])) rfl (by rw [hml]; rfl) (Steps.refl _) (argsL := [(.ref lit11)]) (rest := []) (lenOf own_pd__Ljava_lang_String__Ljava_lang_StringBuilder_ rfl) rfl (by show 2 * 0 + _ ≤ _; exact Nat.le_of_eq rfl) (hb hby own_d_prog_2_method_4_code_16) (fun _ _ => ⟨rfl, e11, (by decide : 4 + 0 ≤ _), (by decide : 32 + 0 ≤ _)⟩)
  dsimp only [Pt.U, Pt.locs, Pt.cells, Pt.slots] at X13 l13 y13 z13 st13 hQ13
  subst l13 y13 z13
  obtain ⟨rfl, N13q, K13q, Gv13, Gc13, Gn13, Ga13⟩ := hQ13
  have N13a := Fr.app N6a N13q
  have CH5 : CHr Z own_EL s.vm h0 T11.vm T13.heap := CH4.trans (CHr.keep K13q (allS f12 (allS (Safe.exa (hZ11 : Z.Warmed39 T11.vm).alike f15 (by decide) (by decide)) all0)) CH4.1)
  have K5 : Keep h0 T13.heap [] := K4.trans K13q (allS (Or.inr sz_vb2) (allS (Or.inr sz_b1) all0))
  have f20 : Exa Z h1 a1 "com/example/treeward/treeward/engine/Finding" := (E_a1.ext E1)
  have f21 : Fld Z T13.heap a1 "com/example/treeward/treeward/engine/Finding" "problem" "Ljava/lang/String;" (.ref a3) := (((((F_problem_a1.ext E1).keep K2q (ninS (Nat.ne_of_lt (Nat.lt_of_lt_of_le E_a1.lt (Nat.le_of_eq g1.symm))) nin0)).keep K6q (ninS (Nat.ne_of_lt (Nat.lt_of_lt_of_le f20.lt vs2)) (ninS (Nat.ne_of_lt (Nat.lt_of_lt_of_le E_a1.lt (Nat.le_of_eq g1.symm))) nin0))).ext E11).keep K13q (ninS (Nat.ne_of_lt (Nat.lt_of_lt_of_le f20.lt vs2)) (ninS (Nat.ne_of_lt (Nat.lt_of_lt_of_le E_a1.lt (Nat.le_of_eq g1.symm))) nin0)))
  obtain ⟨T22, X22, e22, st22⟩ := getF X13 hx hZ11 hown11 (host := "") (Or.inl (hw _ (List.mem_of_getElem? (i := 35) rfl))) Via.refl rfl f21 (g := (mkF m 20 #[.val (.ref a1)] [(.ref a1), (.ref b1)])) rfl rfl (hb hby own_d_prog_2_method_4_code_20)
  have f24 : Old Z n0 T13.heap := (f14.keep K13q (allS g_vb2 (allS g_b1 all0)))
  have f25 : Exa Z T13.heap b1 "java/lang/StringBuilder" := (f15.keep K13q)
  have f26 : StrV Z T13.heap a3 ps := (S_a3.keep0 ((((((Keep.refl h0 []).ext E1).trans K2q (allS (Or.inr (Nat.le_trans (Keep.refl h0 []).1 (Nat.le_of_eq g1.symm))) all0)).trans K6q (allS (Or.inr (Nat.le_trans ((Keep.refl h0 []).ext E1).1 vs2)) (allS (Or.inr (Nat.le_trans (Keep.refl h0 []).1 (Nat.le_of_eq g1.symm))) all0))).ext E11).trans K13q (allS (Or.inr (Nat.le_trans ((Keep.refl h0 []).ext E1).1 vs2)) (allS (Or.inr (Nat.le_trans (Keep.refl h0 []).1 (Nat.le_of_eq g1.symm))) all0))))
  obtain ⟨cq23, kq23, q23a, q23b, q23c⟩ := isOf hZ11 e22 f25
  obtain ⟨_, _, ⟨T23, L23, k23, n23⟩, -, X23, ⟨Lc23, hQ23, l23, y23, z23⟩, st23⟩ := X22.virtualBack hx (y := (⟨"java/lang/StringBuilder", "append", "(Ljava/lang/String;)Ljava/lang/StringBuilder;"⟩ : MethodName)) (z := (⟨"java/lang/StringBuilder", "append", "(Ljava/lang/String;)Ljava/lang/StringBuilder;"⟩ : MethodName)) hown11 (mvT hZ11 (hw _ (List.mem_of_getElem? (i := 60) rfl))) (mvT hZ11 (hw _ (List.mem_of_getElem? (i := 61) rfl))) (notFace_of_selects (args := #[]) (mvT hZ11 (hw _ (List.mem_of_getElem? (i := 63) rfl)))) (mvT hZ11 (hw _ (List.mem_of_getElem? (i := 63) rfl))) (mvT hZ11 (hw _ (List.mem_of_getElem? (i := 62) rfl))) (by decide) (backOf (W := 0) (rmSa l Z a0 hw [] b1 a3 vb2 vk2 ((0 + rs.length) + own_sep.length) (own_ins (own_ins own_z16 0 rs) (0 + rs.length) own_sep) ps G1 G3 T13.heap n0 (Nat.le_trans Z0 K5.1) O2 P5 O4 rG3 f24 f25 Gv13 Gc13 Gn13 Ga13 f26 (own_v2_len hr3) (by have : own_sep.length = 2 := rfl; omega) g_b1 g_vb2) hZ11 (hw _ (List.mem_of_getElem? (i := 64) rfl)) (hw _ (List.mem_of_getElem? (i := 44) rfl)) (by decide) (by decide)) q23a q23c (g := (mkF m 23 #[.val (.ref a1)] [(.ref a3), (.ref b1)])) rfl (by rw [hml]; rfl) (Steps.refl _) (argsL := [(.ref a3)]) (rest := []) (lenOf own_pd__Ljava_lang_String__Ljava_lang_StringBuilder_ rfl) rfl (by show 2 * 0 + _ ≤ _; exact Nat.le_of_eq rfl) (hb hby own_d_prog_2_method_4_code_23) (fun _ _ => ⟨rfl, e22, (by decide : 4 + 0 ≤ _), (by decide : 32 + 0 ≤ _)⟩)
  dsimp only [Pt.U, Pt.locs, Pt.cells, Pt.slots] at X23 l23 y23 z23 st23 hQ23
  subst l23 y23 z23
  obtain ⟨rfl, N23q, K23q, Gv23, Gc23, Gn23, Ga23⟩ := hQ23
  have N23a := Fr.app N13a N23q
  have f27 : Safe Z own_EL T11.vm T13.heap vb2 := (Safe.keep K13q (allS f12 (allS (Safe.exa (hZ11 : Z.Warmed39 T11.vm).alike f15 (by decide) (by decide)) all0)) CH4.1 f12)
  have CH6 : CHr Z own_EL s.vm h0 T11.vm T23.heap := CH5.trans (CHr.keep K23q (allS f27 (allS (Safe.exa (hZ11 : Z.Warmed39 T11.vm).alike f25 (by decide) (by decide)) all0)) CH5.1)
  have K6 : Keep h0 T23.heap [] := K5.trans K23q (allS (Or.inr sz_vb2) (allS (Or.inr sz_b1) all0))
  have Gm28 : Fld Z T23.heap b1 "java/lang/AbstractStringBuilder" "count" "I" (.int (Int32.ofNat (rs ++ own_sep ++ ps).length)) := by
    have q := Gn23
    rw [Nat.zero_add, ← List.length_append, ← List.length_append] at q; exact q
  have f29 : Old Z n0 T23.heap := (f24.keep K23q (allS g_vb2 (allS g_b1 all0)))
  have f30 : Exa Z T23.heap b1 "java/lang/StringBuilder" := (f25.keep K23q)
  obtain ⟨cq28, kq28, q28a, q28b, q28c⟩ := isOf hZ11 rfl f30
  obtain ⟨_, _, ⟨T28, L28, k28, n28⟩, -, X28, ⟨Lc28, hQ28, l28, y28, z28⟩, st28⟩ := X23.virtualBack hx (y := (⟨"java/lang/StringBuilder", "toString", "()Ljava/lang/String;"⟩ : MethodName)) (z := (⟨"java/lang/StringBuilder", "toString", "()Ljava/lang/String;"⟩ : MethodName)) hown11 (mvT hZ11 (hw _ (List.mem_of_getElem? (i := 109) rfl))) (mvT hZ11 (hw _ (List.mem_of_getElem? (i := 110) rfl))) (notFace_of_selects (args := #[]) (mvT hZ11 (hw _ (List.mem_of_getElem? (i := 112) rfl)))) (mvT hZ11 (hw _ (List.mem_of_getElem? (i := 112) rfl))) (mvT hZ11 (hw _ (List.mem_of_getElem? (i := 111) rfl))) (by decide) (backOf (W := 0) (rmTs l Z a0 hw [] b1 vb2 vk2 (own_v3 rs ps) (rs ++ own_sep ++ ps) G1 G3 T23.heap n0 (Nat.le_trans Z0 K6.1) O2 P5 O4 rG3 f29 f30 Gv23 Gc23 Gm28 Ga23 (own_v3_len hr3 hp3) (by rw [List.length_append, List.length_append]; have : own_sep.length = 2 := rfl; omega) (own_v3_take hr3 hp3) (own_lat3 hrl hpl)) hZ11 (hw _ (List.mem_of_getElem? (i := 113) rfl)) (hw _ (List.mem_of_getElem? (i := 44) rfl)) (by decide) (by decide)) q28a q28c (g := (mkF m 26 #[.val (.ref a1)] [(.ref b1)])) rfl (by rw [hml]; rfl) (Steps.refl _) (argsL := []) (rest := []) (lenOf own_pd___Ljava_lang_String_ rfl) rfl (by show 2 * 0 + _ ≤ _; exact Nat.le_of_eq rfl) (hb hby own_d_prog_2_method_4_code_26) (fun _ _ => ⟨rfl, rfl, (by decide : 4 + 2 ≤ _), (by decide : 32 + 20 ≤ _)⟩)
  dsimp only [Pt.U, Pt.locs, Pt.cells, Pt.slots] at X28 l28 y28 z28 st28 hQ28
  subst l28 y28 z28
  obtain ⟨r28, rfl, N28q, K28q, SV28⟩ := hQ28
  have N28a := Fr.app N23a N28q
  have CH7 : CHr Z own_EL s.vm h0 T11.vm T28.heap := CH6.trans (CHr.keep K28q all0 CH6.1)
  have K7 : Keep h0 T28.heap [] := K6.trans K28q all0
  have hk_31 := Nat.le_trans hk11 ((((Keep.refl h11 [vb2, b1]).trans K13q (allS (Or.inl (List.mem_of_getElem? (i := 0) rfl)) (allS (Or.inl (List.mem_of_getElem? (i := 1) rfl)) all0))).trans K23q (allS (Or.inl (List.mem_of_getElem? (i := 0) rfl)) (allS (Or.inl (List.mem_of_getElem? (i := 1) rfl)) all0))).trans K28q all0).1
  obtain ⟨fs, hr, hrun, hended, hend⟩ := X28.leaveW hS11 hk_31 (v := some (.ref r28)) (fun h => by rw [Bd.returns] at h; cases h)
  refine ⟨_, _, pre0 _ ?_, hrun, hended, _, _, rfl, ?_, ?_, hend.1, hend.2.1, hend.2.2.1, hend.2.2.2.mono (by decide) (by decide)⟩
  · show Steps p.tables e below (s₁.setTop (mkF m 0 #[.val (.ref a1)] [])) _
    refine st1 _ ?_
    refine XS.dup X1.here hx rfl (hb hby own_d_prog_2_method_4_code_3) rfl rfl ?_
    show Steps p.tables e below (T1.setTop (mkF m 4 #[.val (.ref a1)] [(.ref b1), (.ref b1)])) _
    refine st2.trans ?_
    refine XS.aloadN X2.here hx rfl (hb hby own_d_prog_2_method_4_code_7) rfl rfl ?_
    show Steps p.tables e below (T2.setTop (mkF m 8 #[.val (.ref a1)] [(.ref a1), (.ref b1)])) _
    refine st5 _ ?_
    show Steps p.tables e below (T5.setTop (mkF m 11 #[.val (.ref a1)] [(.ref a2), (.ref b1)])) _
    refine st6.trans ?_
    show Steps p.tables e below (T6.setTop (mkF m 14 #[.val (.ref a1)] [(.ref b1)])) _
    refine st11 _ ?_
    show Steps p.tables e below (T11.setTop (mkF m 16 #[.val (.ref a1)] [(.ref lit11), (.ref b1)])) _
    refine st13.trans ?_
    refine XS.aloadN X13.here hx rfl (hb hby own_d_prog_2_method_4_code_19) rfl rfl ?_
    show Steps p.tables e below (T13.setTop (mkF m 20 #[.val (.ref a1)] [(.ref a1), (.ref b1)])) _
    refine st22 _ ?_
    show Steps p.tables e below (T22.setTop (mkF m 23 #[.val (.ref a1)] [(.ref a3), (.ref b1)])) _
    refine st23.trans ?_
    show Steps p.tables e below (T23.setTop (mkF m 26 #[.val (.ref a1)] [(.ref b1)])) _
    refine st28.trans ?_
    show Steps p.tables e below (T28.setTop (mkF m 29 #[.val (.ref a1)] [(.ref r28)])) _
    jvm_step X28.here [X28.here.top, hx, (hb hby own_d_prog_2_method_4_code_29), X28.method', Bd.returns, Value.isRef, FieldType.isReference]
    first | (intro acts; rw [hr _ acts rfl rfl rfl]) | rw [hr _ _ rfl rfl rfl]
    exact Steps.refl _
  · show QSr Z (rs ++ own_sep ++ ps) h0 n0 _ T28.heap _
    exact ⟨r28, rfl, N28a, K7, SV28⟩
  · show CHr Z own_EL s.vm s.heap T28.vm T28.heap
    rw [hh]
    exact CH7.trans (CHv.at X28 hZ11 hEL CH7.1)
def own_m (p1 : Int32) : Int32 := (((p1.toUInt32 >>> ((24 : Int32) &&& 31).toUInt32).toInt32) &&& (3 : Int32))
def own_cs (p1 : Int32) : List Int32 := if own_m p1 = 0 then [] else if own_m p1 = 1 then [(own_k p1)] else if own_m p1 = 2 then [(own_k p1), (own_k ((p1.toUInt32 >>> ((8 : Int32) &&& 31).toUInt32).toInt32))] else [(own_k p1), (own_k ((p1.toUInt32 >>> ((8 : Int32) &&& 31).toUInt32).toInt32)), (own_k ((p1.toUInt32 >>> ((16 : Int32) &&& 31).toUInt32).toInt32))]
theorem own_hp1 (a : Int32) : ∀ c ∈ ([own_k a] : List Int32), ¬ c < 0 ∧ ¬ (255 : Int32) < c := by
  intro c hc; simp only [List.mem_cons, List.not_mem_nil, or_false] at hc; subst hc; exact own_k_lat _
theorem own_hp2 (a b : Int32) : ∀ c ∈ ([own_k a, own_k b] : List Int32), ¬ c < 0 ∧ ¬ (255 : Int32) < c := by
  intro c hc; simp only [List.mem_cons, List.not_mem_nil, or_false] at hc; rcases hc with rfl | rfl <;> exact own_k_lat _
theorem own_hp3 (a b d : Int32) : ∀ c ∈ ([own_k a, own_k b, own_k d] : List Int32), ¬ c < 0 ∧ ¬ (255 : Int32) < c := by
  intro c hc; simp only [List.mem_cons, List.not_mem_nil, or_false] at hc; rcases hc with rfl | rfl | rfl <;> exact own_k_lat _
theorem own_cs_len (p1 : Int32) : (own_cs p1).length ≤ 3 := by unfold own_cs; split <;> (try split) <;> (try split) <;> simp
theorem own_cs_lat (p1 : Int32) : ∀ c ∈ own_cs p1, ¬ c < 0 ∧ ¬ (255 : Int32) < c := by
  unfold own_cs; split
  · exact fun c hc => nomatch hc
  split
  · exact own_hp1 _
  split
  · exact own_hp2 _ _
  exact own_hp3 _ _ _
theorem own_d_method_3_code_0 : decode method_3_code 0 = .ok (.iload_n 0, 1) := by decide +kernel
theorem own_d_method_3_code_1 : decode method_3_code 1 = .ok (.bipush 24, 2) := by decide +kernel
theorem own_d_method_3_code_3 : decode method_3_code 3 = .ok (.iushr, 1) := by decide +kernel
theorem own_d_method_3_code_4 : decode method_3_code 4 = .ok (.iconst 3, 1) := by decide +kernel
theorem own_d_method_3_code_5 : decode method_3_code 5 = .ok (.iand, 1) := by decide +kernel
theorem own_d_method_3_code_6 : decode method_3_code 6 = .ok (.istore_n 1, 1) := by decide +kernel
theorem own_d_method_3_code_7 : decode method_3_code 7 = .ok (.iload_n 0, 1) := by decide +kernel
theorem own_d_method_3_code_8 : decode method_3_code 8 = .ok (.sipush 255, 3) := by decide +kernel
theorem own_d_method_3_code_11 : decode method_3_code 11 = .ok (.iand, 1) := by decide +kernel
theorem own_d_method_3_code_12 : decode method_3_code 12 = .ok (.i2c, 1) := by decide +kernel
theorem own_d_method_3_code_13 : decode method_3_code 13 = .ok (.istore_n 2, 1) := by decide +kernel
theorem own_d_method_3_code_14 : decode method_3_code 14 = .ok (.iload_n 0, 1) := by decide +kernel
theorem own_d_method_3_code_15 : decode method_3_code 15 = .ok (.bipush 8, 2) := by decide +kernel
theorem own_d_method_3_code_17 : decode method_3_code 17 = .ok (.iushr, 1) := by decide +kernel
theorem own_d_method_3_code_18 : decode method_3_code 18 = .ok (.sipush 255, 3) := by decide +kernel
theorem own_d_method_3_code_21 : decode method_3_code 21 = .ok (.iand, 1) := by decide +kernel
theorem own_d_method_3_code_22 : decode method_3_code 22 = .ok (.i2c, 1) := by decide +kernel
theorem own_d_method_3_code_23 : decode method_3_code 23 = .ok (.istore_n 3, 1) := by decide +kernel
theorem own_d_method_3_code_24 : decode method_3_code 24 = .ok (.iload_n 0, 1) := by decide +kernel
theorem own_d_method_3_code_25 : decode method_3_code 25 = .ok (.bipush 16, 2) := by decide +kernel
theorem own_d_method_3_code_27 : decode method_3_code 27 = .ok (.iushr, 1) := by decide +kernel
theorem own_d_method_3_code_28 : decode method_3_code 28 = .ok (.sipush 255, 3) := by decide +kernel
theorem own_d_method_3_code_31 : decode method_3_code 31 = .ok (.iand, 1) := by decide +kernel
theorem own_d_method_3_code_32 : decode method_3_code 32 = .ok (.i2c, 1) := by decide +kernel
theorem own_d_method_3_code_33 : decode method_3_code 33 = .ok (.istore 4, 2) := by decide +kernel
theorem own_d_method_3_code_35 : decode method_3_code 35 = .ok (.iload_n 1, 1) := by decide +kernel
theorem own_d_method_3_code_36 : decode method_3_code 36 = .ok (.ifCond .ne 14, 3) := by decide +kernel
theorem own_d_method_3_code_39 : decode method_3_code 39 = .ok (.new 23, 3) := by decide +kernel
theorem own_d_method_3_code_42 : decode method_3_code 42 = .ok (.dup, 1) := by decide +kernel
theorem own_d_method_3_code_43 : decode method_3_code 43 = .ok (.iconst 0, 1) := by decide +kernel
theorem own_d_method_3_code_44 : decode method_3_code 44 = .ok (.newarray .char, 2) := by decide +kernel
theorem own_d_method_3_code_46 : decode method_3_code 46 = .ok (.invokespecial 32, 3) := by decide +kernel
theorem own_d_method_3_code_49 : decode method_3_code 49 = .ok (.areturn, 1) := by decide +kernel
theorem own_pd___C_V : parseMethodDescriptor "([C)V" = some ⟨[(.array .char)], none⟩ := by decide +kernel
theorem own_pn_com_example_treeward_treeward_engine_FindingToStringPinLaw : plainName "com/example/treeward/treeward/engine/FindingToStringPinLaw" = true := by first | (simp [plainName, overriddenIn]; done) | decide +kernel
theorem own_ef_method_3_code_x (m : MethodId) (x0 : Int32) : entryFrame m #[(.int x0)] 5 = mkF m 0 #[.val (.int x0), .unset, .unset, .unset, .unset] [] := by first | (simp [entryFrame, mkF, argsToLocals, Value.category]; done) | rfl
set_option maxRecDepth 65536 in
set_option maxHeartbeats 40000000 in
theorem rs0 (l : Launch) (Z : State) (a0 : Array Value) (hw : ∀ d ∈ tables_1, d.before a0 Z = true) (ws : List Jvm.Cond) (hEL : EW Z a0 own_EL) (p1 : Int32) (G1 : Int32) (G3 : Value) (h0 : Heap) (n0 : Nat) (Z0 : n0 ≤ h0.size) (O2 : Sta Z Z.heap "java/lang/String" "COMPACT_STRINGS" "Z" (.int G1)) (P5 : ¬ (G1 = (0 : Int32))) (O4 : Sta Z Z.heap "jdk/internal/util/Preconditions" "SIOOBE_FORMATTER" "Ljava/util/function/BiFunction;" G3) (rG3 : G3.isRef = true) (O0 : Old Z n0 h0) (hc36 : (own_m p1) = (0 : Int32)) :
    MetFree l (⟨"com/example/treeward/treeward/engine/FindingToStringPinLaw", "mk", "(I)Ljava/lang/String;"⟩ : MethodName) (head1 (Jvm.Cond.code (⟨"com/example/treeward/treeward/engine/FindingToStringPinLaw", "mk", "(I)Ljava/lang/String;"⟩ : MethodName) method_3_code 5 (some (.object "java/lang/String")) :: ws) ({ frames := 4, cells := 4, slots := 10, locals := 66 } : Room)) (fun a U => a = #[(.int p1)] ∧ Z.Warmed39 U.vm ∧ U.heap = h0 ∧ CHv Z own_EL U.vm h0) (fun _ _ _ _ _ => True) (fun _ U o U' => ∃ v L, o = .returned v ∧ QSr Z [] h0 n0 v U'.heap L ∧ CHr Z own_EL U.vm U.heap U'.vm U'.heap ∧ ReturnedEndW U o U' L 4 10) := by
  refine MetFree.of_bodySF (plainFor_of_name own_pn_com_example_treeward_treeward_engine_FindingToStringPinLaw) hisR ?_
  intro p e s m args below meth c s₁ Bd hml0 hP hK
  obtain ⟨rfl, hZ, hh, hCH0⟩ := hP
  have hx := Bd.exec
  have hby := Bd.bytes
  have hml : c.maxLocals = 5 := hml0
  have hown : s.vm.findClass "com/example/treeward/treeward/engine/FindingToStringPinLaw" = some m.cls := findClass_of_methodNamed Bd.named
  have hnm := (name_of_methodNamed Bd.named Bd.method).1
  have X0 : Stand p l e ({ frames := 4, cells := 4, slots := 10, locals := 66 } : Room) (s.setVm s.vm) m #[(.int p1)] below meth c s₁ [] 0 0 := Stand.of_body Bd
  have e0 : s₁.heap = h0 := by rw [← hh, Bd.state]; rfl
  have N0 := Fr.nil n0
  have CH0 : CHr Z own_EL s.vm h0 s.vm h0 := CHr.refl hCH0
  have hS0 : s.Since s.vm 0 := State.WarmedH.since (State.WarmedH.refl s) 0
  have pre0 : ∀ t, Steps p.tables e below (s₁.setTop (mkF m 0 #[.val (.int p1), .unset, .unset, .unset, .unset] [])) t → Steps p.tables e below (s₁.setTop (entryFrame m #[(.int p1)] 5)) t := fun t k => castTop (own_ef_method_3_code_x m p1) k
  obtain ⟨T1, h1, X1, e1, E1, A1, D1, -, st1⟩ := newO X0 hx hZ hown (hw _ (List.mem_of_getElem? (i := 4) rfl)) (hw _ (List.mem_of_getElem? (i := 5) rfl)) (hw _ (List.mem_of_getElem? (i := 6) rfl)) e0 (g := (mkF m 39 #[.val (.int p1), .val (.int (own_m p1)), .val (.int (own_c p1)), .val (.int (own_c ((p1.toUInt32 >>> ((8 : Int32) &&& 31).toUInt32).toInt32))), .val (.int (own_c ((p1.toUInt32 >>> ((16 : Int32) &&& 31).toUInt32).toInt32)))] [])) rfl (hb hby own_d_method_3_code_39) (by decide) (by decide)
  obtain ⟨b1, g1⟩ : ∃ z, z = h0.size := ⟨_, rfl⟩
  rw [← g1] at A1 D1 st1
  have sz_b1 : h0.size ≤ b1 := Nat.le_trans (Keep.refl h0 []).1 (Nat.le_of_eq g1.symm)
  have g_b1 : n0 ≤ b1 := Nat.le_trans Z0 sz_b1
  have CH1 : CHr Z own_EL s.vm h0 s.vm h1 := CH0.trans (CHr.ext E1 CH0.1)
  have K1 : Keep h0 h1 [] := (Keep.refl h0 []).ext E1
  have F_value_b1 : Fld Z h1 b1 "java/lang/String" "value" "[B" .null := D1 (Or.inr (hw _ (List.mem_of_getElem? (i := 20) rfl))) (ty := (.array .byte)) (by decide)
  have F_coder_b1 : Fld Z h1 b1 "java/lang/String" "coder" "B" (.int (0 : Int32)) := D1 (Or.inr (hw _ (List.mem_of_getElem? (i := 21) rfl))) (ty := .byte) (by decide)
  have Sf1 : Safe Z own_EL s.vm h1 b1 := Safe.ext E1 CH0.1 (Safe.new (Nat.le_of_eq g1.symm))
  obtain ⟨T2, h2, ka2, X2, e2, E2, A2, st2⟩ := newP X1 hx hZ (hw _ (List.mem_of_getElem? (i := 7) rfl)) e1 (g := (mkF m 44 #[.val (.int p1), .val (.int (own_m p1)), .val (.int (own_c p1)), .val (.int (own_c ((p1.toUInt32 >>> ((8 : Int32) &&& 31).toUInt32).toInt32))), .val (.int (own_c ((p1.toUInt32 >>> ((16 : Int32) &&& 31).toUInt32).toInt32)))] [(.int (0 : Int32)), (.ref b1), (.ref b1)])) rfl (hb hby own_d_method_3_code_44) rfl (by decide) (cap := 0) (by decide) (by decide) (by decide) (by decide)
  obtain ⟨b2, g2⟩ : ∃ z, z = h1.size := ⟨_, rfl⟩
  rw [← g2] at A2 st2
  have sz_b2 : h0.size ≤ b2 := Nat.le_trans K1.1 (Nat.le_of_eq g2.symm)
  have g_b2 : n0 ≤ b2 := Nat.le_trans Z0 sz_b2
  have CH2 : CHr Z own_EL s.vm h0 s.vm h2 := CH1.trans (CHr.ext E2 CH1.1)
  have K2 : Keep h0 h2 [] := K1.ext E2
  have V_b2 : Arv Z h2 b2 ka2 .char (0 : Int32) [] (.int (0 : Int32)) := (Arv.new A2 (by decide)).pad (pad_rep [] (.int (0 : Int32)) 0)
  have f4 : Exa Z h2 b1 "java/lang/String" := (A1.ext E2)
  have f5 : Fld Z h2 b1 "java/lang/String" "value" "[B" .null := (F_value_b1.ext E2)
  have f6 : Fld Z h2 b1 "java/lang/String" "coder" "B" (.int (0 : Int32)) := (F_coder_b1.ext E2)
  have f7 : Safe Z own_EL s.vm h2 b1 := (Safe.ext E2 CH1.1 Sf1)
  obtain ⟨_, _, ⟨T3, L3, k3, n3⟩, -, X3', hs3, hg3, ⟨Lc3, hQ3, l3, y3, z3, C3⟩, st3⟩ := X2.specialBackS hx (y := (⟨"java/lang/String", "<init>", "([C)V"⟩ : MethodName)) rfl hown (mvT hZ (hw _ (List.mem_of_getElem? (i := 8) rfl))) (mvT hZ (hw _ (List.mem_of_getElem? (i := 9) rfl))) (mvT hZ (hw _ (List.mem_of_getElem? (i := 10) rfl))) (by decide) (own_backSHs (x := b1) (W := 1) (rmE1 l Z a0 hw [] hEL b1 b2 .null (.int (0 : Int32)) ka2 [] (.int (0 : Int32)) h2 n0 (Nat.le_trans Z0 K2.1) f4 f5 f6 g_b1 V_b2) hZ (hw _ (List.mem_of_getElem? (i := 10) rfl)) (hw _ (List.mem_of_getElem? (i := 6) rfl)) (by decide) (by decide) hEL CH2.1 f4.lt f7) (g := (mkF m 46 #[.val (.int p1), .val (.int (own_m p1)), .val (.int (own_c p1)), .val (.int (own_c ((p1.toUInt32 >>> ((8 : Int32) &&& 31).toUInt32).toInt32))), .val (.int (own_c ((p1.toUInt32 >>> ((16 : Int32) &&& 31).toUInt32).toInt32)))] [(.ref b2), (.ref b1), (.ref b1)])) rfl (by rw [hml]; rfl) (Steps.refl _) (a := b1) (argsL := [(.ref b2)]) (rest := [(.ref b1)]) (lenOf own_pd___C_V rfl) rfl (by show 2 * 0 + _ ≤ _; exact Nat.le_of_eq rfl) (hb hby own_d_method_3_code_46) (fun _ _ => ⟨rfl, e2, (by decide : 2 + 2 ≤ _), (by decide : 4 + 4 ≤ _)⟩)
  dsimp only [Pt.U, Pt.locs, Pt.cells, Pt.slots] at X3' l3 y3 z3 st3 hQ3 C3 hs3 hg3
  subst l3 y3 z3
  obtain ⟨X3, hS3, hZ3, hown3⟩ := rebS hS0 (by rw [e2]; exact (Nat.zero_le _)) X3' hs3 hg3 hZ hown
  obtain ⟨rfl, N3q, K3q, SV3⟩ := hQ3
  have N3a := Fr.app N0 N3q
  have CH3 : CHr Z own_EL s.vm h0 T3.vm T3.heap := CH2.trans C3
  have K3 : Keep h0 T3.heap [] := K2.trans K3q (allS (Or.inr sz_b1) all0)
  obtain ⟨fs, hr, hrun, hended, hend⟩ := X3.leaveW hS3 (Nat.le_refl _) (v := some (.ref b1)) (fun h => by rw [Bd.returns] at h; cases h)
  refine ⟨_, _, pre0 _ ?_, hrun, hended, _, _, rfl, ?_, ?_, hend.1, hend.2.1, hend.2.2.1, hend.2.2.2.mono (by decide) (by decide)⟩
  · show Steps p.tables e below (s₁.setTop (mkF m 0 #[.val (.int p1), .unset, .unset, .unset, .unset] [])) _
    refine XS.iloadN X0.here hx rfl (hb hby own_d_method_3_code_0) rfl ?_
    refine XS.bipush X0.here hx rfl (hb hby own_d_method_3_code_1) ?_
    refine XS.iushr X0.here hx rfl (hb hby own_d_method_3_code_3) rfl ?_
    show Steps p.tables e below (s₁.setTop (mkF m 4 #[.val (.int p1), .unset, .unset, .unset, .unset] [(.int ((p1.toUInt32 >>> ((24 : Int32) &&& 31).toUInt32).toInt32))])) _
    refine XS.iconst X0.here hx rfl (hb hby own_d_method_3_code_4) ?_
    refine XS.iand X0.here hx rfl (hb hby own_d_method_3_code_5) rfl ?_
    refine XS.istoreN X0.here hx rfl (hb hby own_d_method_3_code_6) rfl (l' := #[.val (.int p1), .val (.int (own_m p1)), .unset, .unset, .unset]) rfl ?_
    show Steps p.tables e below (s₁.setTop (mkF m 7 #[.val (.int p1), .val (.int (own_m p1)), .unset, .unset, .unset] [])) _
    refine XS.iloadN X0.here hx rfl (hb hby own_d_method_3_code_7) rfl ?_
    refine XS.sipush X0.here hx rfl (hb hby own_d_method_3_code_8) ?_
    refine XS.iand X0.here hx rfl (hb hby own_d_method_3_code_11) rfl ?_
    show Steps p.tables e below (s₁.setTop (mkF m 12 #[.val (.int p1), .val (.int (own_m p1)), .unset, .unset, .unset] [(.int (p1 &&& (255 : Int32)))])) _
    refine XS.i2c X0.here hx rfl (hb hby own_d_method_3_code_12) rfl ?_
    refine XS.istoreN X0.here hx rfl (hb hby own_d_method_3_code_13) rfl (l' := #[.val (.int p1), .val (.int (own_m p1)), .val (.int (own_c p1)), .unset, .unset]) rfl ?_
    refine XS.iloadN X0.here hx rfl (hb hby own_d_method_3_code_14) rfl ?_
    show Steps p.tables e below (s₁.setTop (mkF m 15 #[.val (.int p1), .val (.int (own_m p1)), .val (.int (own_c p1)), .unset, .unset] [(.int p1)])) _
    refine XS.bipush X0.here hx rfl (hb hby own_d_method_3_code_15) ?_
    refine XS.iushr X0.here hx rfl (hb hby own_d_method_3_code_17) rfl ?_
    refine XS.sipush X0.here hx rfl (hb hby own_d_method_3_code_18) ?_
    show Steps p.tables e below (s₁.setTop (mkF m 21 #[.val (.int p1), .val (.int (own_m p1)), .val (.int (own_c p1)), .unset, .unset] [(.int (255 : Int32)), (.int ((p1.toUInt32 >>> ((8 : Int32) &&& 31).toUInt32).toInt32))])) _
    refine XS.iand X0.here hx rfl (hb hby own_d_method_3_code_21) rfl ?_
    refine XS.i2c X0.here hx rfl (hb hby own_d_method_3_code_22) rfl ?_
    refine XS.istoreN X0.here hx rfl (hb hby own_d_method_3_code_23) rfl (l' := #[.val (.int p1), .val (.int (own_m p1)), .val (.int (own_c p1)), .val (.int (own_c ((p1.toUInt32 >>> ((8 : Int32) &&& 31).toUInt32).toInt32))), .unset]) rfl ?_
    show Steps p.tables e below (s₁.setTop (mkF m 24 #[.val (.int p1), .val (.int (own_m p1)), .val (.int (own_c p1)), .val (.int (own_c ((p1.toUInt32 >>> ((8 : Int32) &&& 31).toUInt32).toInt32))), .unset] [])) _
    refine XS.iloadN X0.here hx rfl (hb hby own_d_method_3_code_24) rfl ?_
    refine XS.bipush X0.here hx rfl (hb hby own_d_method_3_code_25) ?_
    refine XS.iushr X0.here hx rfl (hb hby own_d_method_3_code_27) rfl ?_
    show Steps p.tables e below (s₁.setTop (mkF m 28 #[.val (.int p1), .val (.int (own_m p1)), .val (.int (own_c p1)), .val (.int (own_c ((p1.toUInt32 >>> ((8 : Int32) &&& 31).toUInt32).toInt32))), .unset] [(.int ((p1.toUInt32 >>> ((16 : Int32) &&& 31).toUInt32).toInt32))])) _
    refine XS.sipush X0.here hx rfl (hb hby own_d_method_3_code_28) ?_
    refine XS.iand X0.here hx rfl (hb hby own_d_method_3_code_31) rfl ?_
    refine XS.i2c X0.here hx rfl (hb hby own_d_method_3_code_32) rfl ?_
    show Steps p.tables e below (s₁.setTop (mkF m 33 #[.val (.int p1), .val (.int (own_m p1)), .val (.int (own_c p1)), .val (.int (own_c ((p1.toUInt32 >>> ((8 : Int32) &&& 31).toUInt32).toInt32))), .unset] [(.int (own_c ((p1.toUInt32 >>> ((16 : Int32) &&& 31).toUInt32).toInt32)))])) _
    refine XS.istore X0.here hx rfl (hb hby own_d_method_3_code_33) rfl (l' := #[.val (.int p1), .val (.int (own_m p1)), .val (.int (own_c p1)), .val (.int (own_c ((p1.toUInt32 >>> ((8 : Int32) &&& 31).toUInt32).toInt32))), .val (.int (own_c ((p1.toUInt32 >>> ((16 : Int32) &&& 31).toUInt32).toInt32)))]) rfl ?_
    refine XS.iloadN X0.here hx rfl (hb hby own_d_method_3_code_35) rfl ?_
    show Steps p.tables e below (s₁.setTop (mkF m 36 #[.val (.int p1), .val (.int (own_m p1)), .val (.int (own_c p1)), .val (.int (own_c ((p1.toUInt32 >>> ((8 : Int32) &&& 31).toUInt32).toInt32))), .val (.int (own_c ((p1.toUInt32 >>> ((16 : Int32) &&& 31).toUInt32).toInt32)))] [(.int (own_m p1))])) _
    refine XS.ifNo X0.here hx rfl (hb hby own_d_method_3_code_36) rfl ((if0 _ _).trans (teq hc36).2) ?_
    show Steps p.tables e below (s₁.setTop (mkF m 39 #[.val (.int p1), .val (.int (own_m p1)), .val (.int (own_c p1)), .val (.int (own_c ((p1.toUInt32 >>> ((8 : Int32) &&& 31).toUInt32).toInt32))), .val (.int (own_c ((p1.toUInt32 >>> ((16 : Int32) &&& 31).toUInt32).toInt32)))] [])) _
    refine st1 _ ?_
    refine XS.dup X1.here hx rfl (hb hby own_d_method_3_code_42) rfl rfl ?_
    refine XS.iconst X1.here hx rfl (hb hby own_d_method_3_code_43) ?_
    show Steps p.tables e below (T1.setTop (mkF m 44 #[.val (.int p1), .val (.int (own_m p1)), .val (.int (own_c p1)), .val (.int (own_c ((p1.toUInt32 >>> ((8 : Int32) &&& 31).toUInt32).toInt32))), .val (.int (own_c ((p1.toUInt32 >>> ((16 : Int32) &&& 31).toUInt32).toInt32)))] [(.int (0 : Int32)), (.ref b1), (.ref b1)])) _
    refine st2 _ ?_
    show Steps p.tables e below (T2.setTop (mkF m 46 #[.val (.int p1), .val (.int (own_m p1)), .val (.int (own_c p1)), .val (.int (own_c ((p1.toUInt32 >>> ((8 : Int32) &&& 31).toUInt32).toInt32))), .val (.int (own_c ((p1.toUInt32 >>> ((16 : Int32) &&& 31).toUInt32).toInt32)))] [(.ref b2), (.ref b1), (.ref b1)])) _
    refine st3.trans ?_
    show Steps p.tables e below (T3.setTop (mkF m 49 #[.val (.int p1), .val (.int (own_m p1)), .val (.int (own_c p1)), .val (.int (own_c ((p1.toUInt32 >>> ((8 : Int32) &&& 31).toUInt32).toInt32))), .val (.int (own_c ((p1.toUInt32 >>> ((16 : Int32) &&& 31).toUInt32).toInt32)))] [(.ref b1)])) _
    jvm_step X3.here [X3.here.top, hx, (hb hby own_d_method_3_code_49), X3.method', Bd.returns, Value.isRef, FieldType.isReference]
    first | (intro acts; rw [hr _ acts rfl rfl rfl]) | rw [hr _ _ rfl rfl rfl]
    exact Steps.refl _
  · show QSr Z [] h0 n0 _ T3.heap _
    exact ⟨b1, rfl, N3a, K3, SV3⟩
  · show CHr Z own_EL s.vm s.heap T3.vm T3.heap
    rw [hh]
    exact CH3.trans (CHv.at X3 hZ3 hEL CH3.1)
theorem own_d_method_3_code_50 : decode method_3_code 50 = .ok (.iload_n 1, 1) := by decide +kernel
theorem own_d_method_3_code_51 : decode method_3_code 51 = .ok (.iconst 1, 1) := by decide +kernel
theorem own_d_method_3_code_52 : decode method_3_code 52 = .ok (.if_icmp .ne 18, 3) := by decide +kernel
theorem own_d_method_3_code_55 : decode method_3_code 55 = .ok (.new 23, 3) := by decide +kernel
theorem own_d_method_3_code_58 : decode method_3_code 58 = .ok (.dup, 1) := by decide +kernel
theorem own_d_method_3_code_59 : decode method_3_code 59 = .ok (.iconst 1, 1) := by decide +kernel
theorem own_d_method_3_code_60 : decode method_3_code 60 = .ok (.newarray .char, 2) := by decide +kernel
theorem own_d_method_3_code_62 : decode method_3_code 62 = .ok (.dup, 1) := by decide +kernel
theorem own_d_method_3_code_63 : decode method_3_code 63 = .ok (.iconst 0, 1) := by decide +kernel
theorem own_d_method_3_code_64 : decode method_3_code 64 = .ok (.iload_n 2, 1) := by decide +kernel
theorem own_d_method_3_code_65 : decode method_3_code 65 = .ok (.castore, 1) := by decide +kernel
theorem own_d_method_3_code_66 : decode method_3_code 66 = .ok (.invokespecial 32, 3) := by decide +kernel
theorem own_d_method_3_code_69 : decode method_3_code 69 = .ok (.areturn, 1) := by decide +kernel
set_option maxRecDepth 65536 in
set_option maxHeartbeats 40000000 in
theorem rs1 (l : Launch) (Z : State) (a0 : Array Value) (hw : ∀ d ∈ tables_1, d.before a0 Z = true) (ws : List Jvm.Cond) (hEL : EW Z a0 own_EL) (p1 : Int32) (G1 : Int32) (G3 : Value) (h0 : Heap) (n0 : Nat) (Z0 : n0 ≤ h0.size) (O2 : Sta Z Z.heap "java/lang/String" "COMPACT_STRINGS" "Z" (.int G1)) (P5 : ¬ (G1 = (0 : Int32))) (O4 : Sta Z Z.heap "jdk/internal/util/Preconditions" "SIOOBE_FORMATTER" "Ljava/util/function/BiFunction;" G3) (rG3 : G3.isRef = true) (O0 : Old Z n0 h0) (hc36 : ¬ ((own_m p1) = (0 : Int32))) (hc52 : (own_m p1) = (1 : Int32)) :
    MetFree l (⟨"com/example/treeward/treeward/engine/FindingToStringPinLaw", "mk", "(I)Ljava/lang/String;"⟩ : MethodName) (head1 (Jvm.Cond.code (⟨"com/example/treeward/treeward/engine/FindingToStringPinLaw", "mk", "(I)Ljava/lang/String;"⟩ : MethodName) method_3_code 5 (some (.object "java/lang/String")) :: ws) ({ frames := 4, cells := 4, slots := 10, locals := 66 } : Room)) (fun a U => a = #[(.int p1)] ∧ Z.Warmed39 U.vm ∧ U.heap = h0 ∧ CHv Z own_EL U.vm h0) (fun _ _ _ _ _ => True) (fun _ U o U' => ∃ v L, o = .returned v ∧ QSr Z [(own_k p1)] h0 n0 v U'.heap L ∧ CHr Z own_EL U.vm U.heap U'.vm U'.heap ∧ ReturnedEndW U o U' L 4 10) := by
  refine MetFree.of_bodySF (plainFor_of_name own_pn_com_example_treeward_treeward_engine_FindingToStringPinLaw) hisR ?_
  intro p e s m args below meth c s₁ Bd hml0 hP hK
  obtain ⟨rfl, hZ, hh, hCH0⟩ := hP
  have hx := Bd.exec
  have hby := Bd.bytes
  have hml : c.maxLocals = 5 := hml0
  have hown : s.vm.findClass "com/example/treeward/treeward/engine/FindingToStringPinLaw" = some m.cls := findClass_of_methodNamed Bd.named
  have hnm := (name_of_methodNamed Bd.named Bd.method).1
  have X0 : Stand p l e ({ frames := 4, cells := 4, slots := 10, locals := 66 } : Room) (s.setVm s.vm) m #[(.int p1)] below meth c s₁ [] 0 0 := Stand.of_body Bd
  have e0 : s₁.heap = h0 := by rw [← hh, Bd.state]; rfl
  have N0 := Fr.nil n0
  have CH0 : CHr Z own_EL s.vm h0 s.vm h0 := CHr.refl hCH0
  have hS0 : s.Since s.vm 0 := State.WarmedH.since (State.WarmedH.refl s) 0
  have pre0 : ∀ t, Steps p.tables e below (s₁.setTop (mkF m 0 #[.val (.int p1), .unset, .unset, .unset, .unset] [])) t → Steps p.tables e below (s₁.setTop (entryFrame m #[(.int p1)] 5)) t := fun t k => castTop (own_ef_method_3_code_x m p1) k
  obtain ⟨T1, h1, X1, e1, E1, A1, D1, -, st1⟩ := newO X0 hx hZ hown (hw _ (List.mem_of_getElem? (i := 4) rfl)) (hw _ (List.mem_of_getElem? (i := 5) rfl)) (hw _ (List.mem_of_getElem? (i := 6) rfl)) e0 (g := (mkF m 55 #[.val (.int p1), .val (.int (own_m p1)), .val (.int (own_c p1)), .val (.int (own_c ((p1.toUInt32 >>> ((8 : Int32) &&& 31).toUInt32).toInt32))), .val (.int (own_c ((p1.toUInt32 >>> ((16 : Int32) &&& 31).toUInt32).toInt32)))] [])) rfl (hb hby own_d_method_3_code_55) (by decide) (by decide)
  obtain ⟨b1, g1⟩ : ∃ z, z = h0.size := ⟨_, rfl⟩
  rw [← g1] at A1 D1 st1
  have sz_b1 : h0.size ≤ b1 := Nat.le_trans (Keep.refl h0 []).1 (Nat.le_of_eq g1.symm)
  have g_b1 : n0 ≤ b1 := Nat.le_trans Z0 sz_b1
  have CH1 : CHr Z own_EL s.vm h0 s.vm h1 := CH0.trans (CHr.ext E1 CH0.1)
  have K1 : Keep h0 h1 [] := (Keep.refl h0 []).ext E1
  have F_value_b1 : Fld Z h1 b1 "java/lang/String" "value" "[B" .null := D1 (Or.inr (hw _ (List.mem_of_getElem? (i := 20) rfl))) (ty := (.array .byte)) (by decide)
  have F_coder_b1 : Fld Z h1 b1 "java/lang/String" "coder" "B" (.int (0 : Int32)) := D1 (Or.inr (hw _ (List.mem_of_getElem? (i := 21) rfl))) (ty := .byte) (by decide)
  have Sf1 : Safe Z own_EL s.vm h1 b1 := Safe.ext E1 CH0.1 (Safe.new (Nat.le_of_eq g1.symm))
  obtain ⟨T2, h2, ka2, X2, e2, E2, A2, st2⟩ := newP X1 hx hZ (hw _ (List.mem_of_getElem? (i := 7) rfl)) e1 (g := (mkF m 60 #[.val (.int p1), .val (.int (own_m p1)), .val (.int (own_c p1)), .val (.int (own_c ((p1.toUInt32 >>> ((8 : Int32) &&& 31).toUInt32).toInt32))), .val (.int (own_c ((p1.toUInt32 >>> ((16 : Int32) &&& 31).toUInt32).toInt32)))] [(.int (1 : Int32)), (.ref b1), (.ref b1)])) rfl (hb hby own_d_method_3_code_60) rfl (by decide) (cap := 1) (by decide) (by decide) (by decide) (by decide)
  obtain ⟨b2, g2⟩ : ∃ z, z = h1.size := ⟨_, rfl⟩
  rw [← g2] at A2 st2
  have sz_b2 : h0.size ≤ b2 := Nat.le_trans K1.1 (Nat.le_of_eq g2.symm)
  have g_b2 : n0 ≤ b2 := Nat.le_trans Z0 sz_b2
  have CH2 : CHr Z own_EL s.vm h0 s.vm h2 := CH1.trans (CHr.ext E2 CH1.1)
  have K2 : Keep h0 h2 [] := K1.ext E2
  have V_b2 : Arv Z h2 b2 ka2 .char (1 : Int32) [(.int (0 : Int32))] (.int (0 : Int32)) := (Arv.new A2 (by decide)).pad (pad_rep [] (.int (0 : Int32)) 1)
  obtain ⟨cl3, Ar3, q3, S3, N_3, H_3, G3⟩ := id V_b2
  obtain ⟨T4, h4, X4, e4, W4, st4⟩ := stC X2 hx hZ e2 Ar3 (j := (0 : Int32)) (inb_of S3 ⟨by decide, by decide⟩) (g := (mkF m 65 #[.val (.int p1), .val (.int (own_m p1)), .val (.int (own_c p1)), .val (.int (own_c ((p1.toUInt32 >>> ((8 : Int32) &&& 31).toUInt32).toInt32))), .val (.int (own_c ((p1.toUInt32 >>> ((16 : Int32) &&& 31).toUInt32).toInt32)))] [(.int (own_c p1)), (.int (0 : Int32)), (.ref b2), (.ref b2), (.ref b1), (.ref b1)])) rfl rfl (hb hby own_d_method_3_code_65)
  have V4_b2 : Arv Z h4 b2 ka2 .char (1 : Int32) [(.int (own_k p1))] (.int (0 : Int32)) := Arv.set Ar3 q3 S3 N_3 H_3 G3 (fits_nar_char _) W4 0 rfl (Nat.le_of_ble_eq_true rfl)
  have Nf4 := Fr.snoc X4 N0 g_b2
  have CH3 : CHr Z own_EL s.vm h0 s.vm h4 := CH2.trans (CHr.wr W4 (own_safeV (hZ : Z.Warmed39 s.vm).alike V_b2 (by decide)) CH2.1)
  have K3 : Keep h0 h4 [] := K2.wr W4 (Or.inr sz_b2)
  have f6 : Exa Z h4 b1 "java/lang/String" := ((A1.ext E2).wr W4)
  have f7 : Fld Z h4 b1 "java/lang/String" "value" "[B" .null := ((F_value_b1.ext E2).other W4 (Or.inl (Nat.ne_of_lt (Nat.lt_of_lt_of_le A1.lt (Nat.le_of_eq g2.symm)))))
  have f8 : Fld Z h4 b1 "java/lang/String" "coder" "B" (.int (0 : Int32)) := ((F_coder_b1.ext E2).other W4 (Or.inl (Nat.ne_of_lt (Nat.lt_of_lt_of_le A1.lt (Nat.le_of_eq g2.symm)))))
  have f9 : Old Z n0 h4 := (((O0.ext E1).ext E2).wr W4 g_b2)
  obtain ⟨_, _, ⟨T5, L5, k5, n5⟩, -, X5, ⟨Lc5, hQ5, l5, y5, z5⟩, st5⟩ := X4.specialBack hx (y := (⟨"java/lang/String", "<init>", "([C)V"⟩ : MethodName)) rfl hown (mvT hZ (hw _ (List.mem_of_getElem? (i := 8) rfl))) (mvT hZ (hw _ (List.mem_of_getElem? (i := 9) rfl))) (mvT hZ (hw _ (List.mem_of_getElem? (i := 10) rfl))) (by decide) (StrChars.Road.backV (W := 1) hZ (own_hws hw) (kI := 4) (hw _ (List.mem_of_getElem? (i := 5) rfl)) (cs := ([(own_k p1)] : List Int32)) (bs := (([(own_k p1)] : List Int32)).map (fun c => c.toInt8.toInt32)) (n := 1) g_b1 (Nat.le_trans Z0 K3.1) f6 f7 f8 (V4_b2 : Arv Z h4 b2 ka2 .char (Int32.ofNat 1) (([(own_k p1)] : List Int32).map Value.int) _) (O2.ext f9.2) P5 rfl rfl (by decide) (by decide) (own_hp1 p1) rfl (by decide) (by decide)) (g := (mkF m 66 #[.val (.int p1), .val (.int (own_m p1)), .val (.int (own_c p1)), .val (.int (own_c ((p1.toUInt32 >>> ((8 : Int32) &&& 31).toUInt32).toInt32))), .val (.int (own_c ((p1.toUInt32 >>> ((16 : Int32) &&& 31).toUInt32).toInt32)))] [(.ref b2), (.ref b1), (.ref b1)])) rfl (by rw [hml]; rfl) (Steps.refl _) (a := b1) (argsL := [(.ref b2)]) (rest := [(.ref b1)]) (lenOf own_pd___C_V rfl) rfl (by show 2 * 0 + _ ≤ _; exact Nat.le_of_eq rfl) (hb hby own_d_method_3_code_66) (fun _ _ => ⟨rfl, e4, (by decide : 2 + 1 ≤ _), (by decide : 5 + 1 ≤ _)⟩)
  dsimp only [Pt.U, Pt.locs, Pt.cells, Pt.slots] at X5 l5 y5 z5 st5 hQ5
  subst l5 y5 z5
  obtain ⟨rfl, N5q, K5q, E5q, gc5, t5, kb5, -, -, -, gv5, ga5⟩ := hQ5
  have N5a := Fr.app Nf4 N5q
  have f10 : Safe Z own_EL s.vm h4 b1 := (Safe.wr W4 (own_safeV (hZ : Z.Warmed39 s.vm).alike V_b2 (by decide)) CH2.1 (Safe.ext E2 CH1.1 Sf1))
  have CH4 : CHr Z own_EL s.vm h0 s.vm T5.heap := CH3.trans (CHr.keep K5q (allS f10 all0) CH3.1)
  have K4 : Keep h0 T5.heap [] := K3.trans K5q (allS (Or.inr sz_b1) all0)
  have SV5 : StrV Z T5.heap b1 ([(own_k p1)] : List Int32) := own_mkStr rfl (own_hp1 p1) E5q gc5 gv5 ga5
  obtain ⟨fs, hr, hrun, hended, hend⟩ := X5.leaveW hS0 (Nat.zero_le _) (v := some (.ref b1)) (fun h => by rw [Bd.returns] at h; cases h)
  refine ⟨_, _, pre0 _ ?_, hrun, hended, _, _, rfl, ?_, ?_, hend.1, hend.2.1, hend.2.2.1, hend.2.2.2.mono (by decide) (by decide)⟩
  · show Steps p.tables e below (s₁.setTop (mkF m 0 #[.val (.int p1), .unset, .unset, .unset, .unset] [])) _
    refine XS.iloadN X0.here hx rfl (hb hby own_d_method_3_code_0) rfl ?_
    refine XS.bipush X0.here hx rfl (hb hby own_d_method_3_code_1) ?_
    refine XS.iushr X0.here hx rfl (hb hby own_d_method_3_code_3) rfl ?_
    show Steps p.tables e below (s₁.setTop (mkF m 4 #[.val (.int p1), .unset, .unset, .unset, .unset] [(.int ((p1.toUInt32 >>> ((24 : Int32) &&& 31).toUInt32).toInt32))])) _
    refine XS.iconst X0.here hx rfl (hb hby own_d_method_3_code_4) ?_
    refine XS.iand X0.here hx rfl (hb hby own_d_method_3_code_5) rfl ?_
    refine XS.istoreN X0.here hx rfl (hb hby own_d_method_3_code_6) rfl (l' := #[.val (.int p1), .val (.int (own_m p1)), .unset, .unset, .unset]) rfl ?_
    show Steps p.tables e below (s₁.setTop (mkF m 7 #[.val (.int p1), .val (.int (own_m p1)), .unset, .unset, .unset] [])) _
    refine XS.iloadN X0.here hx rfl (hb hby own_d_method_3_code_7) rfl ?_
    refine XS.sipush X0.here hx rfl (hb hby own_d_method_3_code_8) ?_
    refine XS.iand X0.here hx rfl (hb hby own_d_method_3_code_11) rfl ?_
    show Steps p.tables e below (s₁.setTop (mkF m 12 #[.val (.int p1), .val (.int (own_m p1)), .unset, .unset, .unset] [(.int (p1 &&& (255 : Int32)))])) _
    refine XS.i2c X0.here hx rfl (hb hby own_d_method_3_code_12) rfl ?_
    refine XS.istoreN X0.here hx rfl (hb hby own_d_method_3_code_13) rfl (l' := #[.val (.int p1), .val (.int (own_m p1)), .val (.int (own_c p1)), .unset, .unset]) rfl ?_
    refine XS.iloadN X0.here hx rfl (hb hby own_d_method_3_code_14) rfl ?_
    show Steps p.tables e below (s₁.setTop (mkF m 15 #[.val (.int p1), .val (.int (own_m p1)), .val (.int (own_c p1)), .unset, .unset] [(.int p1)])) _
    refine XS.bipush X0.here hx rfl (hb hby own_d_method_3_code_15) ?_
    refine XS.iushr X0.here hx rfl (hb hby own_d_method_3_code_17) rfl ?_
    refine XS.sipush X0.here hx rfl (hb hby own_d_method_3_code_18) ?_
    show Steps p.tables e below (s₁.setTop (mkF m 21 #[.val (.int p1), .val (.int (own_m p1)), .val (.int (own_c p1)), .unset, .unset] [(.int (255 : Int32)), (.int ((p1.toUInt32 >>> ((8 : Int32) &&& 31).toUInt32).toInt32))])) _
    refine XS.iand X0.here hx rfl (hb hby own_d_method_3_code_21) rfl ?_
    refine XS.i2c X0.here hx rfl (hb hby own_d_method_3_code_22) rfl ?_
    refine XS.istoreN X0.here hx rfl (hb hby own_d_method_3_code_23) rfl (l' := #[.val (.int p1), .val (.int (own_m p1)), .val (.int (own_c p1)), .val (.int (own_c ((p1.toUInt32 >>> ((8 : Int32) &&& 31).toUInt32).toInt32))), .unset]) rfl ?_
    show Steps p.tables e below (s₁.setTop (mkF m 24 #[.val (.int p1), .val (.int (own_m p1)), .val (.int (own_c p1)), .val (.int (own_c ((p1.toUInt32 >>> ((8 : Int32) &&& 31).toUInt32).toInt32))), .unset] [])) _
    refine XS.iloadN X0.here hx rfl (hb hby own_d_method_3_code_24) rfl ?_
    refine XS.bipush X0.here hx rfl (hb hby own_d_method_3_code_25) ?_
    refine XS.iushr X0.here hx rfl (hb hby own_d_method_3_code_27) rfl ?_
    show Steps p.tables e below (s₁.setTop (mkF m 28 #[.val (.int p1), .val (.int (own_m p1)), .val (.int (own_c p1)), .val (.int (own_c ((p1.toUInt32 >>> ((8 : Int32) &&& 31).toUInt32).toInt32))), .unset] [(.int ((p1.toUInt32 >>> ((16 : Int32) &&& 31).toUInt32).toInt32))])) _
    refine XS.sipush X0.here hx rfl (hb hby own_d_method_3_code_28) ?_
    refine XS.iand X0.here hx rfl (hb hby own_d_method_3_code_31) rfl ?_
    refine XS.i2c X0.here hx rfl (hb hby own_d_method_3_code_32) rfl ?_
    show Steps p.tables e below (s₁.setTop (mkF m 33 #[.val (.int p1), .val (.int (own_m p1)), .val (.int (own_c p1)), .val (.int (own_c ((p1.toUInt32 >>> ((8 : Int32) &&& 31).toUInt32).toInt32))), .unset] [(.int (own_c ((p1.toUInt32 >>> ((16 : Int32) &&& 31).toUInt32).toInt32)))])) _
    refine XS.istore X0.here hx rfl (hb hby own_d_method_3_code_33) rfl (l' := #[.val (.int p1), .val (.int (own_m p1)), .val (.int (own_c p1)), .val (.int (own_c ((p1.toUInt32 >>> ((8 : Int32) &&& 31).toUInt32).toInt32))), .val (.int (own_c ((p1.toUInt32 >>> ((16 : Int32) &&& 31).toUInt32).toInt32)))]) rfl ?_
    refine XS.iloadN X0.here hx rfl (hb hby own_d_method_3_code_35) rfl ?_
    show Steps p.tables e below (s₁.setTop (mkF m 36 #[.val (.int p1), .val (.int (own_m p1)), .val (.int (own_c p1)), .val (.int (own_c ((p1.toUInt32 >>> ((8 : Int32) &&& 31).toUInt32).toInt32))), .val (.int (own_c ((p1.toUInt32 >>> ((16 : Int32) &&& 31).toUInt32).toInt32)))] [(.int (own_m p1))])) _
    refine XS.ifYes X0.here hx rfl (pc0 := 36) (pc' := 50) rfl (hb hby own_d_method_3_code_36) rfl ((if0 _ _).trans (feq hc36).2) (by decide) (by decide) ?_
    refine XS.iloadN X0.here hx rfl (hb hby own_d_method_3_code_50) rfl ?_
    refine XS.iconst X0.here hx rfl (hb hby own_d_method_3_code_51) ?_
    show Steps p.tables e below (s₁.setTop (mkF m 52 #[.val (.int p1), .val (.int (own_m p1)), .val (.int (own_c p1)), .val (.int (own_c ((p1.toUInt32 >>> ((8 : Int32) &&& 31).toUInt32).toInt32))), .val (.int (own_c ((p1.toUInt32 >>> ((16 : Int32) &&& 31).toUInt32).toInt32)))] [(.int (1 : Int32)), (.int (own_m p1))])) _
    refine XS.icmpNo X0.here hx rfl (hb hby own_d_method_3_code_52) rfl (teq hc52).2 ?_
    show Steps p.tables e below (s₁.setTop (mkF m 55 #[.val (.int p1), .val (.int (own_m p1)), .val (.int (own_c p1)), .val (.int (own_c ((p1.toUInt32 >>> ((8 : Int32) &&& 31).toUInt32).toInt32))), .val (.int (own_c ((p1.toUInt32 >>> ((16 : Int32) &&& 31).toUInt32).toInt32)))] [])) _
    refine st1 _ ?_
    refine XS.dup X1.here hx rfl (hb hby own_d_method_3_code_58) rfl rfl ?_
    refine XS.iconst X1.here hx rfl (hb hby own_d_method_3_code_59) ?_
    show Steps p.tables e below (T1.setTop (mkF m 60 #[.val (.int p1), .val (.int (own_m p1)), .val (.int (own_c p1)), .val (.int (own_c ((p1.toUInt32 >>> ((8 : Int32) &&& 31).toUInt32).toInt32))), .val (.int (own_c ((p1.toUInt32 >>> ((16 : Int32) &&& 31).toUInt32).toInt32)))] [(.int (1 : Int32)), (.ref b1), (.ref b1)])) _
    refine st2 _ ?_
    refine XS.dup X2.here hx rfl (hb hby own_d_method_3_code_62) rfl rfl ?_
    refine XS.iconst X2.here hx rfl (hb hby own_d_method_3_code_63) ?_
    show Steps p.tables e below (T2.setTop (mkF m 64 #[.val (.int p1), .val (.int (own_m p1)), .val (.int (own_c p1)), .val (.int (own_c ((p1.toUInt32 >>> ((8 : Int32) &&& 31).toUInt32).toInt32))), .val (.int (own_c ((p1.toUInt32 >>> ((16 : Int32) &&& 31).toUInt32).toInt32)))] [(.int (0 : Int32)), (.ref b2), (.ref b2), (.ref b1), (.ref b1)])) _
    refine XS.iloadN X2.here hx rfl (hb hby own_d_method_3_code_64) rfl ?_
    show Steps p.tables e below (T2.setTop (mkF m 65 #[.val (.int p1), .val (.int (own_m p1)), .val (.int (own_c p1)), .val (.int (own_c ((p1.toUInt32 >>> ((8 : Int32) &&& 31).toUInt32).toInt32))), .val (.int (own_c ((p1.toUInt32 >>> ((16 : Int32) &&& 31).toUInt32).toInt32)))] [(.int (own_c p1)), (.int (0 : Int32)), (.ref b2), (.ref b2), (.ref b1), (.ref b1)])) _
    refine st4 _ ?_
    show Steps p.tables e below (T4.setTop (mkF m 66 #[.val (.int p1), .val (.int (own_m p1)), .val (.int (own_c p1)), .val (.int (own_c ((p1.toUInt32 >>> ((8 : Int32) &&& 31).toUInt32).toInt32))), .val (.int (own_c ((p1.toUInt32 >>> ((16 : Int32) &&& 31).toUInt32).toInt32)))] [(.ref b2), (.ref b1), (.ref b1)])) _
    refine st5.trans ?_
    show Steps p.tables e below (T5.setTop (mkF m 69 #[.val (.int p1), .val (.int (own_m p1)), .val (.int (own_c p1)), .val (.int (own_c ((p1.toUInt32 >>> ((8 : Int32) &&& 31).toUInt32).toInt32))), .val (.int (own_c ((p1.toUInt32 >>> ((16 : Int32) &&& 31).toUInt32).toInt32)))] [(.ref b1)])) _
    jvm_step X5.here [X5.here.top, hx, (hb hby own_d_method_3_code_69), X5.method', Bd.returns, Value.isRef, FieldType.isReference]
    first | (intro acts; rw [hr _ acts rfl rfl rfl]) | rw [hr _ _ rfl rfl rfl]
    exact Steps.refl _
  · show QSr Z [(own_k p1)] h0 n0 _ T5.heap _
    exact ⟨b1, rfl, N5a, K4, SV5⟩
  · show CHr Z own_EL s.vm s.heap T5.vm T5.heap
    rw [hh]
    exact CH4.trans (CHv.at X5 hZ hEL CH4.1)
theorem own_d_method_3_code_70 : decode method_3_code 70 = .ok (.iload_n 1, 1) := by decide +kernel
theorem own_d_method_3_code_71 : decode method_3_code 71 = .ok (.iconst 2, 1) := by decide +kernel
theorem own_d_method_3_code_72 : decode method_3_code 72 = .ok (.if_icmp .ne 22, 3) := by decide +kernel
theorem own_d_method_3_code_75 : decode method_3_code 75 = .ok (.new 23, 3) := by decide +kernel
theorem own_d_method_3_code_78 : decode method_3_code 78 = .ok (.dup, 1) := by decide +kernel
theorem own_d_method_3_code_79 : decode method_3_code 79 = .ok (.iconst 2, 1) := by decide +kernel
theorem own_d_method_3_code_80 : decode method_3_code 80 = .ok (.newarray .char, 2) := by decide +kernel
theorem own_d_method_3_code_82 : decode method_3_code 82 = .ok (.dup, 1) := by decide +kernel
theorem own_d_method_3_code_83 : decode method_3_code 83 = .ok (.iconst 0, 1) := by decide +kernel
theorem own_d_method_3_code_84 : decode method_3_code 84 = .ok (.iload_n 2, 1) := by decide +kernel
theorem own_d_method_3_code_85 : decode method_3_code 85 = .ok (.castore, 1) := by decide +kernel
theorem own_d_method_3_code_86 : decode method_3_code 86 = .ok (.dup, 1) := by decide +kernel
theorem own_d_method_3_code_87 : decode method_3_code 87 = .ok (.iconst 1, 1) := by decide +kernel
theorem own_d_method_3_code_88 : decode method_3_code 88 = .ok (.iload_n 3, 1) := by decide +kernel
theorem own_d_method_3_code_89 : decode method_3_code 89 = .ok (.castore, 1) := by decide +kernel
theorem own_d_method_3_code_90 : decode method_3_code 90 = .ok (.invokespecial 32, 3) := by decide +kernel
theorem own_d_method_3_code_93 : decode method_3_code 93 = .ok (.areturn, 1) := by decide +kernel
set_option maxRecDepth 65536 in
set_option maxHeartbeats 40000000 in
theorem rs2 (l : Launch) (Z : State) (a0 : Array Value) (hw : ∀ d ∈ tables_1, d.before a0 Z = true) (ws : List Jvm.Cond) (hEL : EW Z a0 own_EL) (p1 : Int32) (G1 : Int32) (G3 : Value) (h0 : Heap) (n0 : Nat) (Z0 : n0 ≤ h0.size) (O2 : Sta Z Z.heap "java/lang/String" "COMPACT_STRINGS" "Z" (.int G1)) (P5 : ¬ (G1 = (0 : Int32))) (O4 : Sta Z Z.heap "jdk/internal/util/Preconditions" "SIOOBE_FORMATTER" "Ljava/util/function/BiFunction;" G3) (rG3 : G3.isRef = true) (O0 : Old Z n0 h0) (hc36 : ¬ ((own_m p1) = (0 : Int32))) (hc52 : ¬ ((own_m p1) = (1 : Int32))) (hc72 : (own_m p1) = (2 : Int32)) :
    MetFree l (⟨"com/example/treeward/treeward/engine/FindingToStringPinLaw", "mk", "(I)Ljava/lang/String;"⟩ : MethodName) (head1 (Jvm.Cond.code (⟨"com/example/treeward/treeward/engine/FindingToStringPinLaw", "mk", "(I)Ljava/lang/String;"⟩ : MethodName) method_3_code 5 (some (.object "java/lang/String")) :: ws) ({ frames := 4, cells := 4, slots := 10, locals := 66 } : Room)) (fun a U => a = #[(.int p1)] ∧ Z.Warmed39 U.vm ∧ U.heap = h0 ∧ CHv Z own_EL U.vm h0) (fun _ _ _ _ _ => True) (fun _ U o U' => ∃ v L, o = .returned v ∧ QSr Z [(own_k p1), (own_k ((p1.toUInt32 >>> ((8 : Int32) &&& 31).toUInt32).toInt32))] h0 n0 v U'.heap L ∧ CHr Z own_EL U.vm U.heap U'.vm U'.heap ∧ ReturnedEndW U o U' L 4 10) := by
  refine MetFree.of_bodySF (plainFor_of_name own_pn_com_example_treeward_treeward_engine_FindingToStringPinLaw) hisR ?_
  intro p e s m args below meth c s₁ Bd hml0 hP hK
  obtain ⟨rfl, hZ, hh, hCH0⟩ := hP
  have hx := Bd.exec
  have hby := Bd.bytes
  have hml : c.maxLocals = 5 := hml0
  have hown : s.vm.findClass "com/example/treeward/treeward/engine/FindingToStringPinLaw" = some m.cls := findClass_of_methodNamed Bd.named
  have hnm := (name_of_methodNamed Bd.named Bd.method).1
  have X0 : Stand p l e ({ frames := 4, cells := 4, slots := 10, locals := 66 } : Room) (s.setVm s.vm) m #[(.int p1)] below meth c s₁ [] 0 0 := Stand.of_body Bd
  have e0 : s₁.heap = h0 := by rw [← hh, Bd.state]; rfl
  have N0 := Fr.nil n0
  have CH0 : CHr Z own_EL s.vm h0 s.vm h0 := CHr.refl hCH0
  have hS0 : s.Since s.vm 0 := State.WarmedH.since (State.WarmedH.refl s) 0
  have pre0 : ∀ t, Steps p.tables e below (s₁.setTop (mkF m 0 #[.val (.int p1), .unset, .unset, .unset, .unset] [])) t → Steps p.tables e below (s₁.setTop (entryFrame m #[(.int p1)] 5)) t := fun t k => castTop (own_ef_method_3_code_x m p1) k
  obtain ⟨T1, h1, X1, e1, E1, A1, D1, -, st1⟩ := newO X0 hx hZ hown (hw _ (List.mem_of_getElem? (i := 4) rfl)) (hw _ (List.mem_of_getElem? (i := 5) rfl)) (hw _ (List.mem_of_getElem? (i := 6) rfl)) e0 (g := (mkF m 75 #[.val (.int p1), .val (.int (own_m p1)), .val (.int (own_c p1)), .val (.int (own_c ((p1.toUInt32 >>> ((8 : Int32) &&& 31).toUInt32).toInt32))), .val (.int (own_c ((p1.toUInt32 >>> ((16 : Int32) &&& 31).toUInt32).toInt32)))] [])) rfl (hb hby own_d_method_3_code_75) (by decide) (by decide)
  obtain ⟨b1, g1⟩ : ∃ z, z = h0.size := ⟨_, rfl⟩
  rw [← g1] at A1 D1 st1
  have sz_b1 : h0.size ≤ b1 := Nat.le_trans (Keep.refl h0 []).1 (Nat.le_of_eq g1.symm)
  have g_b1 : n0 ≤ b1 := Nat.le_trans Z0 sz_b1
  have CH1 : CHr Z own_EL s.vm h0 s.vm h1 := CH0.trans (CHr.ext E1 CH0.1)
  have K1 : Keep h0 h1 [] := (Keep.refl h0 []).ext E1
  have F_value_b1 : Fld Z h1 b1 "java/lang/String" "value" "[B" .null := D1 (Or.inr (hw _ (List.mem_of_getElem? (i := 20) rfl))) (ty := (.array .byte)) (by decide)
  have F_coder_b1 : Fld Z h1 b1 "java/lang/String" "coder" "B" (.int (0 : Int32)) := D1 (Or.inr (hw _ (List.mem_of_getElem? (i := 21) rfl))) (ty := .byte) (by decide)
  have Sf1 : Safe Z own_EL s.vm h1 b1 := Safe.ext E1 CH0.1 (Safe.new (Nat.le_of_eq g1.symm))
  obtain ⟨T2, h2, ka2, X2, e2, E2, A2, st2⟩ := newP X1 hx hZ (hw _ (List.mem_of_getElem? (i := 7) rfl)) e1 (g := (mkF m 80 #[.val (.int p1), .val (.int (own_m p1)), .val (.int (own_c p1)), .val (.int (own_c ((p1.toUInt32 >>> ((8 : Int32) &&& 31).toUInt32).toInt32))), .val (.int (own_c ((p1.toUInt32 >>> ((16 : Int32) &&& 31).toUInt32).toInt32)))] [(.int (2 : Int32)), (.ref b1), (.ref b1)])) rfl (hb hby own_d_method_3_code_80) rfl (by decide) (cap := 2) (by decide) (by decide) (by decide) (by decide)
  obtain ⟨b2, g2⟩ : ∃ z, z = h1.size := ⟨_, rfl⟩
  rw [← g2] at A2 st2
  have sz_b2 : h0.size ≤ b2 := Nat.le_trans K1.1 (Nat.le_of_eq g2.symm)
  have g_b2 : n0 ≤ b2 := Nat.le_trans Z0 sz_b2
  have CH2 : CHr Z own_EL s.vm h0 s.vm h2 := CH1.trans (CHr.ext E2 CH1.1)
  have K2 : Keep h0 h2 [] := K1.ext E2
  have V_b2 : Arv Z h2 b2 ka2 .char (2 : Int32) [(.int (0 : Int32)), (.int (0 : Int32))] (.int (0 : Int32)) := (Arv.new A2 (by decide)).pad (pad_rep [] (.int (0 : Int32)) 2)
  obtain ⟨cl3, Ar3, q3, S3, N_3, H_3, G3⟩ := id V_b2
  obtain ⟨T4, h4, X4, e4, W4, st4⟩ := stC X2 hx hZ e2 Ar3 (j := (0 : Int32)) (inb_of S3 ⟨by decide, by decide⟩) (g := (mkF m 85 #[.val (.int p1), .val (.int (own_m p1)), .val (.int (own_c p1)), .val (.int (own_c ((p1.toUInt32 >>> ((8 : Int32) &&& 31).toUInt32).toInt32))), .val (.int (own_c ((p1.toUInt32 >>> ((16 : Int32) &&& 31).toUInt32).toInt32)))] [(.int (own_c p1)), (.int (0 : Int32)), (.ref b2), (.ref b2), (.ref b1), (.ref b1)])) rfl rfl (hb hby own_d_method_3_code_85)
  have V4_b2 : Arv Z h4 b2 ka2 .char (2 : Int32) [(.int (own_k p1)), (.int (0 : Int32))] (.int (0 : Int32)) := Arv.set Ar3 q3 S3 N_3 H_3 G3 (fits_nar_char _) W4 0 rfl (Nat.le_of_ble_eq_true rfl)
  have Nf4 := Fr.snoc X4 N0 g_b2
  have CH3 : CHr Z own_EL s.vm h0 s.vm h4 := CH2.trans (CHr.wr W4 (own_safeV (hZ : Z.Warmed39 s.vm).alike V_b2 (by decide)) CH2.1)
  have K3 : Keep h0 h4 [] := K2.wr W4 (Or.inr sz_b2)
  obtain ⟨cl5, Ar5, q5, S5, N_5, H_5, G5⟩ := id V4_b2
  obtain ⟨T6, h6, X6, e6, W6, st6⟩ := stC X4 hx hZ e4 Ar5 (j := (1 : Int32)) (inb_of S5 ⟨by decide, by decide⟩) (g := (mkF m 89 #[.val (.int p1), .val (.int (own_m p1)), .val (.int (own_c p1)), .val (.int (own_c ((p1.toUInt32 >>> ((8 : Int32) &&& 31).toUInt32).toInt32))), .val (.int (own_c ((p1.toUInt32 >>> ((16 : Int32) &&& 31).toUInt32).toInt32)))] [(.int (own_c ((p1.toUInt32 >>> ((8 : Int32) &&& 31).toUInt32).toInt32))), (.int (1 : Int32)), (.ref b2), (.ref b2), (.ref b1), (.ref b1)])) rfl rfl (hb hby own_d_method_3_code_89)
  have V6_b2 : Arv Z h6 b2 ka2 .char (2 : Int32) [(.int (own_k p1)), (.int (own_k ((p1.toUInt32 >>> ((8 : Int32) &&& 31).toUInt32).toInt32)))] (.int (0 : Int32)) := Arv.set Ar5 q5 S5 N_5 H_5 G5 (fits_nar_char _) W6 1 rfl (Nat.le_of_ble_eq_true rfl)
  have Nf6 := Fr.snoc X6 Nf4 g_b2
  have CH4 : CHr Z own_EL s.vm h0 s.vm h6 := CH3.trans (CHr.wr W6 (own_safeV (hZ : Z.Warmed39 s.vm).alike V4_b2 (by decide)) CH3.1)
  have K4 : Keep h0 h6 [] := K3.wr W6 (Or.inr sz_b2)
  have f8 : Exa Z h6 b1 "java/lang/String" := (((A1.ext E2).wr W4).wr W6)
  have f9 : Fld Z h6 b1 "java/lang/String" "value" "[B" .null := (((F_value_b1.ext E2).other W4 (Or.inl (Nat.ne_of_lt (Nat.lt_of_lt_of_le A1.lt (Nat.le_of_eq g2.symm))))).other W6 (Or.inl (Nat.ne_of_lt (Nat.lt_of_lt_of_le A1.lt (Nat.le_of_eq g2.symm)))))
  have f10 : Fld Z h6 b1 "java/lang/String" "coder" "B" (.int (0 : Int32)) := (((F_coder_b1.ext E2).other W4 (Or.inl (Nat.ne_of_lt (Nat.lt_of_lt_of_le A1.lt (Nat.le_of_eq g2.symm))))).other W6 (Or.inl (Nat.ne_of_lt (Nat.lt_of_lt_of_le A1.lt (Nat.le_of_eq g2.symm)))))
  have f11 : Old Z n0 h6 := ((((O0.ext E1).ext E2).wr W4 g_b2).wr W6 g_b2)
  obtain ⟨_, _, ⟨T7, L7, k7, n7⟩, -, X7, ⟨Lc7, hQ7, l7, y7, z7⟩, st7⟩ := X6.specialBack hx (y := (⟨"java/lang/String", "<init>", "([C)V"⟩ : MethodName)) rfl hown (mvT hZ (hw _ (List.mem_of_getElem? (i := 8) rfl))) (mvT hZ (hw _ (List.mem_of_getElem? (i := 9) rfl))) (mvT hZ (hw _ (List.mem_of_getElem? (i := 10) rfl))) (by decide) (StrChars.Road.backV (W := 1) hZ (own_hws hw) (kI := 4) (hw _ (List.mem_of_getElem? (i := 5) rfl)) (cs := ([(own_k p1), (own_k ((p1.toUInt32 >>> ((8 : Int32) &&& 31).toUInt32).toInt32))] : List Int32)) (bs := (([(own_k p1), (own_k ((p1.toUInt32 >>> ((8 : Int32) &&& 31).toUInt32).toInt32))] : List Int32)).map (fun c => c.toInt8.toInt32)) (n := 2) g_b1 (Nat.le_trans Z0 K4.1) f8 f9 f10 (V6_b2 : Arv Z h6 b2 ka2 .char (Int32.ofNat 2) (([(own_k p1), (own_k ((p1.toUInt32 >>> ((8 : Int32) &&& 31).toUInt32).toInt32))] : List Int32).map Value.int) _) (O2.ext f11.2) P5 rfl rfl (by decide) (by decide) (own_hp2 p1 ((p1.toUInt32 >>> ((8 : Int32) &&& 31).toUInt32).toInt32)) rfl (by decide) (by decide)) (g := (mkF m 90 #[.val (.int p1), .val (.int (own_m p1)), .val (.int (own_c p1)), .val (.int (own_c ((p1.toUInt32 >>> ((8 : Int32) &&& 31).toUInt32).toInt32))), .val (.int (own_c ((p1.toUInt32 >>> ((16 : Int32) &&& 31).toUInt32).toInt32)))] [(.ref b2), (.ref b1), (.ref b1)])) rfl (by rw [hml]; rfl) (Steps.refl _) (a := b1) (argsL := [(.ref b2)]) (rest := [(.ref b1)]) (lenOf own_pd___C_V rfl) rfl (by show 2 * 0 + _ ≤ _; exact Nat.le_of_eq rfl) (hb hby own_d_method_3_code_90) (fun _ _ => ⟨rfl, e6, (by decide : 2 + 1 ≤ _), (by decide : 6 + 2 ≤ _)⟩)
  dsimp only [Pt.U, Pt.locs, Pt.cells, Pt.slots] at X7 l7 y7 z7 st7 hQ7
  subst l7 y7 z7
  obtain ⟨rfl, N7q, K7q, E7q, gc7, t7, kb7, -, -, -, gv7, ga7⟩ := hQ7
  have N7a := Fr.app Nf6 N7q
  have f12 : Safe Z own_EL s.vm h6 b1 := (Safe.wr W6 (own_safeV (hZ : Z.Warmed39 s.vm).alike V4_b2 (by decide)) CH3.1 (Safe.wr W4 (own_safeV (hZ : Z.Warmed39 s.vm).alike V_b2 (by decide)) CH2.1 (Safe.ext E2 CH1.1 Sf1)))
  have CH5 : CHr Z own_EL s.vm h0 s.vm T7.heap := CH4.trans (CHr.keep K7q (allS f12 all0) CH4.1)
  have K5 : Keep h0 T7.heap [] := K4.trans K7q (allS (Or.inr sz_b1) all0)
  have SV7 : StrV Z T7.heap b1 ([(own_k p1), (own_k ((p1.toUInt32 >>> ((8 : Int32) &&& 31).toUInt32).toInt32))] : List Int32) := own_mkStr rfl (own_hp2 p1 ((p1.toUInt32 >>> ((8 : Int32) &&& 31).toUInt32).toInt32)) E7q gc7 gv7 ga7
  obtain ⟨fs, hr, hrun, hended, hend⟩ := X7.leaveW hS0 (Nat.zero_le _) (v := some (.ref b1)) (fun h => by rw [Bd.returns] at h; cases h)
  refine ⟨_, _, pre0 _ ?_, hrun, hended, _, _, rfl, ?_, ?_, hend.1, hend.2.1, hend.2.2.1, hend.2.2.2.mono (by decide) (by decide)⟩
  · show Steps p.tables e below (s₁.setTop (mkF m 0 #[.val (.int p1), .unset, .unset, .unset, .unset] [])) _
    refine XS.iloadN X0.here hx rfl (hb hby own_d_method_3_code_0) rfl ?_
    refine XS.bipush X0.here hx rfl (hb hby own_d_method_3_code_1) ?_
    refine XS.iushr X0.here hx rfl (hb hby own_d_method_3_code_3) rfl ?_
    show Steps p.tables e below (s₁.setTop (mkF m 4 #[.val (.int p1), .unset, .unset, .unset, .unset] [(.int ((p1.toUInt32 >>> ((24 : Int32) &&& 31).toUInt32).toInt32))])) _
    refine XS.iconst X0.here hx rfl (hb hby own_d_method_3_code_4) ?_
    refine XS.iand X0.here hx rfl (hb hby own_d_method_3_code_5) rfl ?_
    refine XS.istoreN X0.here hx rfl (hb hby own_d_method_3_code_6) rfl (l' := #[.val (.int p1), .val (.int (own_m p1)), .unset, .unset, .unset]) rfl ?_
    show Steps p.tables e below (s₁.setTop (mkF m 7 #[.val (.int p1), .val (.int (own_m p1)), .unset, .unset, .unset] [])) _
    refine XS.iloadN X0.here hx rfl (hb hby own_d_method_3_code_7) rfl ?_
    refine XS.sipush X0.here hx rfl (hb hby own_d_method_3_code_8) ?_
    refine XS.iand X0.here hx rfl (hb hby own_d_method_3_code_11) rfl ?_
    show Steps p.tables e below (s₁.setTop (mkF m 12 #[.val (.int p1), .val (.int (own_m p1)), .unset, .unset, .unset] [(.int (p1 &&& (255 : Int32)))])) _
    refine XS.i2c X0.here hx rfl (hb hby own_d_method_3_code_12) rfl ?_
    refine XS.istoreN X0.here hx rfl (hb hby own_d_method_3_code_13) rfl (l' := #[.val (.int p1), .val (.int (own_m p1)), .val (.int (own_c p1)), .unset, .unset]) rfl ?_
    refine XS.iloadN X0.here hx rfl (hb hby own_d_method_3_code_14) rfl ?_
    show Steps p.tables e below (s₁.setTop (mkF m 15 #[.val (.int p1), .val (.int (own_m p1)), .val (.int (own_c p1)), .unset, .unset] [(.int p1)])) _
    refine XS.bipush X0.here hx rfl (hb hby own_d_method_3_code_15) ?_
    refine XS.iushr X0.here hx rfl (hb hby own_d_method_3_code_17) rfl ?_
    refine XS.sipush X0.here hx rfl (hb hby own_d_method_3_code_18) ?_
    show Steps p.tables e below (s₁.setTop (mkF m 21 #[.val (.int p1), .val (.int (own_m p1)), .val (.int (own_c p1)), .unset, .unset] [(.int (255 : Int32)), (.int ((p1.toUInt32 >>> ((8 : Int32) &&& 31).toUInt32).toInt32))])) _
    refine XS.iand X0.here hx rfl (hb hby own_d_method_3_code_21) rfl ?_
    refine XS.i2c X0.here hx rfl (hb hby own_d_method_3_code_22) rfl ?_
    refine XS.istoreN X0.here hx rfl (hb hby own_d_method_3_code_23) rfl (l' := #[.val (.int p1), .val (.int (own_m p1)), .val (.int (own_c p1)), .val (.int (own_c ((p1.toUInt32 >>> ((8 : Int32) &&& 31).toUInt32).toInt32))), .unset]) rfl ?_
    show Steps p.tables e below (s₁.setTop (mkF m 24 #[.val (.int p1), .val (.int (own_m p1)), .val (.int (own_c p1)), .val (.int (own_c ((p1.toUInt32 >>> ((8 : Int32) &&& 31).toUInt32).toInt32))), .unset] [])) _
    refine XS.iloadN X0.here hx rfl (hb hby own_d_method_3_code_24) rfl ?_
    refine XS.bipush X0.here hx rfl (hb hby own_d_method_3_code_25) ?_
    refine XS.iushr X0.here hx rfl (hb hby own_d_method_3_code_27) rfl ?_
    show Steps p.tables e below (s₁.setTop (mkF m 28 #[.val (.int p1), .val (.int (own_m p1)), .val (.int (own_c p1)), .val (.int (own_c ((p1.toUInt32 >>> ((8 : Int32) &&& 31).toUInt32).toInt32))), .unset] [(.int ((p1.toUInt32 >>> ((16 : Int32) &&& 31).toUInt32).toInt32))])) _
    refine XS.sipush X0.here hx rfl (hb hby own_d_method_3_code_28) ?_
    refine XS.iand X0.here hx rfl (hb hby own_d_method_3_code_31) rfl ?_
    refine XS.i2c X0.here hx rfl (hb hby own_d_method_3_code_32) rfl ?_
    show Steps p.tables e below (s₁.setTop (mkF m 33 #[.val (.int p1), .val (.int (own_m p1)), .val (.int (own_c p1)), .val (.int (own_c ((p1.toUInt32 >>> ((8 : Int32) &&& 31).toUInt32).toInt32))), .unset] [(.int (own_c ((p1.toUInt32 >>> ((16 : Int32) &&& 31).toUInt32).toInt32)))])) _
    refine XS.istore X0.here hx rfl (hb hby own_d_method_3_code_33) rfl (l' := #[.val (.int p1), .val (.int (own_m p1)), .val (.int (own_c p1)), .val (.int (own_c ((p1.toUInt32 >>> ((8 : Int32) &&& 31).toUInt32).toInt32))), .val (.int (own_c ((p1.toUInt32 >>> ((16 : Int32) &&& 31).toUInt32).toInt32)))]) rfl ?_
    refine XS.iloadN X0.here hx rfl (hb hby own_d_method_3_code_35) rfl ?_
    show Steps p.tables e below (s₁.setTop (mkF m 36 #[.val (.int p1), .val (.int (own_m p1)), .val (.int (own_c p1)), .val (.int (own_c ((p1.toUInt32 >>> ((8 : Int32) &&& 31).toUInt32).toInt32))), .val (.int (own_c ((p1.toUInt32 >>> ((16 : Int32) &&& 31).toUInt32).toInt32)))] [(.int (own_m p1))])) _
    refine XS.ifYes X0.here hx rfl (pc0 := 36) (pc' := 50) rfl (hb hby own_d_method_3_code_36) rfl ((if0 _ _).trans (feq hc36).2) (by decide) (by decide) ?_
    refine XS.iloadN X0.here hx rfl (hb hby own_d_method_3_code_50) rfl ?_
    refine XS.iconst X0.here hx rfl (hb hby own_d_method_3_code_51) ?_
    show Steps p.tables e below (s₁.setTop (mkF m 52 #[.val (.int p1), .val (.int (own_m p1)), .val (.int (own_c p1)), .val (.int (own_c ((p1.toUInt32 >>> ((8 : Int32) &&& 31).toUInt32).toInt32))), .val (.int (own_c ((p1.toUInt32 >>> ((16 : Int32) &&& 31).toUInt32).toInt32)))] [(.int (1 : Int32)), (.int (own_m p1))])) _
    refine XS.icmpYes X0.here hx rfl (pc0 := 52) (pc' := 70) rfl (hb hby own_d_method_3_code_52) rfl (feq hc52).2 (by decide) (by decide) ?_
    refine XS.iloadN X0.here hx rfl (hb hby own_d_method_3_code_70) rfl ?_
    refine XS.iconst X0.here hx rfl (hb hby own_d_method_3_code_71) ?_
    show Steps p.tables e below (s₁.setTop (mkF m 72 #[.val (.int p1), .val (.int (own_m p1)), .val (.int (own_c p1)), .val (.int (own_c ((p1.toUInt32 >>> ((8 : Int32) &&& 31).toUInt32).toInt32))), .val (.int (own_c ((p1.toUInt32 >>> ((16 : Int32) &&& 31).toUInt32).toInt32)))] [(.int (2 : Int32)), (.int (own_m p1))])) _
    refine XS.icmpNo X0.here hx rfl (hb hby own_d_method_3_code_72) rfl (teq hc72).2 ?_
    show Steps p.tables e below (s₁.setTop (mkF m 75 #[.val (.int p1), .val (.int (own_m p1)), .val (.int (own_c p1)), .val (.int (own_c ((p1.toUInt32 >>> ((8 : Int32) &&& 31).toUInt32).toInt32))), .val (.int (own_c ((p1.toUInt32 >>> ((16 : Int32) &&& 31).toUInt32).toInt32)))] [])) _
    refine st1 _ ?_
    refine XS.dup X1.here hx rfl (hb hby own_d_method_3_code_78) rfl rfl ?_
    refine XS.iconst X1.here hx rfl (hb hby own_d_method_3_code_79) ?_
    show Steps p.tables e below (T1.setTop (mkF m 80 #[.val (.int p1), .val (.int (own_m p1)), .val (.int (own_c p1)), .val (.int (own_c ((p1.toUInt32 >>> ((8 : Int32) &&& 31).toUInt32).toInt32))), .val (.int (own_c ((p1.toUInt32 >>> ((16 : Int32) &&& 31).toUInt32).toInt32)))] [(.int (2 : Int32)), (.ref b1), (.ref b1)])) _
    refine st2 _ ?_
    refine XS.dup X2.here hx rfl (hb hby own_d_method_3_code_82) rfl rfl ?_
    refine XS.iconst X2.here hx rfl (hb hby own_d_method_3_code_83) ?_
    show Steps p.tables e below (T2.setTop (mkF m 84 #[.val (.int p1), .val (.int (own_m p1)), .val (.int (own_c p1)), .val (.int (own_c ((p1.toUInt32 >>> ((8 : Int32) &&& 31).toUInt32).toInt32))), .val (.int (own_c ((p1.toUInt32 >>> ((16 : Int32) &&& 31).toUInt32).toInt32)))] [(.int (0 : Int32)), (.ref b2), (.ref b2), (.ref b1), (.ref b1)])) _
    refine XS.iloadN X2.here hx rfl (hb hby own_d_method_3_code_84) rfl ?_
    show Steps p.tables e below (T2.setTop (mkF m 85 #[.val (.int p1), .val (.int (own_m p1)), .val (.int (own_c p1)), .val (.int (own_c ((p1.toUInt32 >>> ((8 : Int32) &&& 31).toUInt32).toInt32))), .val (.int (own_c ((p1.toUInt32 >>> ((16 : Int32) &&& 31).toUInt32).toInt32)))] [(.int (own_c p1)), (.int (0 : Int32)), (.ref b2), (.ref b2), (.ref b1), (.ref b1)])) _
    refine st4 _ ?_
    refine XS.dup X4.here hx rfl (hb hby own_d_method_3_code_86) rfl rfl ?_
    refine XS.iconst X4.here hx rfl (hb hby own_d_method_3_code_87) ?_
    show Steps p.tables e below (T4.setTop (mkF m 88 #[.val (.int p1), .val (.int (own_m p1)), .val (.int (own_c p1)), .val (.int (own_c ((p1.toUInt32 >>> ((8 : Int32) &&& 31).toUInt32).toInt32))), .val (.int (own_c ((p1.toUInt32 >>> ((16 : Int32) &&& 31).toUInt32).toInt32)))] [(.int (1 : Int32)), (.ref b2), (.ref b2), (.ref b1), (.ref b1)])) _
    refine XS.iloadN X4.here hx rfl (hb hby own_d_method_3_code_88) rfl ?_
    show Steps p.tables e below (T4.setTop (mkF m 89 #[.val (.int p1), .val (.int (own_m p1)), .val (.int (own_c p1)), .val (.int (own_c ((p1.toUInt32 >>> ((8 : Int32) &&& 31).toUInt32).toInt32))), .val (.int (own_c ((p1.toUInt32 >>> ((16 : Int32) &&& 31).toUInt32).toInt32)))] [(.int (own_c ((p1.toUInt32 >>> ((8 : Int32) &&& 31).toUInt32).toInt32))), (.int (1 : Int32)), (.ref b2), (.ref b2), (.ref b1), (.ref b1)])) _
    refine st6 _ ?_
    show Steps p.tables e below (T6.setTop (mkF m 90 #[.val (.int p1), .val (.int (own_m p1)), .val (.int (own_c p1)), .val (.int (own_c ((p1.toUInt32 >>> ((8 : Int32) &&& 31).toUInt32).toInt32))), .val (.int (own_c ((p1.toUInt32 >>> ((16 : Int32) &&& 31).toUInt32).toInt32)))] [(.ref b2), (.ref b1), (.ref b1)])) _
    refine st7.trans ?_
    show Steps p.tables e below (T7.setTop (mkF m 93 #[.val (.int p1), .val (.int (own_m p1)), .val (.int (own_c p1)), .val (.int (own_c ((p1.toUInt32 >>> ((8 : Int32) &&& 31).toUInt32).toInt32))), .val (.int (own_c ((p1.toUInt32 >>> ((16 : Int32) &&& 31).toUInt32).toInt32)))] [(.ref b1)])) _
    jvm_step X7.here [X7.here.top, hx, (hb hby own_d_method_3_code_93), X7.method', Bd.returns, Value.isRef, FieldType.isReference]
    first | (intro acts; rw [hr _ acts rfl rfl rfl]) | rw [hr _ _ rfl rfl rfl]
    exact Steps.refl _
  · show QSr Z [(own_k p1), (own_k ((p1.toUInt32 >>> ((8 : Int32) &&& 31).toUInt32).toInt32))] h0 n0 _ T7.heap _
    exact ⟨b1, rfl, N7a, K5, SV7⟩
  · show CHr Z own_EL s.vm s.heap T7.vm T7.heap
    rw [hh]
    exact CH5.trans (CHv.at X7 hZ hEL CH5.1)
theorem own_d_method_3_code_94 : decode method_3_code 94 = .ok (.new 23, 3) := by decide +kernel
theorem own_d_method_3_code_97 : decode method_3_code 97 = .ok (.dup, 1) := by decide +kernel
theorem own_d_method_3_code_98 : decode method_3_code 98 = .ok (.iconst 3, 1) := by decide +kernel
theorem own_d_method_3_code_99 : decode method_3_code 99 = .ok (.newarray .char, 2) := by decide +kernel
theorem own_d_method_3_code_101 : decode method_3_code 101 = .ok (.dup, 1) := by decide +kernel
theorem own_d_method_3_code_102 : decode method_3_code 102 = .ok (.iconst 0, 1) := by decide +kernel
theorem own_d_method_3_code_103 : decode method_3_code 103 = .ok (.iload_n 2, 1) := by decide +kernel
theorem own_d_method_3_code_104 : decode method_3_code 104 = .ok (.castore, 1) := by decide +kernel
theorem own_d_method_3_code_105 : decode method_3_code 105 = .ok (.dup, 1) := by decide +kernel
theorem own_d_method_3_code_106 : decode method_3_code 106 = .ok (.iconst 1, 1) := by decide +kernel
theorem own_d_method_3_code_107 : decode method_3_code 107 = .ok (.iload_n 3, 1) := by decide +kernel
theorem own_d_method_3_code_108 : decode method_3_code 108 = .ok (.castore, 1) := by decide +kernel
theorem own_d_method_3_code_109 : decode method_3_code 109 = .ok (.dup, 1) := by decide +kernel
theorem own_d_method_3_code_110 : decode method_3_code 110 = .ok (.iconst 2, 1) := by decide +kernel
theorem own_d_method_3_code_111 : decode method_3_code 111 = .ok (.iload 4, 2) := by decide +kernel
theorem own_d_method_3_code_113 : decode method_3_code 113 = .ok (.castore, 1) := by decide +kernel
theorem own_d_method_3_code_114 : decode method_3_code 114 = .ok (.invokespecial 32, 3) := by decide +kernel
theorem own_d_method_3_code_117 : decode method_3_code 117 = .ok (.areturn, 1) := by decide +kernel
set_option maxRecDepth 65536 in
set_option maxHeartbeats 40000000 in
theorem rs3 (l : Launch) (Z : State) (a0 : Array Value) (hw : ∀ d ∈ tables_1, d.before a0 Z = true) (ws : List Jvm.Cond) (hEL : EW Z a0 own_EL) (p1 : Int32) (G1 : Int32) (G3 : Value) (h0 : Heap) (n0 : Nat) (Z0 : n0 ≤ h0.size) (O2 : Sta Z Z.heap "java/lang/String" "COMPACT_STRINGS" "Z" (.int G1)) (P5 : ¬ (G1 = (0 : Int32))) (O4 : Sta Z Z.heap "jdk/internal/util/Preconditions" "SIOOBE_FORMATTER" "Ljava/util/function/BiFunction;" G3) (rG3 : G3.isRef = true) (O0 : Old Z n0 h0) (hc36 : ¬ ((own_m p1) = (0 : Int32))) (hc52 : ¬ ((own_m p1) = (1 : Int32))) (hc72 : ¬ ((own_m p1) = (2 : Int32))) :
    MetFree l (⟨"com/example/treeward/treeward/engine/FindingToStringPinLaw", "mk", "(I)Ljava/lang/String;"⟩ : MethodName) (head1 (Jvm.Cond.code (⟨"com/example/treeward/treeward/engine/FindingToStringPinLaw", "mk", "(I)Ljava/lang/String;"⟩ : MethodName) method_3_code 5 (some (.object "java/lang/String")) :: ws) ({ frames := 4, cells := 4, slots := 10, locals := 66 } : Room)) (fun a U => a = #[(.int p1)] ∧ Z.Warmed39 U.vm ∧ U.heap = h0 ∧ CHv Z own_EL U.vm h0) (fun _ _ _ _ _ => True) (fun _ U o U' => ∃ v L, o = .returned v ∧ QSr Z [(own_k p1), (own_k ((p1.toUInt32 >>> ((8 : Int32) &&& 31).toUInt32).toInt32)), (own_k ((p1.toUInt32 >>> ((16 : Int32) &&& 31).toUInt32).toInt32))] h0 n0 v U'.heap L ∧ CHr Z own_EL U.vm U.heap U'.vm U'.heap ∧ ReturnedEndW U o U' L 4 10) := by
  refine MetFree.of_bodySF (plainFor_of_name own_pn_com_example_treeward_treeward_engine_FindingToStringPinLaw) hisR ?_
  intro p e s m args below meth c s₁ Bd hml0 hP hK
  obtain ⟨rfl, hZ, hh, hCH0⟩ := hP
  have hx := Bd.exec
  have hby := Bd.bytes
  have hml : c.maxLocals = 5 := hml0
  have hown : s.vm.findClass "com/example/treeward/treeward/engine/FindingToStringPinLaw" = some m.cls := findClass_of_methodNamed Bd.named
  have hnm := (name_of_methodNamed Bd.named Bd.method).1
  have X0 : Stand p l e ({ frames := 4, cells := 4, slots := 10, locals := 66 } : Room) (s.setVm s.vm) m #[(.int p1)] below meth c s₁ [] 0 0 := Stand.of_body Bd
  have e0 : s₁.heap = h0 := by rw [← hh, Bd.state]; rfl
  have N0 := Fr.nil n0
  have CH0 : CHr Z own_EL s.vm h0 s.vm h0 := CHr.refl hCH0
  have hS0 : s.Since s.vm 0 := State.WarmedH.since (State.WarmedH.refl s) 0
  have pre0 : ∀ t, Steps p.tables e below (s₁.setTop (mkF m 0 #[.val (.int p1), .unset, .unset, .unset, .unset] [])) t → Steps p.tables e below (s₁.setTop (entryFrame m #[(.int p1)] 5)) t := fun t k => castTop (own_ef_method_3_code_x m p1) k
  obtain ⟨T1, h1, X1, e1, E1, A1, D1, -, st1⟩ := newO X0 hx hZ hown (hw _ (List.mem_of_getElem? (i := 4) rfl)) (hw _ (List.mem_of_getElem? (i := 5) rfl)) (hw _ (List.mem_of_getElem? (i := 6) rfl)) e0 (g := (mkF m 94 #[.val (.int p1), .val (.int (own_m p1)), .val (.int (own_c p1)), .val (.int (own_c ((p1.toUInt32 >>> ((8 : Int32) &&& 31).toUInt32).toInt32))), .val (.int (own_c ((p1.toUInt32 >>> ((16 : Int32) &&& 31).toUInt32).toInt32)))] [])) rfl (hb hby own_d_method_3_code_94) (by decide) (by decide)
  obtain ⟨b1, g1⟩ : ∃ z, z = h0.size := ⟨_, rfl⟩
  rw [← g1] at A1 D1 st1
  have sz_b1 : h0.size ≤ b1 := Nat.le_trans (Keep.refl h0 []).1 (Nat.le_of_eq g1.symm)
  have g_b1 : n0 ≤ b1 := Nat.le_trans Z0 sz_b1
  have CH1 : CHr Z own_EL s.vm h0 s.vm h1 := CH0.trans (CHr.ext E1 CH0.1)
  have K1 : Keep h0 h1 [] := (Keep.refl h0 []).ext E1
  have F_value_b1 : Fld Z h1 b1 "java/lang/String" "value" "[B" .null := D1 (Or.inr (hw _ (List.mem_of_getElem? (i := 20) rfl))) (ty := (.array .byte)) (by decide)
  have F_coder_b1 : Fld Z h1 b1 "java/lang/String" "coder" "B" (.int (0 : Int32)) := D1 (Or.inr (hw _ (List.mem_of_getElem? (i := 21) rfl))) (ty := .byte) (by decide)
  have Sf1 : Safe Z own_EL s.vm h1 b1 := Safe.ext E1 CH0.1 (Safe.new (Nat.le_of_eq g1.symm))
  obtain ⟨T2, h2, ka2, X2, e2, E2, A2, st2⟩ := newP X1 hx hZ (hw _ (List.mem_of_getElem? (i := 7) rfl)) e1 (g := (mkF m 99 #[.val (.int p1), .val (.int (own_m p1)), .val (.int (own_c p1)), .val (.int (own_c ((p1.toUInt32 >>> ((8 : Int32) &&& 31).toUInt32).toInt32))), .val (.int (own_c ((p1.toUInt32 >>> ((16 : Int32) &&& 31).toUInt32).toInt32)))] [(.int (3 : Int32)), (.ref b1), (.ref b1)])) rfl (hb hby own_d_method_3_code_99) rfl (by decide) (cap := 3) (by decide) (by decide) (by decide) (by decide)
  obtain ⟨b2, g2⟩ : ∃ z, z = h1.size := ⟨_, rfl⟩
  rw [← g2] at A2 st2
  have sz_b2 : h0.size ≤ b2 := Nat.le_trans K1.1 (Nat.le_of_eq g2.symm)
  have g_b2 : n0 ≤ b2 := Nat.le_trans Z0 sz_b2
  have CH2 : CHr Z own_EL s.vm h0 s.vm h2 := CH1.trans (CHr.ext E2 CH1.1)
  have K2 : Keep h0 h2 [] := K1.ext E2
  have V_b2 : Arv Z h2 b2 ka2 .char (3 : Int32) [(.int (0 : Int32)), (.int (0 : Int32)), (.int (0 : Int32))] (.int (0 : Int32)) := (Arv.new A2 (by decide)).pad (pad_rep [] (.int (0 : Int32)) 3)
  obtain ⟨cl3, Ar3, q3, S3, N_3, H_3, G3⟩ := id V_b2
  obtain ⟨T4, h4, X4, e4, W4, st4⟩ := stC X2 hx hZ e2 Ar3 (j := (0 : Int32)) (inb_of S3 ⟨by decide, by decide⟩) (g := (mkF m 104 #[.val (.int p1), .val (.int (own_m p1)), .val (.int (own_c p1)), .val (.int (own_c ((p1.toUInt32 >>> ((8 : Int32) &&& 31).toUInt32).toInt32))), .val (.int (own_c ((p1.toUInt32 >>> ((16 : Int32) &&& 31).toUInt32).toInt32)))] [(.int (own_c p1)), (.int (0 : Int32)), (.ref b2), (.ref b2), (.ref b1), (.ref b1)])) rfl rfl (hb hby own_d_method_3_code_104)
  have V4_b2 : Arv Z h4 b2 ka2 .char (3 : Int32) [(.int (own_k p1)), (.int (0 : Int32)), (.int (0 : Int32))] (.int (0 : Int32)) := Arv.set Ar3 q3 S3 N_3 H_3 G3 (fits_nar_char _) W4 0 rfl (Nat.le_of_ble_eq_true rfl)
  have Nf4 := Fr.snoc X4 N0 g_b2
  have CH3 : CHr Z own_EL s.vm h0 s.vm h4 := CH2.trans (CHr.wr W4 (own_safeV (hZ : Z.Warmed39 s.vm).alike V_b2 (by decide)) CH2.1)
  have K3 : Keep h0 h4 [] := K2.wr W4 (Or.inr sz_b2)
  obtain ⟨cl5, Ar5, q5, S5, N_5, H_5, G5⟩ := id V4_b2
  obtain ⟨T6, h6, X6, e6, W6, st6⟩ := stC X4 hx hZ e4 Ar5 (j := (1 : Int32)) (inb_of S5 ⟨by decide, by decide⟩) (g := (mkF m 108 #[.val (.int p1), .val (.int (own_m p1)), .val (.int (own_c p1)), .val (.int (own_c ((p1.toUInt32 >>> ((8 : Int32) &&& 31).toUInt32).toInt32))), .val (.int (own_c ((p1.toUInt32 >>> ((16 : Int32) &&& 31).toUInt32).toInt32)))] [(.int (own_c ((p1.toUInt32 >>> ((8 : Int32) &&& 31).toUInt32).toInt32))), (.int (1 : Int32)), (.ref b2), (.ref b2), (.ref b1), (.ref b1)])) rfl rfl (hb hby own_d_method_3_code_108)
  have V6_b2 : Arv Z h6 b2 ka2 .char (3 : Int32) [(.int (own_k p1)), (.int (own_k ((p1.toUInt32 >>> ((8 : Int32) &&& 31).toUInt32).toInt32))), (.int (0 : Int32))] (.int (0 : Int32)) := Arv.set Ar5 q5 S5 N_5 H_5 G5 (fits_nar_char _) W6 1 rfl (Nat.le_of_ble_eq_true rfl)
  have Nf6 := Fr.snoc X6 Nf4 g_b2
  have CH4 : CHr Z own_EL s.vm h0 s.vm h6 := CH3.trans (CHr.wr W6 (own_safeV (hZ : Z.Warmed39 s.vm).alike V4_b2 (by decide)) CH3.1)
  have K4 : Keep h0 h6 [] := K3.wr W6 (Or.inr sz_b2)
  obtain ⟨cl7, Ar7, q7, S7, N_7, H_7, G7⟩ := id V6_b2
  obtain ⟨T8, h8, X8, e8, W8, st8⟩ := stC X6 hx hZ e6 Ar7 (j := (2 : Int32)) (inb_of S7 ⟨by decide, by decide⟩) (g := (mkF m 113 #[.val (.int p1), .val (.int (own_m p1)), .val (.int (own_c p1)), .val (.int (own_c ((p1.toUInt32 >>> ((8 : Int32) &&& 31).toUInt32).toInt32))), .val (.int (own_c ((p1.toUInt32 >>> ((16 : Int32) &&& 31).toUInt32).toInt32)))] [(.int (own_c ((p1.toUInt32 >>> ((16 : Int32) &&& 31).toUInt32).toInt32))), (.int (2 : Int32)), (.ref b2), (.ref b2), (.ref b1), (.ref b1)])) rfl rfl (hb hby own_d_method_3_code_113)
  have V8_b2 : Arv Z h8 b2 ka2 .char (3 : Int32) [(.int (own_k p1)), (.int (own_k ((p1.toUInt32 >>> ((8 : Int32) &&& 31).toUInt32).toInt32))), (.int (own_k ((p1.toUInt32 >>> ((16 : Int32) &&& 31).toUInt32).toInt32)))] (.int (0 : Int32)) := Arv.set Ar7 q7 S7 N_7 H_7 G7 (fits_nar_char _) W8 2 rfl (Nat.le_of_ble_eq_true rfl)
  have Nf8 := Fr.snoc X8 Nf6 g_b2
  have CH5 : CHr Z own_EL s.vm h0 s.vm h8 := CH4.trans (CHr.wr W8 (own_safeV (hZ : Z.Warmed39 s.vm).alike V6_b2 (by decide)) CH4.1)
  have K5 : Keep h0 h8 [] := K4.wr W8 (Or.inr sz_b2)
  have f10 : Exa Z h8 b1 "java/lang/String" := ((((A1.ext E2).wr W4).wr W6).wr W8)
  have f11 : Fld Z h8 b1 "java/lang/String" "value" "[B" .null := ((((F_value_b1.ext E2).other W4 (Or.inl (Nat.ne_of_lt (Nat.lt_of_lt_of_le A1.lt (Nat.le_of_eq g2.symm))))).other W6 (Or.inl (Nat.ne_of_lt (Nat.lt_of_lt_of_le A1.lt (Nat.le_of_eq g2.symm))))).other W8 (Or.inl (Nat.ne_of_lt (Nat.lt_of_lt_of_le A1.lt (Nat.le_of_eq g2.symm)))))
  have f12 : Fld Z h8 b1 "java/lang/String" "coder" "B" (.int (0 : Int32)) := ((((F_coder_b1.ext E2).other W4 (Or.inl (Nat.ne_of_lt (Nat.lt_of_lt_of_le A1.lt (Nat.le_of_eq g2.symm))))).other W6 (Or.inl (Nat.ne_of_lt (Nat.lt_of_lt_of_le A1.lt (Nat.le_of_eq g2.symm))))).other W8 (Or.inl (Nat.ne_of_lt (Nat.lt_of_lt_of_le A1.lt (Nat.le_of_eq g2.symm)))))
  have f13 : Old Z n0 h8 := (((((O0.ext E1).ext E2).wr W4 g_b2).wr W6 g_b2).wr W8 g_b2)
  obtain ⟨_, _, ⟨T9, L9, k9, n9⟩, -, X9, ⟨Lc9, hQ9, l9, y9, z9⟩, st9⟩ := X8.specialBack hx (y := (⟨"java/lang/String", "<init>", "([C)V"⟩ : MethodName)) rfl hown (mvT hZ (hw _ (List.mem_of_getElem? (i := 8) rfl))) (mvT hZ (hw _ (List.mem_of_getElem? (i := 9) rfl))) (mvT hZ (hw _ (List.mem_of_getElem? (i := 10) rfl))) (by decide) (StrChars.Road.backV (W := 1) hZ (own_hws hw) (kI := 4) (hw _ (List.mem_of_getElem? (i := 5) rfl)) (cs := ([(own_k p1), (own_k ((p1.toUInt32 >>> ((8 : Int32) &&& 31).toUInt32).toInt32)), (own_k ((p1.toUInt32 >>> ((16 : Int32) &&& 31).toUInt32).toInt32))] : List Int32)) (bs := (([(own_k p1), (own_k ((p1.toUInt32 >>> ((8 : Int32) &&& 31).toUInt32).toInt32)), (own_k ((p1.toUInt32 >>> ((16 : Int32) &&& 31).toUInt32).toInt32))] : List Int32)).map (fun c => c.toInt8.toInt32)) (n := 3) g_b1 (Nat.le_trans Z0 K5.1) f10 f11 f12 (V8_b2 : Arv Z h8 b2 ka2 .char (Int32.ofNat 3) (([(own_k p1), (own_k ((p1.toUInt32 >>> ((8 : Int32) &&& 31).toUInt32).toInt32)), (own_k ((p1.toUInt32 >>> ((16 : Int32) &&& 31).toUInt32).toInt32))] : List Int32).map Value.int) _) (O2.ext f13.2) P5 rfl rfl (by decide) (by decide) (own_hp3 p1 ((p1.toUInt32 >>> ((8 : Int32) &&& 31).toUInt32).toInt32) ((p1.toUInt32 >>> ((16 : Int32) &&& 31).toUInt32).toInt32)) rfl (by decide) (by decide)) (g := (mkF m 114 #[.val (.int p1), .val (.int (own_m p1)), .val (.int (own_c p1)), .val (.int (own_c ((p1.toUInt32 >>> ((8 : Int32) &&& 31).toUInt32).toInt32))), .val (.int (own_c ((p1.toUInt32 >>> ((16 : Int32) &&& 31).toUInt32).toInt32)))] [(.ref b2), (.ref b1), (.ref b1)])) rfl (by rw [hml]; rfl) (Steps.refl _) (a := b1) (argsL := [(.ref b2)]) (rest := [(.ref b1)]) (lenOf own_pd___C_V rfl) rfl (by show 2 * 0 + _ ≤ _; exact Nat.le_of_eq rfl) (hb hby own_d_method_3_code_114) (fun _ _ => ⟨rfl, e8, (by decide : 2 + 1 ≤ _), (by decide : 7 + 3 ≤ _)⟩)
  dsimp only [Pt.U, Pt.locs, Pt.cells, Pt.slots] at X9 l9 y9 z9 st9 hQ9
  subst l9 y9 z9
  obtain ⟨rfl, N9q, K9q, E9q, gc9, t9, kb9, -, -, -, gv9, ga9⟩ := hQ9
  have N9a := Fr.app Nf8 N9q
  have f14 : Safe Z own_EL s.vm h8 b1 := (Safe.wr W8 (own_safeV (hZ : Z.Warmed39 s.vm).alike V6_b2 (by decide)) CH4.1 (Safe.wr W6 (own_safeV (hZ : Z.Warmed39 s.vm).alike V4_b2 (by decide)) CH3.1 (Safe.wr W4 (own_safeV (hZ : Z.Warmed39 s.vm).alike V_b2 (by decide)) CH2.1 (Safe.ext E2 CH1.1 Sf1))))
  have CH6 : CHr Z own_EL s.vm h0 s.vm T9.heap := CH5.trans (CHr.keep K9q (allS f14 all0) CH5.1)
  have K6 : Keep h0 T9.heap [] := K5.trans K9q (allS (Or.inr sz_b1) all0)
  have SV9 : StrV Z T9.heap b1 ([(own_k p1), (own_k ((p1.toUInt32 >>> ((8 : Int32) &&& 31).toUInt32).toInt32)), (own_k ((p1.toUInt32 >>> ((16 : Int32) &&& 31).toUInt32).toInt32))] : List Int32) := own_mkStr rfl (own_hp3 p1 ((p1.toUInt32 >>> ((8 : Int32) &&& 31).toUInt32).toInt32) ((p1.toUInt32 >>> ((16 : Int32) &&& 31).toUInt32).toInt32)) E9q gc9 gv9 ga9
  obtain ⟨fs, hr, hrun, hended, hend⟩ := X9.leaveW hS0 (Nat.zero_le _) (v := some (.ref b1)) (fun h => by rw [Bd.returns] at h; cases h)
  refine ⟨_, _, pre0 _ ?_, hrun, hended, _, _, rfl, ?_, ?_, hend.1, hend.2.1, hend.2.2.1, hend.2.2.2.mono (by decide) (by decide)⟩
  · show Steps p.tables e below (s₁.setTop (mkF m 0 #[.val (.int p1), .unset, .unset, .unset, .unset] [])) _
    refine XS.iloadN X0.here hx rfl (hb hby own_d_method_3_code_0) rfl ?_
    refine XS.bipush X0.here hx rfl (hb hby own_d_method_3_code_1) ?_
    refine XS.iushr X0.here hx rfl (hb hby own_d_method_3_code_3) rfl ?_
    show Steps p.tables e below (s₁.setTop (mkF m 4 #[.val (.int p1), .unset, .unset, .unset, .unset] [(.int ((p1.toUInt32 >>> ((24 : Int32) &&& 31).toUInt32).toInt32))])) _
    refine XS.iconst X0.here hx rfl (hb hby own_d_method_3_code_4) ?_
    refine XS.iand X0.here hx rfl (hb hby own_d_method_3_code_5) rfl ?_
    refine XS.istoreN X0.here hx rfl (hb hby own_d_method_3_code_6) rfl (l' := #[.val (.int p1), .val (.int (own_m p1)), .unset, .unset, .unset]) rfl ?_
    show Steps p.tables e below (s₁.setTop (mkF m 7 #[.val (.int p1), .val (.int (own_m p1)), .unset, .unset, .unset] [])) _
    refine XS.iloadN X0.here hx rfl (hb hby own_d_method_3_code_7) rfl ?_
    refine XS.sipush X0.here hx rfl (hb hby own_d_method_3_code_8) ?_
    refine XS.iand X0.here hx rfl (hb hby own_d_method_3_code_11) rfl ?_
    show Steps p.tables e below (s₁.setTop (mkF m 12 #[.val (.int p1), .val (.int (own_m p1)), .unset, .unset, .unset] [(.int (p1 &&& (255 : Int32)))])) _
    refine XS.i2c X0.here hx rfl (hb hby own_d_method_3_code_12) rfl ?_
    refine XS.istoreN X0.here hx rfl (hb hby own_d_method_3_code_13) rfl (l' := #[.val (.int p1), .val (.int (own_m p1)), .val (.int (own_c p1)), .unset, .unset]) rfl ?_
    refine XS.iloadN X0.here hx rfl (hb hby own_d_method_3_code_14) rfl ?_
    show Steps p.tables e below (s₁.setTop (mkF m 15 #[.val (.int p1), .val (.int (own_m p1)), .val (.int (own_c p1)), .unset, .unset] [(.int p1)])) _
    refine XS.bipush X0.here hx rfl (hb hby own_d_method_3_code_15) ?_
    refine XS.iushr X0.here hx rfl (hb hby own_d_method_3_code_17) rfl ?_
    refine XS.sipush X0.here hx rfl (hb hby own_d_method_3_code_18) ?_
    show Steps p.tables e below (s₁.setTop (mkF m 21 #[.val (.int p1), .val (.int (own_m p1)), .val (.int (own_c p1)), .unset, .unset] [(.int (255 : Int32)), (.int ((p1.toUInt32 >>> ((8 : Int32) &&& 31).toUInt32).toInt32))])) _
    refine XS.iand X0.here hx rfl (hb hby own_d_method_3_code_21) rfl ?_
    refine XS.i2c X0.here hx rfl (hb hby own_d_method_3_code_22) rfl ?_
    refine XS.istoreN X0.here hx rfl (hb hby own_d_method_3_code_23) rfl (l' := #[.val (.int p1), .val (.int (own_m p1)), .val (.int (own_c p1)), .val (.int (own_c ((p1.toUInt32 >>> ((8 : Int32) &&& 31).toUInt32).toInt32))), .unset]) rfl ?_
    show Steps p.tables e below (s₁.setTop (mkF m 24 #[.val (.int p1), .val (.int (own_m p1)), .val (.int (own_c p1)), .val (.int (own_c ((p1.toUInt32 >>> ((8 : Int32) &&& 31).toUInt32).toInt32))), .unset] [])) _
    refine XS.iloadN X0.here hx rfl (hb hby own_d_method_3_code_24) rfl ?_
    refine XS.bipush X0.here hx rfl (hb hby own_d_method_3_code_25) ?_
    refine XS.iushr X0.here hx rfl (hb hby own_d_method_3_code_27) rfl ?_
    show Steps p.tables e below (s₁.setTop (mkF m 28 #[.val (.int p1), .val (.int (own_m p1)), .val (.int (own_c p1)), .val (.int (own_c ((p1.toUInt32 >>> ((8 : Int32) &&& 31).toUInt32).toInt32))), .unset] [(.int ((p1.toUInt32 >>> ((16 : Int32) &&& 31).toUInt32).toInt32))])) _
    refine XS.sipush X0.here hx rfl (hb hby own_d_method_3_code_28) ?_
    refine XS.iand X0.here hx rfl (hb hby own_d_method_3_code_31) rfl ?_
    refine XS.i2c X0.here hx rfl (hb hby own_d_method_3_code_32) rfl ?_
    show Steps p.tables e below (s₁.setTop (mkF m 33 #[.val (.int p1), .val (.int (own_m p1)), .val (.int (own_c p1)), .val (.int (own_c ((p1.toUInt32 >>> ((8 : Int32) &&& 31).toUInt32).toInt32))), .unset] [(.int (own_c ((p1.toUInt32 >>> ((16 : Int32) &&& 31).toUInt32).toInt32)))])) _
    refine XS.istore X0.here hx rfl (hb hby own_d_method_3_code_33) rfl (l' := #[.val (.int p1), .val (.int (own_m p1)), .val (.int (own_c p1)), .val (.int (own_c ((p1.toUInt32 >>> ((8 : Int32) &&& 31).toUInt32).toInt32))), .val (.int (own_c ((p1.toUInt32 >>> ((16 : Int32) &&& 31).toUInt32).toInt32)))]) rfl ?_
    refine XS.iloadN X0.here hx rfl (hb hby own_d_method_3_code_35) rfl ?_
    show Steps p.tables e below (s₁.setTop (mkF m 36 #[.val (.int p1), .val (.int (own_m p1)), .val (.int (own_c p1)), .val (.int (own_c ((p1.toUInt32 >>> ((8 : Int32) &&& 31).toUInt32).toInt32))), .val (.int (own_c ((p1.toUInt32 >>> ((16 : Int32) &&& 31).toUInt32).toInt32)))] [(.int (own_m p1))])) _
    refine XS.ifYes X0.here hx rfl (pc0 := 36) (pc' := 50) rfl (hb hby own_d_method_3_code_36) rfl ((if0 _ _).trans (feq hc36).2) (by decide) (by decide) ?_
    refine XS.iloadN X0.here hx rfl (hb hby own_d_method_3_code_50) rfl ?_
    refine XS.iconst X0.here hx rfl (hb hby own_d_method_3_code_51) ?_
    show Steps p.tables e below (s₁.setTop (mkF m 52 #[.val (.int p1), .val (.int (own_m p1)), .val (.int (own_c p1)), .val (.int (own_c ((p1.toUInt32 >>> ((8 : Int32) &&& 31).toUInt32).toInt32))), .val (.int (own_c ((p1.toUInt32 >>> ((16 : Int32) &&& 31).toUInt32).toInt32)))] [(.int (1 : Int32)), (.int (own_m p1))])) _
    refine XS.icmpYes X0.here hx rfl (pc0 := 52) (pc' := 70) rfl (hb hby own_d_method_3_code_52) rfl (feq hc52).2 (by decide) (by decide) ?_
    refine XS.iloadN X0.here hx rfl (hb hby own_d_method_3_code_70) rfl ?_
    refine XS.iconst X0.here hx rfl (hb hby own_d_method_3_code_71) ?_
    show Steps p.tables e below (s₁.setTop (mkF m 72 #[.val (.int p1), .val (.int (own_m p1)), .val (.int (own_c p1)), .val (.int (own_c ((p1.toUInt32 >>> ((8 : Int32) &&& 31).toUInt32).toInt32))), .val (.int (own_c ((p1.toUInt32 >>> ((16 : Int32) &&& 31).toUInt32).toInt32)))] [(.int (2 : Int32)), (.int (own_m p1))])) _
    refine XS.icmpYes X0.here hx rfl (pc0 := 72) (pc' := 94) rfl (hb hby own_d_method_3_code_72) rfl (feq hc72).2 (by decide) (by decide) ?_
    show Steps p.tables e below (s₁.setTop (mkF m 94 #[.val (.int p1), .val (.int (own_m p1)), .val (.int (own_c p1)), .val (.int (own_c ((p1.toUInt32 >>> ((8 : Int32) &&& 31).toUInt32).toInt32))), .val (.int (own_c ((p1.toUInt32 >>> ((16 : Int32) &&& 31).toUInt32).toInt32)))] [])) _
    refine st1 _ ?_
    refine XS.dup X1.here hx rfl (hb hby own_d_method_3_code_97) rfl rfl ?_
    refine XS.iconst X1.here hx rfl (hb hby own_d_method_3_code_98) ?_
    show Steps p.tables e below (T1.setTop (mkF m 99 #[.val (.int p1), .val (.int (own_m p1)), .val (.int (own_c p1)), .val (.int (own_c ((p1.toUInt32 >>> ((8 : Int32) &&& 31).toUInt32).toInt32))), .val (.int (own_c ((p1.toUInt32 >>> ((16 : Int32) &&& 31).toUInt32).toInt32)))] [(.int (3 : Int32)), (.ref b1), (.ref b1)])) _
    refine st2 _ ?_
    refine XS.dup X2.here hx rfl (hb hby own_d_method_3_code_101) rfl rfl ?_
    refine XS.iconst X2.here hx rfl (hb hby own_d_method_3_code_102) ?_
    show Steps p.tables e below (T2.setTop (mkF m 103 #[.val (.int p1), .val (.int (own_m p1)), .val (.int (own_c p1)), .val (.int (own_c ((p1.toUInt32 >>> ((8 : Int32) &&& 31).toUInt32).toInt32))), .val (.int (own_c ((p1.toUInt32 >>> ((16 : Int32) &&& 31).toUInt32).toInt32)))] [(.int (0 : Int32)), (.ref b2), (.ref b2), (.ref b1), (.ref b1)])) _
    refine XS.iloadN X2.here hx rfl (hb hby own_d_method_3_code_103) rfl ?_
    show Steps p.tables e below (T2.setTop (mkF m 104 #[.val (.int p1), .val (.int (own_m p1)), .val (.int (own_c p1)), .val (.int (own_c ((p1.toUInt32 >>> ((8 : Int32) &&& 31).toUInt32).toInt32))), .val (.int (own_c ((p1.toUInt32 >>> ((16 : Int32) &&& 31).toUInt32).toInt32)))] [(.int (own_c p1)), (.int (0 : Int32)), (.ref b2), (.ref b2), (.ref b1), (.ref b1)])) _
    refine st4 _ ?_
    refine XS.dup X4.here hx rfl (hb hby own_d_method_3_code_105) rfl rfl ?_
    refine XS.iconst X4.here hx rfl (hb hby own_d_method_3_code_106) ?_
    show Steps p.tables e below (T4.setTop (mkF m 107 #[.val (.int p1), .val (.int (own_m p1)), .val (.int (own_c p1)), .val (.int (own_c ((p1.toUInt32 >>> ((8 : Int32) &&& 31).toUInt32).toInt32))), .val (.int (own_c ((p1.toUInt32 >>> ((16 : Int32) &&& 31).toUInt32).toInt32)))] [(.int (1 : Int32)), (.ref b2), (.ref b2), (.ref b1), (.ref b1)])) _
    refine XS.iloadN X4.here hx rfl (hb hby own_d_method_3_code_107) rfl ?_
    show Steps p.tables e below (T4.setTop (mkF m 108 #[.val (.int p1), .val (.int (own_m p1)), .val (.int (own_c p1)), .val (.int (own_c ((p1.toUInt32 >>> ((8 : Int32) &&& 31).toUInt32).toInt32))), .val (.int (own_c ((p1.toUInt32 >>> ((16 : Int32) &&& 31).toUInt32).toInt32)))] [(.int (own_c ((p1.toUInt32 >>> ((8 : Int32) &&& 31).toUInt32).toInt32))), (.int (1 : Int32)), (.ref b2), (.ref b2), (.ref b1), (.ref b1)])) _
    refine st6 _ ?_
    refine XS.dup X6.here hx rfl (hb hby own_d_method_3_code_109) rfl rfl ?_
    refine XS.iconst X6.here hx rfl (hb hby own_d_method_3_code_110) ?_
    show Steps p.tables e below (T6.setTop (mkF m 111 #[.val (.int p1), .val (.int (own_m p1)), .val (.int (own_c p1)), .val (.int (own_c ((p1.toUInt32 >>> ((8 : Int32) &&& 31).toUInt32).toInt32))), .val (.int (own_c ((p1.toUInt32 >>> ((16 : Int32) &&& 31).toUInt32).toInt32)))] [(.int (2 : Int32)), (.ref b2), (.ref b2), (.ref b1), (.ref b1)])) _
    refine XS.iload X6.here hx rfl (hb hby own_d_method_3_code_111) rfl ?_
    show Steps p.tables e below (T6.setTop (mkF m 113 #[.val (.int p1), .val (.int (own_m p1)), .val (.int (own_c p1)), .val (.int (own_c ((p1.toUInt32 >>> ((8 : Int32) &&& 31).toUInt32).toInt32))), .val (.int (own_c ((p1.toUInt32 >>> ((16 : Int32) &&& 31).toUInt32).toInt32)))] [(.int (own_c ((p1.toUInt32 >>> ((16 : Int32) &&& 31).toUInt32).toInt32))), (.int (2 : Int32)), (.ref b2), (.ref b2), (.ref b1), (.ref b1)])) _
    refine st8 _ ?_
    show Steps p.tables e below (T8.setTop (mkF m 114 #[.val (.int p1), .val (.int (own_m p1)), .val (.int (own_c p1)), .val (.int (own_c ((p1.toUInt32 >>> ((8 : Int32) &&& 31).toUInt32).toInt32))), .val (.int (own_c ((p1.toUInt32 >>> ((16 : Int32) &&& 31).toUInt32).toInt32)))] [(.ref b2), (.ref b1), (.ref b1)])) _
    refine st9.trans ?_
    show Steps p.tables e below (T9.setTop (mkF m 117 #[.val (.int p1), .val (.int (own_m p1)), .val (.int (own_c p1)), .val (.int (own_c ((p1.toUInt32 >>> ((8 : Int32) &&& 31).toUInt32).toInt32))), .val (.int (own_c ((p1.toUInt32 >>> ((16 : Int32) &&& 31).toUInt32).toInt32)))] [(.ref b1)])) _
    jvm_step X9.here [X9.here.top, hx, (hb hby own_d_method_3_code_117), X9.method', Bd.returns, Value.isRef, FieldType.isReference]
    first | (intro acts; rw [hr _ acts rfl rfl rfl]) | rw [hr _ _ rfl rfl rfl]
    exact Steps.refl _
  · show QSr Z [(own_k p1), (own_k ((p1.toUInt32 >>> ((8 : Int32) &&& 31).toUInt32).toInt32)), (own_k ((p1.toUInt32 >>> ((16 : Int32) &&& 31).toUInt32).toInt32))] h0 n0 _ T9.heap _
    exact ⟨b1, rfl, N9a, K6, SV9⟩
  · show CHr Z own_EL s.vm s.heap T9.vm T9.heap
    rw [hh]
    exact CH6.trans (CHv.at X9 hZ hEL CH6.1)
theorem rmM (l : Launch) (Z : State) (a0 : Array Value) (hw : ∀ d ∈ tables_1, d.before a0 Z = true) (ws : List Jvm.Cond) (hEL : EW Z a0 own_EL) (p1 : Int32) (G1 : Int32) (G3 : Value) (h0 : Heap) (n0 : Nat) (Z0 : n0 ≤ h0.size) (O2 : Sta Z Z.heap "java/lang/String" "COMPACT_STRINGS" "Z" (.int G1)) (P5 : ¬ (G1 = (0 : Int32))) (O4 : Sta Z Z.heap "jdk/internal/util/Preconditions" "SIOOBE_FORMATTER" "Ljava/util/function/BiFunction;" G3) (rG3 : G3.isRef = true) (O0 : Old Z n0 h0) :
    MetFree l (⟨"com/example/treeward/treeward/engine/FindingToStringPinLaw", "mk", "(I)Ljava/lang/String;"⟩ : MethodName) (head1 (Jvm.Cond.code (⟨"com/example/treeward/treeward/engine/FindingToStringPinLaw", "mk", "(I)Ljava/lang/String;"⟩ : MethodName) method_3_code 5 (some (.object "java/lang/String")) :: ws) ({ frames := 4, cells := 4, slots := 10, locals := 66 } : Room)) (fun a U => a = #[(.int p1)] ∧ Z.Warmed39 U.vm ∧ U.heap = h0 ∧ CHv Z own_EL U.vm h0) (fun _ _ _ _ _ => True) (fun _ U o U' => ∃ v L, o = .returned v ∧ QSr Z (own_cs p1) h0 n0 v U'.heap L ∧ CHr Z own_EL U.vm U.heap U'.vm U'.heap ∧ ReturnedEndW U o U' L 4 10) := by
  by_cases c0 : own_m p1 = 0
  · have e : own_cs p1 = [] := by rw [own_cs, if_pos c0]
    rw [e]; exact rs0 l Z a0 hw ws hEL p1 G1 G3 h0 n0 Z0 O2 P5 O4 rG3 O0 c0
  · by_cases c1 : own_m p1 = 1
    · have e : own_cs p1 = [(own_k p1)] := by rw [own_cs, if_neg c0, if_pos c1]
      rw [e]; exact rs1 l Z a0 hw ws hEL p1 G1 G3 h0 n0 Z0 O2 P5 O4 rG3 O0 c0 c1
    · by_cases c2 : own_m p1 = 2
      · have e : own_cs p1 = [(own_k p1), (own_k ((p1.toUInt32 >>> ((8 : Int32) &&& 31).toUInt32).toInt32))] := by rw [own_cs, if_neg c0, if_neg c1, if_pos c2]
        rw [e]; exact rs2 l Z a0 hw ws hEL p1 G1 G3 h0 n0 Z0 O2 P5 O4 rG3 O0 c0 c1 c2
      · have e : own_cs p1 = [(own_k p1), (own_k ((p1.toUInt32 >>> ((8 : Int32) &&& 31).toUInt32).toInt32)), (own_k ((p1.toUInt32 >>> ((16 : Int32) &&& 31).toUInt32).toInt32))] := by rw [own_cs, if_neg c0, if_neg c1, if_neg c2]
        rw [e]; exact rs3 l Z a0 hw ws hEL p1 G1 G3 h0 n0 Z0 O2 P5 O4 rG3 O0 c0 c1 c2
theorem own_add1 (n : Nat) : Int32.ofNat n + (1 : Int32) = Int32.ofNat (n + 1) := own_addN n 1
theorem own_subN {i r : Nat} (hi : i ≤ 4000) (h : r + 2 ≤ i) : Int32.ofNat i - Int32.ofNat r - (2 : Int32) = Int32.ofNat (i - r - 2) := by
  apply Int32.toInt_inj.mp
  have e2 : (2 : Int32).toInt = 2 := rfl
  rw [Int32.toInt_sub, Int32.toInt_sub, own_toNat (by omega), own_toNat (by omega), own_toNat (by omega), e2]
  have q1 : Int.bmod ((i : Int) - r) (2 ^ 32) = (i : Int) - r := Int.bmod_eq_of_le_mul_two (by omega) (by omega)
  rw [q1, Int.bmod_eq_of_le_mul_two (by omega) (by omega)]; omega
theorem own_d_method_4_code_0 : decode method_4_code 0 = .ok (.aload_n 0, 1) := by decide +kernel
theorem own_d_method_4_code_1 : decode method_4_code 1 = .ok (.invokevirtual 22, 3) := by decide +kernel
theorem own_d_method_4_code_4 : decode method_4_code 4 = .ok (.istore_n 3, 1) := by decide +kernel
theorem own_d_method_4_code_5 : decode method_4_code 5 = .ok (.iload_n 2, 1) := by decide +kernel
theorem own_d_method_4_code_6 : decode method_4_code 6 = .ok (.iload_n 3, 1) := by decide +kernel
theorem own_d_method_4_code_7 : decode method_4_code 7 = .ok (.if_icmp .ge 9, 3) := by decide +kernel
theorem own_d_method_4_code_10 : decode method_4_code 10 = .ok (.aload_n 0, 1) := by decide +kernel
theorem own_d_method_4_code_11 : decode method_4_code 11 = .ok (.iload_n 2, 1) := by decide +kernel
theorem own_d_method_4_code_12 : decode method_4_code 12 = .ok (.invokevirtual 35, 3) := by decide +kernel
theorem own_d_method_4_code_15 : decode method_4_code 15 = .ok (.ireturn, 1) := by decide +kernel
theorem own_pd__I_C : parseMethodDescriptor "(I)C" = some ⟨[.int], some .char⟩ := by decide +kernel
theorem own_ef_method_4_code_xxx (m : MethodId) (x0 : Addr) (x1 : Addr) (x2 : Int32) : entryFrame m #[(.ref x0), (.ref x1), (.int x2)] 4 = mkF m 0 #[.val (.ref x0), .val (.ref x1), .val (.int x2), .unset] [] := by first | (simp [entryFrame, mkF, argsToLocals, Value.category]; done) | rfl
set_option maxRecDepth 65536 in
set_option maxHeartbeats 40000000 in
theorem rx0 (l : Launch) (Z : State) (a0 : Array Value) (hw : ∀ d ∈ tables_1, d.before a0 Z = true) (ws : List Jvm.Cond) (a1 a2 : Addr) (i : Nat) (rs ps : List Int32) (G1 : Int32) (G3 : Value) (h0 : Heap) (n0 : Nat) (Z0 : n0 ≤ h0.size) (O2 : Sta Z Z.heap "java/lang/String" "COMPACT_STRINGS" "Z" (.int G1)) (P5 : ¬ (G1 = (0 : Int32))) (O4 : Sta Z Z.heap "jdk/internal/util/Preconditions" "SIOOBE_FORMATTER" "Ljava/util/function/BiFunction;" G3) (rG3 : G3.isRef = true) (O0 : Old Z n0 h0) (S_a1 : StrV Z h0 a1 rs) (S_a2 : StrV Z h0 a2 ps) (hr3 : rs.length ≤ 3) (hp3 : ps.length ≤ 3) (hi8 : i ≤ 8) (h0x : i < rs.length) :
    MetFree l (⟨"com/example/treeward/treeward/engine/FindingToStringPinLaw", "expected", "(Ljava/lang/String;Ljava/lang/String;I)C"⟩ : MethodName) (head1 (Jvm.Cond.code (⟨"com/example/treeward/treeward/engine/FindingToStringPinLaw", "expected", "(Ljava/lang/String;Ljava/lang/String;I)C"⟩ : MethodName) method_4_code 4 (some .char) :: ws) ({ frames := 4, cells := 0, slots := 0, locals := 53 } : Room)) (fun a U => a = #[(.ref a1), (.ref a2), (.int (Int32.ofNat i))] ∧ Z.Warmed39 U.vm ∧ U.heap = h0) (fun _ _ _ _ _ => True) (fun _ U o U' => ∃ v L, o = .returned v ∧ QB (nar .char (rs.getD i 0)) h0 n0 v U'.heap L ∧ FrameEnd U o U' L 0 0) := by
  refine MetFree.of_bodySF (plainFor_of_name own_pn_com_example_treeward_treeward_engine_FindingToStringPinLaw) hisR ?_
  intro p e s m args below meth c s₁ Bd hml0 hP hK
  obtain ⟨rfl, hZ, hh⟩ := hP
  have hx := Bd.exec
  have hby := Bd.bytes
  have hml : c.maxLocals = 4 := hml0
  have hown : s.vm.findClass "com/example/treeward/treeward/engine/FindingToStringPinLaw" = some m.cls := findClass_of_methodNamed Bd.named
  have hnm := (name_of_methodNamed Bd.named Bd.method).1
  have X0 : Stand p l e ({ frames := 4, cells := 0, slots := 0, locals := 53 } : Room) s m #[(.ref a1), (.ref a2), (.int (Int32.ofNat i))] below meth c s₁ [] 0 0 := Stand.of_body Bd
  have e0 : s₁.heap = h0 := by rw [← hh, Bd.state]; rfl
  have N0 := Fr.nil n0
  have pre0 : ∀ t, Steps p.tables e below (s₁.setTop (mkF m 0 #[.val (.ref a1), .val (.ref a2), .val (.int (Int32.ofNat i)), .unset] [])) t → Steps p.tables e below (s₁.setTop (entryFrame m #[(.ref a1), (.ref a2), (.int (Int32.ofNat i))] 4)) t := fun t k => castTop (own_ef_method_4_code_xxx m a1 a2 (Int32.ofNat i)) k
  obtain ⟨sb2, sk2, sN2, sv2, sE2, sV2, sC2, sA2, sc2, su2⟩ := id S_a1
  obtain ⟨cq1, kq1, q1a, q1b, q1c⟩ := isOf hZ e0 S_a1.exa
  obtain ⟨_, _, ⟨T1, L1, k1, n1⟩, -, X1, ⟨Lc1, hQ1, l1, y1, z1⟩, st1⟩ := X0.virtualBack hx (y := (⟨"java/lang/String", "length", "()I"⟩ : MethodName)) (z := (⟨"java/lang/String", "length", "()I"⟩ : MethodName)) hown (mvT hZ (hw _ (List.mem_of_getElem? (i := 154) rfl))) (mvT hZ (hw _ (List.mem_of_getElem? (i := 71) rfl))) (notFace_of_selects (args := #[]) (mvT hZ (hw _ (List.mem_of_getElem? (i := 73) rfl)))) (mvT hZ (hw _ (List.mem_of_getElem? (i := 73) rfl))) (mvT hZ (hw _ (List.mem_of_getElem? (i := 72) rfl))) (by decide) (StrChars.Road.lenW (W := 0) hZ (own_hlen hw) (kI := 4) (hw _ (List.mem_of_getElem? (i := 5) rfl)) sE2 sV2 sC2 sA2 sc2 su2 (O2.ext O0.2) P5 (by omega) (by decide) (by decide)) q1a q1c (g := (mkF m 1 #[.val (.ref a1), .val (.ref a2), .val (.int (Int32.ofNat i)), .unset] [(.ref a1)])) rfl (by rw [hml]; rfl) (Steps.refl _) (argsL := []) (rest := []) (lenOf own_pd___I rfl) rfl (by show 2 * 0 + _ ≤ _; exact Nat.le_of_eq rfl) (hb hby own_d_method_4_code_1) (fun _ _ => ⟨rfl, e0, (by decide : 0 + 0 ≤ _), (by decide : 0 + 0 ≤ _)⟩)
  dsimp only [Pt.U, Pt.locs, Pt.cells, Pt.slots] at X1 l1 y1 z1 st1 hQ1
  subst l1 y1 z1
  obtain ⟨rfl, rfl, e1q⟩ := hQ1
  have N1a := Fr.app N0 (Fr.nil n0)
  obtain ⟨sb4, sk4, sN4, sv4, sE4, sV4, sC4, sA4, sc4, su4⟩ := id S_a1
  obtain ⟨cq3, kq3, q3a, q3b, q3c⟩ := isOf hZ e1q S_a1.exa
  obtain ⟨_, _, ⟨T3, L3, k3, n3⟩, -, X3, ⟨Lc3, hQ3, l3, y3, z3⟩, st3⟩ := X1.virtualBack hx (y := (⟨"java/lang/String", "charAt", "(I)C"⟩ : MethodName)) (z := (⟨"java/lang/String", "charAt", "(I)C"⟩ : MethodName)) hown (mvT hZ (hw _ (List.mem_of_getElem? (i := 158) rfl))) (mvT hZ (hw _ (List.mem_of_getElem? (i := 159) rfl))) (notFace_of_selects (args := #[]) (mvT hZ (hw _ (List.mem_of_getElem? (i := 161) rfl)))) (mvT hZ (hw _ (List.mem_of_getElem? (i := 161) rfl))) (mvT hZ (hw _ (List.mem_of_getElem? (i := 160) rfl))) (by decide) (StrChars.Road.chN (W := 0) hZ (own_hch hw) (kI := 4) (hw _ (List.mem_of_getElem? (i := 5) rfl)) sE4 sV4 sC4 sA4 sc4 su4 (O2.ext O0.2) P5 (O4.ext O0.2) rG3 (by omega) (i := i) h0x (j := (Int32.ofNat i)) rfl (by decide) (by decide)) q3a q3c (g := (mkF m 12 #[.val (.ref a1), .val (.ref a2), .val (.int (Int32.ofNat i)), .val (.int (Int32.ofNat rs.length))] [(.int (Int32.ofNat i)), (.ref a1)])) rfl (by rw [hml]; rfl) (Steps.refl _) (argsL := [(.int (Int32.ofNat i))]) (rest := []) (lenOf own_pd__I_C rfl) rfl (by show 2 * 0 + _ ≤ _; exact Nat.le_of_eq rfl) (hb hby own_d_method_4_code_12) (fun _ _ => ⟨rfl, e1q, (by decide : 0 + 0 ≤ _), (by decide : 0 + 0 ≤ _)⟩)
  dsimp only [Pt.U, Pt.locs, Pt.cells, Pt.slots] at X3 l3 y3 z3 st3 hQ3
  subst l3 y3 z3
  obtain ⟨rfl, rfl, e3q⟩ := hQ3
  have N3a := Fr.app N1a (Fr.nil n0)
  obtain ⟨fs, hr, hrun, hended, hW, hsame⟩ := X3.leave (v := some (.int (nar .char (rs.getD i 0)))) (fun h => by rw [Bd.returns] at h; cases h)
  refine ⟨_, _, pre0 _ ?_, hrun, hended, _, _, rfl, ?_, ⟨_, rfl⟩, hW, hsame.mono (by decide) (by decide)⟩
  · show Steps p.tables e below (s₁.setTop (mkF m 0 #[.val (.ref a1), .val (.ref a2), .val (.int (Int32.ofNat i)), .unset] [])) _
    refine XS.aloadN X0.here hx rfl (hb hby own_d_method_4_code_0) rfl rfl ?_
    show Steps p.tables e below (s₁.setTop (mkF m 1 #[.val (.ref a1), .val (.ref a2), .val (.int (Int32.ofNat i)), .unset] [(.ref a1)])) _
    refine st1.trans ?_
    refine XS.istoreN X1.here hx rfl (hb hby own_d_method_4_code_4) rfl (l' := #[.val (.ref a1), .val (.ref a2), .val (.int (Int32.ofNat i)), .val (.int (Int32.ofNat rs.length))]) rfl ?_
    refine XS.iloadN X1.here hx rfl (hb hby own_d_method_4_code_5) rfl ?_
    show Steps p.tables e below (T1.setTop (mkF m 6 #[.val (.ref a1), .val (.ref a2), .val (.int (Int32.ofNat i)), .val (.int (Int32.ofNat rs.length))] [(.int (Int32.ofNat i))])) _
    refine XS.iloadN X1.here hx rfl (hb hby own_d_method_4_code_6) rfl ?_
    show Steps p.tables e below (T1.setTop (mkF m 7 #[.val (.ref a1), .val (.ref a2), .val (.int (Int32.ofNat i)), .val (.int (Int32.ofNat rs.length))] [(.int (Int32.ofNat rs.length)), (.int (Int32.ofNat i))])) _
    refine XS.icmpNo X1.here hx rfl (hb hby own_d_method_4_code_7) rfl (tlt ((own_lt_of (by omega) (by omega)).mpr h0x : (Int32.ofNat i) < (Int32.ofNat rs.length))).2.1 ?_
    refine XS.aloadN X1.here hx rfl (hb hby own_d_method_4_code_10) rfl rfl ?_
    refine XS.iloadN X1.here hx rfl (hb hby own_d_method_4_code_11) rfl ?_
    show Steps p.tables e below (T1.setTop (mkF m 12 #[.val (.ref a1), .val (.ref a2), .val (.int (Int32.ofNat i)), .val (.int (Int32.ofNat rs.length))] [(.int (Int32.ofNat i)), (.ref a1)])) _
    refine st3.trans ?_
    show Steps p.tables e below (T3.setTop (mkF m 15 #[.val (.ref a1), .val (.ref a2), .val (.int (Int32.ofNat i)), .val (.int (Int32.ofNat rs.length))] [(.int (rs.getD i 0))])) _
    exact retN X3 hx (t := .char) Bd.returns (by simp) (hb hby own_d_method_4_code_15) hr
  · show QB (nar .char (rs.getD i 0)) h0 n0 _ T3.heap _
    rw [e3q]
    exact ⟨rfl, N3a, rfl⟩
theorem own_d_method_4_code_16 : decode method_4_code 16 = .ok (.iload_n 2, 1) := by decide +kernel
theorem own_d_method_4_code_17 : decode method_4_code 17 = .ok (.iload_n 3, 1) := by decide +kernel
theorem own_d_method_4_code_18 : decode method_4_code 18 = .ok (.if_icmp .ne 6, 3) := by decide +kernel
theorem own_d_method_4_code_21 : decode method_4_code 21 = .ok (.bipush 58, 2) := by decide +kernel
theorem own_d_method_4_code_23 : decode method_4_code 23 = .ok (.ireturn, 1) := by decide +kernel
set_option maxRecDepth 65536 in
set_option maxHeartbeats 40000000 in
theorem rx1 (l : Launch) (Z : State) (a0 : Array Value) (hw : ∀ d ∈ tables_1, d.before a0 Z = true) (ws : List Jvm.Cond) (a1 a2 : Addr) (i : Nat) (rs ps : List Int32) (G1 : Int32) (G3 : Value) (h0 : Heap) (n0 : Nat) (Z0 : n0 ≤ h0.size) (O2 : Sta Z Z.heap "java/lang/String" "COMPACT_STRINGS" "Z" (.int G1)) (P5 : ¬ (G1 = (0 : Int32))) (O4 : Sta Z Z.heap "jdk/internal/util/Preconditions" "SIOOBE_FORMATTER" "Ljava/util/function/BiFunction;" G3) (rG3 : G3.isRef = true) (O0 : Old Z n0 h0) (S_a1 : StrV Z h0 a1 rs) (S_a2 : StrV Z h0 a2 ps) (hr3 : rs.length ≤ 3) (hp3 : ps.length ≤ 3) (hi8 : i ≤ 8) (h0x : ¬ i < rs.length) (h1x : i = rs.length) :
    MetFree l (⟨"com/example/treeward/treeward/engine/FindingToStringPinLaw", "expected", "(Ljava/lang/String;Ljava/lang/String;I)C"⟩ : MethodName) (head1 (Jvm.Cond.code (⟨"com/example/treeward/treeward/engine/FindingToStringPinLaw", "expected", "(Ljava/lang/String;Ljava/lang/String;I)C"⟩ : MethodName) method_4_code 4 (some .char) :: ws) ({ frames := 4, cells := 0, slots := 0, locals := 53 } : Room)) (fun a U => a = #[(.ref a1), (.ref a2), (.int (Int32.ofNat i))] ∧ Z.Warmed39 U.vm ∧ U.heap = h0) (fun _ _ _ _ _ => True) (fun _ U o U' => ∃ v L, o = .returned v ∧ QB 58 h0 n0 v U'.heap L ∧ FrameEnd U o U' L 0 0) := by
  refine MetFree.of_bodySF (plainFor_of_name own_pn_com_example_treeward_treeward_engine_FindingToStringPinLaw) hisR ?_
  intro p e s m args below meth c s₁ Bd hml0 hP hK
  obtain ⟨rfl, hZ, hh⟩ := hP
  have hx := Bd.exec
  have hby := Bd.bytes
  have hml : c.maxLocals = 4 := hml0
  have hown : s.vm.findClass "com/example/treeward/treeward/engine/FindingToStringPinLaw" = some m.cls := findClass_of_methodNamed Bd.named
  have hnm := (name_of_methodNamed Bd.named Bd.method).1
  have X0 : Stand p l e ({ frames := 4, cells := 0, slots := 0, locals := 53 } : Room) s m #[(.ref a1), (.ref a2), (.int (Int32.ofNat i))] below meth c s₁ [] 0 0 := Stand.of_body Bd
  have e0 : s₁.heap = h0 := by rw [← hh, Bd.state]; rfl
  have N0 := Fr.nil n0
  have pre0 : ∀ t, Steps p.tables e below (s₁.setTop (mkF m 0 #[.val (.ref a1), .val (.ref a2), .val (.int (Int32.ofNat i)), .unset] [])) t → Steps p.tables e below (s₁.setTop (entryFrame m #[(.ref a1), (.ref a2), (.int (Int32.ofNat i))] 4)) t := fun t k => castTop (own_ef_method_4_code_xxx m a1 a2 (Int32.ofNat i)) k
  obtain ⟨sb2, sk2, sN2, sv2, sE2, sV2, sC2, sA2, sc2, su2⟩ := id S_a1
  obtain ⟨cq1, kq1, q1a, q1b, q1c⟩ := isOf hZ e0 S_a1.exa
  obtain ⟨_, _, ⟨T1, L1, k1, n1⟩, -, X1, ⟨Lc1, hQ1, l1, y1, z1⟩, st1⟩ := X0.virtualBack hx (y := (⟨"java/lang/String", "length", "()I"⟩ : MethodName)) (z := (⟨"java/lang/String", "length", "()I"⟩ : MethodName)) hown (mvT hZ (hw _ (List.mem_of_getElem? (i := 154) rfl))) (mvT hZ (hw _ (List.mem_of_getElem? (i := 71) rfl))) (notFace_of_selects (args := #[]) (mvT hZ (hw _ (List.mem_of_getElem? (i := 73) rfl)))) (mvT hZ (hw _ (List.mem_of_getElem? (i := 73) rfl))) (mvT hZ (hw _ (List.mem_of_getElem? (i := 72) rfl))) (by decide) (StrChars.Road.lenW (W := 0) hZ (own_hlen hw) (kI := 4) (hw _ (List.mem_of_getElem? (i := 5) rfl)) sE2 sV2 sC2 sA2 sc2 su2 (O2.ext O0.2) P5 (by omega) (by decide) (by decide)) q1a q1c (g := (mkF m 1 #[.val (.ref a1), .val (.ref a2), .val (.int (Int32.ofNat i)), .unset] [(.ref a1)])) rfl (by rw [hml]; rfl) (Steps.refl _) (argsL := []) (rest := []) (lenOf own_pd___I rfl) rfl (by show 2 * 0 + _ ≤ _; exact Nat.le_of_eq rfl) (hb hby own_d_method_4_code_1) (fun _ _ => ⟨rfl, e0, (by decide : 0 + 0 ≤ _), (by decide : 0 + 0 ≤ _)⟩)
  dsimp only [Pt.U, Pt.locs, Pt.cells, Pt.slots] at X1 l1 y1 z1 st1 hQ1
  subst l1 y1 z1
  obtain ⟨rfl, rfl, e1q⟩ := hQ1
  have N1a := Fr.app N0 (Fr.nil n0)
  obtain ⟨fs, hr, hrun, hended, hW, hsame⟩ := X1.leave (v := some (.int (58 : Int32))) (fun h => by rw [Bd.returns] at h; cases h)
  refine ⟨_, _, pre0 _ ?_, hrun, hended, _, _, rfl, ?_, ⟨_, rfl⟩, hW, hsame.mono (by decide) (by decide)⟩
  · show Steps p.tables e below (s₁.setTop (mkF m 0 #[.val (.ref a1), .val (.ref a2), .val (.int (Int32.ofNat i)), .unset] [])) _
    refine XS.aloadN X0.here hx rfl (hb hby own_d_method_4_code_0) rfl rfl ?_
    show Steps p.tables e below (s₁.setTop (mkF m 1 #[.val (.ref a1), .val (.ref a2), .val (.int (Int32.ofNat i)), .unset] [(.ref a1)])) _
    refine st1.trans ?_
    refine XS.istoreN X1.here hx rfl (hb hby own_d_method_4_code_4) rfl (l' := #[.val (.ref a1), .val (.ref a2), .val (.int (Int32.ofNat i)), .val (.int (Int32.ofNat rs.length))]) rfl ?_
    refine XS.iloadN X1.here hx rfl (hb hby own_d_method_4_code_5) rfl ?_
    show Steps p.tables e below (T1.setTop (mkF m 6 #[.val (.ref a1), .val (.ref a2), .val (.int (Int32.ofNat i)), .val (.int (Int32.ofNat rs.length))] [(.int (Int32.ofNat i))])) _
    refine XS.iloadN X1.here hx rfl (hb hby own_d_method_4_code_6) rfl ?_
    show Steps p.tables e below (T1.setTop (mkF m 7 #[.val (.ref a1), .val (.ref a2), .val (.int (Int32.ofNat i)), .val (.int (Int32.ofNat rs.length))] [(.int (Int32.ofNat rs.length)), (.int (Int32.ofNat i))])) _
    refine XS.icmpYes X1.here hx rfl (pc0 := 7) (pc' := 16) rfl (hb hby own_d_method_4_code_7) rfl (flt ((fun q => h0x ((own_lt_of (by omega) (by omega)).mp q)) : ¬ ((Int32.ofNat i) < (Int32.ofNat rs.length)))).2.1 (by decide) (by decide) ?_
    refine XS.iloadN X1.here hx rfl (hb hby own_d_method_4_code_16) rfl ?_
    refine XS.iloadN X1.here hx rfl (hb hby own_d_method_4_code_17) rfl ?_
    show Steps p.tables e below (T1.setTop (mkF m 18 #[.val (.ref a1), .val (.ref a2), .val (.int (Int32.ofNat i)), .val (.int (Int32.ofNat rs.length))] [(.int (Int32.ofNat rs.length)), (.int (Int32.ofNat i))])) _
    refine XS.icmpNo X1.here hx rfl (hb hby own_d_method_4_code_18) rfl (teq ((own_eq_of (by omega) (by omega)).mpr h1x : (Int32.ofNat i) = (Int32.ofNat rs.length))).2 ?_
    refine XS.bipush X1.here hx rfl (hb hby own_d_method_4_code_21) ?_
    show Steps p.tables e below (T1.setTop (mkF m 23 #[.val (.ref a1), .val (.ref a2), .val (.int (Int32.ofNat i)), .val (.int (Int32.ofNat rs.length))] [(.int (58 : Int32))])) _
    exact retN X1 hx (t := .char) Bd.returns (by simp) (hb hby own_d_method_4_code_23) hr
  · show QB 58 h0 n0 _ T1.heap _
    rw [e1q]
    exact ⟨rfl, N1a, rfl⟩
theorem own_d_method_4_code_24 : decode method_4_code 24 = .ok (.iload_n 2, 1) := by decide +kernel
theorem own_d_method_4_code_25 : decode method_4_code 25 = .ok (.iload_n 3, 1) := by decide +kernel
theorem own_d_method_4_code_26 : decode method_4_code 26 = .ok (.iconst 1, 1) := by decide +kernel
theorem own_d_method_4_code_27 : decode method_4_code 27 = .ok (.iadd, 1) := by decide +kernel
theorem own_d_method_4_code_28 : decode method_4_code 28 = .ok (.if_icmp .ne 6, 3) := by decide +kernel
theorem own_d_method_4_code_31 : decode method_4_code 31 = .ok (.bipush 32, 2) := by decide +kernel
theorem own_d_method_4_code_33 : decode method_4_code 33 = .ok (.ireturn, 1) := by decide +kernel
set_option maxRecDepth 65536 in
set_option maxHeartbeats 40000000 in
theorem rx2 (l : Launch) (Z : State) (a0 : Array Value) (hw : ∀ d ∈ tables_1, d.before a0 Z = true) (ws : List Jvm.Cond) (a1 a2 : Addr) (i : Nat) (rs ps : List Int32) (G1 : Int32) (G3 : Value) (h0 : Heap) (n0 : Nat) (Z0 : n0 ≤ h0.size) (O2 : Sta Z Z.heap "java/lang/String" "COMPACT_STRINGS" "Z" (.int G1)) (P5 : ¬ (G1 = (0 : Int32))) (O4 : Sta Z Z.heap "jdk/internal/util/Preconditions" "SIOOBE_FORMATTER" "Ljava/util/function/BiFunction;" G3) (rG3 : G3.isRef = true) (O0 : Old Z n0 h0) (S_a1 : StrV Z h0 a1 rs) (S_a2 : StrV Z h0 a2 ps) (hr3 : rs.length ≤ 3) (hp3 : ps.length ≤ 3) (hi8 : i ≤ 8) (h0x : ¬ i < rs.length) (h1x : ¬ i = rs.length) (h2x : i = rs.length + 1) :
    MetFree l (⟨"com/example/treeward/treeward/engine/FindingToStringPinLaw", "expected", "(Ljava/lang/String;Ljava/lang/String;I)C"⟩ : MethodName) (head1 (Jvm.Cond.code (⟨"com/example/treeward/treeward/engine/FindingToStringPinLaw", "expected", "(Ljava/lang/String;Ljava/lang/String;I)C"⟩ : MethodName) method_4_code 4 (some .char) :: ws) ({ frames := 4, cells := 0, slots := 0, locals := 53 } : Room)) (fun a U => a = #[(.ref a1), (.ref a2), (.int (Int32.ofNat i))] ∧ Z.Warmed39 U.vm ∧ U.heap = h0) (fun _ _ _ _ _ => True) (fun _ U o U' => ∃ v L, o = .returned v ∧ QB 32 h0 n0 v U'.heap L ∧ FrameEnd U o U' L 0 0) := by
  refine MetFree.of_bodySF (plainFor_of_name own_pn_com_example_treeward_treeward_engine_FindingToStringPinLaw) hisR ?_
  intro p e s m args below meth c s₁ Bd hml0 hP hK
  obtain ⟨rfl, hZ, hh⟩ := hP
  have hx := Bd.exec
  have hby := Bd.bytes
  have hml : c.maxLocals = 4 := hml0
  have hown : s.vm.findClass "com/example/treeward/treeward/engine/FindingToStringPinLaw" = some m.cls := findClass_of_methodNamed Bd.named
  have hnm := (name_of_methodNamed Bd.named Bd.method).1
  have X0 : Stand p l e ({ frames := 4, cells := 0, slots := 0, locals := 53 } : Room) s m #[(.ref a1), (.ref a2), (.int (Int32.ofNat i))] below meth c s₁ [] 0 0 := Stand.of_body Bd
  have e0 : s₁.heap = h0 := by rw [← hh, Bd.state]; rfl
  have N0 := Fr.nil n0
  have pre0 : ∀ t, Steps p.tables e below (s₁.setTop (mkF m 0 #[.val (.ref a1), .val (.ref a2), .val (.int (Int32.ofNat i)), .unset] [])) t → Steps p.tables e below (s₁.setTop (entryFrame m #[(.ref a1), (.ref a2), (.int (Int32.ofNat i))] 4)) t := fun t k => castTop (own_ef_method_4_code_xxx m a1 a2 (Int32.ofNat i)) k
  obtain ⟨sb2, sk2, sN2, sv2, sE2, sV2, sC2, sA2, sc2, su2⟩ := id S_a1
  obtain ⟨cq1, kq1, q1a, q1b, q1c⟩ := isOf hZ e0 S_a1.exa
  obtain ⟨_, _, ⟨T1, L1, k1, n1⟩, -, X1, ⟨Lc1, hQ1, l1, y1, z1⟩, st1⟩ := X0.virtualBack hx (y := (⟨"java/lang/String", "length", "()I"⟩ : MethodName)) (z := (⟨"java/lang/String", "length", "()I"⟩ : MethodName)) hown (mvT hZ (hw _ (List.mem_of_getElem? (i := 154) rfl))) (mvT hZ (hw _ (List.mem_of_getElem? (i := 71) rfl))) (notFace_of_selects (args := #[]) (mvT hZ (hw _ (List.mem_of_getElem? (i := 73) rfl)))) (mvT hZ (hw _ (List.mem_of_getElem? (i := 73) rfl))) (mvT hZ (hw _ (List.mem_of_getElem? (i := 72) rfl))) (by decide) (StrChars.Road.lenW (W := 0) hZ (own_hlen hw) (kI := 4) (hw _ (List.mem_of_getElem? (i := 5) rfl)) sE2 sV2 sC2 sA2 sc2 su2 (O2.ext O0.2) P5 (by omega) (by decide) (by decide)) q1a q1c (g := (mkF m 1 #[.val (.ref a1), .val (.ref a2), .val (.int (Int32.ofNat i)), .unset] [(.ref a1)])) rfl (by rw [hml]; rfl) (Steps.refl _) (argsL := []) (rest := []) (lenOf own_pd___I rfl) rfl (by show 2 * 0 + _ ≤ _; exact Nat.le_of_eq rfl) (hb hby own_d_method_4_code_1) (fun _ _ => ⟨rfl, e0, (by decide : 0 + 0 ≤ _), (by decide : 0 + 0 ≤ _)⟩)
  dsimp only [Pt.U, Pt.locs, Pt.cells, Pt.slots] at X1 l1 y1 z1 st1 hQ1
  subst l1 y1 z1
  obtain ⟨rfl, rfl, e1q⟩ := hQ1
  have N1a := Fr.app N0 (Fr.nil n0)
  obtain ⟨fs, hr, hrun, hended, hW, hsame⟩ := X1.leave (v := some (.int (32 : Int32))) (fun h => by rw [Bd.returns] at h; cases h)
  refine ⟨_, _, pre0 _ ?_, hrun, hended, _, _, rfl, ?_, ⟨_, rfl⟩, hW, hsame.mono (by decide) (by decide)⟩
  · show Steps p.tables e below (s₁.setTop (mkF m 0 #[.val (.ref a1), .val (.ref a2), .val (.int (Int32.ofNat i)), .unset] [])) _
    refine XS.aloadN X0.here hx rfl (hb hby own_d_method_4_code_0) rfl rfl ?_
    show Steps p.tables e below (s₁.setTop (mkF m 1 #[.val (.ref a1), .val (.ref a2), .val (.int (Int32.ofNat i)), .unset] [(.ref a1)])) _
    refine st1.trans ?_
    refine XS.istoreN X1.here hx rfl (hb hby own_d_method_4_code_4) rfl (l' := #[.val (.ref a1), .val (.ref a2), .val (.int (Int32.ofNat i)), .val (.int (Int32.ofNat rs.length))]) rfl ?_
    refine XS.iloadN X1.here hx rfl (hb hby own_d_method_4_code_5) rfl ?_
    show Steps p.tables e below (T1.setTop (mkF m 6 #[.val (.ref a1), .val (.ref a2), .val (.int (Int32.ofNat i)), .val (.int (Int32.ofNat rs.length))] [(.int (Int32.ofNat i))])) _
    refine XS.iloadN X1.here hx rfl (hb hby own_d_method_4_code_6) rfl ?_
    show Steps p.tables e below (T1.setTop (mkF m 7 #[.val (.ref a1), .val (.ref a2), .val (.int (Int32.ofNat i)), .val (.int (Int32.ofNat rs.length))] [(.int (Int32.ofNat rs.length)), (.int (Int32.ofNat i))])) _
    refine XS.icmpYes X1.here hx rfl (pc0 := 7) (pc' := 16) rfl (hb hby own_d_method_4_code_7) rfl (flt ((fun q => h0x ((own_lt_of (by omega) (by omega)).mp q)) : ¬ ((Int32.ofNat i) < (Int32.ofNat rs.length)))).2.1 (by decide) (by decide) ?_
    refine XS.iloadN X1.here hx rfl (hb hby own_d_method_4_code_16) rfl ?_
    refine XS.iloadN X1.here hx rfl (hb hby own_d_method_4_code_17) rfl ?_
    show Steps p.tables e below (T1.setTop (mkF m 18 #[.val (.ref a1), .val (.ref a2), .val (.int (Int32.ofNat i)), .val (.int (Int32.ofNat rs.length))] [(.int (Int32.ofNat rs.length)), (.int (Int32.ofNat i))])) _
    refine XS.icmpYes X1.here hx rfl (pc0 := 18) (pc' := 24) rfl (hb hby own_d_method_4_code_18) rfl (feq ((fun q => h1x ((own_eq_of (by omega) (by omega)).mp q)) : ¬ ((Int32.ofNat i) = (Int32.ofNat rs.length)))).2 (by decide) (by decide) ?_
    refine XS.iloadN X1.here hx rfl (hb hby own_d_method_4_code_24) rfl ?_
    refine XS.iloadN X1.here hx rfl (hb hby own_d_method_4_code_25) rfl ?_
    show Steps p.tables e below (T1.setTop (mkF m 26 #[.val (.ref a1), .val (.ref a2), .val (.int (Int32.ofNat i)), .val (.int (Int32.ofNat rs.length))] [(.int (Int32.ofNat rs.length)), (.int (Int32.ofNat i))])) _
    refine XS.iconst X1.here hx rfl (hb hby own_d_method_4_code_26) ?_
    refine XS.iadd X1.here hx rfl (hb hby own_d_method_4_code_27) rfl ?_
    show Steps p.tables e below (T1.setTop (mkF m 28 #[.val (.ref a1), .val (.ref a2), .val (.int (Int32.ofNat i)), .val (.int (Int32.ofNat rs.length))] [(.int ((Int32.ofNat rs.length) + (1 : Int32))), (.int (Int32.ofNat i))])) _
    rw [own_add1]
    show Steps p.tables e below (T1.setTop (mkF m 28 #[.val (.ref a1), .val (.ref a2), .val (.int (Int32.ofNat i)), .val (.int (Int32.ofNat rs.length))] [(.int (Int32.ofNat (rs.length + 1))), (.int (Int32.ofNat i))])) _
    refine XS.icmpNo X1.here hx rfl (hb hby own_d_method_4_code_28) rfl (teq ((own_eq_of (by omega) (by omega)).mpr h2x : (Int32.ofNat i) = (Int32.ofNat (rs.length + 1)))).2 ?_
    refine XS.bipush X1.here hx rfl (hb hby own_d_method_4_code_31) ?_
    show Steps p.tables e below (T1.setTop (mkF m 33 #[.val (.ref a1), .val (.ref a2), .val (.int (Int32.ofNat i)), .val (.int (Int32.ofNat rs.length))] [(.int (32 : Int32))])) _
    exact retN X1 hx (t := .char) Bd.returns (by simp) (hb hby own_d_method_4_code_33) hr
  · show QB 32 h0 n0 _ T1.heap _
    rw [e1q]
    exact ⟨rfl, N1a, rfl⟩
theorem own_d_method_4_code_34 : decode method_4_code 34 = .ok (.aload_n 1, 1) := by decide +kernel
theorem own_d_method_4_code_35 : decode method_4_code 35 = .ok (.iload_n 2, 1) := by decide +kernel
theorem own_d_method_4_code_36 : decode method_4_code 36 = .ok (.iload_n 3, 1) := by decide +kernel
theorem own_d_method_4_code_37 : decode method_4_code 37 = .ok (.isub, 1) := by decide +kernel
theorem own_d_method_4_code_38 : decode method_4_code 38 = .ok (.iconst 2, 1) := by decide +kernel
theorem own_d_method_4_code_39 : decode method_4_code 39 = .ok (.isub, 1) := by decide +kernel
theorem own_d_method_4_code_40 : decode method_4_code 40 = .ok (.invokevirtual 35, 3) := by decide +kernel
theorem own_d_method_4_code_43 : decode method_4_code 43 = .ok (.ireturn, 1) := by decide +kernel
set_option maxRecDepth 65536 in
set_option maxHeartbeats 40000000 in
theorem rx3 (l : Launch) (Z : State) (a0 : Array Value) (hw : ∀ d ∈ tables_1, d.before a0 Z = true) (ws : List Jvm.Cond) (a1 a2 : Addr) (i : Nat) (rs ps : List Int32) (G1 : Int32) (G3 : Value) (h0 : Heap) (n0 : Nat) (Z0 : n0 ≤ h0.size) (O2 : Sta Z Z.heap "java/lang/String" "COMPACT_STRINGS" "Z" (.int G1)) (P5 : ¬ (G1 = (0 : Int32))) (O4 : Sta Z Z.heap "jdk/internal/util/Preconditions" "SIOOBE_FORMATTER" "Ljava/util/function/BiFunction;" G3) (rG3 : G3.isRef = true) (O0 : Old Z n0 h0) (S_a1 : StrV Z h0 a1 rs) (S_a2 : StrV Z h0 a2 ps) (hr3 : rs.length ≤ 3) (hp3 : ps.length ≤ 3) (hi8 : i ≤ 8) (h0x : ¬ i < rs.length) (h1x : ¬ i = rs.length) (h2x : ¬ i = rs.length + 1) (h3x : i < rs.length + 2 + ps.length) :
    MetFree l (⟨"com/example/treeward/treeward/engine/FindingToStringPinLaw", "expected", "(Ljava/lang/String;Ljava/lang/String;I)C"⟩ : MethodName) (head1 (Jvm.Cond.code (⟨"com/example/treeward/treeward/engine/FindingToStringPinLaw", "expected", "(Ljava/lang/String;Ljava/lang/String;I)C"⟩ : MethodName) method_4_code 4 (some .char) :: ws) ({ frames := 4, cells := 0, slots := 0, locals := 53 } : Room)) (fun a U => a = #[(.ref a1), (.ref a2), (.int (Int32.ofNat i))] ∧ Z.Warmed39 U.vm ∧ U.heap = h0) (fun _ _ _ _ _ => True) (fun _ U o U' => ∃ v L, o = .returned v ∧ QB (nar .char (ps.getD (i - rs.length - 2) 0)) h0 n0 v U'.heap L ∧ FrameEnd U o U' L 0 0) := by
  refine MetFree.of_bodySF (plainFor_of_name own_pn_com_example_treeward_treeward_engine_FindingToStringPinLaw) hisR ?_
  intro p e s m args below meth c s₁ Bd hml0 hP hK
  obtain ⟨rfl, hZ, hh⟩ := hP
  have hx := Bd.exec
  have hby := Bd.bytes
  have hml : c.maxLocals = 4 := hml0
  have hown : s.vm.findClass "com/example/treeward/treeward/engine/FindingToStringPinLaw" = some m.cls := findClass_of_methodNamed Bd.named
  have hnm := (name_of_methodNamed Bd.named Bd.method).1
  have X0 : Stand p l e ({ frames := 4, cells := 0, slots := 0, locals := 53 } : Room) s m #[(.ref a1), (.ref a2), (.int (Int32.ofNat i))] below meth c s₁ [] 0 0 := Stand.of_body Bd
  have e0 : s₁.heap = h0 := by rw [← hh, Bd.state]; rfl
  have N0 := Fr.nil n0
  have pre0 : ∀ t, Steps p.tables e below (s₁.setTop (mkF m 0 #[.val (.ref a1), .val (.ref a2), .val (.int (Int32.ofNat i)), .unset] [])) t → Steps p.tables e below (s₁.setTop (entryFrame m #[(.ref a1), (.ref a2), (.int (Int32.ofNat i))] 4)) t := fun t k => castTop (own_ef_method_4_code_xxx m a1 a2 (Int32.ofNat i)) k
  obtain ⟨sb2, sk2, sN2, sv2, sE2, sV2, sC2, sA2, sc2, su2⟩ := id S_a1
  obtain ⟨cq1, kq1, q1a, q1b, q1c⟩ := isOf hZ e0 S_a1.exa
  obtain ⟨_, _, ⟨T1, L1, k1, n1⟩, -, X1, ⟨Lc1, hQ1, l1, y1, z1⟩, st1⟩ := X0.virtualBack hx (y := (⟨"java/lang/String", "length", "()I"⟩ : MethodName)) (z := (⟨"java/lang/String", "length", "()I"⟩ : MethodName)) hown (mvT hZ (hw _ (List.mem_of_getElem? (i := 154) rfl))) (mvT hZ (hw _ (List.mem_of_getElem? (i := 71) rfl))) (notFace_of_selects (args := #[]) (mvT hZ (hw _ (List.mem_of_getElem? (i := 73) rfl)))) (mvT hZ (hw _ (List.mem_of_getElem? (i := 73) rfl))) (mvT hZ (hw _ (List.mem_of_getElem? (i := 72) rfl))) (by decide) (StrChars.Road.lenW (W := 0) hZ (own_hlen hw) (kI := 4) (hw _ (List.mem_of_getElem? (i := 5) rfl)) sE2 sV2 sC2 sA2 sc2 su2 (O2.ext O0.2) P5 (by omega) (by decide) (by decide)) q1a q1c (g := (mkF m 1 #[.val (.ref a1), .val (.ref a2), .val (.int (Int32.ofNat i)), .unset] [(.ref a1)])) rfl (by rw [hml]; rfl) (Steps.refl _) (argsL := []) (rest := []) (lenOf own_pd___I rfl) rfl (by show 2 * 0 + _ ≤ _; exact Nat.le_of_eq rfl) (hb hby own_d_method_4_code_1) (fun _ _ => ⟨rfl, e0, (by decide : 0 + 0 ≤ _), (by decide : 0 + 0 ≤ _)⟩)
  dsimp only [Pt.U, Pt.locs, Pt.cells, Pt.slots] at X1 l1 y1 z1 st1 hQ1
  subst l1 y1 z1
  obtain ⟨rfl, rfl, e1q⟩ := hQ1
  have N1a := Fr.app N0 (Fr.nil n0)
  obtain ⟨sb4, sk4, sN4, sv4, sE4, sV4, sC4, sA4, sc4, su4⟩ := id S_a2
  obtain ⟨cq3, kq3, q3a, q3b, q3c⟩ := isOf hZ e1q S_a2.exa
  obtain ⟨_, _, ⟨T3, L3, k3, n3⟩, -, X3, ⟨Lc3, hQ3, l3, y3, z3⟩, st3⟩ := X1.virtualBack hx (y := (⟨"java/lang/String", "charAt", "(I)C"⟩ : MethodName)) (z := (⟨"java/lang/String", "charAt", "(I)C"⟩ : MethodName)) hown (mvT hZ (hw _ (List.mem_of_getElem? (i := 158) rfl))) (mvT hZ (hw _ (List.mem_of_getElem? (i := 159) rfl))) (notFace_of_selects (args := #[]) (mvT hZ (hw _ (List.mem_of_getElem? (i := 161) rfl)))) (mvT hZ (hw _ (List.mem_of_getElem? (i := 161) rfl))) (mvT hZ (hw _ (List.mem_of_getElem? (i := 160) rfl))) (by decide) (StrChars.Road.chN (W := 0) hZ (own_hch hw) (kI := 4) (hw _ (List.mem_of_getElem? (i := 5) rfl)) sE4 sV4 sC4 sA4 sc4 su4 (O2.ext O0.2) P5 (O4.ext O0.2) rG3 (by omega) (i := (i - rs.length - 2)) (by omega) (j := (Int32.ofNat (i - rs.length - 2))) rfl (by decide) (by decide)) q3a q3c (g := (mkF m 40 #[.val (.ref a1), .val (.ref a2), .val (.int (Int32.ofNat i)), .val (.int (Int32.ofNat rs.length))] [(.int (Int32.ofNat (i - rs.length - 2))), (.ref a2)])) rfl (by rw [hml]; rfl) (Steps.refl _) (argsL := [(.int (Int32.ofNat (i - rs.length - 2)))]) (rest := []) (lenOf own_pd__I_C rfl) rfl (by show 2 * 0 + _ ≤ _; exact Nat.le_of_eq rfl) (hb hby own_d_method_4_code_40) (fun _ _ => ⟨rfl, e1q, (by decide : 0 + 0 ≤ _), (by decide : 0 + 0 ≤ _)⟩)
  dsimp only [Pt.U, Pt.locs, Pt.cells, Pt.slots] at X3 l3 y3 z3 st3 hQ3
  subst l3 y3 z3
  obtain ⟨rfl, rfl, e3q⟩ := hQ3
  have N3a := Fr.app N1a (Fr.nil n0)
  obtain ⟨fs, hr, hrun, hended, hW, hsame⟩ := X3.leave (v := some (.int (nar .char (ps.getD (i - rs.length - 2) 0)))) (fun h => by rw [Bd.returns] at h; cases h)
  refine ⟨_, _, pre0 _ ?_, hrun, hended, _, _, rfl, ?_, ⟨_, rfl⟩, hW, hsame.mono (by decide) (by decide)⟩
  · show Steps p.tables e below (s₁.setTop (mkF m 0 #[.val (.ref a1), .val (.ref a2), .val (.int (Int32.ofNat i)), .unset] [])) _
    refine XS.aloadN X0.here hx rfl (hb hby own_d_method_4_code_0) rfl rfl ?_
    show Steps p.tables e below (s₁.setTop (mkF m 1 #[.val (.ref a1), .val (.ref a2), .val (.int (Int32.ofNat i)), .unset] [(.ref a1)])) _
    refine st1.trans ?_
    refine XS.istoreN X1.here hx rfl (hb hby own_d_method_4_code_4) rfl (l' := #[.val (.ref a1), .val (.ref a2), .val (.int (Int32.ofNat i)), .val (.int (Int32.ofNat rs.length))]) rfl ?_
    refine XS.iloadN X1.here hx rfl (hb hby own_d_method_4_code_5) rfl ?_
    show Steps p.tables e below (T1.setTop (mkF m 6 #[.val (.ref a1), .val (.ref a2), .val (.int (Int32.ofNat i)), .val (.int (Int32.ofNat rs.length))] [(.int (Int32.ofNat i))])) _
    refine XS.iloadN X1.here hx rfl (hb hby own_d_method_4_code_6) rfl ?_
    show Steps p.tables e below (T1.setTop (mkF m 7 #[.val (.ref a1), .val (.ref a2), .val (.int (Int32.ofNat i)), .val (.int (Int32.ofNat rs.length))] [(.int (Int32.ofNat rs.length)), (.int (Int32.ofNat i))])) _
    refine XS.icmpYes X1.here hx rfl (pc0 := 7) (pc' := 16) rfl (hb hby own_d_method_4_code_7) rfl (flt ((fun q => h0x ((own_lt_of (by omega) (by omega)).mp q)) : ¬ ((Int32.ofNat i) < (Int32.ofNat rs.length)))).2.1 (by decide) (by decide) ?_
    refine XS.iloadN X1.here hx rfl (hb hby own_d_method_4_code_16) rfl ?_
    refine XS.iloadN X1.here hx rfl (hb hby own_d_method_4_code_17) rfl ?_
    show Steps p.tables e below (T1.setTop (mkF m 18 #[.val (.ref a1), .val (.ref a2), .val (.int (Int32.ofNat i)), .val (.int (Int32.ofNat rs.length))] [(.int (Int32.ofNat rs.length)), (.int (Int32.ofNat i))])) _
    refine XS.icmpYes X1.here hx rfl (pc0 := 18) (pc' := 24) rfl (hb hby own_d_method_4_code_18) rfl (feq ((fun q => h1x ((own_eq_of (by omega) (by omega)).mp q)) : ¬ ((Int32.ofNat i) = (Int32.ofNat rs.length)))).2 (by decide) (by decide) ?_
    refine XS.iloadN X1.here hx rfl (hb hby own_d_method_4_code_24) rfl ?_
    refine XS.iloadN X1.here hx rfl (hb hby own_d_method_4_code_25) rfl ?_
    show Steps p.tables e below (T1.setTop (mkF m 26 #[.val (.ref a1), .val (.ref a2), .val (.int (Int32.ofNat i)), .val (.int (Int32.ofNat rs.length))] [(.int (Int32.ofNat rs.length)), (.int (Int32.ofNat i))])) _
    refine XS.iconst X1.here hx rfl (hb hby own_d_method_4_code_26) ?_
    refine XS.iadd X1.here hx rfl (hb hby own_d_method_4_code_27) rfl ?_
    show Steps p.tables e below (T1.setTop (mkF m 28 #[.val (.ref a1), .val (.ref a2), .val (.int (Int32.ofNat i)), .val (.int (Int32.ofNat rs.length))] [(.int ((Int32.ofNat rs.length) + (1 : Int32))), (.int (Int32.ofNat i))])) _
    rw [own_add1]
    show Steps p.tables e below (T1.setTop (mkF m 28 #[.val (.ref a1), .val (.ref a2), .val (.int (Int32.ofNat i)), .val (.int (Int32.ofNat rs.length))] [(.int (Int32.ofNat (rs.length + 1))), (.int (Int32.ofNat i))])) _
    refine XS.icmpYes X1.here hx rfl (pc0 := 28) (pc' := 34) rfl (hb hby own_d_method_4_code_28) rfl (feq ((fun q => h2x ((own_eq_of (by omega) (by omega)).mp q)) : ¬ ((Int32.ofNat i) = (Int32.ofNat (rs.length + 1))))).2 (by decide) (by decide) ?_
    refine XS.aloadN X1.here hx rfl (hb hby own_d_method_4_code_34) rfl rfl ?_
    refine XS.iloadN X1.here hx rfl (hb hby own_d_method_4_code_35) rfl ?_
    show Steps p.tables e below (T1.setTop (mkF m 36 #[.val (.ref a1), .val (.ref a2), .val (.int (Int32.ofNat i)), .val (.int (Int32.ofNat rs.length))] [(.int (Int32.ofNat i)), (.ref a2)])) _
    refine XS.iloadN X1.here hx rfl (hb hby own_d_method_4_code_36) rfl ?_
    refine XS.isub X1.here hx rfl (hb hby own_d_method_4_code_37) rfl ?_
    refine XS.iconst X1.here hx rfl (hb hby own_d_method_4_code_38) ?_
    show Steps p.tables e below (T1.setTop (mkF m 39 #[.val (.ref a1), .val (.ref a2), .val (.int (Int32.ofNat i)), .val (.int (Int32.ofNat rs.length))] [(.int (2 : Int32)), (.int ((Int32.ofNat i) - (Int32.ofNat rs.length))), (.ref a2)])) _
    refine XS.isub X1.here hx rfl (hb hby own_d_method_4_code_39) rfl ?_
    show Steps p.tables e below (T1.setTop (mkF m 40 #[.val (.ref a1), .val (.ref a2), .val (.int (Int32.ofNat i)), .val (.int (Int32.ofNat rs.length))] [(.int (((Int32.ofNat i) - (Int32.ofNat rs.length)) - (2 : Int32))), (.ref a2)])) _
    rw [own_subN (by omega) (by omega)]
    show Steps p.tables e below (T1.setTop (mkF m 40 #[.val (.ref a1), .val (.ref a2), .val (.int (Int32.ofNat i)), .val (.int (Int32.ofNat rs.length))] [(.int (Int32.ofNat (i - rs.length - 2))), (.ref a2)])) _
    refine st3.trans ?_
    show Steps p.tables e below (T3.setTop (mkF m 43 #[.val (.ref a1), .val (.ref a2), .val (.int (Int32.ofNat i)), .val (.int (Int32.ofNat rs.length))] [(.int (ps.getD (i - rs.length - 2) 0))])) _
    exact retN X3 hx (t := .char) Bd.returns (by simp) (hb hby own_d_method_4_code_43) hr
  · show QB (nar .char (ps.getD (i - rs.length - 2) 0)) h0 n0 _ T3.heap _
    rw [e3q]
    exact ⟨rfl, N3a, rfl⟩
def own_exp (rs ps : List Int32) (i : Nat) : Int32 := if i < rs.length then nar .char (rs.getD i 0) else if i = rs.length then 58 else if i = rs.length + 1 then 32 else nar .char (ps.getD (i - rs.length - 2) 0)
theorem rmX (l : Launch) (Z : State) (a0 : Array Value) (hw : ∀ d ∈ tables_1, d.before a0 Z = true) (ws : List Jvm.Cond) (a1 a2 : Addr) (i : Nat) (rs ps : List Int32) (G1 : Int32) (G3 : Value) (h0 : Heap) (n0 : Nat) (Z0 : n0 ≤ h0.size) (O2 : Sta Z Z.heap "java/lang/String" "COMPACT_STRINGS" "Z" (.int G1)) (P5 : ¬ (G1 = (0 : Int32))) (O4 : Sta Z Z.heap "jdk/internal/util/Preconditions" "SIOOBE_FORMATTER" "Ljava/util/function/BiFunction;" G3) (rG3 : G3.isRef = true) (O0 : Old Z n0 h0) (S_a1 : StrV Z h0 a1 rs) (S_a2 : StrV Z h0 a2 ps) (hr3 : rs.length ≤ 3) (hp3 : ps.length ≤ 3) (hi8 : i ≤ 8) (hin : i < rs.length + 2 + ps.length) :
    MetFree l (⟨"com/example/treeward/treeward/engine/FindingToStringPinLaw", "expected", "(Ljava/lang/String;Ljava/lang/String;I)C"⟩ : MethodName) (head1 (Jvm.Cond.code (⟨"com/example/treeward/treeward/engine/FindingToStringPinLaw", "expected", "(Ljava/lang/String;Ljava/lang/String;I)C"⟩ : MethodName) method_4_code 4 (some .char) :: ws) ({ frames := 4, cells := 0, slots := 0, locals := 53 } : Room)) (fun a U => a = #[(.ref a1), (.ref a2), (.int (Int32.ofNat i))] ∧ Z.Warmed39 U.vm ∧ U.heap = h0) (fun _ _ _ _ _ => True) (fun _ U o U' => ∃ v L, o = .returned v ∧ QB (own_exp rs ps i) h0 n0 v U'.heap L ∧ FrameEnd U o U' L 0 0) := by
  unfold own_exp
  by_cases q0 : i < rs.length
  · rw [if_pos q0]; exact rx0 l Z a0 hw ws a1 a2 i rs ps G1 G3 h0 n0 Z0 O2 P5 O4 rG3 O0 S_a1 S_a2 hr3 hp3 hi8 q0
  · rw [if_neg q0]
    by_cases q1 : i = rs.length
    · rw [if_pos q1]; exact rx1 l Z a0 hw ws a1 a2 i rs ps G1 G3 h0 n0 Z0 O2 P5 O4 rG3 O0 S_a1 S_a2 hr3 hp3 hi8 q0 q1
    · rw [if_neg q1]
      by_cases q2 : i = rs.length + 1
      · rw [if_pos q2]; exact rx2 l Z a0 hw ws a1 a2 i rs ps G1 G3 h0 n0 Z0 O2 P5 O4 rG3 O0 S_a1 S_a2 hr3 hp3 hi8 q0 q1 q2
      · rw [if_neg q2]; exact rx3 l Z a0 hw ws a1 a2 i rs ps G1 G3 h0 n0 Z0 O2 P5 O4 rG3 O0 S_a1 S_a2 hr3 hp3 hi8 q0 q1 q2 hin
theorem own_narL {c : Int32} (h : ¬ c < 0 ∧ ¬ (255 : Int32) < c) : nar .char c = c := by
  have t : ∀ k : Fin 256, nar .char (Int32.ofNat k.val) = Int32.ofNat k.val := by decide +kernel
  obtain ⟨h0, h1⟩ := h
  have e0 : (0 : Int32).toInt = 0 := rfl
  have e1 : (255 : Int32).toInt = 255 := rfl
  rw [Int32.lt_iff_toInt_lt] at h0 h1
  have e : c = Int32.ofNat c.toInt.toNat := by apply Int32.toInt_inj.mp; rw [own_toNat (by omega)]; omega
  rw [e]; exact t ⟨c.toInt.toNat, by omega⟩
theorem own_latD {cs : List Int32} (h : ∀ c ∈ cs, ¬ c < 0 ∧ ¬ (255 : Int32) < c) (i : Nat) : ¬ cs.getD i 0 < 0 ∧ ¬ (255 : Int32) < cs.getD i 0 := by
  rw [List.getD_eq_getElem?_getD]
  cases e : cs[i]? with
  | none => exact ⟨by decide, by decide⟩
  | some c => exact h c (List.mem_of_getElem? e)
theorem own_atlaw {rs ps : List Int32} (hrl : ∀ c ∈ rs, ¬ c < 0 ∧ ¬ (255 : Int32) < c) (hpl : ∀ c ∈ ps, ¬ c < 0 ∧ ¬ (255 : Int32) < c) (i : Nat) : (rs ++ own_sep ++ ps).getD i 0 = own_exp rs ps i := by
  unfold own_exp
  rw [own_narL (own_latD hrl _), own_narL (own_latD hpl _)]
  simp only [List.getD_eq_getElem?_getD, List.append_assoc]
  by_cases q0 : i < rs.length
  · rw [if_pos q0, List.getElem?_append_left q0]
  · rw [if_neg q0, List.getElem?_append_right (by omega)]
    by_cases q1 : i = rs.length
    · rw [if_pos q1, q1, Nat.sub_self]; rfl
    · rw [if_neg q1]
      by_cases q2 : i = rs.length + 1
      · rw [if_pos q2, q2, Nat.add_sub_cancel_left]; rfl
      · rw [if_neg q2, List.getElem?_append_right (by show 2 ≤ _; omega)]; rfl
theorem own_d_method_5_code_0 : decode method_5_code 0 = .ok (.iload_n 3, 1) := by decide +kernel
theorem own_d_method_5_code_1 : decode method_5_code 1 = .ok (.aload_n 0, 1) := by decide +kernel
theorem own_d_method_5_code_2 : decode method_5_code 2 = .ok (.invokevirtual 22, 3) := by decide +kernel
theorem own_d_method_5_code_5 : decode method_5_code 5 = .ok (.if_icmp .lt 5, 3) := by decide +kernel
theorem own_d_method_5_code_8 : decode method_5_code 8 = .ok (.iconst 1, 1) := by decide +kernel
theorem own_d_method_5_code_9 : decode method_5_code 9 = .ok (.ireturn, 1) := by decide +kernel
theorem own_ef_method_5_code_xxxx (m : MethodId) (x0 : Addr) (x1 : Addr) (x2 : Addr) (x3 : Int32) : entryFrame m #[(.ref x0), (.ref x1), (.ref x2), (.int x3)] 4 = mkF m 0 #[.val (.ref x0), .val (.ref x1), .val (.ref x2), .val (.int x3)] [] := by first | (simp [entryFrame, mkF, argsToLocals, Value.category]; done) | rfl
set_option maxRecDepth 65536 in
set_option maxHeartbeats 40000000 in
theorem rt0 (l : Launch) (Z : State) (a0 : Array Value) (hw : ∀ d ∈ tables_1, d.before a0 Z = true) (ws : List Jvm.Cond) (a0s a1 a2 : Addr) (i : Nat) (rs ps : List Int32) (G1 : Int32) (G3 : Value) (h0 : Heap) (n0 : Nat) (Z0 : n0 ≤ h0.size) (O2 : Sta Z Z.heap "java/lang/String" "COMPACT_STRINGS" "Z" (.int G1)) (P5 : ¬ (G1 = (0 : Int32))) (O4 : Sta Z Z.heap "jdk/internal/util/Preconditions" "SIOOBE_FORMATTER" "Ljava/util/function/BiFunction;" G3) (rG3 : G3.isRef = true) (O0 : Old Z n0 h0) (S_a0s : StrV Z h0 a0s (rs ++ own_sep ++ ps)) (S_a1 : StrV Z h0 a1 rs) (S_a2 : StrV Z h0 a2 ps) (hr3 : rs.length ≤ 3) (hp3 : ps.length ≤ 3) (hi8 : i ≤ 8) (hrl : ∀ c ∈ rs, ¬ c < 0 ∧ ¬ (255 : Int32) < c) (hpl : ∀ c ∈ ps, ¬ c < 0 ∧ ¬ (255 : Int32) < c) (hsl : (rs ++ own_sep ++ ps).length = rs.length + 2 + ps.length) (hin : ¬ i < (rs ++ own_sep ++ ps).length) :
    MetFree l (⟨"com/example/treeward/treeward/engine/FindingToStringPinLaw", "at", "(Ljava/lang/String;Ljava/lang/String;Ljava/lang/String;I)Z"⟩ : MethodName) (head1 (Jvm.Cond.code (⟨"com/example/treeward/treeward/engine/FindingToStringPinLaw", "at", "(Ljava/lang/String;Ljava/lang/String;Ljava/lang/String;I)Z"⟩ : MethodName) method_5_code 4 (some .boolean) :: ws) ({ frames := 5, cells := 0, slots := 0, locals := 72 } : Room)) (fun a U => a = #[(.ref a0s), (.ref a1), (.ref a2), (.int (Int32.ofNat i))] ∧ Z.Warmed39 U.vm ∧ U.heap = h0) (fun _ _ _ _ _ => True) (fun _ U o U' => ∃ v L, o = .returned v ∧ QB 1 h0 n0 v U'.heap L ∧ FrameEnd U o U' L 0 0) := by
  refine MetFree.of_bodySF (plainFor_of_name own_pn_com_example_treeward_treeward_engine_FindingToStringPinLaw) hisR ?_
  intro p e s m args below meth c s₁ Bd hml0 hP hK
  obtain ⟨rfl, hZ, hh⟩ := hP
  have hx := Bd.exec
  have hby := Bd.bytes
  have hml : c.maxLocals = 4 := hml0
  have hown : s.vm.findClass "com/example/treeward/treeward/engine/FindingToStringPinLaw" = some m.cls := findClass_of_methodNamed Bd.named
  have hnm := (name_of_methodNamed Bd.named Bd.method).1
  have X0 : Stand p l e ({ frames := 5, cells := 0, slots := 0, locals := 72 } : Room) s m #[(.ref a0s), (.ref a1), (.ref a2), (.int (Int32.ofNat i))] below meth c s₁ [] 0 0 := Stand.of_body Bd
  have e0 : s₁.heap = h0 := by rw [← hh, Bd.state]; rfl
  have N0 := Fr.nil n0
  have pre0 : ∀ t, Steps p.tables e below (s₁.setTop (mkF m 0 #[.val (.ref a0s), .val (.ref a1), .val (.ref a2), .val (.int (Int32.ofNat i))] [])) t → Steps p.tables e below (s₁.setTop (entryFrame m #[(.ref a0s), (.ref a1), (.ref a2), (.int (Int32.ofNat i))] 4)) t := fun t k => castTop (own_ef_method_5_code_xxxx m a0s a1 a2 (Int32.ofNat i)) k
  obtain ⟨sb2, sk2, sN2, sv2, sE2, sV2, sC2, sA2, sc2, su2⟩ := id S_a0s
  obtain ⟨cq1, kq1, q1a, q1b, q1c⟩ := isOf hZ e0 S_a0s.exa
  obtain ⟨_, _, ⟨T1, L1, k1, n1⟩, -, X1, ⟨Lc1, hQ1, l1, y1, z1⟩, st1⟩ := X0.virtualBack hx (y := (⟨"java/lang/String", "length", "()I"⟩ : MethodName)) (z := (⟨"java/lang/String", "length", "()I"⟩ : MethodName)) hown (mvT hZ (hw _ (List.mem_of_getElem? (i := 154) rfl))) (mvT hZ (hw _ (List.mem_of_getElem? (i := 71) rfl))) (notFace_of_selects (args := #[]) (mvT hZ (hw _ (List.mem_of_getElem? (i := 73) rfl)))) (mvT hZ (hw _ (List.mem_of_getElem? (i := 73) rfl))) (mvT hZ (hw _ (List.mem_of_getElem? (i := 72) rfl))) (by decide) (StrChars.Road.lenW (W := 1) hZ (own_hlen hw) (kI := 4) (hw _ (List.mem_of_getElem? (i := 5) rfl)) sE2 sV2 sC2 sA2 sc2 su2 (O2.ext O0.2) P5 (by omega) (by decide) (by decide)) q1a q1c (g := (mkF m 2 #[.val (.ref a0s), .val (.ref a1), .val (.ref a2), .val (.int (Int32.ofNat i))] [(.ref a0s), (.int (Int32.ofNat i))])) rfl (by rw [hml]; rfl) (Steps.refl _) (argsL := []) (rest := [(.int (Int32.ofNat i))]) (lenOf own_pd___I rfl) rfl (by show 2 * 0 + _ ≤ _; exact Nat.le_of_eq rfl) (hb hby own_d_method_5_code_2) (fun _ _ => ⟨rfl, e0, (by decide : 0 + 0 ≤ _), (by decide : 0 + 0 ≤ _)⟩)
  dsimp only [Pt.U, Pt.locs, Pt.cells, Pt.slots] at X1 l1 y1 z1 st1 hQ1
  subst l1 y1 z1
  obtain ⟨rfl, rfl, e1q⟩ := hQ1
  have N1a := Fr.app N0 (Fr.nil n0)
  obtain ⟨fs, hr, hrun, hended, hW, hsame⟩ := X1.leave (v := some (.int (1 : Int32))) (fun h => by rw [Bd.returns] at h; cases h)
  refine ⟨_, _, pre0 _ ?_, hrun, hended, _, _, rfl, ?_, ⟨_, rfl⟩, hW, hsame.mono (by decide) (by decide)⟩
  · show Steps p.tables e below (s₁.setTop (mkF m 0 #[.val (.ref a0s), .val (.ref a1), .val (.ref a2), .val (.int (Int32.ofNat i))] [])) _
    refine XS.iloadN X0.here hx rfl (hb hby own_d_method_5_code_0) rfl ?_
    refine XS.aloadN X0.here hx rfl (hb hby own_d_method_5_code_1) rfl rfl ?_
    show Steps p.tables e below (s₁.setTop (mkF m 2 #[.val (.ref a0s), .val (.ref a1), .val (.ref a2), .val (.int (Int32.ofNat i))] [(.ref a0s), (.int (Int32.ofNat i))])) _
    refine st1.trans ?_
    show Steps p.tables e below (T1.setTop (mkF m 5 #[.val (.ref a0s), .val (.ref a1), .val (.ref a2), .val (.int (Int32.ofNat i))] [(.int (Int32.ofNat (rs ++ own_sep ++ ps).length)), (.int (Int32.ofNat i))])) _
    refine XS.icmpNo X1.here hx rfl (hb hby own_d_method_5_code_5) rfl (flt ((fun q => hin ((own_lt_of (by omega) (by omega)).mp q)) : ¬ ((Int32.ofNat i) < (Int32.ofNat (rs ++ own_sep ++ ps).length)))).1 ?_
    refine XS.iconst X1.here hx rfl (hb hby own_d_method_5_code_8) ?_
    show Steps p.tables e below (T1.setTop (mkF m 9 #[.val (.ref a0s), .val (.ref a1), .val (.ref a2), .val (.int (Int32.ofNat i))] [(.int (1 : Int32))])) _
    exact retN X1 hx (t := .boolean) Bd.returns (by simp) (hb hby own_d_method_5_code_9) hr
  · show QB 1 h0 n0 _ T1.heap _
    rw [e1q]
    exact ⟨rfl, N1a, rfl⟩
theorem own_d_method_5_code_10 : decode method_5_code 10 = .ok (.aload_n 0, 1) := by decide +kernel
theorem own_d_method_5_code_11 : decode method_5_code 11 = .ok (.iload_n 3, 1) := by decide +kernel
theorem own_d_method_5_code_12 : decode method_5_code 12 = .ok (.invokevirtual 35, 3) := by decide +kernel
theorem own_d_method_5_code_15 : decode method_5_code 15 = .ok (.aload_n 1, 1) := by decide +kernel
theorem own_d_method_5_code_16 : decode method_5_code 16 = .ok (.aload_n 2, 1) := by decide +kernel
theorem own_d_method_5_code_17 : decode method_5_code 17 = .ok (.iload_n 3, 1) := by decide +kernel
theorem own_d_method_5_code_18 : decode method_5_code 18 = .ok (.invokestatic 39, 3) := by decide +kernel
theorem own_d_method_5_code_21 : decode method_5_code 21 = .ok (.if_icmp .ne 7, 3) := by decide +kernel
theorem own_d_method_5_code_24 : decode method_5_code 24 = .ok (.iconst 1, 1) := by decide +kernel
theorem own_d_method_5_code_25 : decode method_5_code 25 = .ok (.goto 4, 3) := by decide +kernel
theorem own_d_method_5_code_29 : decode method_5_code 29 = .ok (.ireturn, 1) := by decide +kernel
theorem own_pd__Ljava_lang_String_Ljava_lang_String_I_C : parseMethodDescriptor "(Ljava/lang/String;Ljava/lang/String;I)C" = some ⟨[(.object "java/lang/String"), (.object "java/lang/String"), .int], some .char⟩ := by decide +kernel
set_option maxRecDepth 65536 in
set_option maxHeartbeats 40000000 in
theorem rt1 (l : Launch) (Z : State) (a0 : Array Value) (hw : ∀ d ∈ tables_1, d.before a0 Z = true) (ws : List Jvm.Cond) (a0s a1 a2 : Addr) (i : Nat) (rs ps : List Int32) (G1 : Int32) (G3 : Value) (h0 : Heap) (n0 : Nat) (Z0 : n0 ≤ h0.size) (O2 : Sta Z Z.heap "java/lang/String" "COMPACT_STRINGS" "Z" (.int G1)) (P5 : ¬ (G1 = (0 : Int32))) (O4 : Sta Z Z.heap "jdk/internal/util/Preconditions" "SIOOBE_FORMATTER" "Ljava/util/function/BiFunction;" G3) (rG3 : G3.isRef = true) (O0 : Old Z n0 h0) (S_a0s : StrV Z h0 a0s (rs ++ own_sep ++ ps)) (S_a1 : StrV Z h0 a1 rs) (S_a2 : StrV Z h0 a2 ps) (hr3 : rs.length ≤ 3) (hp3 : ps.length ≤ 3) (hi8 : i ≤ 8) (hrl : ∀ c ∈ rs, ¬ c < 0 ∧ ¬ (255 : Int32) < c) (hpl : ∀ c ∈ ps, ¬ c < 0 ∧ ¬ (255 : Int32) < c) (hsl : (rs ++ own_sep ++ ps).length = rs.length + 2 + ps.length) (hin : i < (rs ++ own_sep ++ ps).length) :
    MetFree l (⟨"com/example/treeward/treeward/engine/FindingToStringPinLaw", "at", "(Ljava/lang/String;Ljava/lang/String;Ljava/lang/String;I)Z"⟩ : MethodName) (head1 (Jvm.Cond.code (⟨"com/example/treeward/treeward/engine/FindingToStringPinLaw", "at", "(Ljava/lang/String;Ljava/lang/String;Ljava/lang/String;I)Z"⟩ : MethodName) method_5_code 4 (some .boolean) :: ws) ({ frames := 5, cells := 0, slots := 0, locals := 72 } : Room)) (fun a U => a = #[(.ref a0s), (.ref a1), (.ref a2), (.int (Int32.ofNat i))] ∧ Z.Warmed39 U.vm ∧ U.heap = h0) (fun _ _ _ _ _ => True) (fun _ U o U' => ∃ v L, o = .returned v ∧ QB 1 h0 n0 v U'.heap L ∧ FrameEnd U o U' L 0 0) := by
  refine MetFree.of_bodySF (plainFor_of_name own_pn_com_example_treeward_treeward_engine_FindingToStringPinLaw) hisR ?_
  intro p e s m args below meth c s₁ Bd hml0 hP hK
  obtain ⟨rfl, hZ, hh⟩ := hP
  have hx := Bd.exec
  have hby := Bd.bytes
  have hml : c.maxLocals = 4 := hml0
  have hown : s.vm.findClass "com/example/treeward/treeward/engine/FindingToStringPinLaw" = some m.cls := findClass_of_methodNamed Bd.named
  have hnm := (name_of_methodNamed Bd.named Bd.method).1
  have X0 : Stand p l e ({ frames := 5, cells := 0, slots := 0, locals := 72 } : Room) s m #[(.ref a0s), (.ref a1), (.ref a2), (.int (Int32.ofNat i))] below meth c s₁ [] 0 0 := Stand.of_body Bd
  have e0 : s₁.heap = h0 := by rw [← hh, Bd.state]; rfl
  have N0 := Fr.nil n0
  have pre0 : ∀ t, Steps p.tables e below (s₁.setTop (mkF m 0 #[.val (.ref a0s), .val (.ref a1), .val (.ref a2), .val (.int (Int32.ofNat i))] [])) t → Steps p.tables e below (s₁.setTop (entryFrame m #[(.ref a0s), (.ref a1), (.ref a2), (.int (Int32.ofNat i))] 4)) t := fun t k => castTop (own_ef_method_5_code_xxxx m a0s a1 a2 (Int32.ofNat i)) k
  obtain ⟨sb2, sk2, sN2, sv2, sE2, sV2, sC2, sA2, sc2, su2⟩ := id S_a0s
  obtain ⟨cq1, kq1, q1a, q1b, q1c⟩ := isOf hZ e0 S_a0s.exa
  obtain ⟨_, _, ⟨T1, L1, k1, n1⟩, -, X1, ⟨Lc1, hQ1, l1, y1, z1⟩, st1⟩ := X0.virtualBack hx (y := (⟨"java/lang/String", "length", "()I"⟩ : MethodName)) (z := (⟨"java/lang/String", "length", "()I"⟩ : MethodName)) hown (mvT hZ (hw _ (List.mem_of_getElem? (i := 154) rfl))) (mvT hZ (hw _ (List.mem_of_getElem? (i := 71) rfl))) (notFace_of_selects (args := #[]) (mvT hZ (hw _ (List.mem_of_getElem? (i := 73) rfl)))) (mvT hZ (hw _ (List.mem_of_getElem? (i := 73) rfl))) (mvT hZ (hw _ (List.mem_of_getElem? (i := 72) rfl))) (by decide) (StrChars.Road.lenW (W := 1) hZ (own_hlen hw) (kI := 4) (hw _ (List.mem_of_getElem? (i := 5) rfl)) sE2 sV2 sC2 sA2 sc2 su2 (O2.ext O0.2) P5 (by omega) (by decide) (by decide)) q1a q1c (g := (mkF m 2 #[.val (.ref a0s), .val (.ref a1), .val (.ref a2), .val (.int (Int32.ofNat i))] [(.ref a0s), (.int (Int32.ofNat i))])) rfl (by rw [hml]; rfl) (Steps.refl _) (argsL := []) (rest := [(.int (Int32.ofNat i))]) (lenOf own_pd___I rfl) rfl (by show 2 * 0 + _ ≤ _; exact Nat.le_of_eq rfl) (hb hby own_d_method_5_code_2) (fun _ _ => ⟨rfl, e0, (by decide : 0 + 0 ≤ _), (by decide : 0 + 0 ≤ _)⟩)
  dsimp only [Pt.U, Pt.locs, Pt.cells, Pt.slots] at X1 l1 y1 z1 st1 hQ1
  subst l1 y1 z1
  obtain ⟨rfl, rfl, e1q⟩ := hQ1
  have N1a := Fr.app N0 (Fr.nil n0)
  obtain ⟨sb4, sk4, sN4, sv4, sE4, sV4, sC4, sA4, sc4, su4⟩ := id S_a0s
  obtain ⟨cq3, kq3, q3a, q3b, q3c⟩ := isOf hZ e1q S_a0s.exa
  obtain ⟨_, _, ⟨T3, L3, k3, n3⟩, -, X3, ⟨Lc3, hQ3, l3, y3, z3⟩, st3⟩ := X1.virtualBack hx (y := (⟨"java/lang/String", "charAt", "(I)C"⟩ : MethodName)) (z := (⟨"java/lang/String", "charAt", "(I)C"⟩ : MethodName)) hown (mvT hZ (hw _ (List.mem_of_getElem? (i := 158) rfl))) (mvT hZ (hw _ (List.mem_of_getElem? (i := 159) rfl))) (notFace_of_selects (args := #[]) (mvT hZ (hw _ (List.mem_of_getElem? (i := 161) rfl)))) (mvT hZ (hw _ (List.mem_of_getElem? (i := 161) rfl))) (mvT hZ (hw _ (List.mem_of_getElem? (i := 160) rfl))) (by decide) (StrChars.Road.chN (W := 0) hZ (own_hch hw) (kI := 4) (hw _ (List.mem_of_getElem? (i := 5) rfl)) sE4 sV4 sC4 sA4 sc4 su4 (O2.ext O0.2) P5 (O4.ext O0.2) rG3 (by omega) (i := i) hin (j := (Int32.ofNat i)) rfl (by decide) (by decide)) q3a q3c (g := (mkF m 12 #[.val (.ref a0s), .val (.ref a1), .val (.ref a2), .val (.int (Int32.ofNat i))] [(.int (Int32.ofNat i)), (.ref a0s)])) rfl (by rw [hml]; rfl) (Steps.refl _) (argsL := [(.int (Int32.ofNat i))]) (rest := []) (lenOf own_pd__I_C rfl) rfl (by show 2 * 0 + _ ≤ _; exact Nat.le_of_eq rfl) (hb hby own_d_method_5_code_12) (fun _ _ => ⟨rfl, e1q, (by decide : 0 + 0 ≤ _), (by decide : 0 + 0 ≤ _)⟩)
  dsimp only [Pt.U, Pt.locs, Pt.cells, Pt.slots] at X3 l3 y3 z3 st3 hQ3
  subst l3 y3 z3
  obtain ⟨rfl, rfl, e3q⟩ := hQ3
  have N3a := Fr.app N1a (Fr.nil n0)
  obtain ⟨_, _, ⟨T5, L5, k5, n5⟩, -, X5, ⟨Lc5, hQ5, l5, y5, z5⟩, st5⟩ := Jvm.LawKit.callS X3 hx (y := (⟨"com/example/treeward/treeward/engine/FindingToStringPinLaw", "expected", "(Ljava/lang/String;Ljava/lang/String;I)C"⟩ : MethodName)) hown (mvT hZ (hw _ (List.mem_of_getElem? (i := 180) rfl))) (mvT hZ (hw _ (List.mem_of_getElem? (i := 181) rfl))) (mvT hZ (hw _ (List.mem_of_getElem? (i := 2) rfl))) (mvT hZ (hw _ (List.mem_of_getElem? (i := 182) rfl))) (by decide) (backOf (W := 1) (rmX l Z a0 hw [] a1 a2 i rs ps G1 G3 h0 n0 (Nat.le_trans Z0 (Keep.refl h0 []).1) O2 P5 O4 rG3 O0 S_a1 S_a2 hr3 hp3 hi8 (by omega)) hZ (hw _ (List.mem_of_getElem? (i := 182) rfl)) (hw _ (List.mem_of_getElem? (i := 2) rfl)) (by decide) (by decide)) (g := (mkF m 18 #[.val (.ref a0s), .val (.ref a1), .val (.ref a2), .val (.int (Int32.ofNat i))] [(.int (Int32.ofNat i)), (.ref a2), (.ref a1), (.int ((rs ++ own_sep ++ ps).getD i 0))])) rfl (by rw [hml]; rfl) (argsL := [(.ref a1), (.ref a2), (.int (Int32.ofNat i))]) (rest := [(.int ((rs ++ own_sep ++ ps).getD i 0))]) (lenOf own_pd__Ljava_lang_String_Ljava_lang_String_I_C rfl) rfl (by show 2 * 0 + _ ≤ _; exact Nat.le_of_eq rfl) (hb hby own_d_method_5_code_18) (fun _ _ => ⟨rfl, e3q, (by decide : 0 + 0 ≤ _), (by decide : 0 + 0 ≤ _)⟩)
  dsimp only [Pt.U, Pt.locs, Pt.cells, Pt.slots] at X5 l5 y5 z5 st5 hQ5
  subst l5 y5 z5
  obtain ⟨rfl, N5q, e5q⟩ := hQ5
  have N5a := Fr.app N3a N5q
  obtain ⟨fs, hr, hrun, hended, hW, hsame⟩ := X5.leave (v := some (.int (1 : Int32))) (fun h => by rw [Bd.returns] at h; cases h)
  refine ⟨_, _, pre0 _ ?_, hrun, hended, _, _, rfl, ?_, ⟨_, rfl⟩, hW, hsame.mono (by decide) (by decide)⟩
  · show Steps p.tables e below (s₁.setTop (mkF m 0 #[.val (.ref a0s), .val (.ref a1), .val (.ref a2), .val (.int (Int32.ofNat i))] [])) _
    refine XS.iloadN X0.here hx rfl (hb hby own_d_method_5_code_0) rfl ?_
    refine XS.aloadN X0.here hx rfl (hb hby own_d_method_5_code_1) rfl rfl ?_
    show Steps p.tables e below (s₁.setTop (mkF m 2 #[.val (.ref a0s), .val (.ref a1), .val (.ref a2), .val (.int (Int32.ofNat i))] [(.ref a0s), (.int (Int32.ofNat i))])) _
    refine st1.trans ?_
    show Steps p.tables e below (T1.setTop (mkF m 5 #[.val (.ref a0s), .val (.ref a1), .val (.ref a2), .val (.int (Int32.ofNat i))] [(.int (Int32.ofNat (rs ++ own_sep ++ ps).length)), (.int (Int32.ofNat i))])) _
    refine XS.icmpYes X1.here hx rfl (pc0 := 5) (pc' := 10) rfl (hb hby own_d_method_5_code_5) rfl (tlt ((own_lt_of (by omega) (by omega)).mpr hin : (Int32.ofNat i) < (Int32.ofNat (rs ++ own_sep ++ ps).length))).1 (by decide) (by decide) ?_
    refine XS.aloadN X1.here hx rfl (hb hby own_d_method_5_code_10) rfl rfl ?_
    refine XS.iloadN X1.here hx rfl (hb hby own_d_method_5_code_11) rfl ?_
    show Steps p.tables e below (T1.setTop (mkF m 12 #[.val (.ref a0s), .val (.ref a1), .val (.ref a2), .val (.int (Int32.ofNat i))] [(.int (Int32.ofNat i)), (.ref a0s)])) _
    refine st3.trans ?_
    refine XS.aloadN X3.here hx rfl (hb hby own_d_method_5_code_15) rfl rfl ?_
    refine XS.aloadN X3.here hx rfl (hb hby own_d_method_5_code_16) rfl rfl ?_
    show Steps p.tables e below (T3.setTop (mkF m 17 #[.val (.ref a0s), .val (.ref a1), .val (.ref a2), .val (.int (Int32.ofNat i))] [(.ref a2), (.ref a1), (.int ((rs ++ own_sep ++ ps).getD i 0))])) _
    refine XS.iloadN X3.here hx rfl (hb hby own_d_method_5_code_17) rfl ?_
    show Steps p.tables e below (T3.setTop (mkF m 18 #[.val (.ref a0s), .val (.ref a1), .val (.ref a2), .val (.int (Int32.ofNat i))] [(.int (Int32.ofNat i)), (.ref a2), (.ref a1), (.int ((rs ++ own_sep ++ ps).getD i 0))])) _
    refine st5 _ ?_
    show Steps p.tables e below (T5.setTop (mkF m 21 #[.val (.ref a0s), .val (.ref a1), .val (.ref a2), .val (.int (Int32.ofNat i))] [(.int (own_exp rs ps i)), (.int ((rs ++ own_sep ++ ps).getD i 0))])) _
    refine XS.icmpNo X5.here hx rfl (hb hby own_d_method_5_code_21) rfl (teq (own_atlaw hrl hpl i : ((rs ++ own_sep ++ ps).getD i 0) = (own_exp rs ps i))).2 ?_
    refine XS.iconst X5.here hx rfl (hb hby own_d_method_5_code_24) ?_
    refine XS.goto X5.here hx rfl (pc0 := 25) (pc' := 29) rfl (hb hby own_d_method_5_code_25) (by decide) (by decide) ?_
    show Steps p.tables e below (T5.setTop (mkF m 29 #[.val (.ref a0s), .val (.ref a1), .val (.ref a2), .val (.int (Int32.ofNat i))] [(.int (1 : Int32))])) _
    exact retN X5 hx (t := .boolean) Bd.returns (by simp) (hb hby own_d_method_5_code_29) hr
  · show QB 1 h0 n0 _ T5.heap _
    rw [e5q]
    exact ⟨rfl, N5a, rfl⟩
theorem own_sl (rs ps : List Int32) : (rs ++ own_sep ++ ps).length = rs.length + 2 + ps.length := by simp [own_sep]; omega
theorem rmT (l : Launch) (Z : State) (a0 : Array Value) (hw : ∀ d ∈ tables_1, d.before a0 Z = true) (ws : List Jvm.Cond) (a0s a1 a2 : Addr) (i : Nat) (rs ps : List Int32) (G1 : Int32) (G3 : Value) (h0 : Heap) (n0 : Nat) (Z0 : n0 ≤ h0.size) (O2 : Sta Z Z.heap "java/lang/String" "COMPACT_STRINGS" "Z" (.int G1)) (P5 : ¬ (G1 = (0 : Int32))) (O4 : Sta Z Z.heap "jdk/internal/util/Preconditions" "SIOOBE_FORMATTER" "Ljava/util/function/BiFunction;" G3) (rG3 : G3.isRef = true) (O0 : Old Z n0 h0) (S_a0s : StrV Z h0 a0s (rs ++ own_sep ++ ps)) (S_a1 : StrV Z h0 a1 rs) (S_a2 : StrV Z h0 a2 ps) (hr3 : rs.length ≤ 3) (hp3 : ps.length ≤ 3) (hi8 : i ≤ 8) (hrl : ∀ c ∈ rs, ¬ c < 0 ∧ ¬ (255 : Int32) < c) (hpl : ∀ c ∈ ps, ¬ c < 0 ∧ ¬ (255 : Int32) < c) :
    MetFree l (⟨"com/example/treeward/treeward/engine/FindingToStringPinLaw", "at", "(Ljava/lang/String;Ljava/lang/String;Ljava/lang/String;I)Z"⟩ : MethodName) (head1 (Jvm.Cond.code (⟨"com/example/treeward/treeward/engine/FindingToStringPinLaw", "at", "(Ljava/lang/String;Ljava/lang/String;Ljava/lang/String;I)Z"⟩ : MethodName) method_5_code 4 (some .boolean) :: ws) ({ frames := 5, cells := 0, slots := 0, locals := 72 } : Room)) (fun a U => a = #[(.ref a0s), (.ref a1), (.ref a2), (.int (Int32.ofNat i))] ∧ Z.Warmed39 U.vm ∧ U.heap = h0) (fun _ _ _ _ _ => True) (fun _ U o U' => ∃ v L, o = .returned v ∧ QB 1 h0 n0 v U'.heap L ∧ FrameEnd U o U' L 0 0) := by
  by_cases hin : i < (rs ++ own_sep ++ ps).length
  · exact rt1 l Z a0 hw ws a0s a1 a2 i rs ps G1 G3 h0 n0 Z0 O2 P5 O4 rG3 O0 S_a0s S_a1 S_a2 hr3 hp3 hi8 hrl hpl (own_sl rs ps) hin
  · exact rt0 l Z a0 hw ws a0s a1 a2 i rs ps G1 G3 h0 n0 Z0 O2 P5 O4 rG3 O0 S_a0s S_a1 S_a2 hr3 hp3 hi8 hrl hpl (own_sl rs ps) hin
def Q0 (n0 : Nat) (v : Option Value) (h : Heap) (L : List Loc) : Prop := v = some (.int (1 : Int32)) ∧ Fr n0 L
theorem own_ts_len (p1 p2 : Int32) : (own_cs p1 ++ own_sep ++ own_cs p2).length ≤ 4000 := by rw [own_sl]; have := own_cs_len p1; have := own_cs_len p2; omega
theorem own_tlen (p1 p2 : Int32) : Int32.ofNat (own_cs p1 ++ own_sep ++ own_cs p2).length = Int32.ofNat (own_cs p1).length + (2 : Int32) + Int32.ofNat (own_cs p2).length := by
  rw [own_sl]; rw [← own_addN, ← own_addN]; rfl
theorem own_pd__I_Ljava_lang_String_ : parseMethodDescriptor "(I)Ljava/lang/String;" = some ⟨[.int], some (.object "java/lang/String")⟩ := by decide +kernel
theorem own_pd__Ljava_lang_String_Ljava_lang_String__V : parseMethodDescriptor "(Ljava/lang/String;Ljava/lang/String;)V" = some ⟨[(.object "java/lang/String"), (.object "java/lang/String")], none⟩ := by decide +kernel
theorem own_pd__Ljava_lang_String_Ljava_lang_String_Ljava_lang_String_I_Z : parseMethodDescriptor "(Ljava/lang/String;Ljava/lang/String;Ljava/lang/String;I)Z" = some ⟨[(.object "java/lang/String"), (.object "java/lang/String"), (.object "java/lang/String"), .int], some .boolean⟩ := by decide +kernel
theorem own_ef_code_xx (m : MethodId) (x0 : Int32) (x1 : Int32) : entryFrame m #[(.int x0), (.int x1)] maxLocals = mkF m 0 #[.val (.int x0), .val (.int x1), .unset, .unset, .unset, .unset, .unset, .unset] [] := by first | (simp [entryFrame, mkF, argsToLocals, Value.category, maxLocals]; done) | rfl
set_option maxRecDepth 65536 in
set_option maxHeartbeats 40000000 in
theorem rm0 (l : Launch) (Z : State) (a0 : Array Value) (hw : ∀ d ∈ tables_1, d.before a0 Z = true) (ws : List Jvm.Cond) (hEL : EW Z a0 own_EL) (p1 p2 : Int32) (G1 : Int32) (G3 : Value) (h0 : Heap) (n0 : Nat) (Z0 : n0 ≤ h0.size) (O2 : Sta Z Z.heap "java/lang/String" "COMPACT_STRINGS" "Z" (.int G1)) (P5 : ¬ (G1 = (0 : Int32))) (O4 : Sta Z Z.heap "jdk/internal/util/Preconditions" "SIOOBE_FORMATTER" "Ljava/util/function/BiFunction;" G3) (rG3 : G3.isRef = true) (O0 : Old Z n0 h0) :
    MetFree l x (head1 (Jvm.Cond.code x code maxLocals ret :: ws) room_1) (fun a U => a = #[(.int p1), (.int p2)] ∧ Z.Warmed39 U.vm ∧ U.heap = h0 ∧ CHv Z own_EL U.vm h0) (fun _ _ _ _ _ => True) (fun _ U o U' => ∃ v L, o = .returned v ∧ Q0 n0 v U'.heap L ∧ CHr Z own_EL U.vm U.heap U'.vm U'.heap ∧ ReturnedEndW U o U' L room_1.cells room_1.slots) := by
  refine MetFree.of_bodySF (plainFor_of_name own_pn_com_example_treeward_treeward_engine_FindingToStringPinLaw) hisR ?_
  intro p e s m args below meth c s₁ Bd hml0 hP hK
  obtain ⟨rfl, hZ, hh, hCH0⟩ := hP
  have hx := Bd.exec
  have hby := Bd.bytes
  have hml : c.maxLocals = 8 := hml0
  have hown : s.vm.findClass "com/example/treeward/treeward/engine/FindingToStringPinLaw" = some m.cls := findClass_of_methodNamed Bd.named
  have hnm := (name_of_methodNamed Bd.named Bd.method).1
  have X0 : Stand p l e room_1 (s.setVm s.vm) m #[(.int p1), (.int p2)] below meth c s₁ [] 0 0 := Stand.of_body Bd
  have e0 : s₁.heap = h0 := by rw [← hh, Bd.state]; rfl
  have N0 := Fr.nil n0
  have CH0 : CHr Z own_EL s.vm h0 s.vm h0 := CHr.refl hCH0
  have hS0 : s.Since s.vm 0 := State.WarmedH.since (State.WarmedH.refl s) 0
  have pre0 : ∀ t, Steps p.tables e below (s₁.setTop (mkF m 0 #[.val (.int p1), .val (.int p2), .unset, .unset, .unset, .unset, .unset, .unset] [])) t → Steps p.tables e below (s₁.setTop (entryFrame m #[(.int p1), (.int p2)] maxLocals)) t := fun t k => castTop (own_ef_code_xx m p1 p2) k
  obtain ⟨_, _, ⟨T1, L1, k1, n1⟩, -, X1', hs1, hg1, ⟨Lc1, hQ1, l1, y1, z1, C1⟩, st1⟩ := callSS X0 hx (y := (⟨"com/example/treeward/treeward/engine/FindingToStringPinLaw", "mk", "(I)Ljava/lang/String;"⟩ : MethodName)) hown (mvT hZ (hw _ (List.mem_of_getElem? (i := 0) rfl))) (mvT hZ (hw _ (List.mem_of_getElem? (i := 1) rfl))) (mvT hZ (hw _ (List.mem_of_getElem? (i := 2) rfl))) (mvT hZ (hw _ (List.mem_of_getElem? (i := 3) rfl))) (by decide) (backOfSH (W := 0) (rmM l Z a0 hw [] hEL p1 G1 G3 h0 n0 (Nat.le_trans Z0 (Keep.refl h0 []).1) O2 P5 O4 rG3 O0) hZ (hw _ (List.mem_of_getElem? (i := 3) rfl)) (hw _ (List.mem_of_getElem? (i := 2) rfl)) (by decide) (by decide) hEL CH0.1) (g := (mkF m 1 #[.val (.int p1), .val (.int p2), .unset, .unset, .unset, .unset, .unset, .unset] [(.int p1)])) rfl (by rw [hml]; rfl) (argsL := [(.int p1)]) (rest := []) (lenOf own_pd__I_Ljava_lang_String_ rfl) rfl (by show 2 * 0 + _ ≤ _; exact Nat.le_of_eq rfl) (hb hby at_1) (fun _ _ => ⟨rfl, e0, (by decide : 0 + 4 ≤ _), (by decide : 0 + 10 ≤ _)⟩)
  dsimp only [Pt.U, Pt.locs, Pt.cells, Pt.slots] at X1' l1 y1 z1 st1 hQ1 C1 hs1 hg1
  subst l1 y1 z1
  obtain ⟨X1, hS1, hZ1, hown1⟩ := rebS hS0 (by rw [e0]; exact (Nat.zero_le _)) X1' hs1 hg1 hZ hown
  obtain ⟨r1, rfl, N1q, K1q, SV1⟩ := hQ1
  have N1a := Fr.app N0 N1q
  have CH1 : CHr Z own_EL s.vm h0 T1.vm T1.heap := CH0.trans C1
  have K1 : Keep h0 T1.heap [] := (Keep.refl h0 []).trans K1q all0
  have f3 : Old Z n0 T1.heap := (O0.keep K1q all0)
  obtain ⟨_, _, ⟨T2, L2, k2, n2⟩, -, X2', hs2, hg2, ⟨Lc2, hQ2, l2, y2, z2, C2⟩, st2⟩ := callSS X1 hx (y := (⟨"com/example/treeward/treeward/engine/FindingToStringPinLaw", "mk", "(I)Ljava/lang/String;"⟩ : MethodName)) hown1 (mvT hZ1 (hw _ (List.mem_of_getElem? (i := 0) rfl))) (mvT hZ1 (hw _ (List.mem_of_getElem? (i := 1) rfl))) (mvT hZ1 (hw _ (List.mem_of_getElem? (i := 2) rfl))) (mvT hZ1 (hw _ (List.mem_of_getElem? (i := 3) rfl))) (by decide) (backOfSH (W := 0) (rmM l Z a0 hw [] hEL p2 G1 G3 T1.heap n0 (Nat.le_trans Z0 K1.1) O2 P5 O4 rG3 f3) hZ1 (hw _ (List.mem_of_getElem? (i := 3) rfl)) (hw _ (List.mem_of_getElem? (i := 2) rfl)) (by decide) (by decide) hEL CH1.1) (g := (mkF m 6 #[.val (.int p1), .val (.int p2), .val (.ref r1), .unset, .unset, .unset, .unset, .unset] [(.int p2)])) rfl (by rw [hml]; rfl) (argsL := [(.int p2)]) (rest := []) (lenOf own_pd__I_Ljava_lang_String_ rfl) rfl (by show 2 * 0 + _ ≤ _; exact Nat.le_of_eq rfl) (hb hby at_6) (fun _ _ => ⟨rfl, rfl, (by decide : 4 + 4 ≤ _), (by decide : 10 + 10 ≤ _)⟩)
  dsimp only [Pt.U, Pt.locs, Pt.cells, Pt.slots] at X2' l2 y2 z2 st2 hQ2 C2 hs2 hg2
  subst l2 y2 z2
  obtain ⟨X2, hS2, hZ2, hown2⟩ := rebS hS1 (Nat.le_refl _) X2' hs2 hg2 hZ1 hown1
  obtain ⟨r2, rfl, N2q, K2q, SV2⟩ := hQ2
  have N2a := Fr.app N1a N2q
  have CH2 : CHr Z own_EL s.vm h0 T2.vm T2.heap := CH1.trans C2
  have K2 : Keep h0 T2.heap [] := K1.trans K2q all0
  obtain ⟨T4, h4, X4, e4, E4, A4, D4, -, st4⟩ := newO X2 hx hZ2 hown2 (hw _ (List.mem_of_getElem? (i := 26) rfl)) (hw _ (List.mem_of_getElem? (i := 27) rfl)) (hw _ (List.mem_of_getElem? (i := 28) rfl)) rfl (g := (mkF m 10 #[.val (.int p1), .val (.int p2), .val (.ref r1), .val (.ref r2), .unset, .unset, .unset, .unset] [])) rfl (hb hby at_10) (by decide) (by decide)
  obtain ⟨b4, g4⟩ : ∃ z, z = T2.heap.size := ⟨_, rfl⟩
  rw [← g4] at A4 D4 st4
  have sz_b4 : h0.size ≤ b4 := Nat.le_trans K2.1 (Nat.le_of_eq g4.symm)
  have g_b4 : n0 ≤ b4 := Nat.le_trans Z0 sz_b4
  have CH3 : CHr Z own_EL s.vm h0 T2.vm h4 := CH2.trans (CHr.ext E4 CH2.1)
  have K3 : Keep h0 h4 [] := K2.ext E4
  have F_resource_b4 : Fld Z h4 b4 "com/example/treeward/treeward/engine/Finding" "resource" "Ljava/lang/String;" .null := D4 (Or.inr (hw _ (List.mem_of_getElem? (i := 34) rfl))) (ty := (.object "java/lang/String")) (by decide)
  have F_problem_b4 : Fld Z h4 b4 "com/example/treeward/treeward/engine/Finding" "problem" "Ljava/lang/String;" .null := D4 (Or.inr (hw _ (List.mem_of_getElem? (i := 36) rfl))) (ty := (.object "java/lang/String")) (by decide)
  obtain ⟨_, _, ⟨T5, L5, k5, n5⟩, -, X5, ⟨Lc5, hQ5, l5, y5, z5⟩, st5⟩ := X4.specialBack hx (y := (⟨"com/example/treeward/treeward/engine/Finding", "<init>", "(Ljava/lang/String;Ljava/lang/String;)V"⟩ : MethodName)) rfl hown2 (mvT hZ2 (hw _ (List.mem_of_getElem? (i := 29) rfl))) (mvT hZ2 (hw _ (List.mem_of_getElem? (i := 30) rfl))) (mvT hZ2 (hw _ (List.mem_of_getElem? (i := 31) rfl))) (by decide) (backOf (W := 1) (rmFi l Z a0 hw [] b4 r1 r2 h4 n0 (Nat.le_trans Z0 K3.1) A4 F_resource_b4 F_problem_b4 g_b4) hZ2 (hw _ (List.mem_of_getElem? (i := 31) rfl)) (hw _ (List.mem_of_getElem? (i := 28) rfl)) (by decide) (by decide)) (g := (mkF m 16 #[.val (.int p1), .val (.int p2), .val (.ref r1), .val (.ref r2), .unset, .unset, .unset, .unset] [(.ref r2), (.ref r1), (.ref b4), (.ref b4)])) rfl (by rw [hml]; rfl) (Steps.refl _) (a := b4) (argsL := [(.ref r1), (.ref r2)]) (rest := [(.ref b4)]) (lenOf own_pd__Ljava_lang_String_Ljava_lang_String__V rfl) rfl (by show 2 * 0 + _ ≤ _; exact Nat.le_of_eq rfl) (hb hby at_16) (fun _ _ => ⟨rfl, e4, (by decide : 9 + 0 ≤ _), (by decide : 22 + 0 ≤ _)⟩)
  dsimp only [Pt.U, Pt.locs, Pt.cells, Pt.slots] at X5 l5 y5 z5 st5 hQ5
  subst l5 y5 z5
  obtain ⟨rfl, N5q, K5q, Fr5, Fp5⟩ := hQ5
  have N5a := Fr.app N2a N5q
  have CH4 : CHr Z own_EL s.vm h0 T2.vm T5.heap := CH3.trans (CHr.keep K5q (allS (Safe.exa (hZ2 : Z.Warmed39 T2.vm).alike A4 (by decide) (by decide)) all0) CH3.1)
  have K4 : Keep h0 T5.heap [] := K3.trans K5q (allS (Or.inr sz_b4) all0)
  have f7 : Old Z n0 T5.heap := (((f3.keep K2q all0).ext E4).keep K5q (allS g_b4 all0))
  have f8 : Exa Z T5.heap b4 "com/example/treeward/treeward/engine/Finding" := (A4.keep K5q)
  have f9 : StrV Z T5.heap r1 (own_cs p1) := (SV1.keep0 ((((Keep.refl T1.heap []).trans K2q all0).ext E4).trans K5q (allS (Or.inr (Nat.le_trans ((Keep.refl T1.heap []).trans K2q all0).1 (Nat.le_of_eq g4.symm))) all0)))
  have f10 : StrV Z T5.heap r2 (own_cs p2) := (SV2.keep0 (((Keep.refl T2.heap []).ext E4).trans K5q (allS (Or.inr (Nat.le_trans (Keep.refl T2.heap []).1 (Nat.le_of_eq g4.symm))) all0)))
  obtain ⟨cq6, kq6, q6a, q6b, q6c⟩ := isOf hZ2 rfl f8
  obtain ⟨_, _, ⟨T6, L6, k6, n6⟩, -, X6', hs6, hg6, ⟨Lc6, hQ6, l6, y6, z6, C6⟩, st6⟩ := X5.virtualBackS hx (y := (⟨"com/example/treeward/treeward/engine/Finding", "toString", "()Ljava/lang/String;"⟩ : MethodName)) (z := (⟨"com/example/treeward/treeward/engine/Finding", "toString", "()Ljava/lang/String;"⟩ : MethodName)) hown2 (mvT hZ2 (hw _ (List.mem_of_getElem? (i := 37) rfl))) (mvT hZ2 (hw _ (List.mem_of_getElem? (i := 38) rfl))) (notFace_of_selects (args := #[]) (mvT hZ2 (hw _ (List.mem_of_getElem? (i := 40) rfl)))) (mvT hZ2 (hw _ (List.mem_of_getElem? (i := 40) rfl))) (mvT hZ2 (hw _ (List.mem_of_getElem? (i := 39) rfl))) (by decide) (backOfSH (W := 0) (rmFt l Z a0 hw [] hEL b4 r1 r2 (own_cs p1) (own_cs p2) G1 G3 T5.heap n0 (Nat.le_trans Z0 K4.1) O2 P5 O4 rG3 f7 f8 Fr5 Fp5 f9 f10 (own_cs_len p1) (own_cs_len p2) (own_cs_lat p1) (own_cs_lat p2)) hZ2 (hw _ (List.mem_of_getElem? (i := 41) rfl)) (hw _ (List.mem_of_getElem? (i := 28) rfl)) (by decide) (by decide) hEL CH4.1) q6a q6c (g := (mkF m 23 #[.val (.int p1), .val (.int p2), .val (.ref r1), .val (.ref r2), .val (.ref b4), .unset, .unset, .unset] [(.ref b4)])) rfl (by rw [hml]; rfl) (Steps.refl _) (argsL := []) (rest := []) (lenOf own_pd___Ljava_lang_String_ rfl) rfl (by show 2 * 0 + _ ≤ _; exact Nat.le_of_eq rfl) (hb hby at_23) (fun _ _ => ⟨rfl, rfl, (by decide : 9 + 6 ≤ _), (by decide : 22 + 60 ≤ _)⟩)
  dsimp only [Pt.U, Pt.locs, Pt.cells, Pt.slots] at X6' l6 y6 z6 st6 hQ6 C6 hs6 hg6
  subst l6 y6 z6
  have hk_11 := Nat.le_trans (Nat.le_refl _) (((Keep.refl T2.heap []).ext E4).trans K5q (allS (Or.inr (Nat.le_trans (Keep.refl T2.heap []).1 (Nat.le_of_eq g4.symm))) all0)).1
  obtain ⟨X6, hS6, hZ6, hown6⟩ := rebS hS2 hk_11 X6' hs6 hg6 hZ2 hown2
  obtain ⟨r6, rfl, N6q, K6q, SV6⟩ := hQ6
  have N6a := Fr.app N5a N6q
  have CH5 : CHr Z own_EL s.vm h0 T6.vm T6.heap := CH4.trans C6
  have K5 : Keep h0 T6.heap [] := K4.trans K6q all0
  have f13 : StrV Z T6.heap r1 (own_cs p1) := (f9.keep0 ((Keep.refl T5.heap []).trans K6q all0))
  obtain ⟨sb14, sk14, sN14, sv14, sE14, sV14, sC14, sA14, sc14, su14⟩ := id f13
  have f15 : Old Z n0 T6.heap := (f7.keep K6q all0)
  obtain ⟨cq12, kq12, q12a, q12b, q12c⟩ := isOf hZ6 rfl f13.exa
  obtain ⟨_, _, ⟨T12, L12, k12, n12⟩, -, X12, ⟨Lc12, hQ12, l12, y12, z12⟩, st12⟩ := X6.virtualBack hx (y := (⟨"java/lang/String", "length", "()I"⟩ : MethodName)) (z := (⟨"java/lang/String", "length", "()I"⟩ : MethodName)) hown6 (mvT hZ6 (hw _ (List.mem_of_getElem? (i := 154) rfl))) (mvT hZ6 (hw _ (List.mem_of_getElem? (i := 71) rfl))) (notFace_of_selects (args := #[]) (mvT hZ6 (hw _ (List.mem_of_getElem? (i := 73) rfl)))) (mvT hZ6 (hw _ (List.mem_of_getElem? (i := 73) rfl))) (mvT hZ6 (hw _ (List.mem_of_getElem? (i := 72) rfl))) (by decide) (StrChars.Road.lenW (W := 0) hZ6 (own_hlen hw) (kI := 4) (hw _ (List.mem_of_getElem? (i := 5) rfl)) sE14 sV14 sC14 sA14 sc14 su14 (O2.ext f15.2) P5 (Nat.le_trans (own_cs_len p1) (by decide)) (by decide) (by decide)) q12a q12c (g := (mkF m 36 #[.val (.int p1), .val (.int p2), .val (.ref r1), .val (.ref r2), .val (.ref b4), .val (.ref r6), .unset, .unset] [(.ref r1)])) rfl (by rw [hml]; rfl) (Steps.refl _) (argsL := []) (rest := []) (lenOf own_pd___I rfl) rfl (by show 2 * 0 + _ ≤ _; exact Nat.le_of_eq rfl) (hb hby at_36) (fun _ _ => ⟨rfl, rfl, (by decide : 15 + 0 ≤ _), (by decide : 82 + 0 ≤ _)⟩)
  dsimp only [Pt.U, Pt.locs, Pt.cells, Pt.slots] at X12 l12 y12 z12 st12 hQ12
  subst l12 y12 z12
  obtain ⟨rfl, rfl, e12q⟩ := hQ12
  have N12a := Fr.app N6a (Fr.nil n0)
  have f17 : StrV Z T6.heap r2 (own_cs p2) := (f10.keep0 ((Keep.refl T5.heap []).trans K6q all0))
  obtain ⟨sb18, sk18, sN18, sv18, sE18, sV18, sC18, sA18, sc18, su18⟩ := id f17
  obtain ⟨cq16, kq16, q16a, q16b, q16c⟩ := isOf hZ6 e12q f17.exa
  obtain ⟨_, _, ⟨T16, L16, k16, n16⟩, -, X16, ⟨Lc16, hQ16, l16, y16, z16⟩, st16⟩ := X12.virtualBack hx (y := (⟨"java/lang/String", "length", "()I"⟩ : MethodName)) (z := (⟨"java/lang/String", "length", "()I"⟩ : MethodName)) hown6 (mvT hZ6 (hw _ (List.mem_of_getElem? (i := 154) rfl))) (mvT hZ6 (hw _ (List.mem_of_getElem? (i := 71) rfl))) (notFace_of_selects (args := #[]) (mvT hZ6 (hw _ (List.mem_of_getElem? (i := 73) rfl)))) (mvT hZ6 (hw _ (List.mem_of_getElem? (i := 73) rfl))) (mvT hZ6 (hw _ (List.mem_of_getElem? (i := 72) rfl))) (by decide) (StrChars.Road.lenW (W := 0) hZ6 (own_hlen hw) (kI := 4) (hw _ (List.mem_of_getElem? (i := 5) rfl)) sE18 sV18 sC18 sA18 sc18 su18 (O2.ext f15.2) P5 (Nat.le_trans (own_cs_len p2) (by decide)) (by decide) (by decide)) q16a q16c (g := (mkF m 42 #[.val (.int p1), .val (.int p2), .val (.ref r1), .val (.ref r2), .val (.ref b4), .val (.ref r6), .val (.int (Int32.ofNat (own_cs p1).length)), .unset] [(.ref r2)])) rfl (by rw [hml]; rfl) (Steps.refl _) (argsL := []) (rest := []) (lenOf own_pd___I rfl) rfl (by show 2 * 0 + _ ≤ _; exact Nat.le_of_eq rfl) (hb hby at_42) (fun _ _ => ⟨rfl, e12q, (by decide : 15 + 0 ≤ _), (by decide : 82 + 0 ≤ _)⟩)
  dsimp only [Pt.U, Pt.locs, Pt.cells, Pt.slots] at X16 l16 y16 z16 st16 hQ16
  subst l16 y16 z16
  obtain ⟨rfl, rfl, e16q⟩ := hQ16
  have N16a := Fr.app N12a (Fr.nil n0)
  obtain ⟨sb20, sk20, sN20, sv20, sE20, sV20, sC20, sA20, sc20, su20⟩ := id SV6
  obtain ⟨cq19, kq19, q19a, q19b, q19c⟩ := isOf hZ6 e16q SV6.exa
  obtain ⟨_, _, ⟨T19, L19, k19, n19⟩, -, X19, ⟨Lc19, hQ19, l19, y19, z19⟩, st19⟩ := X16.virtualBack hx (y := (⟨"java/lang/String", "length", "()I"⟩ : MethodName)) (z := (⟨"java/lang/String", "length", "()I"⟩ : MethodName)) hown6 (mvT hZ6 (hw _ (List.mem_of_getElem? (i := 154) rfl))) (mvT hZ6 (hw _ (List.mem_of_getElem? (i := 71) rfl))) (notFace_of_selects (args := #[]) (mvT hZ6 (hw _ (List.mem_of_getElem? (i := 73) rfl)))) (mvT hZ6 (hw _ (List.mem_of_getElem? (i := 73) rfl))) (mvT hZ6 (hw _ (List.mem_of_getElem? (i := 72) rfl))) (by decide) (StrChars.Road.lenW (W := 0) hZ6 (own_hlen hw) (kI := 4) (hw _ (List.mem_of_getElem? (i := 5) rfl)) sE20 sV20 sC20 sA20 sc20 su20 (O2.ext f15.2) P5 (own_ts_len p1 p2) (by decide) (by decide)) q19a q19c (g := (mkF m 49 #[.val (.int p1), .val (.int p2), .val (.ref r1), .val (.ref r2), .val (.ref b4), .val (.ref r6), .val (.int (Int32.ofNat (own_cs p1).length)), .val (.int (Int32.ofNat (own_cs p2).length))] [(.ref r6)])) rfl (by rw [hml]; rfl) (Steps.refl _) (argsL := []) (rest := []) (lenOf own_pd___I rfl) rfl (by show 2 * 0 + _ ≤ _; exact Nat.le_of_eq rfl) (hb hby at_49) (fun _ _ => ⟨rfl, e16q, (by decide : 15 + 0 ≤ _), (by decide : 82 + 0 ≤ _)⟩)
  dsimp only [Pt.U, Pt.locs, Pt.cells, Pt.slots] at X19 l19 y19 z19 st19 hQ19
  subst l19 y19 z19
  obtain ⟨rfl, rfl, e19q⟩ := hQ19
  have N19a := Fr.app N16a (Fr.nil n0)
  obtain ⟨_, _, ⟨T21, L21, k21, n21⟩, -, X21, ⟨Lc21, hQ21, l21, y21, z21⟩, st21⟩ := Jvm.LawKit.callS X19 hx (y := (⟨"com/example/treeward/treeward/engine/FindingToStringPinLaw", "at", "(Ljava/lang/String;Ljava/lang/String;Ljava/lang/String;I)Z"⟩ : MethodName)) hown6 (mvT hZ6 (hw _ (List.mem_of_getElem? (i := 155) rfl))) (mvT hZ6 (hw _ (List.mem_of_getElem? (i := 156) rfl))) (mvT hZ6 (hw _ (List.mem_of_getElem? (i := 2) rfl))) (mvT hZ6 (hw _ (List.mem_of_getElem? (i := 157) rfl))) (by decide) (backOf (W := 0) (rmT l Z a0 hw [] r6 r1 r2 0 (own_cs p1) (own_cs p2) G1 G3 T6.heap n0 (Nat.le_trans Z0 K5.1) O2 P5 O4 rG3 f15 SV6 f13 f17 (own_cs_len p1) (own_cs_len p2) (by decide) (own_cs_lat p1) (own_cs_lat p2)) hZ6 (hw _ (List.mem_of_getElem? (i := 157) rfl)) (hw _ (List.mem_of_getElem? (i := 2) rfl)) (by decide) (by decide)) (g := (mkF m 69 #[.val (.int p1), .val (.int p2), .val (.ref r1), .val (.ref r2), .val (.ref b4), .val (.ref r6), .val (.int (Int32.ofNat (own_cs p1).length)), .val (.int (Int32.ofNat (own_cs p2).length))] [(.int (0 : Int32)), (.ref r2), (.ref r1), (.ref r6)])) rfl (by rw [hml]; rfl) (argsL := [(.ref r6), (.ref r1), (.ref r2), (.int (0 : Int32))]) (rest := []) (lenOf own_pd__Ljava_lang_String_Ljava_lang_String_Ljava_lang_String_I_Z rfl) rfl (by show 2 * 0 + _ ≤ _; exact Nat.le_of_eq rfl) (hb hby at_69) (fun _ _ => ⟨rfl, e19q, (by decide : 15 + 0 ≤ _), (by decide : 82 + 0 ≤ _)⟩)
  dsimp only [Pt.U, Pt.locs, Pt.cells, Pt.slots] at X21 l21 y21 z21 st21 hQ21
  subst l21 y21 z21
  obtain ⟨rfl, N21q, e21q⟩ := hQ21
  have N21a := Fr.app N19a N21q
  obtain ⟨_, _, ⟨T22, L22, k22, n22⟩, -, X22, ⟨Lc22, hQ22, l22, y22, z22⟩, st22⟩ := Jvm.LawKit.callS X21 hx (y := (⟨"com/example/treeward/treeward/engine/FindingToStringPinLaw", "at", "(Ljava/lang/String;Ljava/lang/String;Ljava/lang/String;I)Z"⟩ : MethodName)) hown6 (mvT hZ6 (hw _ (List.mem_of_getElem? (i := 155) rfl))) (mvT hZ6 (hw _ (List.mem_of_getElem? (i := 156) rfl))) (mvT hZ6 (hw _ (List.mem_of_getElem? (i := 2) rfl))) (mvT hZ6 (hw _ (List.mem_of_getElem? (i := 157) rfl))) (by decide) (backOf (W := 0) (rmT l Z a0 hw [] r6 r1 r2 1 (own_cs p1) (own_cs p2) G1 G3 T6.heap n0 (Nat.le_trans Z0 K5.1) O2 P5 O4 rG3 f15 SV6 f13 f17 (own_cs_len p1) (own_cs_len p2) (by decide) (own_cs_lat p1) (own_cs_lat p2)) hZ6 (hw _ (List.mem_of_getElem? (i := 157) rfl)) (hw _ (List.mem_of_getElem? (i := 2) rfl)) (by decide) (by decide)) (g := (mkF m 80 #[.val (.int p1), .val (.int p2), .val (.ref r1), .val (.ref r2), .val (.ref b4), .val (.ref r6), .val (.int (Int32.ofNat (own_cs p1).length)), .val (.int (Int32.ofNat (own_cs p2).length))] [(.int (1 : Int32)), (.ref r2), (.ref r1), (.ref r6)])) rfl (by rw [hml]; rfl) (argsL := [(.ref r6), (.ref r1), (.ref r2), (.int (1 : Int32))]) (rest := []) (lenOf own_pd__Ljava_lang_String_Ljava_lang_String_Ljava_lang_String_I_Z rfl) rfl (by show 2 * 0 + _ ≤ _; exact Nat.le_of_eq rfl) (hb hby at_80) (fun _ _ => ⟨rfl, e21q, (by decide : 15 + 0 ≤ _), (by decide : 82 + 0 ≤ _)⟩)
  dsimp only [Pt.U, Pt.locs, Pt.cells, Pt.slots] at X22 l22 y22 z22 st22 hQ22
  subst l22 y22 z22
  obtain ⟨rfl, N22q, e22q⟩ := hQ22
  have N22a := Fr.app N21a N22q
  obtain ⟨_, _, ⟨T23, L23, k23, n23⟩, -, X23, ⟨Lc23, hQ23, l23, y23, z23⟩, st23⟩ := Jvm.LawKit.callS X22 hx (y := (⟨"com/example/treeward/treeward/engine/FindingToStringPinLaw", "at", "(Ljava/lang/String;Ljava/lang/String;Ljava/lang/String;I)Z"⟩ : MethodName)) hown6 (mvT hZ6 (hw _ (List.mem_of_getElem? (i := 155) rfl))) (mvT hZ6 (hw _ (List.mem_of_getElem? (i := 156) rfl))) (mvT hZ6 (hw _ (List.mem_of_getElem? (i := 2) rfl))) (mvT hZ6 (hw _ (List.mem_of_getElem? (i := 157) rfl))) (by decide) (backOf (W := 0) (rmT l Z a0 hw [] r6 r1 r2 2 (own_cs p1) (own_cs p2) G1 G3 T6.heap n0 (Nat.le_trans Z0 K5.1) O2 P5 O4 rG3 f15 SV6 f13 f17 (own_cs_len p1) (own_cs_len p2) (by decide) (own_cs_lat p1) (own_cs_lat p2)) hZ6 (hw _ (List.mem_of_getElem? (i := 157) rfl)) (hw _ (List.mem_of_getElem? (i := 2) rfl)) (by decide) (by decide)) (g := (mkF m 91 #[.val (.int p1), .val (.int p2), .val (.ref r1), .val (.ref r2), .val (.ref b4), .val (.ref r6), .val (.int (Int32.ofNat (own_cs p1).length)), .val (.int (Int32.ofNat (own_cs p2).length))] [(.int (2 : Int32)), (.ref r2), (.ref r1), (.ref r6)])) rfl (by rw [hml]; rfl) (argsL := [(.ref r6), (.ref r1), (.ref r2), (.int (2 : Int32))]) (rest := []) (lenOf own_pd__Ljava_lang_String_Ljava_lang_String_Ljava_lang_String_I_Z rfl) rfl (by show 2 * 0 + _ ≤ _; exact Nat.le_of_eq rfl) (hb hby at_91) (fun _ _ => ⟨rfl, e22q, (by decide : 15 + 0 ≤ _), (by decide : 82 + 0 ≤ _)⟩)
  dsimp only [Pt.U, Pt.locs, Pt.cells, Pt.slots] at X23 l23 y23 z23 st23 hQ23
  subst l23 y23 z23
  obtain ⟨rfl, N23q, e23q⟩ := hQ23
  have N23a := Fr.app N22a N23q
  obtain ⟨_, _, ⟨T24, L24, k24, n24⟩, -, X24, ⟨Lc24, hQ24, l24, y24, z24⟩, st24⟩ := Jvm.LawKit.callS X23 hx (y := (⟨"com/example/treeward/treeward/engine/FindingToStringPinLaw", "at", "(Ljava/lang/String;Ljava/lang/String;Ljava/lang/String;I)Z"⟩ : MethodName)) hown6 (mvT hZ6 (hw _ (List.mem_of_getElem? (i := 155) rfl))) (mvT hZ6 (hw _ (List.mem_of_getElem? (i := 156) rfl))) (mvT hZ6 (hw _ (List.mem_of_getElem? (i := 2) rfl))) (mvT hZ6 (hw _ (List.mem_of_getElem? (i := 157) rfl))) (by decide) (backOf (W := 0) (rmT l Z a0 hw [] r6 r1 r2 3 (own_cs p1) (own_cs p2) G1 G3 T6.heap n0 (Nat.le_trans Z0 K5.1) O2 P5 O4 rG3 f15 SV6 f13 f17 (own_cs_len p1) (own_cs_len p2) (by decide) (own_cs_lat p1) (own_cs_lat p2)) hZ6 (hw _ (List.mem_of_getElem? (i := 157) rfl)) (hw _ (List.mem_of_getElem? (i := 2) rfl)) (by decide) (by decide)) (g := (mkF m 102 #[.val (.int p1), .val (.int p2), .val (.ref r1), .val (.ref r2), .val (.ref b4), .val (.ref r6), .val (.int (Int32.ofNat (own_cs p1).length)), .val (.int (Int32.ofNat (own_cs p2).length))] [(.int (3 : Int32)), (.ref r2), (.ref r1), (.ref r6)])) rfl (by rw [hml]; rfl) (argsL := [(.ref r6), (.ref r1), (.ref r2), (.int (3 : Int32))]) (rest := []) (lenOf own_pd__Ljava_lang_String_Ljava_lang_String_Ljava_lang_String_I_Z rfl) rfl (by show 2 * 0 + _ ≤ _; exact Nat.le_of_eq rfl) (hb hby at_102) (fun _ _ => ⟨rfl, e23q, (by decide : 15 + 0 ≤ _), (by decide : 82 + 0 ≤ _)⟩)
  dsimp only [Pt.U, Pt.locs, Pt.cells, Pt.slots] at X24 l24 y24 z24 st24 hQ24
  subst l24 y24 z24
  obtain ⟨rfl, N24q, e24q⟩ := hQ24
  have N24a := Fr.app N23a N24q
  obtain ⟨_, _, ⟨T25, L25, k25, n25⟩, -, X25, ⟨Lc25, hQ25, l25, y25, z25⟩, st25⟩ := Jvm.LawKit.callS X24 hx (y := (⟨"com/example/treeward/treeward/engine/FindingToStringPinLaw", "at", "(Ljava/lang/String;Ljava/lang/String;Ljava/lang/String;I)Z"⟩ : MethodName)) hown6 (mvT hZ6 (hw _ (List.mem_of_getElem? (i := 155) rfl))) (mvT hZ6 (hw _ (List.mem_of_getElem? (i := 156) rfl))) (mvT hZ6 (hw _ (List.mem_of_getElem? (i := 2) rfl))) (mvT hZ6 (hw _ (List.mem_of_getElem? (i := 157) rfl))) (by decide) (backOf (W := 0) (rmT l Z a0 hw [] r6 r1 r2 4 (own_cs p1) (own_cs p2) G1 G3 T6.heap n0 (Nat.le_trans Z0 K5.1) O2 P5 O4 rG3 f15 SV6 f13 f17 (own_cs_len p1) (own_cs_len p2) (by decide) (own_cs_lat p1) (own_cs_lat p2)) hZ6 (hw _ (List.mem_of_getElem? (i := 157) rfl)) (hw _ (List.mem_of_getElem? (i := 2) rfl)) (by decide) (by decide)) (g := (mkF m 113 #[.val (.int p1), .val (.int p2), .val (.ref r1), .val (.ref r2), .val (.ref b4), .val (.ref r6), .val (.int (Int32.ofNat (own_cs p1).length)), .val (.int (Int32.ofNat (own_cs p2).length))] [(.int (4 : Int32)), (.ref r2), (.ref r1), (.ref r6)])) rfl (by rw [hml]; rfl) (argsL := [(.ref r6), (.ref r1), (.ref r2), (.int (4 : Int32))]) (rest := []) (lenOf own_pd__Ljava_lang_String_Ljava_lang_String_Ljava_lang_String_I_Z rfl) rfl (by show 2 * 0 + _ ≤ _; exact Nat.le_of_eq rfl) (hb hby at_113) (fun _ _ => ⟨rfl, e24q, (by decide : 15 + 0 ≤ _), (by decide : 82 + 0 ≤ _)⟩)
  dsimp only [Pt.U, Pt.locs, Pt.cells, Pt.slots] at X25 l25 y25 z25 st25 hQ25
  subst l25 y25 z25
  obtain ⟨rfl, N25q, e25q⟩ := hQ25
  have N25a := Fr.app N24a N25q
  obtain ⟨_, _, ⟨T26, L26, k26, n26⟩, -, X26, ⟨Lc26, hQ26, l26, y26, z26⟩, st26⟩ := Jvm.LawKit.callS X25 hx (y := (⟨"com/example/treeward/treeward/engine/FindingToStringPinLaw", "at", "(Ljava/lang/String;Ljava/lang/String;Ljava/lang/String;I)Z"⟩ : MethodName)) hown6 (mvT hZ6 (hw _ (List.mem_of_getElem? (i := 155) rfl))) (mvT hZ6 (hw _ (List.mem_of_getElem? (i := 156) rfl))) (mvT hZ6 (hw _ (List.mem_of_getElem? (i := 2) rfl))) (mvT hZ6 (hw _ (List.mem_of_getElem? (i := 157) rfl))) (by decide) (backOf (W := 0) (rmT l Z a0 hw [] r6 r1 r2 5 (own_cs p1) (own_cs p2) G1 G3 T6.heap n0 (Nat.le_trans Z0 K5.1) O2 P5 O4 rG3 f15 SV6 f13 f17 (own_cs_len p1) (own_cs_len p2) (by decide) (own_cs_lat p1) (own_cs_lat p2)) hZ6 (hw _ (List.mem_of_getElem? (i := 157) rfl)) (hw _ (List.mem_of_getElem? (i := 2) rfl)) (by decide) (by decide)) (g := (mkF m 124 #[.val (.int p1), .val (.int p2), .val (.ref r1), .val (.ref r2), .val (.ref b4), .val (.ref r6), .val (.int (Int32.ofNat (own_cs p1).length)), .val (.int (Int32.ofNat (own_cs p2).length))] [(.int (5 : Int32)), (.ref r2), (.ref r1), (.ref r6)])) rfl (by rw [hml]; rfl) (argsL := [(.ref r6), (.ref r1), (.ref r2), (.int (5 : Int32))]) (rest := []) (lenOf own_pd__Ljava_lang_String_Ljava_lang_String_Ljava_lang_String_I_Z rfl) rfl (by show 2 * 0 + _ ≤ _; exact Nat.le_of_eq rfl) (hb hby at_124) (fun _ _ => ⟨rfl, e25q, (by decide : 15 + 0 ≤ _), (by decide : 82 + 0 ≤ _)⟩)
  dsimp only [Pt.U, Pt.locs, Pt.cells, Pt.slots] at X26 l26 y26 z26 st26 hQ26
  subst l26 y26 z26
  obtain ⟨rfl, N26q, e26q⟩ := hQ26
  have N26a := Fr.app N25a N26q
  obtain ⟨_, _, ⟨T27, L27, k27, n27⟩, -, X27, ⟨Lc27, hQ27, l27, y27, z27⟩, st27⟩ := Jvm.LawKit.callS X26 hx (y := (⟨"com/example/treeward/treeward/engine/FindingToStringPinLaw", "at", "(Ljava/lang/String;Ljava/lang/String;Ljava/lang/String;I)Z"⟩ : MethodName)) hown6 (mvT hZ6 (hw _ (List.mem_of_getElem? (i := 155) rfl))) (mvT hZ6 (hw _ (List.mem_of_getElem? (i := 156) rfl))) (mvT hZ6 (hw _ (List.mem_of_getElem? (i := 2) rfl))) (mvT hZ6 (hw _ (List.mem_of_getElem? (i := 157) rfl))) (by decide) (backOf (W := 0) (rmT l Z a0 hw [] r6 r1 r2 6 (own_cs p1) (own_cs p2) G1 G3 T6.heap n0 (Nat.le_trans Z0 K5.1) O2 P5 O4 rG3 f15 SV6 f13 f17 (own_cs_len p1) (own_cs_len p2) (by decide) (own_cs_lat p1) (own_cs_lat p2)) hZ6 (hw _ (List.mem_of_getElem? (i := 157) rfl)) (hw _ (List.mem_of_getElem? (i := 2) rfl)) (by decide) (by decide)) (g := (mkF m 136 #[.val (.int p1), .val (.int p2), .val (.ref r1), .val (.ref r2), .val (.ref b4), .val (.ref r6), .val (.int (Int32.ofNat (own_cs p1).length)), .val (.int (Int32.ofNat (own_cs p2).length))] [(.int (6 : Int32)), (.ref r2), (.ref r1), (.ref r6)])) rfl (by rw [hml]; rfl) (argsL := [(.ref r6), (.ref r1), (.ref r2), (.int (6 : Int32))]) (rest := []) (lenOf own_pd__Ljava_lang_String_Ljava_lang_String_Ljava_lang_String_I_Z rfl) rfl (by show 2 * 0 + _ ≤ _; exact Nat.le_of_eq rfl) (hb hby at_136) (fun _ _ => ⟨rfl, e26q, (by decide : 15 + 0 ≤ _), (by decide : 82 + 0 ≤ _)⟩)
  dsimp only [Pt.U, Pt.locs, Pt.cells, Pt.slots] at X27 l27 y27 z27 st27 hQ27
  subst l27 y27 z27
  obtain ⟨rfl, N27q, e27q⟩ := hQ27
  have N27a := Fr.app N26a N27q
  obtain ⟨_, _, ⟨T28, L28, k28, n28⟩, -, X28, ⟨Lc28, hQ28, l28, y28, z28⟩, st28⟩ := Jvm.LawKit.callS X27 hx (y := (⟨"com/example/treeward/treeward/engine/FindingToStringPinLaw", "at", "(Ljava/lang/String;Ljava/lang/String;Ljava/lang/String;I)Z"⟩ : MethodName)) hown6 (mvT hZ6 (hw _ (List.mem_of_getElem? (i := 155) rfl))) (mvT hZ6 (hw _ (List.mem_of_getElem? (i := 156) rfl))) (mvT hZ6 (hw _ (List.mem_of_getElem? (i := 2) rfl))) (mvT hZ6 (hw _ (List.mem_of_getElem? (i := 157) rfl))) (by decide) (backOf (W := 0) (rmT l Z a0 hw [] r6 r1 r2 7 (own_cs p1) (own_cs p2) G1 G3 T6.heap n0 (Nat.le_trans Z0 K5.1) O2 P5 O4 rG3 f15 SV6 f13 f17 (own_cs_len p1) (own_cs_len p2) (by decide) (own_cs_lat p1) (own_cs_lat p2)) hZ6 (hw _ (List.mem_of_getElem? (i := 157) rfl)) (hw _ (List.mem_of_getElem? (i := 2) rfl)) (by decide) (by decide)) (g := (mkF m 148 #[.val (.int p1), .val (.int p2), .val (.ref r1), .val (.ref r2), .val (.ref b4), .val (.ref r6), .val (.int (Int32.ofNat (own_cs p1).length)), .val (.int (Int32.ofNat (own_cs p2).length))] [(.int (7 : Int32)), (.ref r2), (.ref r1), (.ref r6)])) rfl (by rw [hml]; rfl) (argsL := [(.ref r6), (.ref r1), (.ref r2), (.int (7 : Int32))]) (rest := []) (lenOf own_pd__Ljava_lang_String_Ljava_lang_String_Ljava_lang_String_I_Z rfl) rfl (by show 2 * 0 + _ ≤ _; exact Nat.le_of_eq rfl) (hb hby at_148) (fun _ _ => ⟨rfl, e27q, (by decide : 15 + 0 ≤ _), (by decide : 82 + 0 ≤ _)⟩)
  dsimp only [Pt.U, Pt.locs, Pt.cells, Pt.slots] at X28 l28 y28 z28 st28 hQ28
  subst l28 y28 z28
  obtain ⟨rfl, N28q, e28q⟩ := hQ28
  have N28a := Fr.app N27a N28q
  obtain ⟨fs, hr, hrun, hended, hend⟩ := X28.leaveW hS6 (by rw [e28q]; exact (Nat.le_refl _)) (v := some (.int (1 : Int32))) (fun h => by rw [Bd.returns] at h; cases h)
  refine ⟨_, _, pre0 _ ?_, hrun, hended, _, _, rfl, ?_, ?_, hend.1, hend.2.1, hend.2.2.1, hend.2.2.2.mono (by decide) (by decide)⟩
  · show Steps p.tables e below (s₁.setTop (mkF m 0 #[.val (.int p1), .val (.int p2), .unset, .unset, .unset, .unset, .unset, .unset] [])) _
    refine XS.iloadN X0.here hx rfl (hb hby at_0) rfl ?_
    show Steps p.tables e below (s₁.setTop (mkF m 1 #[.val (.int p1), .val (.int p2), .unset, .unset, .unset, .unset, .unset, .unset] [(.int p1)])) _
    refine st1.trans ?_
    refine XS.astoreN X1.here hx rfl (hb hby at_4) rfl rfl (l' := #[.val (.int p1), .val (.int p2), .val (.ref r1), .unset, .unset, .unset, .unset, .unset]) rfl ?_
    refine XS.iloadN X1.here hx rfl (hb hby at_5) rfl ?_
    show Steps p.tables e below (T1.setTop (mkF m 6 #[.val (.int p1), .val (.int p2), .val (.ref r1), .unset, .unset, .unset, .unset, .unset] [(.int p2)])) _
    refine st2.trans ?_
    refine XS.astoreN X2.here hx rfl (hb hby at_9) rfl rfl (l' := #[.val (.int p1), .val (.int p2), .val (.ref r1), .val (.ref r2), .unset, .unset, .unset, .unset]) rfl ?_
    show Steps p.tables e below (T2.setTop (mkF m 10 #[.val (.int p1), .val (.int p2), .val (.ref r1), .val (.ref r2), .unset, .unset, .unset, .unset] [])) _
    refine st4 _ ?_
    refine XS.dup X4.here hx rfl (hb hby at_13) rfl rfl ?_
    refine XS.aloadN X4.here hx rfl (hb hby at_14) rfl rfl ?_
    show Steps p.tables e below (T4.setTop (mkF m 15 #[.val (.int p1), .val (.int p2), .val (.ref r1), .val (.ref r2), .unset, .unset, .unset, .unset] [(.ref r1), (.ref b4), (.ref b4)])) _
    refine XS.aloadN X4.here hx rfl (hb hby at_15) rfl rfl ?_
    show Steps p.tables e below (T4.setTop (mkF m 16 #[.val (.int p1), .val (.int p2), .val (.ref r1), .val (.ref r2), .unset, .unset, .unset, .unset] [(.ref r2), (.ref r1), (.ref b4), (.ref b4)])) _
    refine st5.trans ?_
    refine XS.astore X5.here hx rfl (hb hby at_19) rfl rfl (l' := #[.val (.int p1), .val (.int p2), .val (.ref r1), .val (.ref r2), .val (.ref b4), .unset, .unset, .unset]) rfl ?_
    refine XS.aload X5.here hx rfl (hb hby at_21) rfl rfl ?_
    show Steps p.tables e below (T5.setTop (mkF m 23 #[.val (.int p1), .val (.int p2), .val (.ref r1), .val (.ref r2), .val (.ref b4), .unset, .unset, .unset] [(.ref b4)])) _
    refine st6.trans ?_
    refine XS.astore X6.here hx rfl (hb hby at_26) rfl rfl (l' := #[.val (.int p1), .val (.int p2), .val (.ref r1), .val (.ref r2), .val (.ref b4), .val (.ref r6), .unset, .unset]) rfl ?_
    refine XS.aload X6.here hx rfl (hb hby at_28) rfl rfl ?_
    show Steps p.tables e below (T6.setTop (mkF m 30 #[.val (.int p1), .val (.int p2), .val (.ref r1), .val (.ref r2), .val (.ref b4), .val (.ref r6), .unset, .unset] [(.ref r6)])) _
    refine XS.ifnonnullYes X6.here hx rfl (pc0 := 30) (pc' := 35) rfl (hb hby at_30) rfl (by decide) (by decide) ?_
    refine XS.aloadN X6.here hx rfl (hb hby at_35) rfl rfl ?_
    show Steps p.tables e below (T6.setTop (mkF m 36 #[.val (.int p1), .val (.int p2), .val (.ref r1), .val (.ref r2), .val (.ref b4), .val (.ref r6), .unset, .unset] [(.ref r1)])) _
    refine st12.trans ?_
    refine XS.istore X12.here hx rfl (hb hby at_39) rfl (l' := #[.val (.int p1), .val (.int p2), .val (.ref r1), .val (.ref r2), .val (.ref b4), .val (.ref r6), .val (.int (Int32.ofNat (own_cs p1).length)), .unset]) rfl ?_
    refine XS.aloadN X12.here hx rfl (hb hby at_41) rfl rfl ?_
    show Steps p.tables e below (T12.setTop (mkF m 42 #[.val (.int p1), .val (.int p2), .val (.ref r1), .val (.ref r2), .val (.ref b4), .val (.ref r6), .val (.int (Int32.ofNat (own_cs p1).length)), .unset] [(.ref r2)])) _
    refine st16.trans ?_
    refine XS.istore X16.here hx rfl (hb hby at_45) rfl (l' := #[.val (.int p1), .val (.int p2), .val (.ref r1), .val (.ref r2), .val (.ref b4), .val (.ref r6), .val (.int (Int32.ofNat (own_cs p1).length)), .val (.int (Int32.ofNat (own_cs p2).length))]) rfl ?_
    refine XS.aload X16.here hx rfl (hb hby at_47) rfl rfl ?_
    show Steps p.tables e below (T16.setTop (mkF m 49 #[.val (.int p1), .val (.int p2), .val (.ref r1), .val (.ref r2), .val (.ref b4), .val (.ref r6), .val (.int (Int32.ofNat (own_cs p1).length)), .val (.int (Int32.ofNat (own_cs p2).length))] [(.ref r6)])) _
    refine st19.trans ?_
    refine XS.iload X19.here hx rfl (hb hby at_52) rfl ?_
    refine XS.iconst X19.here hx rfl (hb hby at_54) ?_
    show Steps p.tables e below (T19.setTop (mkF m 55 #[.val (.int p1), .val (.int p2), .val (.ref r1), .val (.ref r2), .val (.ref b4), .val (.ref r6), .val (.int (Int32.ofNat (own_cs p1).length)), .val (.int (Int32.ofNat (own_cs p2).length))] [(.int (2 : Int32)), (.int (Int32.ofNat (own_cs p1).length)), (.int (Int32.ofNat (own_cs p1 ++ own_sep ++ own_cs p2).length))])) _
    refine XS.iadd X19.here hx rfl (hb hby at_55) rfl ?_
    refine XS.iload X19.here hx rfl (hb hby at_56) rfl ?_
    refine XS.iadd X19.here hx rfl (hb hby at_58) rfl ?_
    show Steps p.tables e below (T19.setTop (mkF m 59 #[.val (.int p1), .val (.int p2), .val (.ref r1), .val (.ref r2), .val (.ref b4), .val (.ref r6), .val (.int (Int32.ofNat (own_cs p1).length)), .val (.int (Int32.ofNat (own_cs p2).length))] [(.int (((Int32.ofNat (own_cs p1).length) + (2 : Int32)) + (Int32.ofNat (own_cs p2).length))), (.int (Int32.ofNat (own_cs p1 ++ own_sep ++ own_cs p2).length))])) _
    refine XS.icmpYes X19.here hx rfl (pc0 := 59) (pc' := 64) rfl (hb hby at_59) rfl (teq (own_tlen p1 p2 : (Int32.ofNat (own_cs p1 ++ own_sep ++ own_cs p2).length) = (((Int32.ofNat (own_cs p1).length) + (2 : Int32)) + (Int32.ofNat (own_cs p2).length)))).1 (by decide) (by decide) ?_
    refine XS.aload X19.here hx rfl (hb hby at_64) rfl rfl ?_
    refine XS.aloadN X19.here hx rfl (hb hby at_66) rfl rfl ?_
    show Steps p.tables e below (T19.setTop (mkF m 67 #[.val (.int p1), .val (.int p2), .val (.ref r1), .val (.ref r2), .val (.ref b4), .val (.ref r6), .val (.int (Int32.ofNat (own_cs p1).length)), .val (.int (Int32.ofNat (own_cs p2).length))] [(.ref r1), (.ref r6)])) _
    refine XS.aloadN X19.here hx rfl (hb hby at_67) rfl rfl ?_
    refine XS.iconst X19.here hx rfl (hb hby at_68) ?_
    show Steps p.tables e below (T19.setTop (mkF m 69 #[.val (.int p1), .val (.int p2), .val (.ref r1), .val (.ref r2), .val (.ref b4), .val (.ref r6), .val (.int (Int32.ofNat (own_cs p1).length)), .val (.int (Int32.ofNat (own_cs p2).length))] [(.int (0 : Int32)), (.ref r2), (.ref r1), (.ref r6)])) _
    refine st21 _ ?_
    show Steps p.tables e below (T21.setTop (mkF m 72 #[.val (.int p1), .val (.int p2), .val (.ref r1), .val (.ref r2), .val (.ref b4), .val (.ref r6), .val (.int (Int32.ofNat (own_cs p1).length)), .val (.int (Int32.ofNat (own_cs p2).length))] [(.int (1 : Int32))])) _
    refine XS.ifNo X21.here hx rfl (hb hby at_72) rfl ((if0 _ _).trans (feq (by decide : ¬ ((1 : Int32) = (0 : Int32)))).1) ?_
    refine XS.aload X21.here hx rfl (hb hby at_75) rfl rfl ?_
    refine XS.aloadN X21.here hx rfl (hb hby at_77) rfl rfl ?_
    show Steps p.tables e below (T21.setTop (mkF m 78 #[.val (.int p1), .val (.int p2), .val (.ref r1), .val (.ref r2), .val (.ref b4), .val (.ref r6), .val (.int (Int32.ofNat (own_cs p1).length)), .val (.int (Int32.ofNat (own_cs p2).length))] [(.ref r1), (.ref r6)])) _
    refine XS.aloadN X21.here hx rfl (hb hby at_78) rfl rfl ?_
    refine XS.iconst X21.here hx rfl (hb hby at_79) ?_
    show Steps p.tables e below (T21.setTop (mkF m 80 #[.val (.int p1), .val (.int p2), .val (.ref r1), .val (.ref r2), .val (.ref b4), .val (.ref r6), .val (.int (Int32.ofNat (own_cs p1).length)), .val (.int (Int32.ofNat (own_cs p2).length))] [(.int (1 : Int32)), (.ref r2), (.ref r1), (.ref r6)])) _
    refine st22 _ ?_
    show Steps p.tables e below (T22.setTop (mkF m 83 #[.val (.int p1), .val (.int p2), .val (.ref r1), .val (.ref r2), .val (.ref b4), .val (.ref r6), .val (.int (Int32.ofNat (own_cs p1).length)), .val (.int (Int32.ofNat (own_cs p2).length))] [(.int (1 : Int32))])) _
    refine XS.ifNo X22.here hx rfl (hb hby at_83) rfl ((if0 _ _).trans (feq (by decide : ¬ ((1 : Int32) = (0 : Int32)))).1) ?_
    refine XS.aload X22.here hx rfl (hb hby at_86) rfl rfl ?_
    refine XS.aloadN X22.here hx rfl (hb hby at_88) rfl rfl ?_
    show Steps p.tables e below (T22.setTop (mkF m 89 #[.val (.int p1), .val (.int p2), .val (.ref r1), .val (.ref r2), .val (.ref b4), .val (.ref r6), .val (.int (Int32.ofNat (own_cs p1).length)), .val (.int (Int32.ofNat (own_cs p2).length))] [(.ref r1), (.ref r6)])) _
    refine XS.aloadN X22.here hx rfl (hb hby at_89) rfl rfl ?_
    refine XS.iconst X22.here hx rfl (hb hby at_90) ?_
    show Steps p.tables e below (T22.setTop (mkF m 91 #[.val (.int p1), .val (.int p2), .val (.ref r1), .val (.ref r2), .val (.ref b4), .val (.ref r6), .val (.int (Int32.ofNat (own_cs p1).length)), .val (.int (Int32.ofNat (own_cs p2).length))] [(.int (2 : Int32)), (.ref r2), (.ref r1), (.ref r6)])) _
    refine st23 _ ?_
    show Steps p.tables e below (T23.setTop (mkF m 94 #[.val (.int p1), .val (.int p2), .val (.ref r1), .val (.ref r2), .val (.ref b4), .val (.ref r6), .val (.int (Int32.ofNat (own_cs p1).length)), .val (.int (Int32.ofNat (own_cs p2).length))] [(.int (1 : Int32))])) _
    refine XS.ifNo X23.here hx rfl (hb hby at_94) rfl ((if0 _ _).trans (feq (by decide : ¬ ((1 : Int32) = (0 : Int32)))).1) ?_
    refine XS.aload X23.here hx rfl (hb hby at_97) rfl rfl ?_
    refine XS.aloadN X23.here hx rfl (hb hby at_99) rfl rfl ?_
    show Steps p.tables e below (T23.setTop (mkF m 100 #[.val (.int p1), .val (.int p2), .val (.ref r1), .val (.ref r2), .val (.ref b4), .val (.ref r6), .val (.int (Int32.ofNat (own_cs p1).length)), .val (.int (Int32.ofNat (own_cs p2).length))] [(.ref r1), (.ref r6)])) _
    refine XS.aloadN X23.here hx rfl (hb hby at_100) rfl rfl ?_
    refine XS.iconst X23.here hx rfl (hb hby at_101) ?_
    show Steps p.tables e below (T23.setTop (mkF m 102 #[.val (.int p1), .val (.int p2), .val (.ref r1), .val (.ref r2), .val (.ref b4), .val (.ref r6), .val (.int (Int32.ofNat (own_cs p1).length)), .val (.int (Int32.ofNat (own_cs p2).length))] [(.int (3 : Int32)), (.ref r2), (.ref r1), (.ref r6)])) _
    refine st24 _ ?_
    show Steps p.tables e below (T24.setTop (mkF m 105 #[.val (.int p1), .val (.int p2), .val (.ref r1), .val (.ref r2), .val (.ref b4), .val (.ref r6), .val (.int (Int32.ofNat (own_cs p1).length)), .val (.int (Int32.ofNat (own_cs p2).length))] [(.int (1 : Int32))])) _
    refine XS.ifNo X24.here hx rfl (hb hby at_105) rfl ((if0 _ _).trans (feq (by decide : ¬ ((1 : Int32) = (0 : Int32)))).1) ?_
    refine XS.aload X24.here hx rfl (hb hby at_108) rfl rfl ?_
    refine XS.aloadN X24.here hx rfl (hb hby at_110) rfl rfl ?_
    show Steps p.tables e below (T24.setTop (mkF m 111 #[.val (.int p1), .val (.int p2), .val (.ref r1), .val (.ref r2), .val (.ref b4), .val (.ref r6), .val (.int (Int32.ofNat (own_cs p1).length)), .val (.int (Int32.ofNat (own_cs p2).length))] [(.ref r1), (.ref r6)])) _
    refine XS.aloadN X24.here hx rfl (hb hby at_111) rfl rfl ?_
    refine XS.iconst X24.here hx rfl (hb hby at_112) ?_
    show Steps p.tables e below (T24.setTop (mkF m 113 #[.val (.int p1), .val (.int p2), .val (.ref r1), .val (.ref r2), .val (.ref b4), .val (.ref r6), .val (.int (Int32.ofNat (own_cs p1).length)), .val (.int (Int32.ofNat (own_cs p2).length))] [(.int (4 : Int32)), (.ref r2), (.ref r1), (.ref r6)])) _
    refine st25 _ ?_
    show Steps p.tables e below (T25.setTop (mkF m 116 #[.val (.int p1), .val (.int p2), .val (.ref r1), .val (.ref r2), .val (.ref b4), .val (.ref r6), .val (.int (Int32.ofNat (own_cs p1).length)), .val (.int (Int32.ofNat (own_cs p2).length))] [(.int (1 : Int32))])) _
    refine XS.ifNo X25.here hx rfl (hb hby at_116) rfl ((if0 _ _).trans (feq (by decide : ¬ ((1 : Int32) = (0 : Int32)))).1) ?_
    refine XS.aload X25.here hx rfl (hb hby at_119) rfl rfl ?_
    refine XS.aloadN X25.here hx rfl (hb hby at_121) rfl rfl ?_
    show Steps p.tables e below (T25.setTop (mkF m 122 #[.val (.int p1), .val (.int p2), .val (.ref r1), .val (.ref r2), .val (.ref b4), .val (.ref r6), .val (.int (Int32.ofNat (own_cs p1).length)), .val (.int (Int32.ofNat (own_cs p2).length))] [(.ref r1), (.ref r6)])) _
    refine XS.aloadN X25.here hx rfl (hb hby at_122) rfl rfl ?_
    refine XS.iconst X25.here hx rfl (hb hby at_123) ?_
    show Steps p.tables e below (T25.setTop (mkF m 124 #[.val (.int p1), .val (.int p2), .val (.ref r1), .val (.ref r2), .val (.ref b4), .val (.ref r6), .val (.int (Int32.ofNat (own_cs p1).length)), .val (.int (Int32.ofNat (own_cs p2).length))] [(.int (5 : Int32)), (.ref r2), (.ref r1), (.ref r6)])) _
    refine st26 _ ?_
    show Steps p.tables e below (T26.setTop (mkF m 127 #[.val (.int p1), .val (.int p2), .val (.ref r1), .val (.ref r2), .val (.ref b4), .val (.ref r6), .val (.int (Int32.ofNat (own_cs p1).length)), .val (.int (Int32.ofNat (own_cs p2).length))] [(.int (1 : Int32))])) _
    refine XS.ifNo X26.here hx rfl (hb hby at_127) rfl ((if0 _ _).trans (feq (by decide : ¬ ((1 : Int32) = (0 : Int32)))).1) ?_
    refine XS.aload X26.here hx rfl (hb hby at_130) rfl rfl ?_
    refine XS.aloadN X26.here hx rfl (hb hby at_132) rfl rfl ?_
    show Steps p.tables e below (T26.setTop (mkF m 133 #[.val (.int p1), .val (.int p2), .val (.ref r1), .val (.ref r2), .val (.ref b4), .val (.ref r6), .val (.int (Int32.ofNat (own_cs p1).length)), .val (.int (Int32.ofNat (own_cs p2).length))] [(.ref r1), (.ref r6)])) _
    refine XS.aloadN X26.here hx rfl (hb hby at_133) rfl rfl ?_
    refine XS.bipush X26.here hx rfl (hb hby at_134) ?_
    show Steps p.tables e below (T26.setTop (mkF m 136 #[.val (.int p1), .val (.int p2), .val (.ref r1), .val (.ref r2), .val (.ref b4), .val (.ref r6), .val (.int (Int32.ofNat (own_cs p1).length)), .val (.int (Int32.ofNat (own_cs p2).length))] [(.int (6 : Int32)), (.ref r2), (.ref r1), (.ref r6)])) _
    refine st27 _ ?_
    show Steps p.tables e below (T27.setTop (mkF m 139 #[.val (.int p1), .val (.int p2), .val (.ref r1), .val (.ref r2), .val (.ref b4), .val (.ref r6), .val (.int (Int32.ofNat (own_cs p1).length)), .val (.int (Int32.ofNat (own_cs p2).length))] [(.int (1 : Int32))])) _
    refine XS.ifNo X27.here hx rfl (hb hby at_139) rfl ((if0 _ _).trans (feq (by decide : ¬ ((1 : Int32) = (0 : Int32)))).1) ?_
    refine XS.aload X27.here hx rfl (hb hby at_142) rfl rfl ?_
    refine XS.aloadN X27.here hx rfl (hb hby at_144) rfl rfl ?_
    show Steps p.tables e below (T27.setTop (mkF m 145 #[.val (.int p1), .val (.int p2), .val (.ref r1), .val (.ref r2), .val (.ref b4), .val (.ref r6), .val (.int (Int32.ofNat (own_cs p1).length)), .val (.int (Int32.ofNat (own_cs p2).length))] [(.ref r1), (.ref r6)])) _
    refine XS.aloadN X27.here hx rfl (hb hby at_145) rfl rfl ?_
    refine XS.bipush X27.here hx rfl (hb hby at_146) ?_
    show Steps p.tables e below (T27.setTop (mkF m 148 #[.val (.int p1), .val (.int p2), .val (.ref r1), .val (.ref r2), .val (.ref b4), .val (.ref r6), .val (.int (Int32.ofNat (own_cs p1).length)), .val (.int (Int32.ofNat (own_cs p2).length))] [(.int (7 : Int32)), (.ref r2), (.ref r1), (.ref r6)])) _
    refine st28 _ ?_
    show Steps p.tables e below (T28.setTop (mkF m 151 #[.val (.int p1), .val (.int p2), .val (.ref r1), .val (.ref r2), .val (.ref b4), .val (.ref r6), .val (.int (Int32.ofNat (own_cs p1).length)), .val (.int (Int32.ofNat (own_cs p2).length))] [(.int (1 : Int32))])) _
    refine XS.ifNo X28.here hx rfl (hb hby at_151) rfl ((if0 _ _).trans (feq (by decide : ¬ ((1 : Int32) = (0 : Int32)))).1) ?_
    refine XS.iconst X28.here hx rfl (hb hby at_154) ?_
    refine XS.goto X28.here hx rfl (pc0 := 155) (pc' := 159) rfl (hb hby at_155) (by decide) (by decide) ?_
    show Steps p.tables e below (T28.setTop (mkF m 159 #[.val (.int p1), .val (.int p2), .val (.ref r1), .val (.ref r2), .val (.ref b4), .val (.ref r6), .val (.int (Int32.ofNat (own_cs p1).length)), .val (.int (Int32.ofNat (own_cs p2).length))] [(.int (1 : Int32))])) _
    exact retN X28 hx (t := .boolean) Bd.returns (by simp) (hb hby at_159) hr
  · show Q0 n0 _ T28.heap _
    rw [e28q]
    exact ⟨rfl, N28a⟩
  · show CHr Z own_EL s.vm s.heap T28.vm T28.heap
    rw [hh, e28q]
    exact CH5.trans (CHv.at X28 hZ6 hEL CH5.1)
set_option maxRecDepth 65536 in
set_option maxHeartbeats 40000000 in
theorem comes_1 {Post : Tables → Env → Array Value → State → Outcome → State → Prop} (hpost : ∀ tb e args s v u, (limb_1_1.after args s (.returned v) u = true ∧ limb_1_2.after args s (.returned v) u = true ∧ True) → ReturnedEndW s (.returned v) u (Jvm.fieldLocs frame_1_writes args s ++ Jvm.arrayLocs frame_1_arrays args s ++ Jvm.staticLocs frame_1_statics s) 40 2240 → Post tb e args s (.returned v) u) :
    ArmFor flags0 classFile x code maxLocals ret World_1 tables_1 room_1 Calls_1 rest_1 Pre_1 Post := by
  intro l hfl _ _ p e ha hc hk s m args below hf hA hF happ hP
  obtain ⟨hcalls, hrest, hpre⟩ := hP
  obtain ⟨-, -, -, hnamed, -, -, -, hat⟩ := (Spec.applies_iff hf).mp happ
  obtain ⟨hg, hn⟩ := and_e (Cond.before_iff.mp (show (Jvm.Cond.and given_1 narrow_1).before args s = true from hpre))
  obtain ⟨g1, g2⟩ := and_e hg
  obtain ⟨g3, g4⟩ := and_e g2
  obtain ⟨w0, w1, rfl⟩ : ∃ w0 w1 : Value, args = #[w0, w1] := by
    have hs : args.size = 2 := by simpa [Cond.value, given_1] using g1
    obtain ⟨L⟩ := args
    match L, hs with
    | [w0, w1], _ => exact ⟨w0, w1, rfl⟩
  have hw := fun d (hd : d ∈ tables_1) => atoms_spec (ws := Jvm.Cond.code x code maxLocals ret :: tables_1) hat d (List.mem_cons_of_mem _ hd)
  obtain ⟨hsets, hown0⟩ := atoms_of _ (rest_1_c_eq ▸ (show rest_1_c.before _ s = true from hrest))
  obtain ⟨i0, ei0⟩ := is_v g3
  obtain rfl : w0 = (.int i0) := Option.some.inj ei0
  obtain ⟨i1, ei1⟩ := is_v g4
  obtain rfl : w1 = (.int i1) := Option.some.inj ei1
  have n5 := not_v (Cond.before_iff.mp (hsets _ (List.mem_of_getElem? (i := 2) rfl)))
  obtain ⟨i11, e10⟩ := is_v (Cond.before_iff.mp (hsets _ (List.mem_of_getElem? (i := 1) rfl)))
  have S12 : Sta s s.heap "java/lang/String" "COMPACT_STRINGS" "Z" (.int i11) := Sta.start e10 (Or.inl (hsets _ (List.mem_of_getElem? (i := 0) rfl)))
  have c17 : ¬ (i11 = (0 : Int32)) := gotF (Cond.eq_ints e10 (Term.int_eval (0))) n5
  obtain ⟨v13, e14, r15⟩ := isR_v (Cond.before_iff.mp (hsets _ (List.mem_of_getElem? (i := 8) rfl)))
  have S16 : Sta s s.heap "jdk/internal/util/Preconditions" "SIOOBE_FORMATTER" "Ljava/util/function/BiFunction;" v13 := Sta.start e14 (Or.inl (hsets _ (List.mem_of_getElem? (i := 7) rfl)))
  have hEL : EW s _ own_EL := (EW.cons (hw _ (List.mem_of_getElem? (i := 108) rfl)) (by decide +kernel) (EW.cons (hw _ (List.mem_of_getElem? (i := 18) rfl)) (by decide +kernel) EW.nil))
  have hCH : CHv s own_EL s.vm s.heap := CHv.start hEL (fun p hp => hcalls.1 p hp) (hsets _ (List.mem_of_getElem? (i := 2) rfl)) (own_wS hw _ (by simp [Bundle.stringAtoms])) (own_wS hw _ (by simp [Bundle.stringAtoms, Bundle.sN]))
  obtain ⟨n, o, h1, h2, h3, _, L, rfl, ⟨rfl, N⟩, hch, hq⟩ := rm0 l s _ hw tables_1 hEL i0 i1 i11 v13 s.heap s.heap.size (Nat.le_refl _) S12 c17 S16 r15 (Old.start s) p e ha hc hk s m _ below hf ((Spec.applies_iff_loose hf).mp happ).1 ⟨rfl, State.Warmed39.refl s, rfl, hCH⟩ trivial
  exact ⟨n, _, h1, h2, h3, hpost _ _ _ _ _ _ ⟨Cond.after_iff.mpr rfl, Cond.after_iff.mpr (eq_i res_at (Term.int_eval (1)) rfl), trivial⟩ ⟨hq.1, hq.2.1, hq.2.2.1, (hq.2.2.2.sift fun y hy => Or.inr (N y hy)).mono (by decide) (by decide)⟩⟩
theorem main_1_1 : Claimed_1_1 := comes_1 fun _ _ _ _ _ _ h hF => ⟨h.1, hF⟩
theorem main_1_2 : Claimed_1_2 := comes_1 fun _ _ _ _ _ _ h hF => ⟨h.2.1, hF⟩
end Jvm.Pilot.@@N@@
namespace Jvm.Pilot.@@N@@
open Jvm Jvm.ClassFile Sem Op Lib Jvm.Free Jvm.Stand Jvm.Pilot.@@N@@.Jvm.D
/-! MADE BY PROGRAM (witnessworld.py) out of the Statement's table words and the real class files: 26 classes; the members and pool entries that the words name. The judged class is class 1, her method 1. -/
namespace start1
open Jvm.ClassFile
def u (s : String) : CpInfo := .utf8 (stringToUtf16 s)
/-- a pool by its gaps: so many unusable entries, then the entry; so many at the end -/
def gap : Nat → List CpInfo → List CpInfo
  | 0, r => r
  | n + 1, r => .unusable :: gap n r
def poolList (es : List (Nat × CpInfo)) (last : Nat) : List CpInfo := es.foldr (fun e r => gap e.1 (e.2 :: r)) (gap last [])
def pool (es : List (Nat × CpInfo)) (last : Nat) : Array CpInfo := ⟨poolList es last⟩
def fileOf (pool : Array CpInfo) (this : Nat) (attrs : Array Attribute := #[]) (ms : Array MethodInfo := #[]) (fl : Nat := 33) (sup : Nat := 0) (ifs : Array Nat := #[]) (fds : Array FieldInfo := #[]) : ClassFile where
  minorVersion := 0
  majorVersion := 65
  constantPool := pool
  accessFlags := fl
  thisClass := this
  superClass := sup
  interfaces := ifs
  fields := fds
  methods := ms
  attributes := attrs
def plain (name : String) (sup : Option ClassId) : Class where
  name := name
  kind := .ordinary
  loader := none
  accessFlags := 33
  super := sup
  interfaces := #[]
  cf := none
  fields := #[]
  methods := #[]
  instanceTypes := #[]
  staticTypes := #[]
  resolved := #[]
  callSites := []
  init := .initialized
  statics := none
  mirror := none

def pool0 : Array CpInfo := pool [(5, u "<init>"), (0, u "()V"), (1, .class_ 10), (1, u "java/lang/Object")] 113

def k0c0 : Code := { maxStack := 0, maxLocals := 1, code := object_method_1_code, exceptionTable := #[], attributes := #[] }
def k0m0 : Method := { name := "<init>", desc := "()V", sig := { parameters := [], returnType := none }, accessFlags := 1, code := some k0c0 }
/-- java/lang/Object -/
def k0 : Class := { plain "java/lang/Object" none with
  accessFlags := 33
  interfaces := #[]
  cf := some (fileOf pool0 8 #[] #[{ accessFlags := 1, nameIndex := 5, descriptorIndex := 6, attributes := #[] }] 33 0 #[] #[])
  fields := #[]
  methods := #[k0m0]
  instanceTypes := #[]
  staticTypes := #[]
  resolved := Array.replicate 124 none
  statics := none }

def pool1 : Array CpInfo := pool [(2, .class_ 4), (1, u "java/lang/Object"), (0, u "<init>"), (0, u "()V"), (0, .methodref 8 9), (0, .class_ 10), (0, .nameAndType 11 12), (0, u "com/example/treeward/treeward/engine/FindingToStringPinLaw"), (0, u "mk"), (0, u "(I)Ljava/lang/String;"), (0, .class_ 14), (0, u "com/example/treeward/treeward/engine/Finding"), (0, .methodref 13 16), (0, .nameAndType 5 17), (0, u "(Ljava/lang/String;Ljava/lang/String;)V"), (0, .methodref 13 19), (0, .nameAndType 20 21), (0, u "toString"), (0, u "()Ljava/lang/String;"), (0, .methodref 23 24), (0, .class_ 25), (0, .nameAndType 26 27), (0, u "java/lang/String"), (0, u "length"), (0, u "()I"), (0, .methodref 8 29), (0, .nameAndType 30 31), (0, u "at"), (0, u "(Ljava/lang/String;Ljava/lang/String;Ljava/lang/String;I)Z"), (0, .methodref 23 33), (0, .nameAndType 5 34), (0, u "([C)V"), (0, .methodref 23 36), (0, .nameAndType 37 38), (0, u "charAt"), (0, u "(I)C"), (0, .methodref 8 40), (0, .nameAndType 41 42), (0, u "expected"), (0, u "(Ljava/lang/String;Ljava/lang/String;I)C"), (2, u "law"), (0, u "(II)Z")] 3

def k1m0 : Method := { name := "<init>", desc := "()V", sig := { parameters := [], returnType := none }, accessFlags := 1, code := none }
def k1c1 : Code := { maxStack := 4, maxLocals := 8, code := code, exceptionTable := #[], attributes := #[] }
def k1m1 : Method := { name := "law", desc := "(II)Z", sig := { parameters := [.int, .int], returnType := some .boolean }, accessFlags := 9, code := some k1c1 }
def k1c2 : Code := { maxStack := 6, maxLocals := 5, code := method_3_code, exceptionTable := #[], attributes := #[] }
def k1m2 : Method := { name := "mk", desc := "(I)Ljava/lang/String;", sig := { parameters := [.int], returnType := some (.object "java/lang/String") }, accessFlags := 10, code := some k1c2 }
def k1c3 : Code := { maxStack := 3, maxLocals := 4, code := method_4_code, exceptionTable := #[], attributes := #[] }
def k1m3 : Method := { name := "expected", desc := "(Ljava/lang/String;Ljava/lang/String;I)C", sig := { parameters := [(.object "java/lang/String"), (.object "java/lang/String"), .int], returnType := some .char }, accessFlags := 10, code := some k1c3 }
def k1c4 : Code := { maxStack := 4, maxLocals := 4, code := method_5_code, exceptionTable := #[], attributes := #[] }
def k1m4 : Method := { name := "at", desc := "(Ljava/lang/String;Ljava/lang/String;Ljava/lang/String;I)Z", sig := { parameters := [(.object "java/lang/String"), (.object "java/lang/String"), (.object "java/lang/String"), .int], returnType := some .boolean }, accessFlags := 10, code := some k1c4 }
/-- com/example/treeward/treeward/engine/FindingToStringPinLaw -/
def k1 : Class := { plain "com/example/treeward/treeward/engine/FindingToStringPinLaw" (some 0) with
  accessFlags := 49
  interfaces := #[]
  cf := some (fileOf pool1 8 #[] #[{ accessFlags := 1, nameIndex := 5, descriptorIndex := 6, attributes := #[] }, { accessFlags := 9, nameIndex := 45, descriptorIndex := 46, attributes := #[] }, { accessFlags := 10, nameIndex := 11, descriptorIndex := 12, attributes := #[] }, { accessFlags := 10, nameIndex := 41, descriptorIndex := 42, attributes := #[] }, { accessFlags := 10, nameIndex := 30, descriptorIndex := 31, attributes := #[] }] 49 2 #[] #[])
  fields := #[]
  methods := #[k1m0, k1m1, k1m2, k1m3, k1m4]
  instanceTypes := #[]
  staticTypes := #[]
  resolved := Array.replicate 50 none
  statics := none }

def pool2 : Array CpInfo := pool [(1, .class_ 2), (0, u "java/io/Serializable"), (0, .class_ 4), (0, u "java/lang/Object")] 2

/-- java/io/Serializable -/
def k2 : Class := { plain "java/io/Serializable" (some 0) with
  accessFlags := 1537
  interfaces := #[]
  cf := some (fileOf pool2 1 #[] #[] 1537 3 #[] #[])
  fields := #[]
  methods := #[]
  instanceTypes := #[]
  staticTypes := #[]
  resolved := Array.replicate 7 none
  statics := none }

def pool3 : Array CpInfo := pool [(1, .class_ 2), (0, u "java/lang/Comparable"), (0, .class_ 4), (0, u "java/lang/Object")] 7

/-- java/lang/Comparable -/
def k3 : Class := { plain "java/lang/Comparable" (some 0) with
  accessFlags := 1537
  interfaces := #[]
  cf := some (fileOf pool3 1 #[] #[] 1537 3 #[] #[])
  fields := #[]
  methods := #[]
  instanceTypes := #[]
  staticTypes := #[]
  resolved := Array.replicate 12 none
  statics := none }

def pool4 : Array CpInfo := pool [(2, .class_ 4), (1, u "java/lang/CharSequence"), (42, .class_ 48), (0, u "java/lang/CharSequence$1CodePointIterator"), (10, .class_ 60), (0, u "java/lang/CharSequence$1CharIterator"), (5, .class_ 67), (0, u "java/lang/Object")] 63

/-- java/lang/CharSequence -/
def k4 : Class := { plain "java/lang/CharSequence" (some 0) with
  accessFlags := 1537
  interfaces := #[]
  cf := some (fileOf pool4 2 #[.nestMembers #[47, 59]] #[] 1537 66 #[] #[])
  fields := #[]
  methods := #[]
  instanceTypes := #[]
  staticTypes := #[]
  resolved := Array.replicate 131 none
  statics := none }

def pool5 : Array CpInfo := pool [(1, .class_ 2), (0, u "java/lang/constant/Constable"), (0, .class_ 4), (0, u "java/lang/Object")] 6

/-- java/lang/constant/Constable -/
def k5 : Class := { plain "java/lang/constant/Constable" (some 0) with
  accessFlags := 1537
  interfaces := #[]
  cf := some (fileOf pool5 1 #[] #[] 1537 3 #[] #[])
  fields := #[]
  methods := #[]
  instanceTypes := #[]
  staticTypes := #[]
  resolved := Array.replicate 11 none
  statics := none }

def pool6 : Array CpInfo := pool [(1, .class_ 2), (0, u "java/lang/constant/ConstantDesc"), (0, .class_ 4), (0, u "java/lang/Object")] 32

/-- java/lang/constant/ConstantDesc -/
def k6 : Class := { plain "java/lang/constant/ConstantDesc" (some 0) with
  accessFlags := 1537
  interfaces := #[]
  cf := some (fileOf pool6 1 #[] #[] 1537 3 #[] #[])
  fields := #[]
  methods := #[]
  instanceTypes := #[]
  staticTypes := #[]
  resolved := Array.replicate 37 none
  statics := none }

def pool7 : Array CpInfo := pool [(1, .methodref 2 3), (0, .class_ 4), (0, .nameAndType 5 6), (0, u "java/lang/Object"), (0, u "<init>"), (0, u "()V"), (0, .string 8), (0, u ""), (0, .fieldref 10 11), (0, .class_ 12), (0, .nameAndType 13 14), (0, u "java/lang/String"), (0, u "value"), (0, u "[B"), (0, .fieldref 10 16), (0, .nameAndType 17 18), (0, u "coder"), (0, u "B"), (2, u "hash"), (0, u "I"), (2, u "hashIsZero"), (0, u "Z"), (0, .methodref 10 28), (0, .nameAndType 5 29), (0, u "([CIILjava/lang/Void;)V"), (8, .fieldref 10 39), (0, .nameAndType 40 26), (0, u "COMPACT_STRINGS"), (1, .class_ 44), (1, u "java/lang/StringUTF16"), (0, u "compress"), (1, .methodref 42 48), (0, .nameAndType 49 50), (0, u "coderFromArrayLen"), (0, u "([BI)B"), (3, .methodref 55 56), (0, .class_ 57), (0, .nameAndType 58 59), (0, u "java/util/Arrays"), (0, u "copyOfRange"), (0, u "([BII)[B"), (47, .class_ 109), (1, u "java/lang/StringLatin1"), (32, u "()Z"), (34, .methodref 42 178), (0, .nameAndType 45 179), (0, u "([CII)[B"), (13, .class_ 195), (1, u "java/lang/System"), (16, .methodref 193 213), (0, .nameAndType 214 215), (0, u "arraycopy"), (0, u "(Ljava/lang/Object;ILjava/lang/Object;II)V"), (118, u "()I"), (0, .methodref 10 336), (0, .nameAndType 17 337), (0, u "()B"), (2, u "()[B"), (22, u "([BI)C"), (27, u "(II)V"), (35, u "(I)C"), (61, .methodref 10 490), (0, .nameAndType 5 491), (0, u "(Ljava/lang/AbstractStringBuilder;Ljava/lang/Void;)V"), (0, .methodref 10 493), (0, .nameAndType 494 142), (0, u "isLatin1"), (0, .methodref 107 496), (0, .nameAndType 497 363), (0, u "charAt"), (3, u "checkIndex"), (4, .nameAndType 507 334), (0, u "length"), (24, u "getBytes"), (16, .methodref 550 506), (0, .class_ 551), (0, u "java/lang/AbstractStringBuilder"), (0, .methodref 550 553), (0, .nameAndType 554 340), (0, u "getValue"), (20, .class_ 576), (0, u "java/lang/CharSequence"), (22, u "CASE_INSENSITIVE_ORDER"), (0, u "Ljava/util/Comparator;"), (220, u "([BIB)V"), (188, u "([C)V"), (36, .methodref 550 493), (5, .fieldref 1054 1055), (0, .class_ 1056), (0, .nameAndType 1057 1058), (0, u "jdk/internal/util/Preconditions"), (0, u "SIOOBE_FORMATTER"), (0, u "Ljava/util/function/BiFunction;"), (0, .methodref 1054 1060), (0, .nameAndType 501 1061), (0, u "(IILjava/util/function/BiFunction;)I"), (39, u "serialPersistentFields"), (0, u "[Ljava/io/ObjectStreamField;"), (0, .class_ 1104), (0, u "java/lang/String$CaseInsensitiveComparator"), (1, .class_ 1107), (0, u "java/io/Serializable"), (0, .class_ 1109), (0, u "java/lang/Comparable"), (0, .class_ 1111), (0, u "java/lang/constant/Constable"), (0, .class_ 1113), (0, u "java/lang/constant/ConstantDesc"), (2, u "serialVersionUID"), (0, u "J"), (3, u "REPL"), (0, u "C"), (2, u "LATIN1"), (1, u "UTF16"), (105, u "(Ljava/lang/StringBuilder;)V")] 217

def k7m0 : Method := { name := "<init>", desc := "()V", sig := { parameters := [], returnType := none }, accessFlags := 1, code := none }
def k7c1 : Code := { maxStack := 5, maxLocals := 2, code := jdk_42_method_3_code, exceptionTable := #[], attributes := #[] }
def k7m1 : Method := { name := "<init>", desc := "([C)V", sig := { parameters := [(.array .char)], returnType := none }, accessFlags := 1, code := some k7c1 }
def k7c2 : Code := { maxStack := 3, maxLocals := 2, code := jdk_42_method_53_code, exceptionTable := #[], attributes := #[] }
def k7m2 : Method := { name := "<init>", desc := "(Ljava/lang/StringBuilder;)V", sig := { parameters := [(.object "java/lang/StringBuilder")], returnType := none }, accessFlags := 1, code := some k7c2 }
def k7c3 : Code := { maxStack := 2, maxLocals := 1, code := jdk_42_method_54_code, exceptionTable := #[], attributes := #[] }
def k7m3 : Method := { name := "length", desc := "()I", sig := { parameters := [], returnType := some .int }, accessFlags := 1, code := some k7c3 }
def k7c4 : Code := { maxStack := 2, maxLocals := 2, code := jdk_42_method_56_code, exceptionTable := #[], attributes := #[] }
def k7m4 : Method := { name := "charAt", desc := "(I)C", sig := { parameters := [.int], returnType := some .char }, accessFlags := 1, code := some k7c4 }
def k7c5 : Code := { maxStack := 5, maxLocals := 4, code := jdk_42_method_147_code, exceptionTable := #[], attributes := #[] }
def k7m5 : Method := { name := "getBytes", desc := "([BIB)V", sig := { parameters := [(.array .byte), .int, .byte], returnType := none }, accessFlags := 0, code := some k7c5 }
def k7c6 : Code := { maxStack := 4, maxLocals := 6, code := jdk_42_method_149_code, exceptionTable := #[], attributes := #[] }
def k7m6 : Method := { name := "<init>", desc := "([CIILjava/lang/Void;)V", sig := { parameters := [(.array .char), .int, .int, (.object "java/lang/Void")], returnType := none }, accessFlags := 2, code := some k7c6 }
def k7c7 : Code := { maxStack := 5, maxLocals := 5, code := jdk_42_method_150_code, exceptionTable := #[], attributes := #[] }
def k7m7 : Method := { name := "<init>", desc := "(Ljava/lang/AbstractStringBuilder;Ljava/lang/Void;)V", sig := { parameters := [(.object "java/lang/AbstractStringBuilder"), (.object "java/lang/Void")], returnType := none }, accessFlags := 0, code := some k7c7 }
def k7c8 : Code := { maxStack := 1, maxLocals := 1, code := jdk_42_method_152_code, exceptionTable := #[], attributes := #[] }
def k7m8 : Method := { name := "coder", desc := "()B", sig := { parameters := [], returnType := some .byte }, accessFlags := 0, code := some k7c8 }
def k7c9 : Code := { maxStack := 1, maxLocals := 1, code := jdk_42_method_154_code, exceptionTable := #[], attributes := #[] }
def k7m9 : Method := { name := "isLatin1", desc := "()Z", sig := { parameters := [], returnType := some .boolean }, accessFlags := 0, code := some k7c9 }
def k7c10 : Code := { maxStack := 3, maxLocals := 2, code := jdk_42_method_155_code, exceptionTable := #[], attributes := #[] }
def k7m10 : Method := { name := "checkIndex", desc := "(II)V", sig := { parameters := [.int, .int], returnType := none }, accessFlags := 8, code := some k7c10 }
/-- java/lang/String -/
def k7 : Class := { plain "java/lang/String" (some 0) with
  accessFlags := 49
  interfaces := #[2, 3, 4, 5, 6]
  cf := some (fileOf pool7 10 #[.nestMembers #[1103]] #[{ accessFlags := 1, nameIndex := 5, descriptorIndex := 6, attributes := #[] }, { accessFlags := 1, nameIndex := 5, descriptorIndex := 1010, attributes := #[] }, { accessFlags := 1, nameIndex := 5, descriptorIndex := 1233, attributes := #[] }, { accessFlags := 1, nameIndex := 507, descriptorIndex := 334, attributes := #[] }, { accessFlags := 1, nameIndex := 497, descriptorIndex := 427, attributes := #[] }, { accessFlags := 0, nameIndex := 532, descriptorIndex := 821, attributes := #[] }, { accessFlags := 2, nameIndex := 5, descriptorIndex := 29, attributes := #[] }, { accessFlags := 0, nameIndex := 5, descriptorIndex := 491, attributes := #[] }, { accessFlags := 0, nameIndex := 17, descriptorIndex := 337, attributes := #[] }, { accessFlags := 0, nameIndex := 494, descriptorIndex := 142, attributes := #[] }, { accessFlags := 8, nameIndex := 501, descriptorIndex := 391, attributes := #[] }] 49 2 #[1106, 1108, 575, 1110, 1112] #[{ accessFlags := 18, nameIndex := 13, descriptorIndex := 14, attributes := #[] }, { accessFlags := 18, nameIndex := 17, descriptorIndex := 18, attributes := #[] }, { accessFlags := 2, nameIndex := 21, descriptorIndex := 22, attributes := #[] }, { accessFlags := 2, nameIndex := 25, descriptorIndex := 26, attributes := #[] }, { accessFlags := 26, nameIndex := 1116, descriptorIndex := 1117, attributes := #[] }, { accessFlags := 24, nameIndex := 40, descriptorIndex := 26, attributes := #[] }, { accessFlags := 26, nameIndex := 1101, descriptorIndex := 1102, attributes := #[] }, { accessFlags := 26, nameIndex := 1121, descriptorIndex := 1122, attributes := #[] }, { accessFlags := 25, nameIndex := 599, descriptorIndex := 600, attributes := #[] }, { accessFlags := 24, nameIndex := 1125, descriptorIndex := 18, attributes := #[] }, { accessFlags := 24, nameIndex := 1127, descriptorIndex := 18, attributes := #[] }])
  fields := #[{ name := "value", type := (.array .byte), accessFlags := 18, slot := 0, constantValue := 0 }, { name := "coder", type := .byte, accessFlags := 18, slot := 1, constantValue := 0 }, { name := "hash", type := .int, accessFlags := 2, slot := 2, constantValue := 0 }, { name := "hashIsZero", type := .boolean, accessFlags := 2, slot := 3, constantValue := 0 }, { name := "serialVersionUID", type := .long, accessFlags := 26, slot := 0, constantValue := 0 }, { name := "COMPACT_STRINGS", type := .boolean, accessFlags := 24, slot := 1, constantValue := 0 }, { name := "serialPersistentFields", type := (.array (.object "java/io/ObjectStreamField")), accessFlags := 26, slot := 2, constantValue := 0 }, { name := "REPL", type := .char, accessFlags := 26, slot := 3, constantValue := 0 }, { name := "CASE_INSENSITIVE_ORDER", type := (.object "java/util/Comparator"), accessFlags := 25, slot := 4, constantValue := 0 }, { name := "LATIN1", type := .byte, accessFlags := 24, slot := 5, constantValue := 0 }, { name := "UTF16", type := .byte, accessFlags := 24, slot := 6, constantValue := 0 }]
  methods := #[k7m0, k7m1, k7m2, k7m3, k7m4, k7m5, k7m6, k7m7, k7m8, k7m9, k7m10]
  instanceTypes := #[(.array .byte), .byte, .int, .boolean]
  staticTypes := #[.long, .boolean, (.array (.object "java/io/ObjectStreamField")), .char, (.object "java/util/Comparator"), .byte, .byte]
  resolved := Array.replicate 1451 none
  statics := some 0 }

def pool8 : Array CpInfo := pool [(1, .methodref 2 3), (0, .class_ 4), (0, .nameAndType 5 6), (0, u "java/lang/Object"), (0, u "<init>"), (0, u "()V"), (0, .fieldref 8 9), (0, .class_ 10), (0, .nameAndType 11 12), (0, u "com/example/treeward/treeward/engine/Finding"), (0, u "resource"), (0, u "Ljava/lang/String;"), (0, .fieldref 8 14), (0, .nameAndType 15 12), (0, u "problem"), (0, .class_ 17), (0, u "java/lang/StringBuilder"), (0, .methodref 16 3), (0, .methodref 16 20), (0, .nameAndType 21 22), (0, u "append"), (0, u "(Ljava/lang/String;)Ljava/lang/StringBuilder;"), (0, .string 24), (0, u ": "), (0, .methodref 16 26), (0, .nameAndType 27 28), (0, u "toString"), (0, u "()Ljava/lang/String;"), (0, u "(Ljava/lang/String;Ljava/lang/String;)V")] 6

def k8c0 : Code := { maxStack := 2, maxLocals := 3, code := prog_2_method_1_code, exceptionTable := #[], attributes := #[] }
def k8m0 : Method := { name := "<init>", desc := "(Ljava/lang/String;Ljava/lang/String;)V", sig := { parameters := [(.object "java/lang/String"), (.object "java/lang/String")], returnType := none }, accessFlags := 0, code := some k8c0 }
def k8c1 : Code := { maxStack := 2, maxLocals := 1, code := prog_2_method_4_code, exceptionTable := #[], attributes := #[] }
def k8m1 : Method := { name := "toString", desc := "()Ljava/lang/String;", sig := { parameters := [], returnType := some (.object "java/lang/String") }, accessFlags := 1, code := some k8c1 }
/-- com/example/treeward/treeward/engine/Finding -/
def k8 : Class := { plain "com/example/treeward/treeward/engine/Finding" (some 0) with
  accessFlags := 49
  interfaces := #[]
  cf := some (fileOf pool8 8 #[] #[{ accessFlags := 0, nameIndex := 5, descriptorIndex := 29, attributes := #[] }, { accessFlags := 1, nameIndex := 27, descriptorIndex := 28, attributes := #[] }] 49 2 #[] #[{ accessFlags := 18, nameIndex := 11, descriptorIndex := 12, attributes := #[] }, { accessFlags := 18, nameIndex := 15, descriptorIndex := 12, attributes := #[] }])
  fields := #[{ name := "resource", type := (.object "java/lang/String"), accessFlags := 18, slot := 0, constantValue := 0 }, { name := "problem", type := (.object "java/lang/String"), accessFlags := 18, slot := 1, constantValue := 0 }]
  methods := #[k8m0, k8m1]
  instanceTypes := #[(.object "java/lang/String"), (.object "java/lang/String")]
  staticTypes := #[]
  resolved := Array.replicate 36 none
  statics := none }

def pool9 : Array CpInfo := pool [(1, .class_ 2), (0, u "java/lang/Appendable"), (0, .class_ 4), (0, u "java/lang/Object")] 9

/-- java/lang/Appendable -/
def k9 : Class := { plain "java/lang/Appendable" (some 0) with
  accessFlags := 1537
  interfaces := #[]
  cf := some (fileOf pool9 1 #[] #[] 1537 3 #[] #[])
  fields := #[]
  methods := #[]
  instanceTypes := #[]
  staticTypes := #[]
  resolved := Array.replicate 14 none
  statics := none }

def pool10 : Array CpInfo := pool [(1, .class_ 2), (0, u "java/lang/String"), (0, .methodref 4 5), (0, .class_ 6), (0, .nameAndType 7 8), (0, u "java/lang/Object"), (0, u "<init>"), (0, u "()V"), (1, .class_ 12), (1, u "java/lang/AbstractStringBuilder"), (0, u "EMPTYVALUE"), (0, u "[B"), (0, .fieldref 10 16), (0, .nameAndType 17 14), (0, u "value"), (0, .fieldref 1 19), (0, .nameAndType 20 21), (0, u "COMPACT_STRINGS"), (0, u "Z"), (0, .fieldref 10 23), (0, .nameAndType 24 25), (0, u "coder"), (0, u "B"), (6, .methodref 1 33), (0, .nameAndType 34 35), (0, u "length"), (0, u "()I"), (4, .methodref 1 41), (0, .nameAndType 24 42), (0, u "()B"), (2, u "append"), (0, u "(Ljava/lang/String;)Ljava/lang/AbstractStringBuilder;"), (1, .class_ 49), (0, u "java/lang/CharSequence"), (19, u "(Ljava/lang/String;)V"), (5, u "maybeLatin1"), (3, .fieldref 10 80), (0, .nameAndType 81 82), (0, u "count"), (0, u "I"), (2, u "isLatin1"), (0, u "()Z"), (13, .methodref 10 101), (0, .nameAndType 102 103), (0, u "ensureCapacityInternal"), (0, u "(I)V"), (104, .methodref 10 209), (0, .nameAndType 210 211), (0, u "putStringAt"), (0, u "(ILjava/lang/String;)V"), (5, u "inflateIfNeededFor"), (2, .nameAndType 221 222), (0, u "getBytes"), (0, u "([BIB)V"), (174, .methodref 10 398), (0, .nameAndType 217 69), (0, .methodref 1 220), (3, u "()[B"), (40, .class_ 445), (0, u "java/lang/Appendable"), (106, u "getValue")] 56

def k10m0 : Method := { name := "<init>", desc := "()V", sig := { parameters := [], returnType := none }, accessFlags := 0, code := none }
def k10c1 : Code := { maxStack := 2, maxLocals := 2, code := jdk_68_method_2_code, exceptionTable := #[], attributes := #[] }
def k10m1 : Method := { name := "<init>", desc := "(I)V", sig := { parameters := [.int], returnType := none }, accessFlags := 0, code := some k10c1 }
def k10c2 : Code := { maxStack := 1, maxLocals := 1, code := jdk_68_method_6_code, exceptionTable := #[], attributes := #[] }
def k10m2 : Method := { name := "length", desc := "()I", sig := { parameters := [], returnType := some .int }, accessFlags := 1, code := some k10c2 }
def k10c3 : Code := { maxStack := 4, maxLocals := 3, code := jdk_68_method_9_code, exceptionTable := #[], attributes := #[] }
def k10m3 : Method := { name := "ensureCapacityInternal", desc := "(I)V", sig := { parameters := [.int], returnType := none }, accessFlags := 2, code := some k10c3 }
def k10c4 : Code := { maxStack := 3, maxLocals := 3, code := jdk_68_method_22_code, exceptionTable := #[], attributes := #[] }
def k10m4 : Method := { name := "append", desc := "(Ljava/lang/String;)Ljava/lang/AbstractStringBuilder;", sig := { parameters := [(.object "java/lang/String")], returnType := some (.object "java/lang/AbstractStringBuilder") }, accessFlags := 1, code := some k10c4 }
def k10c5 : Code := { maxStack := 1, maxLocals := 1, code := jdk_68_method_64_code, exceptionTable := #[], attributes := #[] }
def k10m5 : Method := { name := "getValue", desc := "()[B", sig := { parameters := [], returnType := some (.array .byte) }, accessFlags := 16, code := some k10c5 }
def k10c6 : Code := { maxStack := 1, maxLocals := 1, code := jdk_68_method_68_code, exceptionTable := #[], attributes := #[] }
def k10m6 : Method := { name := "isLatin1", desc := "()Z", sig := { parameters := [], returnType := some .boolean }, accessFlags := 16, code := some k10c6 }
def k10c7 : Code := { maxStack := 2, maxLocals := 2, code := jdk_68_method_71_code, exceptionTable := #[], attributes := #[] }
def k10m7 : Method := { name := "inflateIfNeededFor", desc := "(Ljava/lang/String;)V", sig := { parameters := [(.object "java/lang/String")], returnType := none }, accessFlags := 2, code := some k10c7 }
def k10c8 : Code := { maxStack := 4, maxLocals := 3, code := jdk_68_method_73_code, exceptionTable := #[], attributes := #[] }
def k10m8 : Method := { name := "putStringAt", desc := "(ILjava/lang/String;)V", sig := { parameters := [.int, (.object "java/lang/String")], returnType := none }, accessFlags := 2, code := some k10c8 }
/-- java/lang/AbstractStringBuilder -/
def k10 : Class := { plain "java/lang/AbstractStringBuilder" (some 0) with
  accessFlags := 1056
  interfaces := #[9, 4]
  cf := some (fileOf pool10 10 #[] #[{ accessFlags := 0, nameIndex := 7, descriptorIndex := 8, attributes := #[] }, { accessFlags := 0, nameIndex := 7, descriptorIndex := 103, attributes := #[] }, { accessFlags := 1, nameIndex := 34, descriptorIndex := 35, attributes := #[] }, { accessFlags := 2, nameIndex := 102, descriptorIndex := 103, attributes := #[] }, { accessFlags := 1, nameIndex := 45, descriptorIndex := 46, attributes := #[] }, { accessFlags := 16, nameIndex := 552, descriptorIndex := 403, attributes := #[] }, { accessFlags := 16, nameIndex := 85, descriptorIndex := 86, attributes := #[] }, { accessFlags := 2, nameIndex := 217, descriptorIndex := 69, attributes := #[] }, { accessFlags := 2, nameIndex := 210, descriptorIndex := 211, attributes := #[] }] 1056 4 #[444, 48] #[{ accessFlags := 0, nameIndex := 17, descriptorIndex := 14, attributes := #[] }, { accessFlags := 0, nameIndex := 24, descriptorIndex := 25, attributes := #[] }, { accessFlags := 0, nameIndex := 75, descriptorIndex := 21, attributes := #[] }, { accessFlags := 0, nameIndex := 81, descriptorIndex := 82, attributes := #[] }, { accessFlags := 26, nameIndex := 13, descriptorIndex := 14, attributes := #[] }])
  fields := #[{ name := "value", type := (.array .byte), accessFlags := 0, slot := 0, constantValue := 0 }, { name := "coder", type := .byte, accessFlags := 0, slot := 1, constantValue := 0 }, { name := "maybeLatin1", type := .boolean, accessFlags := 0, slot := 2, constantValue := 0 }, { name := "count", type := .int, accessFlags := 0, slot := 3, constantValue := 0 }, { name := "EMPTYVALUE", type := (.array .byte), accessFlags := 26, slot := 0, constantValue := 0 }]
  methods := #[k10m0, k10m1, k10m2, k10m3, k10m4, k10m5, k10m6, k10m7, k10m8]
  instanceTypes := #[(.array .byte), .byte, .boolean, .int]
  staticTypes := #[(.array .byte)]
  resolved := Array.replicate 609 none
  statics := none }

def pool11 : Array CpInfo := pool [(1, .methodref 2 3), (0, .class_ 4), (0, .nameAndType 5 6), (0, u "java/lang/AbstractStringBuilder"), (0, u "<init>"), (0, u "(I)V"), (11, .class_ 20), (1, u "java/lang/String"), (3, .class_ 26), (1, u "java/lang/StringBuilder"), (0, u "append"), (0, u "(Ljava/lang/String;)Ljava/lang/StringBuilder;"), (0, .methodref 2 30), (0, .nameAndType 27 31), (0, u "(Ljava/lang/String;)Ljava/lang/AbstractStringBuilder;"), (105, .methodref 18 138), (0, .nameAndType 5 139), (0, u "(Ljava/lang/StringBuilder;)V"), (5, u "()V"), (10, u "()I"), (186, .methodref 2 344), (0, .nameAndType 345 156), (0, u "length"), (3, .class_ 350), (0, u "java/lang/Appendable"), (0, .class_ 352), (0, u "java/io/Serializable"), (0, .class_ 354), (0, u "java/lang/Comparable"), (0, .class_ 356), (0, u "java/lang/CharSequence"), (0, u "serialVersionUID"), (0, u "J"), (40, u "toString"), (0, u "()Ljava/lang/String;")] 21

def k11c0 : Code := { maxStack := 2, maxLocals := 1, code := jdk_67_method_1_code, exceptionTable := #[], attributes := #[] }
def k11m0 : Method := { name := "<init>", desc := "()V", sig := { parameters := [], returnType := none }, accessFlags := 1, code := some k11c0 }
def k11c1 : Code := { maxStack := 2, maxLocals := 2, code := jdk_67_method_7_code, exceptionTable := #[], attributes := #[] }
def k11m1 : Method := { name := "append", desc := "(Ljava/lang/String;)Ljava/lang/StringBuilder;", sig := { parameters := [(.object "java/lang/String")], returnType := some (.object "java/lang/StringBuilder") }, accessFlags := 1, code := some k11c1 }
def k11c2 : Code := { maxStack := 3, maxLocals := 1, code := jdk_67_method_42_code, exceptionTable := #[], attributes := #[] }
def k11m2 : Method := { name := "toString", desc := "()Ljava/lang/String;", sig := { parameters := [], returnType := some (.object "java/lang/String") }, accessFlags := 1, code := some k11c2 }
def k11c3 : Code := { maxStack := 1, maxLocals := 1, code := jdk_67_method_93_code, exceptionTable := #[], attributes := #[] }
def k11m3 : Method := { name := "length", desc := "()I", sig := { parameters := [], returnType := some .int }, accessFlags := 4161, code := some k11c3 }
/-- java/lang/StringBuilder -/
def k11 : Class := { plain "java/lang/StringBuilder" (some 10) with
  accessFlags := 49
  interfaces := #[9, 2, 3, 4]
  cf := some (fileOf pool11 24 #[] #[{ accessFlags := 1, nameIndex := 5, descriptorIndex := 145, attributes := #[] }, { accessFlags := 1, nameIndex := 27, descriptorIndex := 28, attributes := #[] }, { accessFlags := 1, nameIndex := 399, descriptorIndex := 400, attributes := #[] }, { accessFlags := 4161, nameIndex := 345, descriptorIndex := 156, attributes := #[] }] 49 2 #[349, 351, 353, 355] #[{ accessFlags := 24, nameIndex := 357, descriptorIndex := 358, attributes := #[] }])
  fields := #[{ name := "serialVersionUID", type := .long, accessFlags := 24, slot := 0, constantValue := 0 }]
  methods := #[k11m0, k11m1, k11m2, k11m3]
  instanceTypes := #[(.array .byte), .byte, .boolean, .int]
  staticTypes := #[.long]
  resolved := Array.replicate 422 none
  statics := none }

def pool12 : Array CpInfo := pool [(2, .class_ 4), (1, u "java/lang/Object"), (0, u "<init>"), (0, u "()V"), (1, .class_ 10), (1, u "java/lang/System"), (0, u "allowSecurityManager"), (0, u "I"), (16, u "cons"), (0, u "Ljava/io/Console;"), (77, .class_ 110), (1, u "java/lang/System$CallersHolder"), (43, u "initialErrStream"), (0, u "Ljava/io/PrintStream;"), (19, u "security"), (0, u "Ljava/lang/SecurityManager;"), (31, .class_ 209), (0, u "java/lang/System$1"), (7, u "props"), (0, u "Ljava/util/Properties;"), (2, u "lineSeparator"), (0, u "Ljava/lang/String;"), (96, .class_ 321), (1, u "java/lang/System$LoggerFinder"), (5, .class_ 328), (0, u "java/lang/System$Logger"), (67, u "err"), (2, u "out"), (91, u "notSupportedJnuEncoding"), (15, u "in"), (17, u "initialIn"), (0, u "Ljava/io/InputStream;"), (35, u "bootLayer"), (0, u "Ljava/lang/ModuleLayer;"), (99, .class_ 664), (0, u "java/lang/System$2"), (9, u "NEVER"), (2, u "MAYBE"), (49, u "arraycopy"), (0, u "(Ljava/lang/Object;ILjava/lang/Object;II)V"), (72, .class_ 802), (0, u "java/lang/System$Logger$Level")] 31

def k12m0 : Method := { name := "<init>", desc := "()V", sig := { parameters := [], returnType := none }, accessFlags := 2, code := none }
def k12m1 : Method := { name := "arraycopy", desc := "(Ljava/lang/Object;ILjava/lang/Object;II)V", sig := { parameters := [(.object "java/lang/Object"), .int, (.object "java/lang/Object"), .int, .int], returnType := none }, accessFlags := 265, code := none }
/-- java/lang/System -/
def k12 : Class := { plain "java/lang/System" (some 0) with
  accessFlags := 49
  interfaces := #[]
  cf := some (fileOf pool12 8 #[.nestMembers #[319, 327, 801, 108, 663, 208]] #[{ accessFlags := 2, nameIndex := 5, descriptorIndex := 6, attributes := #[] }, { accessFlags := 265, nameIndex := 727, descriptorIndex := 728, attributes := #[] }] 49 2 #[] #[{ accessFlags := 25, nameIndex := 507, descriptorIndex := 526, attributes := #[] }, { accessFlags := 25, nameIndex := 399, descriptorIndex := 155, attributes := #[] }, { accessFlags := 25, nameIndex := 396, descriptorIndex := 155, attributes := #[] }, { accessFlags := 10, nameIndex := 525, descriptorIndex := 526, attributes := #[] }, { accessFlags := 26, nameIndex := 674, descriptorIndex := 12, attributes := #[] }, { accessFlags := 26, nameIndex := 677, descriptorIndex := 12, attributes := #[] }, { accessFlags := 10, nameIndex := 11, descriptorIndex := 12, attributes := #[] }, { accessFlags := 74, nameIndex := 175, descriptorIndex := 176, attributes := #[] }, { accessFlags := 10, nameIndex := 491, descriptorIndex := 222, attributes := #[] }, { accessFlags := 74, nameIndex := 29, descriptorIndex := 30, attributes := #[] }, { accessFlags := 74, nameIndex := 154, descriptorIndex := 155, attributes := #[] }, { accessFlags := 10, nameIndex := 217, descriptorIndex := 218, attributes := #[] }, { accessFlags := 10, nameIndex := 221, descriptorIndex := 222, attributes := #[] }, { accessFlags := 8, nameIndex := 562, descriptorIndex := 563, attributes := #[] }])
  fields := #[{ name := "in", type := (.object "java/io/InputStream"), accessFlags := 25, slot := 0, constantValue := 0 }, { name := "out", type := (.object "java/io/PrintStream"), accessFlags := 25, slot := 1, constantValue := 0 }, { name := "err", type := (.object "java/io/PrintStream"), accessFlags := 25, slot := 2, constantValue := 0 }, { name := "initialIn", type := (.object "java/io/InputStream"), accessFlags := 10, slot := 3, constantValue := 0 }, { name := "NEVER", type := .int, accessFlags := 26, slot := 4, constantValue := 0 }, { name := "MAYBE", type := .int, accessFlags := 26, slot := 5, constantValue := 0 }, { name := "allowSecurityManager", type := .int, accessFlags := 10, slot := 6, constantValue := 0 }, { name := "security", type := (.object "java/lang/SecurityManager"), accessFlags := 74, slot := 7, constantValue := 0 }, { name := "notSupportedJnuEncoding", type := (.object "java/lang/String"), accessFlags := 10, slot := 8, constantValue := 0 }, { name := "cons", type := (.object "java/io/Console"), accessFlags := 74, slot := 9, constantValue := 0 }, { name := "initialErrStream", type := (.object "java/io/PrintStream"), accessFlags := 74, slot := 10, constantValue := 0 }, { name := "props", type := (.object "java/util/Properties"), accessFlags := 10, slot := 11, constantValue := 0 }, { name := "lineSeparator", type := (.object "java/lang/String"), accessFlags := 10, slot := 12, constantValue := 0 }, { name := "bootLayer", type := (.object "java/lang/ModuleLayer"), accessFlags := 8, slot := 13, constantValue := 0 }]
  methods := #[k12m0, k12m1]
  instanceTypes := #[]
  staticTypes := #[(.object "java/io/InputStream"), (.object "java/io/PrintStream"), (.object "java/io/PrintStream"), (.object "java/io/InputStream"), .int, .int, .int, (.object "java/lang/SecurityManager"), (.object "java/lang/String"), (.object "java/io/Console"), (.object "java/io/PrintStream"), (.object "java/util/Properties"), (.object "java/lang/String"), (.object "java/lang/ModuleLayer")]
  resolved := Array.replicate 834 none
  statics := none }

def pool13 : Array CpInfo := pool [(2, .class_ 4), (1, u "java/lang/Object"), (0, u "<init>"), (0, u "()V"), (7, .class_ 16), (1, u "java/util/Arrays"), (57, .class_ 76), (1, u "java/util/Arrays$NaturalOrder"), (36, .class_ 115), (1, u "java/util/Arrays$LegacyMergeSort"), (1, u "Z"), (21, u "copyOfRange"), (10, .methodref 151 152), (0, .class_ 153), (0, .nameAndType 154 155), (0, u "java/lang/System"), (0, u "arraycopy"), (0, u "(Ljava/lang/Object;ILjava/lang/Object;II)V"), (148, .methodref 305 306), (0, .class_ 307), (0, .nameAndType 308 309), (0, u "java/lang/Math"), (0, u "min"), (0, u "(II)I"), (29, .methodref 14 340), (0, .nameAndType 341 342), (0, u "copyOfRangeByte"), (0, u "([BII)[B"), (0, .methodref 14 344), (0, .nameAndType 345 346), (0, u "checkLength"), (0, u "(II)V"), (28, .class_ 376), (0, u "java/util/Arrays$ArrayList"), (68, u "$assertionsDisabled"), (269, u "MIN_ARRAY_SORT_GRAN"), (0, u "I"), (2, u "INSERTIONSORT_THRESHOLD"), (255, .class_ 976), (0, u "java/util/Arrays$ArrayItr")] 52

def k13m0 : Method := { name := "<init>", desc := "()V", sig := { parameters := [], returnType := none }, accessFlags := 2, code := none }
def k13c1 : Code := { maxStack := 4, maxLocals := 2, code := jdk_65_method_131_code, exceptionTable := #[], attributes := #[] }
def k13m1 : Method := { name := "checkLength", desc := "(II)V", sig := { parameters := [.int, .int], returnType := none }, accessFlags := 10, code := some k13c1 }
def k13c2 : Code := { maxStack := 3, maxLocals := 3, code := jdk_65_method_132_code, exceptionTable := #[], attributes := #[] }
def k13m2 : Method := { name := "copyOfRange", desc := "([BII)[B", sig := { parameters := [(.array .byte), .int, .int], returnType := some (.array .byte) }, accessFlags := 9, code := some k13c2 }
def k13c3 : Code := { maxStack := 6, maxLocals := 5, code := jdk_65_method_133_code, exceptionTable := #[], attributes := #[] }
def k13m3 : Method := { name := "copyOfRangeByte", desc := "([BII)[B", sig := { parameters := [(.array .byte), .int, .int], returnType := some (.array .byte) }, accessFlags := 10, code := some k13c3 }
/-- java/util/Arrays -/
def k13 : Class := { plain "java/util/Arrays" (some 0) with
  accessFlags := 49
  interfaces := #[]
  cf := some (fileOf pool13 14 #[.nestMembers #[975, 375, 113, 74]] #[{ accessFlags := 2, nameIndex := 5, descriptorIndex := 6, attributes := #[] }, { accessFlags := 10, nameIndex := 345, descriptorIndex := 346, attributes := #[] }, { accessFlags := 9, nameIndex := 139, descriptorIndex := 342, attributes := #[] }, { accessFlags := 10, nameIndex := 341, descriptorIndex := 342, attributes := #[] }] 49 2 #[] #[{ accessFlags := 26, nameIndex := 715, descriptorIndex := 716, attributes := #[] }, { accessFlags := 26, nameIndex := 719, descriptorIndex := 716, attributes := #[] }, { accessFlags := 4120, nameIndex := 445, descriptorIndex := 117, attributes := #[] }])
  fields := #[{ name := "MIN_ARRAY_SORT_GRAN", type := .int, accessFlags := 26, slot := 0, constantValue := 0 }, { name := "INSERTIONSORT_THRESHOLD", type := .int, accessFlags := 26, slot := 1, constantValue := 0 }, { name := "$assertionsDisabled", type := .boolean, accessFlags := 4120, slot := 2, constantValue := 0 }]
  methods := #[k13m0, k13m1, k13m2, k13m3]
  instanceTypes := #[]
  staticTypes := #[.int, .int, .boolean]
  resolved := Array.replicate 1029 none
  statics := none }

def pool14 : Array CpInfo := pool [(1, .class_ 2), (0, u "java/lang/Math"), (1, .class_ 6), (1, u "java/lang/Object"), (0, u "<init>"), (0, u "()V"), (89, .class_ 100), (1, u "java/lang/Math$RandomNumberGeneratorHolder"), (71, u "negativeZeroFloatBits"), (0, u "J"), (2, u "negativeZeroDoubleBits"), (24, u "min"), (43, u "$assertionsDisabled"), (0, u "Z"), (88, u "(II)I"), (2, u "twoToTheDoubleScaleDown"), (0, u "D"), (4, u "twoToTheDoubleScaleUp"), (9, u "E"), (3, u "PI"), (2, u "TAU"), (2, u "DEGREES_TO_RADIANS"), (0, u "RADIANS_TO_DEGREES")] 94

def k14m0 : Method := { name := "<init>", desc := "()V", sig := { parameters := [], returnType := none }, accessFlags := 2, code := none }
def k14c1 : Code := { maxStack := 2, maxLocals := 2, code := jdk_29_method_69_code, exceptionTable := #[], attributes := #[] }
def k14m1 : Method := { name := "min", desc := "(II)I", sig := { parameters := [.int, .int], returnType := some .int }, accessFlags := 9, code := some k14c1 }
/-- java/lang/Math -/
def k14 : Class := { plain "java/lang/Math" (some 0) with
  accessFlags := 49
  interfaces := #[]
  cf := some (fileOf pool14 1 #[.nestMembers #[98]] #[{ accessFlags := 2, nameIndex := 7, descriptorIndex := 8, attributes := #[] }, { accessFlags := 9, nameIndex := 201, descriptorIndex := 335, attributes := #[] }] 49 4 #[] #[{ accessFlags := 25, nameIndex := 354, descriptorIndex := 339, attributes := #[] }, { accessFlags := 25, nameIndex := 358, descriptorIndex := 339, attributes := #[] }, { accessFlags := 25, nameIndex := 361, descriptorIndex := 339, attributes := #[] }, { accessFlags := 26, nameIndex := 364, descriptorIndex := 339, attributes := #[] }, { accessFlags := 26, nameIndex := 365, descriptorIndex := 339, attributes := #[] }, { accessFlags := 26, nameIndex := 172, descriptorIndex := 173, attributes := #[] }, { accessFlags := 26, nameIndex := 176, descriptorIndex := 173, attributes := #[] }, { accessFlags := 8, nameIndex := 344, descriptorIndex := 339, attributes := #[] }, { accessFlags := 8, nameIndex := 338, descriptorIndex := 339, attributes := #[] }, { accessFlags := 4120, nameIndex := 245, descriptorIndex := 246, attributes := #[] }])
  fields := #[{ name := "E", type := .double, accessFlags := 25, slot := 0, constantValue := 0 }, { name := "PI", type := .double, accessFlags := 25, slot := 1, constantValue := 0 }, { name := "TAU", type := .double, accessFlags := 25, slot := 2, constantValue := 0 }, { name := "DEGREES_TO_RADIANS", type := .double, accessFlags := 26, slot := 3, constantValue := 0 }, { name := "RADIANS_TO_DEGREES", type := .double, accessFlags := 26, slot := 4, constantValue := 0 }, { name := "negativeZeroFloatBits", type := .long, accessFlags := 26, slot := 5, constantValue := 0 }, { name := "negativeZeroDoubleBits", type := .long, accessFlags := 26, slot := 6, constantValue := 0 }, { name := "twoToTheDoubleScaleUp", type := .double, accessFlags := 8, slot := 7, constantValue := 0 }, { name := "twoToTheDoubleScaleDown", type := .double, accessFlags := 8, slot := 8, constantValue := 0 }, { name := "$assertionsDisabled", type := .boolean, accessFlags := 4120, slot := 9, constantValue := 0 }]
  methods := #[k14m0, k14m1]
  instanceTypes := #[]
  staticTypes := #[.double, .double, .double, .double, .double, .long, .long, .double, .double, .boolean]
  resolved := Array.replicate 460 none
  statics := none }

def pool15 : Array CpInfo := pool [(1, .class_ 2), (0, u "java/lang/String"), (1, .class_ 6), (1, u "java/lang/Object"), (0, u "<init>"), (0, u "()V"), (0, .methodref 1 10), (0, .nameAndType 11 12), (0, u "checkIndex"), (0, u "(II)V"), (1, .class_ 16), (1, u "java/lang/StringLatin1"), (36, u "([BI)C"), (67, u "$assertionsDisabled"), (0, u "Z"), (98, .class_ 223), (1, u "java/lang/StringLatin1$LinesSpliterator"), (28, u "charAt"), (137, .class_ 391), (0, u "java/lang/StringLatin1$CharsSpliterator")] 3

def k15m0 : Method := { name := "<init>", desc := "()V", sig := { parameters := [], returnType := none }, accessFlags := 0, code := none }
def k15c1 : Code := { maxStack := 2, maxLocals := 2, code := jdk_43_method_2_code, exceptionTable := #[], attributes := #[] }
def k15m1 : Method := { name := "charAt", desc := "([BI)C", sig := { parameters := [(.array .byte), .int], returnType := some .char }, accessFlags := 9, code := some k15c1 }
/-- java/lang/StringLatin1 -/
def k15 : Class := { plain "java/lang/StringLatin1" (some 0) with
  accessFlags := 48
  interfaces := #[]
  cf := some (fileOf pool15 14 #[.nestMembers #[390, 221]] #[{ accessFlags := 0, nameIndex := 7, descriptorIndex := 8, attributes := #[] }, { accessFlags := 9, nameIndex := 252, descriptorIndex := 53, attributes := #[] }] 48 4 #[] #[{ accessFlags := 4120, nameIndex := 121, descriptorIndex := 122, attributes := #[] }])
  fields := #[{ name := "$assertionsDisabled", type := .boolean, accessFlags := 4120, slot := 0, constantValue := 0 }]
  methods := #[k15m0, k15m1]
  instanceTypes := #[]
  staticTypes := #[.boolean]
  resolved := Array.replicate 395 none
  statics := none }

def pool16 : Array CpInfo := pool [(2, .class_ 4), (1, u "java/lang/Object"), (0, u "<init>"), (0, u "()V"), (17, .class_ 26), (1, u "jdk/internal/util/Preconditions"), (6, u "checkIndex"), (21, .class_ 56), (0, u "jdk/internal/util/Preconditions$4"), (57, .class_ 115), (0, u "jdk/internal/util/Preconditions$1"), (7, u "SIOOBE_FORMATTER"), (0, u "Ljava/util/function/BiFunction;"), (0, .class_ 126), (0, u "jdk/internal/util/Preconditions$2"), (3, u "AIOOBE_FORMATTER"), (0, .class_ 132), (0, u "jdk/internal/util/Preconditions$3"), (3, u "IOOBE_FORMATTER"), (41, u "(IILjava/util/function/BiFunction;)I")] 15

def k16m0 : Method := { name := "<init>", desc := "()V", sig := { parameters := [], returnType := none }, accessFlags := 1, code := none }
def k16c1 : Code := { maxStack := 3, maxLocals := 3, code := jdk_41_method_11_code, exceptionTable := #[], attributes := #[] }
def k16m1 : Method := { name := "checkIndex", desc := "(IILjava/util/function/BiFunction;)I", sig := { parameters := [.int, .int, (.object "java/util/function/BiFunction")], returnType := some .int }, accessFlags := 9, code := some k16c1 }
/-- jdk/internal/util/Preconditions -/
def k16 : Class := { plain "jdk/internal/util/Preconditions" (some 0) with
  accessFlags := 33
  interfaces := #[]
  cf := some (fileOf pool16 24 #[.nestMembers #[55, 131, 125, 114]] #[{ accessFlags := 1, nameIndex := 5, descriptorIndex := 6, attributes := #[] }, { accessFlags := 9, nameIndex := 33, descriptorIndex := 178, attributes := #[] }] 33 2 #[] #[{ accessFlags := 25, nameIndex := 123, descriptorIndex := 124, attributes := #[] }, { accessFlags := 25, nameIndex := 130, descriptorIndex := 124, attributes := #[] }, { accessFlags := 25, nameIndex := 136, descriptorIndex := 124, attributes := #[] }])
  fields := #[{ name := "SIOOBE_FORMATTER", type := (.object "java/util/function/BiFunction"), accessFlags := 25, slot := 0, constantValue := 0 }, { name := "AIOOBE_FORMATTER", type := (.object "java/util/function/BiFunction"), accessFlags := 25, slot := 1, constantValue := 0 }, { name := "IOOBE_FORMATTER", type := (.object "java/util/function/BiFunction"), accessFlags := 25, slot := 2, constantValue := 0 }]
  methods := #[k16m0, k16m1]
  instanceTypes := #[]
  staticTypes := #[(.object "java/util/function/BiFunction"), (.object "java/util/function/BiFunction"), (.object "java/util/function/BiFunction")]
  resolved := Array.replicate 194 none
  statics := some 1 }

def pool17 : Array CpInfo := pool [(6, .class_ 8), (1, u "java/lang/Object"), (0, u "<init>"), (0, u "()V"), (1, .class_ 14), (1, u "java/lang/StringUTF16"), (31, u "$assertionsDisabled"), (0, u "Z"), (13, u "HI_BYTE_SHIFT"), (0, u "I"), (2, u "LO_BYTE_SHIFT"), (49, .methodref 12 116), (0, .nameAndType 117 118), (0, u "compress"), (0, u "([CI[BII)I"), (3, u "([CII)[B"), (138, u "coderFromArrayLen"), (0, u "([BI)B"), (106, .class_ 371), (1, u "java/lang/StringUTF16$LinesSpliterator"), (58, u "MAX_LENGTH"), (196, .class_ 628), (0, u "java/lang/StringUTF16$CodePointsSpliterator"), (0, .class_ 630), (0, u "java/lang/StringUTF16$CharsSpliterator")] 4

def k17m0 : Method := { name := "<init>", desc := "()V", sig := { parameters := [], returnType := none }, accessFlags := 0, code := none }
def k17c1 : Code := { maxStack := 2, maxLocals := 2, code := jdk_52_method_15_code, exceptionTable := #[], attributes := #[] }
def k17m1 : Method := { name := "coderFromArrayLen", desc := "([BI)B", sig := { parameters := [(.array .byte), .int], returnType := some .byte }, accessFlags := 8, code := some k17c1 }
def k17c2 : Code := { maxStack := 5, maxLocals := 6, code := jdk_52_method_16_code, exceptionTable := #[], attributes := #[] }
def k17m2 : Method := { name := "compress", desc := "([CII)[B", sig := { parameters := [(.array .char), .int, .int], returnType := some (.array .byte) }, accessFlags := 9, code := some k17c2 }
def k17c3 : Code := { maxStack := 3, maxLocals := 7, code := jdk_52_method_21_code, exceptionTable := #[], attributes := #[] }
def k17m3 : Method := { name := "compress", desc := "([CI[BII)I", sig := { parameters := [(.array .char), .int, (.array .byte), .int, .int], returnType := some .int }, accessFlags := 9, code := some k17c3 }
/-- java/lang/StringUTF16 -/
def k17 : Class := { plain "java/lang/StringUTF16" (some 0) with
  accessFlags := 48
  interfaces := #[]
  cf := some (fileOf pool17 12 #[.nestMembers #[627, 629, 369]] #[{ accessFlags := 0, nameIndex := 9, descriptorIndex := 10, attributes := #[] }, { accessFlags := 8, nameIndex := 261, descriptorIndex := 262, attributes := #[] }, { accessFlags := 9, nameIndex := 117, descriptorIndex := 122, attributes := #[] }, { accessFlags := 9, nameIndex := 117, descriptorIndex := 118, attributes := #[] }] 48 6 #[] #[{ accessFlags := 26, nameIndex := 61, descriptorIndex := 62, attributes := #[] }, { accessFlags := 26, nameIndex := 65, descriptorIndex := 62, attributes := #[] }, { accessFlags := 24, nameIndex := 430, descriptorIndex := 62, attributes := #[] }, { accessFlags := 4120, nameIndex := 46, descriptorIndex := 47, attributes := #[] }])
  fields := #[{ name := "HI_BYTE_SHIFT", type := .int, accessFlags := 26, slot := 0, constantValue := 0 }, { name := "LO_BYTE_SHIFT", type := .int, accessFlags := 26, slot := 1, constantValue := 0 }, { name := "MAX_LENGTH", type := .int, accessFlags := 24, slot := 2, constantValue := 0 }, { name := "$assertionsDisabled", type := .boolean, accessFlags := 4120, slot := 3, constantValue := 0 }]
  methods := #[k17m0, k17m1, k17m2, k17m3]
  instanceTypes := #[]
  staticTypes := #[.int, .int, .int, .boolean]
  resolved := Array.replicate 635 none
  statics := none }

def pool18 : Array CpInfo := pool [(9, u "<init>"), (6, .class_ 18), (1, u "java/lang/Object"), (0, u "()V"), (1, .class_ 23), (1, u "jdk/internal/util/ArraysSupport"), (0, u "LOG2_ARRAY_LONG_INDEX_SCALE"), (0, u "I"), (2, u "U"), (0, u "Ljdk/internal/misc/Unsafe;"), (8, u "BIG_ENDIAN"), (0, u "Z"), (8, u "LOG2_BYTE_BIT_SIZE"), (4, u "LOG2_ARRAY_INT_INDEX_SCALE"), (54, u "JLA"), (0, u "Ljdk/internal/access/JavaLangAccess;"), (11, u "LOG2_ARRAY_BOOLEAN_INDEX_SCALE"), (9, u "LOG2_ARRAY_BYTE_INDEX_SCALE"), (5, u "LOG2_ARRAY_CHAR_INDEX_SCALE"), (5, u "LOG2_ARRAY_SHORT_INDEX_SCALE"), (18, u "LOG2_ARRAY_FLOAT_INDEX_SCALE"), (24, u "LOG2_ARRAY_DOUBLE_INDEX_SCALE"), (89, u "T_BOOLEAN"), (2, u "T_CHAR"), (1, u "T_FLOAT"), (1, u "T_DOUBLE"), (1, u "T_BYTE"), (1, u "T_SHORT"), (1, u "T_INT"), (1, u "T_LONG"), (1, u "SOFT_MAX_ARRAY_LENGTH")] 83

def k18m0 : Method := { name := "<init>", desc := "()V", sig := { parameters := [], returnType := none }, accessFlags := 2, code := none }
/-- jdk/internal/util/ArraysSupport -/
def k18 : Class := { plain "jdk/internal/util/ArraysSupport" (some 0) with
  accessFlags := 33
  interfaces := #[]
  cf := some (fileOf pool18 21 #[] #[{ accessFlags := 2, nameIndex := 9, descriptorIndex := 19, attributes := #[] }] 33 16 #[] #[{ accessFlags := 24, nameIndex := 28, descriptorIndex := 29, attributes := #[] }, { accessFlags := 26, nameIndex := 38, descriptorIndex := 39, attributes := #[] }, { accessFlags := 25, nameIndex := 121, descriptorIndex := 25, attributes := #[] }, { accessFlags := 25, nameIndex := 131, descriptorIndex := 25, attributes := #[] }, { accessFlags := 25, nameIndex := 137, descriptorIndex := 25, attributes := #[] }, { accessFlags := 25, nameIndex := 143, descriptorIndex := 25, attributes := #[] }, { accessFlags := 25, nameIndex := 53, descriptorIndex := 25, attributes := #[] }, { accessFlags := 25, nameIndex := 24, descriptorIndex := 25, attributes := #[] }, { accessFlags := 25, nameIndex := 162, descriptorIndex := 25, attributes := #[] }, { accessFlags := 25, nameIndex := 187, descriptorIndex := 25, attributes := #[] }, { accessFlags := 26, nameIndex := 48, descriptorIndex := 25, attributes := #[] }, { accessFlags := 25, nameIndex := 277, descriptorIndex := 25, attributes := #[] }, { accessFlags := 25, nameIndex := 280, descriptorIndex := 25, attributes := #[] }, { accessFlags := 25, nameIndex := 282, descriptorIndex := 25, attributes := #[] }, { accessFlags := 25, nameIndex := 284, descriptorIndex := 25, attributes := #[] }, { accessFlags := 25, nameIndex := 286, descriptorIndex := 25, attributes := #[] }, { accessFlags := 25, nameIndex := 288, descriptorIndex := 25, attributes := #[] }, { accessFlags := 25, nameIndex := 290, descriptorIndex := 25, attributes := #[] }, { accessFlags := 25, nameIndex := 292, descriptorIndex := 25, attributes := #[] }, { accessFlags := 26, nameIndex := 108, descriptorIndex := 109, attributes := #[] }, { accessFlags := 25, nameIndex := 294, descriptorIndex := 25, attributes := #[] }])
  fields := #[{ name := "U", type := (.object "jdk/internal/misc/Unsafe"), accessFlags := 24, slot := 0, constantValue := 0 }, { name := "BIG_ENDIAN", type := .boolean, accessFlags := 26, slot := 1, constantValue := 0 }, { name := "LOG2_ARRAY_BOOLEAN_INDEX_SCALE", type := .int, accessFlags := 25, slot := 2, constantValue := 0 }, { name := "LOG2_ARRAY_BYTE_INDEX_SCALE", type := .int, accessFlags := 25, slot := 3, constantValue := 0 }, { name := "LOG2_ARRAY_CHAR_INDEX_SCALE", type := .int, accessFlags := 25, slot := 4, constantValue := 0 }, { name := "LOG2_ARRAY_SHORT_INDEX_SCALE", type := .int, accessFlags := 25, slot := 5, constantValue := 0 }, { name := "LOG2_ARRAY_INT_INDEX_SCALE", type := .int, accessFlags := 25, slot := 6, constantValue := 0 }, { name := "LOG2_ARRAY_LONG_INDEX_SCALE", type := .int, accessFlags := 25, slot := 7, constantValue := 0 }, { name := "LOG2_ARRAY_FLOAT_INDEX_SCALE", type := .int, accessFlags := 25, slot := 8, constantValue := 0 }, { name := "LOG2_ARRAY_DOUBLE_INDEX_SCALE", type := .int, accessFlags := 25, slot := 9, constantValue := 0 }, { name := "LOG2_BYTE_BIT_SIZE", type := .int, accessFlags := 26, slot := 10, constantValue := 0 }, { name := "T_BOOLEAN", type := .int, accessFlags := 25, slot := 11, constantValue := 0 }, { name := "T_CHAR", type := .int, accessFlags := 25, slot := 12, constantValue := 0 }, { name := "T_FLOAT", type := .int, accessFlags := 25, slot := 13, constantValue := 0 }, { name := "T_DOUBLE", type := .int, accessFlags := 25, slot := 14, constantValue := 0 }, { name := "T_BYTE", type := .int, accessFlags := 25, slot := 15, constantValue := 0 }, { name := "T_SHORT", type := .int, accessFlags := 25, slot := 16, constantValue := 0 }, { name := "T_INT", type := .int, accessFlags := 25, slot := 17, constantValue := 0 }, { name := "T_LONG", type := .int, accessFlags := 25, slot := 18, constantValue := 0 }, { name := "JLA", type := (.object "jdk/internal/access/JavaLangAccess"), accessFlags := 26, slot := 19, constantValue := 0 }, { name := "SOFT_MAX_ARRAY_LENGTH", type := .int, accessFlags := 25, slot := 20, constantValue := 0 }]
  methods := #[k18m0]
  instanceTypes := #[]
  staticTypes := #[(.object "jdk/internal/misc/Unsafe"), .boolean, .int, .int, .int, .int, .int, .int, .int, .int, .int, .int, .int, .int, .int, .int, .int, .int, .int, (.object "jdk/internal/access/JavaLangAccess"), .int]
  resolved := Array.replicate 378 none
  statics := none }

def pool19 : Array CpInfo := pool [(1, u "java/lang/Cloneable"), (0, .class_ 1), (0, u "java/lang/Object"), (0, .class_ 3)] 3

/-- java/lang/Cloneable -/
def k19 : Class := { plain "java/lang/Cloneable" (some 0) with
  accessFlags := 1537
  interfaces := #[]
  cf := some (fileOf pool19 2 #[] #[] 1537 4 #[] #[])
  fields := #[]
  methods := #[]
  instanceTypes := #[]
  staticTypes := #[]
  resolved := Array.replicate 8 none
  statics := none }

/-- the primitive byte -/
def k20 : Class := { plain "byte" none with kind := .primitive 'B', accessFlags := 0x411 }
/-- [B -/
def k21 : Class := { plain "[B" (some 0) with kind := .array 20 .byte, interfaces := #[19, 2], accessFlags := 1041 }

/-- the primitive char -/
def k22 : Class := { plain "char" none with kind := .primitive 'C', accessFlags := 0x411 }
/-- [C -/
def k23 : Class := { plain "[C" (some 0) with kind := .array 22 .char, interfaces := #[19, 2], accessFlags := 1041 }

/-- the primitive int -/
def k24 : Class := { plain "int" none with kind := .primitive 'I', accessFlags := 0x411 }
/-- [I -/
def k25 : Class := { plain "[I" (some 0) with kind := .array 24 .int, interfaces := #[19, 2], accessFlags := 1041 }

def heap : Heap := #[{ cls := 7, slots := #[.long 0, .int 1, .null, .int 0, .null, .int 0, .int 0], vm := .statics 7 },
  { cls := 16, slots := #[.null, .null, .null], vm := .statics 16 }]
def classes : Array Class := #[k0, k1, k2, k3, k4, k5, k6, k7, k8, k9, k10, k11, k12, k13, k14, k15, k16, k17, k18, k19, k20, k21, k22, k23, k24, k25]
def interned : List (Array UInt16 × Addr) := []
def slotsUsed : Nat := 10
def theMethod : MethodId := ⟨1, 1⟩
def args0 : Array Value := #[.int 5, .int 7]
def aboutOver (below : List Frame) : State where
  vm := { classes := classes, interned := interned.toArray }
  heap := heap
  slotsUsed := slotsUsed
  threads := #[{ frames := .invoking theMethod args0 :: below }]
def below0 : List Frame := [.native { method := ⟨0, 0⟩, args := #[] }]
def about1 : State := aboutOver below0
def p0 : Program := .bare "" "" ""
def e0 : Env := launch0.env 0 0 0
theorem w_frames : about1.frames = Frame.invoking theMethod args0 :: below0 := rfl
set_option maxRecDepth 65536 in
theorem w_args : argsFit about1.vm theMethod args0 = true := by decide +kernel
set_option maxRecDepth 65536 in
theorem w_heap : heapFits about1 = true := by decide +kernel
set_option maxRecDepth 65536 in
theorem w_runnable : about1.curStatus? = some .runnable := by decide +kernel
set_option maxRecDepth 65536 in
theorem w_alone : about1.alone = true := by decide +kernel
set_option maxRecDepth 65536 in
theorem w_named : about1.methodNamed? x = some theMethod := by decide +kernel
set_option maxRecDepth 65536 in
theorem w_hears : about1.hears theMethod below0 = true := by decide +kernel
set_option maxRecDepth 65536 in
theorem w_ripe : about1.ripe theMethod args0 below0 = true := by decide +kernel
theorem w_running : about1.status = .running := rfl
set_option maxRecDepth 65536 in
theorem w_room : about1.hasRoom e0.platform room_1 = true :=
  launch0.hasRoom_least _ room_1 (by decide +kernel) (by decide +kernel) (by decide +kernel) (by decide +kernel) (by decide +kernel) (by decide +kernel)
theorem allAtoms_all (ts : List Jvm.Cond) (a : Array Jvm.Value) (st : Jvm.State) : (allAtoms ts).before a st = ts.all (fun c => c.before a st) := by
  induction ts with
  | nil => rfl
  | cons c t ih =>
    show (Jvm.Cond.and c (allAtoms t)).before a st = _
    rw [Jvm.Cond.before_and, ih, List.all_cons]
def words1 : List Jvm.Cond := Jvm.Cond.code x code maxLocals ret :: tables_1
/-- a 'code' word, met by the world's own term for the bytes: nothing is compared byte by byte -/
theorem code_word {y : MethodName} {bytes : ByteArray} {mx : Nat} {rt : Option FieldType} {a : Array Value} {s : State} {m : MethodId} {meth : Method} {c : Code} (h1 : s.methodNamed? y = some m) (h2 : s.vm.method? m = some meth) (h3 : meth.code = some c) (h4 : c.code = bytes)
    (h5 : (c.maxLocals == mx && c.exceptionTable.isEmpty && decide (c.maxStack ≤ mostOperands) && decide (meth.sig.returnType = rt) && !meth.locks && decide (parseMethodDescriptor y.desc = some meth.sig)) = true) : (Jvm.Cond.code y bytes mx rt).before a s = true := by
  simp only [Bool.and_eq_true, beq_iff_eq, Bool.not_eq_true', decide_eq_true_eq] at h5
  obtain ⟨⟨⟨⟨⟨g1, g2⟩, g3⟩, g4⟩, g5⟩, g6⟩ := h5
  simp [Cond.before, Cond.holds, Cond.value, h1, h2, h3, h4, g1, g2, g3, g4, g5, g6]
def isCode : Jvm.Cond → Bool
  | .code _ _ _ _ => true
  | _ => false
theorem all_split {L : List Jvm.Cond} {P : Jvm.Cond → Bool} (h1 : L.all (fun c => isCode c || P c) = true) (h2 : ∀ c ∈ L.filter isCode, P c = true) : L.all P = true := by
  refine List.all_eq_true.mpr fun c hc => ?_
  have h := List.all_eq_true.mp h1 c hc
  rcases Bool.eq_false_or_eq_true (isCode c) with hi | hi
  · exact h2 c (List.mem_filter.mpr ⟨hc, hi⟩)
  · simpa [hi] using h
set_option maxRecDepth 65536 in
theorem w_c0 : (Jvm.Cond.code x code maxLocals ret).before args0 about1 = true := code_word (m := ⟨1, 1⟩) (meth := k1m1) (c := k1c1) (by decide +kernel) rfl rfl rfl (by decide +kernel)
set_option maxRecDepth 65536 in
theorem w_c1 : (Jvm.Cond.code ({ cls := "com/example/treeward/treeward/engine/FindingToStringPinLaw", name := "mk", desc := "(I)Ljava/lang/String;" } : Jvm.MethodName) method_3_code (5 : Nat) (Option.some (Jvm.ClassFile.FieldType.object "java/lang/String"))).before args0 about1 = true := code_word (m := ⟨1, 2⟩) (meth := k1m2) (c := k1c2) (by decide +kernel) rfl rfl rfl (by decide +kernel)
set_option maxRecDepth 65536 in
theorem w_c2 : (Jvm.Cond.code ({ cls := "java/lang/String", name := "<init>", desc := "([C)V" } : Jvm.MethodName) jdk_42_method_3_code (2 : Nat) (Option.none : Option Jvm.ClassFile.FieldType)).before args0 about1 = true := code_word (m := ⟨7, 1⟩) (meth := k7m1) (c := k7c1) (by decide +kernel) rfl rfl rfl (by decide +kernel)
set_option maxRecDepth 65536 in
theorem w_c3 : (Jvm.Cond.code ({ cls := "java/lang/String", name := "<init>", desc := "([CIILjava/lang/Void;)V" } : Jvm.MethodName) jdk_42_method_149_code (6 : Nat) (Option.none : Option Jvm.ClassFile.FieldType)).before args0 about1 = true := code_word (m := ⟨7, 6⟩) (meth := k7m6) (c := k7c6) (by decide +kernel) rfl rfl rfl (by decide +kernel)
set_option maxRecDepth 65536 in
theorem w_c4 : (Jvm.Cond.code ({ cls := "java/lang/Object", name := "<init>", desc := "()V" } : Jvm.MethodName) object_method_1_code (1 : Nat) (Option.none : Option Jvm.ClassFile.FieldType)).before args0 about1 = true := code_word (m := ⟨0, 0⟩) (meth := k0m0) (c := k0c0) (by decide +kernel) rfl rfl rfl (by decide +kernel)
set_option maxRecDepth 65536 in
theorem w_c5 : (Jvm.Cond.code ({ cls := "com/example/treeward/treeward/engine/Finding", name := "<init>", desc := "(Ljava/lang/String;Ljava/lang/String;)V" } : Jvm.MethodName) prog_2_method_1_code (3 : Nat) (Option.none : Option Jvm.ClassFile.FieldType)).before args0 about1 = true := code_word (m := ⟨8, 0⟩) (meth := k8m0) (c := k8c0) (by decide +kernel) rfl rfl rfl (by decide +kernel)
set_option maxRecDepth 65536 in
theorem w_c6 : (Jvm.Cond.code ({ cls := "com/example/treeward/treeward/engine/Finding", name := "toString", desc := "()Ljava/lang/String;" } : Jvm.MethodName) prog_2_method_4_code (1 : Nat) (Option.some (Jvm.ClassFile.FieldType.object "java/lang/String"))).before args0 about1 = true := code_word (m := ⟨8, 1⟩) (meth := k8m1) (c := k8c1) (by decide +kernel) rfl rfl rfl (by decide +kernel)
set_option maxRecDepth 65536 in
theorem w_c7 : (Jvm.Cond.code ({ cls := "java/lang/StringBuilder", name := "<init>", desc := "()V" } : Jvm.MethodName) jdk_67_method_1_code (1 : Nat) (Option.none : Option Jvm.ClassFile.FieldType)).before args0 about1 = true := code_word (m := ⟨11, 0⟩) (meth := k11m0) (c := k11c0) (by decide +kernel) rfl rfl rfl (by decide +kernel)
set_option maxRecDepth 65536 in
theorem w_c8 : (Jvm.Cond.code ({ cls := "java/lang/AbstractStringBuilder", name := "<init>", desc := "(I)V" } : Jvm.MethodName) jdk_68_method_2_code (2 : Nat) (Option.none : Option Jvm.ClassFile.FieldType)).before args0 about1 = true := code_word (m := ⟨10, 1⟩) (meth := k10m1) (c := k10c1) (by decide +kernel) rfl rfl rfl (by decide +kernel)
set_option maxRecDepth 65536 in
theorem w_c9 : (Jvm.Cond.code ({ cls := "java/lang/StringBuilder", name := "append", desc := "(Ljava/lang/String;)Ljava/lang/StringBuilder;" } : Jvm.MethodName) jdk_67_method_7_code (2 : Nat) (Option.some (Jvm.ClassFile.FieldType.object "java/lang/StringBuilder"))).before args0 about1 = true := code_word (m := ⟨11, 1⟩) (meth := k11m1) (c := k11c1) (by decide +kernel) rfl rfl rfl (by decide +kernel)
set_option maxRecDepth 65536 in
theorem w_c10 : (Jvm.Cond.code ({ cls := "java/lang/AbstractStringBuilder", name := "append", desc := "(Ljava/lang/String;)Ljava/lang/AbstractStringBuilder;" } : Jvm.MethodName) jdk_68_method_22_code (3 : Nat) (Option.some (Jvm.ClassFile.FieldType.object "java/lang/AbstractStringBuilder"))).before args0 about1 = true := code_word (m := ⟨10, 4⟩) (meth := k10m4) (c := k10c4) (by decide +kernel) rfl rfl rfl (by decide +kernel)
set_option maxRecDepth 65536 in
theorem w_c11 : (Jvm.Cond.code ({ cls := "java/lang/String", name := "length", desc := "()I" } : Jvm.MethodName) jdk_42_method_54_code (1 : Nat) (Option.some Jvm.ClassFile.FieldType.int)).before args0 about1 = true := code_word (m := ⟨7, 3⟩) (meth := k7m3) (c := k7c3) (by decide +kernel) rfl rfl rfl (by decide +kernel)
set_option maxRecDepth 65536 in
theorem w_c12 : (Jvm.Cond.code ({ cls := "java/lang/String", name := "coder", desc := "()B" } : Jvm.MethodName) jdk_42_method_152_code (1 : Nat) (Option.some Jvm.ClassFile.FieldType.byte)).before args0 about1 = true := code_word (m := ⟨7, 8⟩) (meth := k7m8) (c := k7c8) (by decide +kernel) rfl rfl rfl (by decide +kernel)
set_option maxRecDepth 65536 in
theorem w_c13 : (Jvm.Cond.code ({ cls := "java/lang/AbstractStringBuilder", name := "ensureCapacityInternal", desc := "(I)V" } : Jvm.MethodName) jdk_68_method_9_code (3 : Nat) (Option.none : Option Jvm.ClassFile.FieldType)).before args0 about1 = true := code_word (m := ⟨10, 3⟩) (meth := k10m3) (c := k10c3) (by decide +kernel) rfl rfl rfl (by decide +kernel)
set_option maxRecDepth 65536 in
theorem w_c14 : (Jvm.Cond.code ({ cls := "java/lang/AbstractStringBuilder", name := "putStringAt", desc := "(ILjava/lang/String;)V" } : Jvm.MethodName) jdk_68_method_73_code (3 : Nat) (Option.none : Option Jvm.ClassFile.FieldType)).before args0 about1 = true := code_word (m := ⟨10, 8⟩) (meth := k10m8) (c := k10c8) (by decide +kernel) rfl rfl rfl (by decide +kernel)
set_option maxRecDepth 65536 in
theorem w_c15 : (Jvm.Cond.code ({ cls := "java/lang/AbstractStringBuilder", name := "inflateIfNeededFor", desc := "(Ljava/lang/String;)V" } : Jvm.MethodName) jdk_68_method_71_code (2 : Nat) (Option.none : Option Jvm.ClassFile.FieldType)).before args0 about1 = true := code_word (m := ⟨10, 7⟩) (meth := k10m7) (c := k10c7) (by decide +kernel) rfl rfl rfl (by decide +kernel)
set_option maxRecDepth 65536 in
theorem w_c16 : (Jvm.Cond.code ({ cls := "java/lang/String", name := "getBytes", desc := "([BIB)V" } : Jvm.MethodName) jdk_42_method_147_code (4 : Nat) (Option.none : Option Jvm.ClassFile.FieldType)).before args0 about1 = true := code_word (m := ⟨7, 5⟩) (meth := k7m5) (c := k7c5) (by decide +kernel) rfl rfl rfl (by decide +kernel)
set_option maxRecDepth 65536 in
theorem w_c17 : (Jvm.Cond.code ({ cls := "java/lang/StringBuilder", name := "toString", desc := "()Ljava/lang/String;" } : Jvm.MethodName) jdk_67_method_42_code (1 : Nat) (Option.some (Jvm.ClassFile.FieldType.object "java/lang/String"))).before args0 about1 = true := code_word (m := ⟨11, 2⟩) (meth := k11m2) (c := k11c2) (by decide +kernel) rfl rfl rfl (by decide +kernel)
set_option maxRecDepth 65536 in
theorem w_c18 : (Jvm.Cond.code ({ cls := "java/lang/String", name := "<init>", desc := "(Ljava/lang/StringBuilder;)V" } : Jvm.MethodName) jdk_42_method_53_code (2 : Nat) (Option.none : Option Jvm.ClassFile.FieldType)).before args0 about1 = true := code_word (m := ⟨7, 2⟩) (meth := k7m2) (c := k7c2) (by decide +kernel) rfl rfl rfl (by decide +kernel)
set_option maxRecDepth 65536 in
theorem w_c19 : (Jvm.Cond.code ({ cls := "java/lang/String", name := "<init>", desc := "(Ljava/lang/AbstractStringBuilder;Ljava/lang/Void;)V" } : Jvm.MethodName) jdk_42_method_150_code (5 : Nat) (Option.none : Option Jvm.ClassFile.FieldType)).before args0 about1 = true := code_word (m := ⟨7, 7⟩) (meth := k7m7) (c := k7c7) (by decide +kernel) rfl rfl rfl (by decide +kernel)
set_option maxRecDepth 65536 in
theorem w_c20 : (Jvm.Cond.code ({ cls := "java/lang/AbstractStringBuilder", name := "getValue", desc := "()[B" } : Jvm.MethodName) jdk_68_method_64_code (1 : Nat) (Option.some (Jvm.ClassFile.FieldType.array Jvm.ClassFile.FieldType.byte))).before args0 about1 = true := code_word (m := ⟨10, 5⟩) (meth := k10m5) (c := k10c5) (by decide +kernel) rfl rfl rfl (by decide +kernel)
set_option maxRecDepth 65536 in
theorem w_c21 : (Jvm.Cond.code ({ cls := "java/lang/StringBuilder", name := "length", desc := "()I" } : Jvm.MethodName) jdk_67_method_93_code (1 : Nat) (Option.some Jvm.ClassFile.FieldType.int)).before args0 about1 = true := code_word (m := ⟨11, 3⟩) (meth := k11m3) (c := k11c3) (by decide +kernel) rfl rfl rfl (by decide +kernel)
set_option maxRecDepth 65536 in
theorem w_c22 : (Jvm.Cond.code ({ cls := "java/lang/AbstractStringBuilder", name := "length", desc := "()I" } : Jvm.MethodName) jdk_68_method_6_code (1 : Nat) (Option.some Jvm.ClassFile.FieldType.int)).before args0 about1 = true := code_word (m := ⟨10, 2⟩) (meth := k10m2) (c := k10c2) (by decide +kernel) rfl rfl rfl (by decide +kernel)
set_option maxRecDepth 65536 in
theorem w_c23 : (Jvm.Cond.code ({ cls := "java/lang/AbstractStringBuilder", name := "isLatin1", desc := "()Z" } : Jvm.MethodName) jdk_68_method_68_code (1 : Nat) (Option.some Jvm.ClassFile.FieldType.boolean)).before args0 about1 = true := code_word (m := ⟨10, 6⟩) (meth := k10m6) (c := k10c6) (by decide +kernel) rfl rfl rfl (by decide +kernel)
set_option maxRecDepth 65536 in
theorem w_c24 : (Jvm.Cond.code ({ cls := "java/util/Arrays", name := "copyOfRange", desc := "([BII)[B" } : Jvm.MethodName) jdk_65_method_132_code (3 : Nat) (Option.some (Jvm.ClassFile.FieldType.array Jvm.ClassFile.FieldType.byte))).before args0 about1 = true := code_word (m := ⟨13, 2⟩) (meth := k13m2) (c := k13c2) (by decide +kernel) rfl rfl rfl (by decide +kernel)
set_option maxRecDepth 65536 in
theorem w_c25 : (Jvm.Cond.code ({ cls := "java/util/Arrays", name := "copyOfRangeByte", desc := "([BII)[B" } : Jvm.MethodName) jdk_65_method_133_code (5 : Nat) (Option.some (Jvm.ClassFile.FieldType.array Jvm.ClassFile.FieldType.byte))).before args0 about1 = true := code_word (m := ⟨13, 3⟩) (meth := k13m3) (c := k13c3) (by decide +kernel) rfl rfl rfl (by decide +kernel)
set_option maxRecDepth 65536 in
theorem w_c26 : (Jvm.Cond.code ({ cls := "java/util/Arrays", name := "checkLength", desc := "(II)V" } : Jvm.MethodName) jdk_65_method_131_code (2 : Nat) (Option.none : Option Jvm.ClassFile.FieldType)).before args0 about1 = true := code_word (m := ⟨13, 1⟩) (meth := k13m1) (c := k13c1) (by decide +kernel) rfl rfl rfl (by decide +kernel)
set_option maxRecDepth 65536 in
theorem w_c27 : (Jvm.Cond.code ({ cls := "java/lang/Math", name := "min", desc := "(II)I" } : Jvm.MethodName) jdk_29_method_69_code (2 : Nat) (Option.some Jvm.ClassFile.FieldType.int)).before args0 about1 = true := code_word (m := ⟨14, 1⟩) (meth := k14m1) (c := k14c1) (by decide +kernel) rfl rfl rfl (by decide +kernel)
set_option maxRecDepth 65536 in
theorem w_c28 : (Jvm.Cond.code ({ cls := "com/example/treeward/treeward/engine/FindingToStringPinLaw", name := "at", desc := "(Ljava/lang/String;Ljava/lang/String;Ljava/lang/String;I)Z" } : Jvm.MethodName) method_5_code (4 : Nat) (Option.some Jvm.ClassFile.FieldType.boolean)).before args0 about1 = true := code_word (m := ⟨1, 4⟩) (meth := k1m4) (c := k1c4) (by decide +kernel) rfl rfl rfl (by decide +kernel)
set_option maxRecDepth 65536 in
theorem w_c29 : (Jvm.Cond.code ({ cls := "java/lang/String", name := "charAt", desc := "(I)C" } : Jvm.MethodName) jdk_42_method_56_code (2 : Nat) (Option.some Jvm.ClassFile.FieldType.char)).before args0 about1 = true := code_word (m := ⟨7, 4⟩) (meth := k7m4) (c := k7c4) (by decide +kernel) rfl rfl rfl (by decide +kernel)
set_option maxRecDepth 65536 in
theorem w_c30 : (Jvm.Cond.code ({ cls := "java/lang/String", name := "isLatin1", desc := "()Z" } : Jvm.MethodName) jdk_42_method_154_code (1 : Nat) (Option.some Jvm.ClassFile.FieldType.boolean)).before args0 about1 = true := code_word (m := ⟨7, 9⟩) (meth := k7m9) (c := k7c9) (by decide +kernel) rfl rfl rfl (by decide +kernel)
set_option maxRecDepth 65536 in
theorem w_c31 : (Jvm.Cond.code ({ cls := "java/lang/StringLatin1", name := "charAt", desc := "([BI)C" } : Jvm.MethodName) jdk_43_method_2_code (2 : Nat) (Option.some Jvm.ClassFile.FieldType.char)).before args0 about1 = true := code_word (m := ⟨15, 1⟩) (meth := k15m1) (c := k15c1) (by decide +kernel) rfl rfl rfl (by decide +kernel)
set_option maxRecDepth 65536 in
theorem w_c32 : (Jvm.Cond.code ({ cls := "java/lang/String", name := "checkIndex", desc := "(II)V" } : Jvm.MethodName) jdk_42_method_155_code (2 : Nat) (Option.none : Option Jvm.ClassFile.FieldType)).before args0 about1 = true := code_word (m := ⟨7, 10⟩) (meth := k7m10) (c := k7c10) (by decide +kernel) rfl rfl rfl (by decide +kernel)
set_option maxRecDepth 65536 in
theorem w_c33 : (Jvm.Cond.code ({ cls := "jdk/internal/util/Preconditions", name := "checkIndex", desc := "(IILjava/util/function/BiFunction;)I" } : Jvm.MethodName) jdk_41_method_11_code (3 : Nat) (Option.some Jvm.ClassFile.FieldType.int)).before args0 about1 = true := code_word (m := ⟨16, 1⟩) (meth := k16m1) (c := k16c1) (by decide +kernel) rfl rfl rfl (by decide +kernel)
set_option maxRecDepth 65536 in
theorem w_c34 : (Jvm.Cond.code ({ cls := "com/example/treeward/treeward/engine/FindingToStringPinLaw", name := "expected", desc := "(Ljava/lang/String;Ljava/lang/String;I)C" } : Jvm.MethodName) method_4_code (4 : Nat) (Option.some Jvm.ClassFile.FieldType.char)).before args0 about1 = true := code_word (m := ⟨1, 3⟩) (meth := k1m3) (c := k1c3) (by decide +kernel) rfl rfl rfl (by decide +kernel)
set_option maxRecDepth 65536 in
theorem w_c35 : (Jvm.Cond.code ({ cls := "java/lang/StringUTF16", name := "compress", desc := "([CII)[B" } : Jvm.MethodName) jdk_52_method_16_code (6 : Nat) (Option.some (Jvm.ClassFile.FieldType.array Jvm.ClassFile.FieldType.byte))).before args0 about1 = true := code_word (m := ⟨17, 2⟩) (meth := k17m2) (c := k17c2) (by decide +kernel) rfl rfl rfl (by decide +kernel)
set_option maxRecDepth 65536 in
theorem w_c36 : (Jvm.Cond.code ({ cls := "java/lang/StringUTF16", name := "compress", desc := "([CI[BII)I" } : Jvm.MethodName) jdk_52_method_21_code (7 : Nat) (Option.some Jvm.ClassFile.FieldType.int)).before args0 about1 = true := code_word (m := ⟨17, 3⟩) (meth := k17m3) (c := k17c3) (by decide +kernel) rfl rfl rfl (by decide +kernel)
set_option maxRecDepth 65536 in
theorem w_c37 : (Jvm.Cond.code ({ cls := "java/lang/StringUTF16", name := "coderFromArrayLen", desc := "([BI)B" } : Jvm.MethodName) jdk_52_method_15_code (2 : Nat) (Option.some Jvm.ClassFile.FieldType.byte)).before args0 about1 = true := code_word (m := ⟨17, 1⟩) (meth := k17m1) (c := k17c1) (by decide +kernel) rfl rfl rfl (by decide +kernel)
def codes1 : List Jvm.Cond := [Jvm.Cond.code x code maxLocals ret, Jvm.Cond.code ({ cls := "com/example/treeward/treeward/engine/FindingToStringPinLaw", name := "mk", desc := "(I)Ljava/lang/String;" } : Jvm.MethodName) method_3_code (5 : Nat) (Option.some (Jvm.ClassFile.FieldType.object "java/lang/String")), Jvm.Cond.code ({ cls := "java/lang/String", name := "<init>", desc := "([C)V" } : Jvm.MethodName) jdk_42_method_3_code (2 : Nat) (Option.none : Option Jvm.ClassFile.FieldType), Jvm.Cond.code ({ cls := "java/lang/String", name := "<init>", desc := "([CIILjava/lang/Void;)V" } : Jvm.MethodName) jdk_42_method_149_code (6 : Nat) (Option.none : Option Jvm.ClassFile.FieldType), Jvm.Cond.code ({ cls := "java/lang/Object", name := "<init>", desc := "()V" } : Jvm.MethodName) object_method_1_code (1 : Nat) (Option.none : Option Jvm.ClassFile.FieldType), Jvm.Cond.code ({ cls := "com/example/treeward/treeward/engine/Finding", name := "<init>", desc := "(Ljava/lang/String;Ljava/lang/String;)V" } : Jvm.MethodName) prog_2_method_1_code (3 : Nat) (Option.none : Option Jvm.ClassFile.FieldType), Jvm.Cond.code ({ cls := "com/example/treeward/treeward/engine/Finding", name := "toString", desc := "()Ljava/lang/String;" } : Jvm.MethodName) prog_2_method_4_code (1 : Nat) (Option.some (Jvm.ClassFile.FieldType.object "java/lang/String")), Jvm.Cond.code ({ cls := "java/lang/StringBuilder", name := "<init>", desc := "()V" } : Jvm.MethodName) jdk_67_method_1_code (1 : Nat) (Option.none : Option Jvm.ClassFile.FieldType), Jvm.Cond.code ({ cls := "java/lang/AbstractStringBuilder", name := "<init>", desc := "(I)V" } : Jvm.MethodName) jdk_68_method_2_code (2 : Nat) (Option.none : Option Jvm.ClassFile.FieldType), Jvm.Cond.code ({ cls := "java/lang/StringBuilder", name := "append", desc := "(Ljava/lang/String;)Ljava/lang/StringBuilder;" } : Jvm.MethodName) jdk_67_method_7_code (2 : Nat) (Option.some (Jvm.ClassFile.FieldType.object "java/lang/StringBuilder")), Jvm.Cond.code ({ cls := "java/lang/AbstractStringBuilder", name := "append", desc := "(Ljava/lang/String;)Ljava/lang/AbstractStringBuilder;" } : Jvm.MethodName) jdk_68_method_22_code (3 : Nat) (Option.some (Jvm.ClassFile.FieldType.object "java/lang/AbstractStringBuilder")), Jvm.Cond.code ({ cls := "java/lang/String", name := "length", desc := "()I" } : Jvm.MethodName) jdk_42_method_54_code (1 : Nat) (Option.some Jvm.ClassFile.FieldType.int), Jvm.Cond.code ({ cls := "java/lang/String", name := "coder", desc := "()B" } : Jvm.MethodName) jdk_42_method_152_code (1 : Nat) (Option.some Jvm.ClassFile.FieldType.byte), Jvm.Cond.code ({ cls := "java/lang/AbstractStringBuilder", name := "ensureCapacityInternal", desc := "(I)V" } : Jvm.MethodName) jdk_68_method_9_code (3 : Nat) (Option.none : Option Jvm.ClassFile.FieldType), Jvm.Cond.code ({ cls := "java/lang/AbstractStringBuilder", name := "putStringAt", desc := "(ILjava/lang/String;)V" } : Jvm.MethodName) jdk_68_method_73_code (3 : Nat) (Option.none : Option Jvm.ClassFile.FieldType), Jvm.Cond.code ({ cls := "java/lang/AbstractStringBuilder", name := "inflateIfNeededFor", desc := "(Ljava/lang/String;)V" } : Jvm.MethodName) jdk_68_method_71_code (2 : Nat) (Option.none : Option Jvm.ClassFile.FieldType), Jvm.Cond.code ({ cls := "java/lang/String", name := "getBytes", desc := "([BIB)V" } : Jvm.MethodName) jdk_42_method_147_code (4 : Nat) (Option.none : Option Jvm.ClassFile.FieldType), Jvm.Cond.code ({ cls := "java/lang/StringBuilder", name := "toString", desc := "()Ljava/lang/String;" } : Jvm.MethodName) jdk_67_method_42_code (1 : Nat) (Option.some (Jvm.ClassFile.FieldType.object "java/lang/String")), Jvm.Cond.code ({ cls := "java/lang/String", name := "<init>", desc := "(Ljava/lang/StringBuilder;)V" } : Jvm.MethodName) jdk_42_method_53_code (2 : Nat) (Option.none : Option Jvm.ClassFile.FieldType), Jvm.Cond.code ({ cls := "java/lang/String", name := "<init>", desc := "(Ljava/lang/AbstractStringBuilder;Ljava/lang/Void;)V" } : Jvm.MethodName) jdk_42_method_150_code (5 : Nat) (Option.none : Option Jvm.ClassFile.FieldType), Jvm.Cond.code ({ cls := "java/lang/AbstractStringBuilder", name := "getValue", desc := "()[B" } : Jvm.MethodName) jdk_68_method_64_code (1 : Nat) (Option.some (Jvm.ClassFile.FieldType.array Jvm.ClassFile.FieldType.byte)), Jvm.Cond.code ({ cls := "java/lang/StringBuilder", name := "length", desc := "()I" } : Jvm.MethodName) jdk_67_method_93_code (1 : Nat) (Option.some Jvm.ClassFile.FieldType.int), Jvm.Cond.code ({ cls := "java/lang/AbstractStringBuilder", name := "length", desc := "()I" } : Jvm.MethodName) jdk_68_method_6_code (1 : Nat) (Option.some Jvm.ClassFile.FieldType.int), Jvm.Cond.code ({ cls := "java/lang/AbstractStringBuilder", name := "isLatin1", desc := "()Z" } : Jvm.MethodName) jdk_68_method_68_code (1 : Nat) (Option.some Jvm.ClassFile.FieldType.boolean), Jvm.Cond.code ({ cls := "java/util/Arrays", name := "copyOfRange", desc := "([BII)[B" } : Jvm.MethodName) jdk_65_method_132_code (3 : Nat) (Option.some (Jvm.ClassFile.FieldType.array Jvm.ClassFile.FieldType.byte)), Jvm.Cond.code ({ cls := "java/util/Arrays", name := "copyOfRangeByte", desc := "([BII)[B" } : Jvm.MethodName) jdk_65_method_133_code (5 : Nat) (Option.some (Jvm.ClassFile.FieldType.array Jvm.ClassFile.FieldType.byte)), Jvm.Cond.code ({ cls := "java/util/Arrays", name := "checkLength", desc := "(II)V" } : Jvm.MethodName) jdk_65_method_131_code (2 : Nat) (Option.none : Option Jvm.ClassFile.FieldType), Jvm.Cond.code ({ cls := "java/lang/Math", name := "min", desc := "(II)I" } : Jvm.MethodName) jdk_29_method_69_code (2 : Nat) (Option.some Jvm.ClassFile.FieldType.int), Jvm.Cond.code ({ cls := "com/example/treeward/treeward/engine/FindingToStringPinLaw", name := "at", desc := "(Ljava/lang/String;Ljava/lang/String;Ljava/lang/String;I)Z" } : Jvm.MethodName) method_5_code (4 : Nat) (Option.some Jvm.ClassFile.FieldType.boolean), Jvm.Cond.code ({ cls := "java/lang/String", name := "charAt", desc := "(I)C" } : Jvm.MethodName) jdk_42_method_56_code (2 : Nat) (Option.some Jvm.ClassFile.FieldType.char), Jvm.Cond.code ({ cls := "java/lang/String", name := "isLatin1", desc := "()Z" } : Jvm.MethodName) jdk_42_method_154_code (1 : Nat) (Option.some Jvm.ClassFile.FieldType.boolean), Jvm.Cond.code ({ cls := "java/lang/StringLatin1", name := "charAt", desc := "([BI)C" } : Jvm.MethodName) jdk_43_method_2_code (2 : Nat) (Option.some Jvm.ClassFile.FieldType.char), Jvm.Cond.code ({ cls := "java/lang/String", name := "checkIndex", desc := "(II)V" } : Jvm.MethodName) jdk_42_method_155_code (2 : Nat) (Option.none : Option Jvm.ClassFile.FieldType), Jvm.Cond.code ({ cls := "jdk/internal/util/Preconditions", name := "checkIndex", desc := "(IILjava/util/function/BiFunction;)I" } : Jvm.MethodName) jdk_41_method_11_code (3 : Nat) (Option.some Jvm.ClassFile.FieldType.int), Jvm.Cond.code ({ cls := "com/example/treeward/treeward/engine/FindingToStringPinLaw", name := "expected", desc := "(Ljava/lang/String;Ljava/lang/String;I)C" } : Jvm.MethodName) method_4_code (4 : Nat) (Option.some Jvm.ClassFile.FieldType.char), Jvm.Cond.code ({ cls := "java/lang/StringUTF16", name := "compress", desc := "([CII)[B" } : Jvm.MethodName) jdk_52_method_16_code (6 : Nat) (Option.some (Jvm.ClassFile.FieldType.array Jvm.ClassFile.FieldType.byte)), Jvm.Cond.code ({ cls := "java/lang/StringUTF16", name := "compress", desc := "([CI[BII)I" } : Jvm.MethodName) jdk_52_method_21_code (7 : Nat) (Option.some Jvm.ClassFile.FieldType.int), Jvm.Cond.code ({ cls := "java/lang/StringUTF16", name := "coderFromArrayLen", desc := "([BI)B" } : Jvm.MethodName) jdk_52_method_15_code (2 : Nat) (Option.some Jvm.ClassFile.FieldType.byte)]
set_option maxRecDepth 65536 in
theorem codes_eq : words1.filter isCode = codes1 := rfl
theorem w_codes : ∀ c ∈ words1.filter isCode, c.before args0 about1 = true := by
  rw [codes_eq]
  intro c hc
  simp only [codes1, List.mem_cons, List.not_mem_nil, or_false] at hc
  rcases hc with rfl | rfl | rfl | rfl | rfl | rfl | rfl | rfl | rfl | rfl | rfl | rfl | rfl | rfl | rfl | rfl | rfl | rfl | rfl | rfl | rfl | rfl | rfl | rfl | rfl | rfl | rfl | rfl | rfl | rfl | rfl | rfl | rfl | rfl | rfl | rfl | rfl | rfl
  · exact w_c0
  · exact w_c1
  · exact w_c2
  · exact w_c3
  · exact w_c4
  · exact w_c5
  · exact w_c6
  · exact w_c7
  · exact w_c8
  · exact w_c9
  · exact w_c10
  · exact w_c11
  · exact w_c12
  · exact w_c13
  · exact w_c14
  · exact w_c15
  · exact w_c16
  · exact w_c17
  · exact w_c18
  · exact w_c19
  · exact w_c20
  · exact w_c21
  · exact w_c22
  · exact w_c23
  · exact w_c24
  · exact w_c25
  · exact w_c26
  · exact w_c27
  · exact w_c28
  · exact w_c29
  · exact w_c30
  · exact w_c31
  · exact w_c32
  · exact w_c33
  · exact w_c34
  · exact w_c35
  · exact w_c36
  · exact w_c37
set_option maxRecDepth 65536 in
theorem w_t1 : (words1.take 24).all (fun c => isCode c || c.before args0 about1) = true := by decide +kernel
set_option maxRecDepth 65536 in
theorem w_t2 : ((words1.drop 24).take 24).all (fun c => isCode c || c.before args0 about1) = true := by decide +kernel
set_option maxRecDepth 65536 in
theorem w_t3 : (((words1.drop 24).drop 24).take 24).all (fun c => isCode c || c.before args0 about1) = true := by decide +kernel
set_option maxRecDepth 65536 in
theorem w_t4 : ((((words1.drop 24).drop 24).drop 24).take 24).all (fun c => isCode c || c.before args0 about1) = true := by decide +kernel
set_option maxRecDepth 65536 in
theorem w_t5 : (((((words1.drop 24).drop 24).drop 24).drop 24).take 24).all (fun c => isCode c || c.before args0 about1) = true := by decide +kernel
set_option maxRecDepth 65536 in
theorem w_t6 : ((((((words1.drop 24).drop 24).drop 24).drop 24).drop 24).take 24).all (fun c => isCode c || c.before args0 about1) = true := by decide +kernel
set_option maxRecDepth 65536 in
theorem w_t7 : (((((((words1.drop 24).drop 24).drop 24).drop 24).drop 24).drop 24).take 24).all (fun c => isCode c || c.before args0 about1) = true := by decide +kernel
set_option maxRecDepth 65536 in
theorem w_t8 : ((((((((words1.drop 24).drop 24).drop 24).drop 24).drop 24).drop 24).drop 24).take 24).all (fun c => isCode c || c.before args0 about1) = true := by decide +kernel
set_option maxRecDepth 65536 in
theorem w_t9 : ((((((((words1.drop 24).drop 24).drop 24).drop 24).drop 24).drop 24).drop 24).drop 24).all (fun c => isCode c || c.before args0 about1) = true := by decide +kernel
theorem w_tables : (allAtoms (Jvm.Cond.code x code maxLocals ret :: tables_1)).before args0 about1 = true := by
  rw [allAtoms_all]
  show words1.all (fun c => c.before args0 about1) = true
  refine all_split ?_ w_codes
  rw [← List.take_append_drop 24 words1, List.all_append, w_t1, ← List.take_append_drop 24 (words1.drop 24), List.all_append, w_t2, ← List.take_append_drop 24 ((words1.drop 24).drop 24), List.all_append, w_t3, ← List.take_append_drop 24 (((words1.drop 24).drop 24).drop 24), List.all_append, w_t4, ← List.take_append_drop 24 ((((words1.drop 24).drop 24).drop 24).drop 24), List.all_append, w_t5, ← List.take_append_drop 24 (((((words1.drop 24).drop 24).drop 24).drop 24).drop 24), List.all_append, w_t6, ← List.take_append_drop 24 ((((((words1.drop 24).drop 24).drop 24).drop 24).drop 24).drop 24), List.all_append, w_t7, ← List.take_append_drop 24 (((((((words1.drop 24).drop 24).drop 24).drop 24).drop 24).drop 24).drop 24), List.all_append, w_t8, w_t9]
  rfl
set_option maxRecDepth 65536 in
theorem w_rest : rest_1_c.before args0 about1 = true := by decide +kernel
set_option maxRecDepth 65536 in
theorem w_case : (Jvm.Cond.and given_1 narrow_1).before args0 about1 = true := by decide +kernel
set_option maxRecDepth 65536 in
theorem w_consts : constsHeld consts_1 about1 := Jvm.Lit.constsHeldB_iff.mp (by decide +kernel)
theorem w_applies : (headSpec (Jvm.Cond.code x code maxLocals ret :: tables_1) room_1).applies x e0.platform about1 = true :=
  (Spec.applies_iff w_frames).mpr ⟨w_running, w_runnable, w_alone, w_named, w_hears, w_ripe, w_room, w_tables⟩
theorem atStart : AtStart classFile x code maxLocals ret World_1 tables_1 room_1 Calls_1 rest_1 Pre_1 launch0 p0 e0 about1 theMethod args0 below0 :=
  ⟨lists_1, trivial, launch0.admits_env _ _ _, launch0.least_env, fairChoices_fair.cas, fairChoices_fair.clock, w_frames, w_args, w_heap, w_applies, ⟨w_consts, trivial⟩, w_rest, w_case⟩
end start1
theorem witness_1 : WitnessClaimed_1 := ⟨start1.p0, start1.e0, start1.about1, start1.theMethod, start1.args0, start1.below0, start1.atStart⟩
end Jvm.Pilot.@@N@@
