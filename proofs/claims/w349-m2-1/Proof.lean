import JvmDerived
import JvmDerived.Pilot.@@N@@Statement
import JvmDerived.Pilot.@@N@@Code
set_option linter.unusedVariables false
set_option linter.unusedSimpArgs false
namespace Jvm.RoadKit
open Sem ClassFile Op Lib Jvm.Stand Jvm.Free Jvm.LawKit
section New
variable {p : Program} {l : Launch} {e : Env} {R : Room} {s : State} {m : MethodId} {args : Array Value} {below : List Frame} {meth : Method} {c : Code} {T : State} {locs : List Loc} {cells slots : Nat}
theorem retI (X : Stand p l e R s m args below meth c T locs cells slots) (hx : p.tables.exec = Jvm.exec) {pc : Nat} {Ls : Array Slot} {z : Int32} {rest : List Value} (hret : meth.sig.returnType = some .int) (hd : decode c.code pc = .ok (.ireturn, 1)) {fs : List Frame}
    (hl : ∀ (f : JFrame) (acts : List Action), f.method = m → f.locked = none → f.entered = [] → (doReturn e (T.setTop f) acts (some (.int z))).1 = T.setFrames fs) : Steps p.tables e below (T.setTop (mkF m pc Ls (.int z :: rest))) (T.setFrames fs) := by
  have hm' : T.vm.method? m = some meth := X.method'
  have hn : narrow .int (.int z) = .int z := rfl
  show Steps p.tables e below (T.setTop { method := m, pc := pc, locals := Ls, stack := _ :: rest, locked := none }) _
  jvm_step X.here [X.here.top, hx, hd, hm', hret, hn]
  first | (intro acts; rw [hl _ acts rfl rfl rfl]) | rw [hl _ _ rfl rfl rfl]
  exact Steps.refl _
end New
end Jvm.RoadKit
/- laws to paste: Road.backV, Road.eqW, Road.lenW, Road.chN, Road.codOf (cut by pick.py; bodies as the Statement names them) -/
namespace Jvm.Pilot.@@N@@
namespace StrChars
open Jvm Sem ClassFile Op Lib Jvm.Stand Jvm.Free.XT Jvm.Free.ALB Jvm.Free.JM Jvm.Free
open Jvm.Lib.Cold (StaticIs)
/-- a char array whose places are chars -/
def Ch (a : Addr) (A : Cell) (U : State) : Prop := Arr .char a A U ∧ Typed .char A
theorem Ch.mv {a : Addr} {A : Cell} {U U' : State} (h : Ch a A U) (hal : U.vm.Alike U'.vm) (hh : U'.heap = U.heap) : Ch a A U' := ⟨h.1.mv hal hh, h.2⟩
theorem Ch.keep {a : Addr} {A : Cell} {U U' : State} (h : Ch a A U) (hal : U.vm.Alike U'.vm) (hk : U'.heap[a]? = some A) : Ch a A U' := ⟨h.1.keep hal hk, h.2⟩
/-- what place i of a char[]'s cell holds -/
def cv (A : Cell) (i : Nat) : Int32 := match A.slots[i]? with | some (.int x) => x | _ => 0
theorem Ch.get {a : Addr} {A : Cell} {U : State} (h : Ch a A U) {i : Nat} (hi : i < A.slots.size) : A.slots[i]? = some (.int (cv A i)) := by
  have e := Array.getElem?_eq_getElem hi
  have f := h.2 i _ e
  unfold cv; rw [e]
  generalize A.slots[i] = v at f
  cases v <;> simp [fits] at f ⊢
/-- the byte that i2b leaves of a char -/
def lo8 (x : Int32) : Int32 := x.toInt8.toInt32
theorem fits_lo8 (y : Int32) : fits .byte (.int (lo8 y)) = true := by
  have h1 := y.toInt8.le_toInt
  have h2 := y.toInt8.toInt_lt
  simp only [lo8, fits, Bool.and_eq_true, decide_eq_true_eq, Int32.le_iff_toInt_le, Int8.toInt_toInt32, show (-128 : Int32).toInt = -128 from by decide, show (127 : Int32).toInt = 127 from by decide]
  omega
/-- A' is A but that each place j of lo .. hi - 1 holds f j -/
def Laid (A A' : Cell) (lo hi : Nat) (f : Nat → Value) : Prop := A'.cls = A.cls ∧ A'.vm = A.vm ∧ A'.slots.size = A.slots.size ∧ ∀ i, A'.slots[i]? = if lo ≤ i ∧ i < hi then some (f i) else A.slots[i]?
theorem Laid.zero (A : Cell) (lo : Nat) (f : Nat → Value) : Laid A A lo (lo + 0) f := ⟨rfl, rfl, rfl, fun i => by rw [if_neg (by omega)]⟩
theorem Laid.step {A Ak : Cell} {lo k : Nat} {f : Nat → Value} {v : Value} (h : Laid A Ak lo k f) (hlo : lo ≤ k) (hk : k < Ak.slots.size) (hv : v = f k) : Laid A (Ak.setSlot k v) lo (k + 1) f := by
  refine ⟨h.1, h.2.1, by simpa [Cell.setSlot] using h.2.2.1, fun i => ?_⟩
  by_cases e : k = i
  · subst e; rw [Cell.slots_setSlot_self v hk, if_pos (by omega), hv]
  · rw [Cell.slots_setSlot_ne v e, h.2.2.2 i]
    by_cases q : lo ≤ i ∧ i < k
    · rw [if_pos q, if_pos (by omega)]
    · rw [if_neg q, if_neg (by omega)]
def U16 : String := "java/lang/StringUTF16"
namespace Cmp5
def yN : MethodName := ⟨"java/lang/StringUTF16", "compress", "([CI[BII)I"⟩
abbrev yB : ByteArray := jdk_52_method_21_code
theorem d0 : decode yB 0 = .ok (.iconst 0, 1) := by decide +kernel
theorem d1 : decode yB 1 = .ok (.istore 5, 2) := by decide +kernel
theorem d3 : decode yB 3 = .ok (.iload 5, 2) := by decide +kernel
theorem d5 : decode yB 5 = .ok (.iload 4, 2) := by decide +kernel
theorem d7 : decode yB 7 = .ok (.if_icmp (.ge) 37, 3) := by decide +kernel
theorem d10 : decode yB 10 = .ok (.aload_n 0, 1) := by decide +kernel
theorem d11 : decode yB 11 = .ok (.iload_n 1, 1) := by decide +kernel
theorem d12 : decode yB 12 = .ok (.caload, 1) := by decide +kernel
theorem d13 : decode yB 13 = .ok (.istore 6, 2) := by decide +kernel
theorem d15 : decode yB 15 = .ok (.iload 6, 2) := by decide +kernel
theorem d17 : decode yB 17 = .ok (.sipush 255, 3) := by decide +kernel
theorem d20 : decode yB 20 = .ok (.if_icmp (.le) 6, 3) := by decide +kernel
theorem d26 : decode yB 26 = .ok (.aload_n 2, 1) := by decide +kernel
theorem d27 : decode yB 27 = .ok (.iload_n 3, 1) := by decide +kernel
theorem d28 : decode yB 28 = .ok (.iload 6, 2) := by decide +kernel
theorem d30 : decode yB 30 = .ok (.i2b, 1) := by decide +kernel
theorem d31 : decode yB 31 = .ok (.bastore, 1) := by decide +kernel
theorem d32 : decode yB 32 = .ok (.iinc 1 1, 3) := by decide +kernel
theorem d35 : decode yB 35 = .ok (.iinc 3 1, 3) := by decide +kernel
theorem d38 : decode yB 38 = .ok (.iinc 5 1, 3) := by decide +kernel
theorem d41 : decode yB 41 = .ok (.goto (-38), 3) := by decide +kernel
theorem d44 : decode yB 44 = .ok (.iload 4, 2) := by decide +kernel
theorem d46 : decode yB 46 = .ok (.ireturn, 1) := by decide +kernel
def site : List Cond := []
def tab : Cond := tabOf yN yB 7 (some .int) site
def P (b : Addr) (A : Cell) (d : Addr) (B : Cell) (o q len : Nat) (args : Array Value) (s : State) : Prop := args = #[.ref b, .int (Int32.ofNat o), .ref d, .int (Int32.ofNat q), .int (Int32.ofNat len)] ∧ Ch b A s ∧ Arr .byte d B s ∧ b ≠ d ∧ o + len ≤ A.slots.size ∧ q + len ≤ B.slots.size ∧ ∀ i, i < len → ¬ 255 < cv A (o + i)
def E (b : Addr) (A : Cell) (d : Addr) (B : Cell) (o q len : Nat) (r : Option Value) (s u : State) : Prop := r = some (.int (Int32.ofNat len)) ∧ ∃ B', Put d B' s u ∧ Laid B B' q (q + len) (fun j => Value.int (lo8 (cv A (o + (j - q)))))
/-- no char of the range above 255: len; the places written hold each char's low byte -/
theorem law (l : Launch) (b : Addr) (A : Cell) (d : Addr) (B : Cell) (o q len : Nat) : Law l yN 5 5 0 0 yB 7 (some .int) site (P b A d B o q len) (E b A d B o q len) (copyLocs d q len) 0 0 := by
  refine Law.of_walk (plainFor_of_name (by decide +kernel)) (by decide +kernel) (by decide +kernel) (by decide) (fun _ _ h => by rw [h.1]; rfl) (fun _ U U' hal hh h => ⟨h.1, h.2.1.mv hal hh, h.2.2.1.mv hal hh, h.2.2.2⟩) (fun r U U' V V' h1 hal h2 h => ⟨h.1, h.2.elim fun B' q => ⟨B', q.1.mv h1 h2, q.2⟩⟩) ?_
  intro p e s m args below meth c s₁ X0 hexec hbytes hml hret hlk hnm hown hh0 W hP
  obtain ⟨rfl, hA, hB, hne, l1, l2, hp⟩ := hP
  have c1 : Steps p.tables e below (s₁.setTop (entryFrame m #[.ref b, .int (Int32.ofNat o), .ref d, .int (Int32.ofNat q), .int (Int32.ofNat len)] 7)) (s₁.setTop (mkF m 0 #[.val (.ref b), .val (.int (Int32.ofNat o)), .val (.ref d), .val (.int (Int32.ofNat q)), .val (.int (Int32.ofNat len)), .unset, .unset] [])) := entry rfl
  have hA0 := hA.1.mv X0.warmed.alike hh0
  have hB0 := hB.mv X0.warmed.alike hh0
  have a31 := hA.1.2.2.2
  have c2 : Steps p.tables e below (s₁.setTop (entryFrame m #[.ref b, .int (Int32.ofNat o), .ref d, .int (Int32.ofNat q), .int (Int32.ofNat len)] 7)) (s₁.setTop (mkF m 3 #[.val (.ref b), .val (.int (Int32.ofNat o)), .val (.ref d), .val (.int (Int32.ofNat q)), .val (.int (Int32.ofNat len)), .val (.int 0), .unset] [])) := c1.trans (by
    refine iconstV X0.here hexec rfl 0 (hb hbytes d0) (by decide) ?_
    refine XS.istore X0.here hexec rfl (hb hbytes d1) rfl rfl ?_
    exact Steps.refl _)
  have loop : ∀ (r i : Nat), i + r = len → ∀ (z : Slot), (z = .unset ∨ ∃ w, z = .val w ∧ w.category = 1) → ∀ (Tl : State) (Bk : Cell), Stand p l e { frames := 0, locals := 0, cells := 0, slots := 0 } s m #[.ref b, .int (Int32.ofNat o), .ref d, .int (Int32.ofNat q), .int (Int32.ofNat len)] below meth c Tl ([] ++ copyLocs d q i) 0 0 → Put d Bk s₁ Tl → Laid B Bk q (q + i) (fun j => Value.int (lo8 (cv A (o + (j - q))))) →
      Steps p.tables e below (s₁.setTop (entryFrame m #[.ref b, .int (Int32.ofNat o), .ref d, .int (Int32.ofNat q), .int (Int32.ofNat len)] 7)) (Tl.setTop (mkF m 3 #[.val (.ref b), .val (.int (Int32.ofNat (o + i))), .val (.ref d), .val (.int (Int32.ofNat (q + i))), .val (.int (Int32.ofNat len)), .val (.int (Int32.ofNat i)), z] [])) → ∃ (T' : State) (B' : Cell) (z' : Slot), Stand p l e { frames := 0, locals := 0, cells := 0, slots := 0 } s m #[.ref b, .int (Int32.ofNat o), .ref d, .int (Int32.ofNat q), .int (Int32.ofNat len)] below meth c T' ([] ++ copyLocs d q len) 0 0 ∧ Put d B' s₁ T' ∧ Laid B B' q (q + len) (fun j => Value.int (lo8 (cv A (o + (j - q))))) ∧
      Steps p.tables e below (s₁.setTop (entryFrame m #[.ref b, .int (Int32.ofNat o), .ref d, .int (Int32.ofNat q), .int (Int32.ofNat len)] 7)) (T'.setTop (mkF m 3 #[.val (.ref b), .val (.int (Int32.ofNat (o + len))), .val (.ref d), .val (.int (Int32.ofNat (q + len))), .val (.int (Int32.ofNat len)), .val (.int (Int32.ofNat len)), z'] [])) := by
    intro r
    induction r with
    | zero =>
      intro i hi z hz Tl Bk Xl pl fl cl
      have hil : i = len := by omega
      rw [hil] at Xl fl cl
      exact ⟨Tl, Bk, z, Xl, pl, fl, cl⟩
    | succ r ih =>
      intro i hi z hz Tl Bk Xl pl fl cl
      have all := X0.warmed.alike.symm.trans Xl.warmed.alike
      have hAl := hA0.keep all (pl.other hne hA0.1)
      have hBk := hB0.like all pl.1 fl.1 fl.2.1 fl.2.2.1
      have hlt : q + i < Bk.slots.size := by rw [fl.2.2.1]; omega
      have c3 : Steps p.tables e below (s₁.setTop (entryFrame m #[.ref b, .int (Int32.ofNat o), .ref d, .int (Int32.ofNat q), .int (Int32.ofNat len)] 7)) (Tl.setTop (mkF m 12 #[.val (.ref b), .val (.int (Int32.ofNat (o + i))), .val (.ref d), .val (.int (Int32.ofNat (q + i))), .val (.int (Int32.ofNat len)), .val (.int (Int32.ofNat i)), z] [.int (Int32.ofNat (o + i)), .ref b])) := cl.trans (by
        refine XS.iload Xl.here hexec rfl (hb hbytes d3) rfl ?_
        refine XS.iload Xl.here hexec rfl (hb hbytes d5) rfl ?_
        refine XS.icmpNo Xl.here hexec rfl (hb hbytes d7) rfl (ii_ge_f (lt32 (by omega) (by omega))) ?_
        refine XS.aloadN Xl.here hexec rfl (hb hbytes d10) rfl rfl ?_
        refine XS.iloadN Xl.here hexec rfl (hb hbytes d11) rfl ?_
        exact Steps.refl _)
      have c4 : Steps p.tables e below (s₁.setTop (entryFrame m #[.ref b, .int (Int32.ofNat o), .ref d, .int (Int32.ofNat q), .int (Int32.ofNat len)] 7)) (Tl.setTop (mkF m 13 #[.val (.ref b), .val (.int (Int32.ofNat (o + i))), .val (.ref d), .val (.int (Int32.ofNat (q + i))), .val (.int (Int32.ofNat len)), .val (.int (Int32.ofNat i)), z] [.int (cv A (o + i))])) := c3.trans (by
        refine Xl.aget hexec hAl rfl (hA.get (i := o + i) (by omega)) rfl rfl (hb hbytes d12) ?_
        exact Steps.refl _)
      have c5 : Steps p.tables e below (s₁.setTop (entryFrame m #[.ref b, .int (Int32.ofNat o), .ref d, .int (Int32.ofNat q), .int (Int32.ofNat len)] 7)) (Tl.setTop (mkF m 15 #[.val (.ref b), .val (.int (Int32.ofNat (o + i))), .val (.ref d), .val (.int (Int32.ofNat (q + i))), .val (.int (Int32.ofNat len)), .val (.int (Int32.ofNat i)), .val (.int (cv A (o + i)))] [])) := c4.trans (by
        refine XS.istoreS Xl.here hexec rfl (hb hbytes d13) rfl rfl hz ?_
        exact Steps.refl _)
      have c6 : Steps p.tables e below (s₁.setTop (entryFrame m #[.ref b, .int (Int32.ofNat o), .ref d, .int (Int32.ofNat q), .int (Int32.ofNat len)] 7)) (Tl.setTop (mkF m 31 #[.val (.ref b), .val (.int (Int32.ofNat (o + i))), .val (.ref d), .val (.int (Int32.ofNat (q + i))), .val (.int (Int32.ofNat len)), .val (.int (Int32.ofNat i)), .val (.int (cv A (o + i)))] [.int (lo8 (cv A (o + i))), .int (Int32.ofNat (q + i)), .ref d])) := c5.trans (by
        refine XS.iload Xl.here hexec rfl (hb hbytes d15) rfl ?_
        refine sipushV Xl.here hexec rfl 255 (hb hbytes d17) (by decide) ?_
        refine XS.icmpYes Xl.here hexec rfl (pc0 := 20) rfl (hb hbytes d20) rfl (ii_le_t (hp i (by omega))) (by decide) rfl ?_
        refine XS.aloadN Xl.here hexec rfl (hb hbytes d26) rfl rfl ?_
        refine XS.iloadN Xl.here hexec rfl (hb hbytes d27) rfl ?_
        refine XS.iload Xl.here hexec rfl (hb hbytes d28) rfl ?_
        refine i2b Xl.here hexec rfl (hb hbytes d30) rfl ?_
        exact Steps.refl _)
      obtain ⟨T7, X7, p7, st7⟩ := Xl.aput hexec hBk rfl hlt rfl (fits_lo8 (cv A (o + i))) (g := (mkF m 31 #[.val (.ref b), .val (.int (Int32.ofNat (o + i))), .val (.ref d), .val (.int (Int32.ofNat (q + i))), .val (.int (Int32.ofNat len)), .val (.int (Int32.ofNat i)), .val (.int (cv A (o + i)))] [.int (lo8 (cv A (o + i))), .int (Int32.ofNat (q + i)), .ref d])) rfl (rest := []) rfl (hb hbytes d31)
      have c8 : Steps p.tables e below (s₁.setTop (entryFrame m #[.ref b, .int (Int32.ofNat o), .ref d, .int (Int32.ofNat q), .int (Int32.ofNat len)] 7)) (T7.setTop (mkF m 32 #[.val (.ref b), .val (.int (Int32.ofNat (o + i))), .val (.ref d), .val (.int (Int32.ofNat (q + i))), .val (.int (Int32.ofNat len)), .val (.int (Int32.ofNat i)), .val (.int (cv A (o + i)))] [])) := c6.trans (st7 _ (Steps.refl _))
      have c9 : Steps p.tables e below (s₁.setTop (entryFrame m #[.ref b, .int (Int32.ofNat o), .ref d, .int (Int32.ofNat q), .int (Int32.ofNat len)] 7)) (T7.setTop (mkF m 3 #[.val (.ref b), .val (.int (Int32.ofNat (o + i) + 1)), .val (.ref d), .val (.int (Int32.ofNat (q + i) + 1)), .val (.int (Int32.ofNat len)), .val (.int (Int32.ofNat i + 1)), .val (.int (cv A (o + i)))] [])) := c8.trans (by
        refine iincV X7.here hexec rfl 1 (hb hbytes d32) (by decide) rfl rfl ?_
        refine iincV X7.here hexec rfl 1 (hb hbytes d35) (by decide) rfl rfl ?_
        refine iincV X7.here hexec rfl 1 (hb hbytes d38) (by decide) rfl rfl ?_
        refine XS.goto X7.here hexec rfl (pc0 := 41) rfl (hb hbytes d41) (by decide) rfl ?_
        exact Steps.refl _)
      have c10 : Steps p.tables e below (s₁.setTop (entryFrame m #[.ref b, .int (Int32.ofNat o), .ref d, .int (Int32.ofNat q), .int (Int32.ofNat len)] 7)) (T7.setTop (mkF m 3 #[.val (.ref b), .val (.int (Int32.ofNat (o + (i + 1)))), .val (.ref d), .val (.int (Int32.ofNat (q + (i + 1)))), .val (.int (Int32.ofNat len)), .val (.int (Int32.ofNat (i + 1))), .val (.int (cv A (o + i)))] [])) := by
        have := c9
        rw [succ32, succ32, succ32] at this
        exact this
      exact ih (i + 1) (by omega) _ (Or.inr ⟨_, rfl, rfl⟩) T7 _ (by rw [copyLocs_step, ← List.append_assoc]; exact X7) (pl.trans p7) (fl.step (by omega) hlt (by simp)) c10
  obtain ⟨T9, B9, z9, X9, p9, f9, g9⟩ := loop len 0 (by omega) .unset (Or.inl rfl) s₁ B (by simpa [copyLocs] using X0) ⟨hB0.1, fun _ _ => rfl, rfl⟩ (Laid.zero _ _ _) c2
  have c11 : Steps p.tables e below (s₁.setTop (entryFrame m #[.ref b, .int (Int32.ofNat o), .ref d, .int (Int32.ofNat q), .int (Int32.ofNat len)] 7)) (T9.setTop (mkF m 46 #[.val (.ref b), .val (.int (Int32.ofNat (o + len))), .val (.ref d), .val (.int (Int32.ofNat (q + len))), .val (.int (Int32.ofNat len)), .val (.int (Int32.ofNat len)), z9] [.int (Int32.ofNat len)])) := g9.trans (by
    refine XS.iload X9.here hexec rfl (hb hbytes d3) rfl ?_
    refine XS.iload X9.here hexec rfl (hb hbytes d5) rfl ?_
    refine XS.icmpYes X9.here hexec rfl (pc0 := 7) rfl (hb hbytes d7) rfl (ii_ge_t (nlt32 (by omega) (Nat.le_refl _))) (by decide) rfl ?_
    refine XS.iload X9.here hexec rfl (hb hbytes d44) rfl ?_
    exact Steps.refl _)
  exact ⟨T9, some (.int (Int32.ofNat len)), _, _, _, X9, by simp, rfl, rfl, (fun h => by cases h), ⟨rfl, B9, p9.from hh0, f9⟩, fun fs hl => c11.trans (X9.ireturnOut hexec hret rfl (Or.inl rfl) (hb hbytes d46) hl)⟩
end Cmp5
namespace Cmp3
def yN : MethodName := ⟨"java/lang/StringUTF16", "compress", "([CII)[B"⟩
abbrev yB : ByteArray := jdk_52_method_16_code
theorem d0 : decode yB 0 = .ok (.iload_n 2, 1) := by decide +kernel
theorem d1 : decode yB 1 = .ok (.newarray .byte, 2) := by decide +kernel
theorem d3 : decode yB 3 = .ok (.astore_n 3, 1) := by decide +kernel
theorem d4 : decode yB 4 = .ok (.aload_n 0, 1) := by decide +kernel
theorem d5 : decode yB 5 = .ok (.iload_n 1, 1) := by decide +kernel
theorem d6 : decode yB 6 = .ok (.aload_n 3, 1) := by decide +kernel
theorem d7 : decode yB 7 = .ok (.iconst 0, 1) := by decide +kernel
theorem d8 : decode yB 8 = .ok (.iload_n 2, 1) := by decide +kernel
theorem d9 : decode yB 9 = .ok (.invokestatic 115, 3) := by decide +kernel
theorem d12 : decode yB 12 = .ok (.istore 4, 2) := by decide +kernel
theorem d14 : decode yB 14 = .ok (.iload 4, 2) := by decide +kernel
theorem d16 : decode yB 16 = .ok (.iload_n 2, 1) := by decide +kernel
theorem d17 : decode yB 17 = .ok (.if_icmp (.eq) 40, 3) := by decide +kernel
theorem d57 : decode yB 57 = .ok (.aload_n 3, 1) := by decide +kernel
theorem d58 : decode yB 58 = .ok (.areturn, 1) := by decide +kernel
def site : List Cond := [.arrayClass .byte, Cmp5.tab] ++ staticW U16 115 Cmp5.yN
def tab : Cond := tabOf yN yB 6 (some (.array .byte)) site
def P (b : Addr) (A : Cell) (o len : Nat) (args : Array Value) (s : State) : Prop := args = #[.ref b, .int (Int32.ofNat o), .int (Int32.ofNat len)] ∧ Ch b A s ∧ o + len ≤ A.slots.size ∧ len ≤ 536870912 ∧ ∀ i, i < len → ¬ 255 < cv A (o + i)
def E (b : Addr) (A : Cell) (o len : Nat) (r : Option Value) (s u : State) : Prop := NewArr .byte "[B" len (fun j => .int (lo8 (cv A (o + j)))) r s u ∧ u.heap.size = s.heap.size + 1
/-- no char of the range above 255: a new byte[] of their low bytes -/
theorem law (l : Launch) (b : Addr) (A : Cell) (o len : Nat) : Law l yN 3 3 1 18 yB 6 (some (.array .byte)) site (P b A o len) (E b A o len) [] 1 len := by
  refine Law.of_walk (plainFor_of_name (by decide +kernel)) (by decide +kernel) (by decide +kernel) (by decide) (fun _ _ h => by rw [h.1]; rfl) (fun _ U U' hal hh h => ⟨h.1, h.2.1.mv hal hh, h.2.2⟩) (fun r U U' V V' h1 hal h2 h => ⟨NewArr.mv r U U' V V' h1 hal h2 h.1, by rw [h1, h2]; exact h.2⟩) ?_
  intro p e s m args below meth c s₁ X0 hexec hbytes hml hret hlk hnm hown hh0 W hP
  obtain ⟨rfl, hA, l1, l2, hp⟩ := hP
  have a31 := hA.1.2.2.2
  have c1 : Steps p.tables e below (s₁.setTop (entryFrame m #[.ref b, .int (Int32.ofNat o), .int (Int32.ofNat len)] 6)) (s₁.setTop (mkF m 0 #[.val (.ref b), .val (.int (Int32.ofNat o)), .val (.int (Int32.ofNat len)), .unset, .unset, .unset] [])) := entry rfl
  have c2 : Steps p.tables e below (s₁.setTop (entryFrame m #[.ref b, .int (Int32.ofNat o), .int (Int32.ofNat len)] 6)) (s₁.setTop (mkF m 1 #[.val (.ref b), .val (.int (Int32.ofNat o)), .val (.int (Int32.ofNat len)), .unset, .unset, .unset] [.int (Int32.ofNat len)])) := c1.trans (by
    refine XS.iloadN X0.here hexec rfl (hb hbytes d0) rfl ?_
    exact Steps.refl _)
  obtain ⟨T3, B3, X3, ba3, bs3, bv3, bh3, bf3, st3⟩ := X0.anew hexec (atype := .byte) (wk W (.arrayClass .byte)) rfl (by show len * 1 ≤ _; omega) (by omega) (g := (mkF m 1 #[.val (.ref b), .val (.int (Int32.ofNat o)), .val (.int (Int32.ofNat len)), .unset, .unset, .unset] [.int (Int32.ofNat len)])) rfl (hb hbytes d1) (rest := []) rfl (Nat.le_refl _) (by show 0 + len ≤ len; omega)
  rw [hh0] at ba3 st3
  have kp3 : XT.Kept s T3 := (XT.Kept.of_eq hh0).push bh3
  have hA3 := hA.keep X3.warmed.alike (kp3 _ _ hA.1.1)
  have hne : b ≠ s.heap.size := hA.1.ne
  have c4 : Steps p.tables e below (s₁.setTop (entryFrame m #[.ref b, .int (Int32.ofNat o), .int (Int32.ofNat len)] 6)) (T3.setTop (mkF m 3 #[.val (.ref b), .val (.int (Int32.ofNat o)), .val (.int (Int32.ofNat len)), .unset, .unset, .unset] [.ref s.heap.size])) := c2.trans (st3 _ (Steps.refl _))
  have c5 : Steps p.tables e below (s₁.setTop (entryFrame m #[.ref b, .int (Int32.ofNat o), .int (Int32.ofNat len)] 6)) (T3.setTop (mkF m 9 #[.val (.ref b), .val (.int (Int32.ofNat o)), .val (.int (Int32.ofNat len)), .val (.ref s.heap.size), .unset, .unset] [.int (Int32.ofNat len), .int 0, .ref s.heap.size, .int (Int32.ofNat o), .ref b])) := c4.trans (by
    refine XS.astoreN X3.here hexec rfl (hb hbytes d3) rfl rfl rfl ?_
    refine XS.aloadN X3.here hexec rfl (hb hbytes d4) rfl rfl ?_
    refine XS.iloadN X3.here hexec rfl (hb hbytes d5) rfl ?_
    refine XS.aloadN X3.here hexec rfl (hb hbytes d6) rfl rfl ?_
    refine iconstV X3.here hexec rfl 0 (hb hbytes d7) (by decide) ?_
    refine XS.iloadN X3.here hexec rfl (hb hbytes d8) rfl ?_
    exact Steps.refl _)
  obtain ⟨v6, T6, X6, E6, g6⟩ := X3.callS hexec (Cmp5.law l b A s.heap.size B3 o 0 len) hown (wks W (staticW U16 115 Cmp5.yN)) (wk W Cmp5.tab) (W := 0) (Nat.le_of_ble_eq_true rfl) (Nat.le_of_ble_eq_true rfl) (Nat.le_refl _) (by show 0 + len + 0 ≤ len; omega) (g := (mkF m 9 #[.val (.ref b), .val (.int (Int32.ofNat o)), .val (.int (Int32.ofNat len)), .val (.ref s.heap.size), .unset, .unset] [.int (Int32.ofNat len), .int (Int32.ofNat 0), .ref s.heap.size, .int (Int32.ofNat o), .ref b])) rfl (by rw [hml]; rfl) c5 (argsL := [.ref b, .int (Int32.ofNat o), .ref s.heap.size, .int (Int32.ofNat 0), .int (Int32.ofNat len)]) (rest := []) rfl rfl (by show 2 * 0 + 0 ≤ _; decide) (hb hbytes d9) (⟨rfl, hA3, ba3, hne, l1, by rw [bs3]; simp, hp⟩)
  obtain ⟨rfl, B6, p6, f6⟩ := E6
  have c7 : Steps p.tables e below (s₁.setTop (entryFrame m #[.ref b, .int (Int32.ofNat o), .int (Int32.ofNat len)] 6)) (T6.setTop (mkF m 12 #[.val (.ref b), .val (.int (Int32.ofNat o)), .val (.int (Int32.ofNat len)), .val (.ref s.heap.size), .unset, .unset] [.int (Int32.ofNat len)])) := g6
  have c8 : Steps p.tables e below (s₁.setTop (entryFrame m #[.ref b, .int (Int32.ofNat o), .int (Int32.ofNat len)] 6)) (T6.setTop (mkF m 58 #[.val (.ref b), .val (.int (Int32.ofNat o)), .val (.int (Int32.ofNat len)), .val (.ref s.heap.size), .val (.int (Int32.ofNat len)), .unset] [.ref s.heap.size])) := c7.trans (by
    refine XS.istore X6.here hexec rfl (hb hbytes d12) rfl rfl ?_
    refine XS.iload X6.here hexec rfl (hb hbytes d14) rfl ?_
    refine XS.iloadN X6.here hexec rfl (hb hbytes d16) rfl ?_
    refine XS.icmpYes X6.here hexec rfl (pc0 := 17) rfl (hb hbytes d17) rfl (ii_eq_t rfl) (by decide) rfl ?_
    refine XS.aloadN X6.here hexec rfl (hb hbytes d57) rfl rfl ?_
    exact Steps.refl _)
  have X8 := X6.wide (L' := []) (cells' := 1) (slots' := len) (fun x hx hlt => by
    simp only [List.nil_append, copyLocs, List.mem_map, List.mem_range] at hx
    obtain ⟨i, -, rfl⟩ := hx
    exact absurd hlt (Nat.lt_irrefl _)) (Nat.le_refl _) (by omega)
  exact ⟨T6, some (.ref s.heap.size), _, _, _, X8, rfl, rfl, rfl, (fun h => by cases h), ⟨⟨rfl, B6, ba3.like (X3.warmed.alike.symm.trans X6.warmed.alike) p6.1 f6.1 f6.2.1 f6.2.2.1, f6.2.1.trans bv3, by rw [X6.warmed.alike.findClass, f6.1]; exact bf3, by rw [f6.2.2.1, bs3]; simp, fun j hj => by rw [f6.2.2.2 j, if_pos (by omega)]; rfl, kp3.put p6 (Nat.le_refl _)⟩, by rw [p6.2.2, bh3, hh0]; simp⟩, fun fs hl => c8.trans (X8.areturnOut hexec rfl hret rfl (hb hbytes d58) hl)⟩
end Cmp3
namespace CodL
def yN : MethodName := ⟨"java/lang/StringUTF16", "coderFromArrayLen", "([BI)B"⟩
abbrev yB : ByteArray := jdk_52_method_15_code
theorem d0 : decode yB 0 = .ok (.iload_n 1, 1) := by decide +kernel
theorem d1 : decode yB 1 = .ok (.aload_n 0, 1) := by decide +kernel
theorem d2 : decode yB 2 = .ok (.arraylength, 1) := by decide +kernel
theorem d3 : decode yB 3 = .ok (.isub, 1) := by decide +kernel
theorem d4 : decode yB 4 = .ok (.bipush 31, 2) := by decide +kernel
theorem d6 : decode yB 6 = .ok (.iushr, 1) := by decide +kernel
theorem d7 : decode yB 7 = .ok (.i2b, 1) := by decide +kernel
theorem d8 : decode yB 8 = .ok (.ireturn, 1) := by decide +kernel
def site : List Cond := []
def tab : Cond := tabOf yN yB 2 (some .byte) site
def P (d : Addr) (B : Cell) (args : Array Value) (s : State) : Prop := args = #[.ref d, .int (Int32.ofNat B.slots.size)] ∧ Arr .byte d B s
def E (r : Option Value) (s u : State) : Prop := XT.PureE (some (.int 0)) r s u
/-- an array as long as the number of chars: LATIN1 -/
theorem law (l : Launch) (d : Addr) (B : Cell) : Law l yN 2 2 0 0 yB 2 (some .byte) site (P d B) E [] 0 0 := by
  refine Law.of_walk (plainFor_of_name (by decide +kernel)) (by decide +kernel) (by decide +kernel) (by decide) (fun _ _ h => by rw [h.1]; rfl) (fun _ U U' hal hh h => ⟨h.1, h.2.mv hal hh⟩) (fun r U U' V V' h1 hal h2 h => XT.PureE.mv r U U' V V' h1 hal h2 h) ?_
  intro p e s m args below meth c s₁ X0 hexec hbytes hml hret hlk hnm hown hh0 W hP
  obtain ⟨rfl, hB⟩ := hP
  have hB0 := hB.mv X0.warmed.alike hh0
  have c1 : Steps p.tables e below (s₁.setTop (entryFrame m #[.ref d, .int (Int32.ofNat B.slots.size)] 2)) (s₁.setTop (mkF m 0 #[.val (.ref d), .val (.int (Int32.ofNat B.slots.size))] [])) := entry rfl
  have c2 : Steps p.tables e below (s₁.setTop (entryFrame m #[.ref d, .int (Int32.ofNat B.slots.size)] 2)) (s₁.setTop (mkF m 2 #[.val (.ref d), .val (.int (Int32.ofNat B.slots.size))] [.ref d, .int (Int32.ofNat B.slots.size)])) := c1.trans (by
    refine XS.iloadN X0.here hexec rfl (hb hbytes d0) rfl ?_
    refine XS.aloadN X0.here hexec rfl (hb hbytes d1) rfl rfl ?_
    exact Steps.refl _)
  have c3 : Steps p.tables e below (s₁.setTop (entryFrame m #[.ref d, .int (Int32.ofNat B.slots.size)] 2)) (s₁.setTop (mkF m 8 #[.val (.ref d), .val (.int (Int32.ofNat B.slots.size))] [.int (lo8 (ushr (Int32.ofNat B.slots.size - Int32.ofNat B.slots.size) 31))])) := c2.trans (by
    refine X0.alen hexec hB0 rfl rfl (hb hbytes d2) ?_
    refine XS.isub X0.here hexec rfl (hb hbytes d3) rfl ?_
    refine bipushV X0.here hexec rfl 31 (hb hbytes d4) (by decide) ?_
    refine iushr X0.here hexec rfl (hb hbytes d6) rfl ?_
    refine i2b X0.here hexec rfl (hb hbytes d7) rfl ?_
    exact Steps.refl _)
  have e0 : lo8 (ushr (Int32.ofNat B.slots.size - Int32.ofNat B.slots.size) 31) = 0 := by rw [Int32.sub_self]; decide
  rw [e0] at c3
  exact ⟨s₁, some (.int 0), _, _, _, X0, rfl, rfl, rfl, (fun h => by cases h), ⟨rfl, hh0⟩, fun fs hl => c3.trans (X0.ireturnOut hexec hret rfl (Or.inr (Or.inr (Or.inl rfl))) (hb hbytes d8) hl)⟩
end CodL
/-- the String at a is Latin-1 over a new byte[] (the heap's one new cell): the low bytes of the len chars of A from o on; every cell but a is kept -/
def Got (a : Addr) (D : Cell) (fV fC : Field) (A : Cell) (o len : Nat) (r : Option Value) (s u : State) : Prop := r = none ∧ ∃ D' V : Cell, Blank "java/lang/String" a D' u ∧ Same D D' [fV.slot, fC.slot] ∧ D'.slots[fV.slot]? = some (.ref s.heap.size) ∧ D'.slots[fC.slot]? = some (.int 0) ∧ Arr .byte s.heap.size V u ∧ V.vm = .none ∧ u.vm.findClass "[B" = some V.cls ∧ V.slots.size = len ∧ (∀ j, j < len → V.slots[j]? = some (.int (lo8 (cv A (o + j))))) ∧ (∀ (y : Addr) (c : Cell), y ≠ a → s.heap[y]? = some c → u.heap[y]? = some c) ∧ u.heap.size = s.heap.size + 1
theorem Got.mv {a : Addr} {D A : Cell} {fV fC : Field} {o len : Nat} : ∀ r (U U' V V' : State), U'.heap = U.heap → V.vm.Alike V'.vm → V'.heap = V.heap → Got a D fV fC A o len r U V → Got a D fV fC A o len r U' V' :=
  fun r U U' V V' h1 hal h2 ⟨e0, D', X, a1, a2, a3, a4, a5, a6, a7, a8, a9, a10, a11⟩ => ⟨e0, D', X, a1.mv hal h2, a2, by rw [h1]; exact a3, a4, by rw [h1]; exact a5.mv hal h2, a6, by rw [hal.findClass]; exact a7, a8, a9, by rw [h1, h2]; exact a10, by rw [h1, h2]; exact a11⟩
namespace New4
def yN : MethodName := ⟨"java/lang/String", "<init>", "([CIILjava/lang/Void;)V"⟩
abbrev yB : ByteArray := jdk_42_method_149_code
theorem d0 : decode yB 0 = .ok (.aload_n 0, 1) := by decide +kernel
theorem d1 : decode yB 1 = .ok (.invokespecial 1, 3) := by decide +kernel
theorem d4 : decode yB 4 = .ok (.iload_n 3, 1) := by decide +kernel
theorem d5 : decode yB 5 = .ok (.ifCond (.ne) 22, 3) := by decide +kernel
theorem d27 : decode yB 27 = .ok (.getstatic 38, 3) := by decide +kernel
theorem d30 : decode yB 30 = .ok (.ifCond (.eq) 28, 3) := by decide +kernel
theorem d33 : decode yB 33 = .ok (.aload_n 1, 1) := by decide +kernel
theorem d34 : decode yB 34 = .ok (.iload_n 2, 1) := by decide +kernel
theorem d35 : decode yB 35 = .ok (.iload_n 3, 1) := by decide +kernel
theorem d36 : decode yB 36 = .ok (.invokestatic 177, 3) := by decide +kernel
theorem d39 : decode yB 39 = .ok (.astore 5, 2) := by decide +kernel
theorem d41 : decode yB 41 = .ok (.aload_n 0, 1) := by decide +kernel
theorem d42 : decode yB 42 = .ok (.aload 5, 2) := by decide +kernel
theorem d44 : decode yB 44 = .ok (.iload_n 3, 1) := by decide +kernel
theorem d45 : decode yB 45 = .ok (.invokestatic 47, 3) := by decide +kernel
theorem d48 : decode yB 48 = .ok (.putfield 15, 3) := by decide +kernel
theorem d51 : decode yB 51 = .ok (.aload_n 0, 1) := by decide +kernel
theorem d52 : decode yB 52 = .ok (.aload 5, 2) := by decide +kernel
theorem d54 : decode yB 54 = .ok (.putfield 9, 3) := by decide +kernel
theorem d57 : decode yB 57 = .ok (.return_, 1) := by decide +kernel
def site : List Cond := [.fieldLink "java/lang/String" 38 "java/lang/String" "COMPACT_STRINGS" "Z", Cmp3.tab, CodL.tab, .laysFinal "java/lang/String" "java/lang/String" "value" "[B", .fieldLink "java/lang/String" 9 "java/lang/String" "value" "[B", .laysFinal "java/lang/String" "java/lang/String" "coder" "B", .fieldLink "java/lang/String" 15 "java/lang/String" "coder" "B"] ++ objW "java/lang/String" 1 ++ staticW "java/lang/String" 177 Cmp3.yN ++ staticW "java/lang/String" 47 CodL.yN
def tab : Cond := tabOf yN yB 6 none site
def P (a : Addr) (D : Cell) (fV fC : Field) (b : Addr) (A : Cell) (z : Int32) (o len : Nat) (args : Array Value) (s : State) : Prop := args = #[.ref a, .ref b, .int (Int32.ofNat o), .int (Int32.ofNat len), .null] ∧ Blank "java/lang/String" a D s ∧ Found "java/lang/String" "value" "[B" fV s ∧ Found "java/lang/String" "coder" "B" fC s ∧ Ch b A s ∧ StaticIs s "java/lang/String" "COMPACT_STRINGS" "Z" (.int z) ∧ ¬ z = 0 ∧ 0 < len ∧ o + len ≤ A.slots.size ∧ len ≤ 536870912 ∧ ∀ i, i < len → ¬ 255 < cv A (o + i)
def E (a : Addr) (D : Cell) (fV fC : Field) (A : Cell) (o len : Nat) (r : Option Value) (s u : State) : Prop := Got a D fV fC A o len r s u
/-- len > 0, no char of the range above 255: a Latin-1 String of their low bytes -/
theorem law (l : Launch) (a : Addr) (D : Cell) (fV fC : Field) (b : Addr) (A : Cell) (z : Int32) (o len : Nat) : Law l yN 5 4 2 35 yB 6 none site (P a D fV fC b A z o len) (E a D fV fC A o len) [⟨a, fC.slot⟩, ⟨a, fV.slot⟩] 1 len := by
  refine Law.of_walk (plainFor_of_name (by decide +kernel)) (by decide +kernel) (by decide +kernel) (by decide) (fun _ _ h => by rw [h.1]; rfl) (fun _ U U' hal hh h => ⟨h.1, h.2.1.mv hal hh, h.2.2.1.al hal, h.2.2.2.1.al hal, h.2.2.2.2.1.mv hal hh, h.2.2.2.2.2.1.there hal hh, h.2.2.2.2.2.2⟩) (fun r U U' V V' h1 hal h2 h => Got.mv r U U' V V' h1 hal h2 h) ?_
  intro p e s m args below meth c s₁ X0 hexec hbytes hml hret hlk hnm hown hh0 W hP
  obtain ⟨rfl, hB, f1, f2, hA, s1, hz, l0, l1, l2, hp⟩ := hP
  have a31 := hA.1.2.2.2
  have c1 : Steps p.tables e below (s₁.setTop (entryFrame m #[.ref a, .ref b, .int (Int32.ofNat o), .int (Int32.ofNat len), .null] 6)) (s₁.setTop (mkF m 0 #[.val (.ref a), .val (.ref b), .val (.int (Int32.ofNat o)), .val (.int (Int32.ofNat len)), .val .null, .unset] [])) := entry rfl
  have c2 : Steps p.tables e below (s₁.setTop (entryFrame m #[.ref a, .ref b, .int (Int32.ofNat o), .int (Int32.ofNat len), .null] 6)) (s₁.setTop (mkF m 1 #[.val (.ref a), .val (.ref b), .val (.int (Int32.ofNat o)), .val (.int (Int32.ofNat len)), .val .null, .unset] [.ref a])) := c1.trans (by
    refine XS.aloadN X0.here hexec rfl (hb hbytes d0) rfl rfl ?_
    exact Steps.refl _)
  obtain ⟨T3, X3, q3, st3⟩ := X0.oinit hexec hown (wks W (objW "java/lang/String" 1)) (g := (mkF m 1 #[.val (.ref a), .val (.ref b), .val (.int (Int32.ofNat o)), .val (.int (Int32.ofNat len)), .val .null, .unset] [.ref a])) rfl (by rw [hml]; rfl) (rest := []) rfl (hb hbytes d1) (W := 0) (by show 2 * 0 + 0 ≤ _; decide) (Nat.le_of_ble_eq_true rfl) (Nat.le_of_ble_eq_true rfl)
  have hh3 := q3.trans hh0
  have c4 : Steps p.tables e below (s₁.setTop (entryFrame m #[.ref a, .ref b, .int (Int32.ofNat o), .int (Int32.ofNat len), .null] 6)) (T3.setTop (mkF m 27 #[.val (.ref a), .val (.ref b), .val (.int (Int32.ofNat o)), .val (.int (Int32.ofNat len)), .val .null, .unset] [])) := (c2.trans (st3 _ (Steps.refl _))).trans (by
    refine XS.iloadN X3.here hexec rfl (hb hbytes d4) rfl ?_
    refine XS.ifYes X3.here hexec rfl (pc0 := 5) rfl (hb hbytes d5) rfl (i0_ne_t (nz32 (by omega) l0)) (by decide) rfl ?_
    exact Steps.refl _)
  obtain ⟨T5, X5, q5, st5⟩ := X3.sget hexec hown (wk W (.fieldLink "java/lang/String" 38 "java/lang/String" "COMPACT_STRINGS" "Z")) s1 (fun _ _ h => by rw [hh3]; exact h) (g := (mkF m 27 #[.val (.ref a), .val (.ref b), .val (.int (Int32.ofNat o)), .val (.int (Int32.ofNat len)), .val .null, .unset] [])) rfl (hb hbytes d27)
  have hh5 := q5.trans hh3
  have c6 : Steps p.tables e below (s₁.setTop (entryFrame m #[.ref a, .ref b, .int (Int32.ofNat o), .int (Int32.ofNat len), .null] 6)) (T5.setTop (mkF m 30 #[.val (.ref a), .val (.ref b), .val (.int (Int32.ofNat o)), .val (.int (Int32.ofNat len)), .val .null, .unset] [.int z])) := c4.trans (st5 _ (Steps.refl _))
  have c7 : Steps p.tables e below (s₁.setTop (entryFrame m #[.ref a, .ref b, .int (Int32.ofNat o), .int (Int32.ofNat len), .null] 6)) (T5.setTop (mkF m 36 #[.val (.ref a), .val (.ref b), .val (.int (Int32.ofNat o)), .val (.int (Int32.ofNat len)), .val .null, .unset] [.int (Int32.ofNat len), .int (Int32.ofNat o), .ref b])) := c6.trans (by
    refine XS.ifNo X5.here hexec rfl (hb hbytes d30) rfl (i0_eq_f hz) ?_
    refine XS.aloadN X5.here hexec rfl (hb hbytes d33) rfl rfl ?_
    refine XS.iloadN X5.here hexec rfl (hb hbytes d34) rfl ?_
    refine XS.iloadN X5.here hexec rfl (hb hbytes d35) rfl ?_
    exact Steps.refl _)
  obtain ⟨v8, T8, X8, E8, g8⟩ := X5.callS hexec (Cmp3.law l b A o len) hown (wks W (staticW "java/lang/String" 177 Cmp3.yN)) (wk W Cmp3.tab) (W := 0) (Nat.le_of_ble_eq_true rfl) (Nat.le_of_ble_eq_true rfl) (Nat.le_refl _) (by show 0 + len ≤ len; omega) (g := (mkF m 36 #[.val (.ref a), .val (.ref b), .val (.int (Int32.ofNat o)), .val (.int (Int32.ofNat len)), .val .null, .unset] [.int (Int32.ofNat len), .int (Int32.ofNat o), .ref b])) rfl (by rw [hml]; rfl) c7 (argsL := [.ref b, .int (Int32.ofNat o), .int (Int32.ofNat len)]) (rest := []) rfl rfl (by show 2 * 0 + 0 ≤ _; decide) (hb hbytes d36) (⟨rfl, hA.mv X5.warmed.alike hh5, l1, l2, hp⟩)
  obtain ⟨e8, z8⟩ := E8
  obtain ⟨rfl, N, n1, n2, n3, n4, n5, n6⟩ := NewArr.mv _ T5 s _ _ hh5.symm (Vm.Alike.refl _) rfl e8
  rw [hh5] at z8
  have hB1 := hB.keep X8.warmed.alike (n6 _ _ hB.1)
  have hne : s.heap.size ≠ a := (Nat.ne_of_lt (Array.getElem?_eq_some_iff.mp hB.1).1).symm
  have c9 : Steps p.tables e below (s₁.setTop (entryFrame m #[.ref a, .ref b, .int (Int32.ofNat o), .int (Int32.ofNat len), .null] 6)) (T8.setTop (mkF m 39 #[.val (.ref a), .val (.ref b), .val (.int (Int32.ofNat o)), .val (.int (Int32.ofNat len)), .val .null, .unset] [.ref s.heap.size])) := g8
  have c10 : Steps p.tables e below (s₁.setTop (entryFrame m #[.ref a, .ref b, .int (Int32.ofNat o), .int (Int32.ofNat len), .null] 6)) (T8.setTop (mkF m 45 #[.val (.ref a), .val (.ref b), .val (.int (Int32.ofNat o)), .val (.int (Int32.ofNat len)), .val .null, .val (.ref s.heap.size)] [.int (Int32.ofNat N.slots.size), .ref s.heap.size, .ref a])) := by
    have hc : Steps p.tables e below (s₁.setTop (entryFrame m #[.ref a, .ref b, .int (Int32.ofNat o), .int (Int32.ofNat len), .null] 6)) (T8.setTop (mkF m 45 #[.val (.ref a), .val (.ref b), .val (.int (Int32.ofNat o)), .val (.int (Int32.ofNat len)), .val .null, .val (.ref s.heap.size)] [.int (Int32.ofNat len), .ref s.heap.size, .ref a])) := c9.trans (by
      refine XS.astore X8.here hexec rfl (hb hbytes d39) rfl rfl rfl ?_
      refine XS.aloadN X8.here hexec rfl (hb hbytes d41) rfl rfl ?_
      refine XS.aload X8.here hexec rfl (hb hbytes d42) rfl rfl ?_
      refine XS.iloadN X8.here hexec rfl (hb hbytes d44) rfl ?_
      exact Steps.refl _)
    rw [n4]; exact hc
  obtain ⟨v11, T11, X11, E11, g11⟩ := X8.callS hexec (CodL.law l s.heap.size N) hown (wks W (staticW "java/lang/String" 47 CodL.yN)) (wk W CodL.tab) (W := 1) (Nat.le_of_ble_eq_true rfl) (Nat.le_of_ble_eq_true rfl) (Nat.le_refl _) (by show 0 + len + 0 ≤ len; omega) (g := (mkF m 45 #[.val (.ref a), .val (.ref b), .val (.int (Int32.ofNat o)), .val (.int (Int32.ofNat len)), .val .null, .val (.ref s.heap.size)] [.int (Int32.ofNat N.slots.size), .ref s.heap.size, .ref a])) rfl (by rw [hml]; rfl) c10 (argsL := [.ref s.heap.size, .int (Int32.ofNat N.slots.size)]) (rest := [.ref a]) rfl rfl (by show 2 * 0 + (1 + 0) ≤ _; decide) (hb hbytes d45) (⟨rfl, n1⟩)
  obtain ⟨rfl, q11⟩ := E11
  have hB11 := hB1.mv (X8.warmed.alike.symm.trans X11.warmed.alike) q11
  have c12 : Steps p.tables e below (s₁.setTop (entryFrame m #[.ref a, .ref b, .int (Int32.ofNat o), .int (Int32.ofNat len), .null] 6)) (T11.setTop (mkF m 48 #[.val (.ref a), .val (.ref b), .val (.int (Int32.ofNat o)), .val (.int (Int32.ofNat len)), .val .null, .val (.ref s.heap.size)] [.int 0, .ref a])) := g11
  obtain ⟨T13, X13, p13, bl13, sl13, st13⟩ := X11.finit hexec hown (wk W (.fieldLink "java/lang/String" 15 "java/lang/String" "coder" "B")) (Or.inr ⟨_, (wk W (.laysFinal "java/lang/String" "java/lang/String" "coder" "B"))⟩) (Or.inl ⟨rfl, hnm⟩) f2 (Or.inl rfl) hB11 (t := .byte) (by decide +kernel) rfl (g := (mkF m 48 #[.val (.ref a), .val (.ref b), .val (.int (Int32.ofNat o)), .val (.int (Int32.ofNat len)), .val .null, .val (.ref s.heap.size)] [.int 0, .ref a])) rfl (rest := []) rfl (hb hbytes d48)
  have c14 : Steps p.tables e below (s₁.setTop (entryFrame m #[.ref a, .ref b, .int (Int32.ofNat o), .int (Int32.ofNat len), .null] 6)) (T13.setTop (mkF m 54 #[.val (.ref a), .val (.ref b), .val (.int (Int32.ofNat o)), .val (.int (Int32.ofNat len)), .val .null, .val (.ref s.heap.size)] [.ref s.heap.size, .ref a])) := (c12.trans (st13 _ (Steps.refl _))).trans (by
    refine XS.aloadN X13.here hexec rfl (hb hbytes d51) rfl rfl ?_
    refine XS.aload X13.here hexec rfl (hb hbytes d52) rfl rfl ?_
    exact Steps.refl _)
  obtain ⟨T15, X15, p15, bl15, sl15, st15⟩ := X13.finit hexec hown (wk W (.fieldLink "java/lang/String" 9 "java/lang/String" "value" "[B")) (Or.inr ⟨_, (wk W (.laysFinal "java/lang/String" "java/lang/String" "value" "[B"))⟩) (Or.inl ⟨rfl, hnm⟩) f1 (Or.inl rfl) bl13 (t := (.array .byte)) (by decide +kernel) rfl (g := (mkF m 54 #[.val (.ref a), .val (.ref b), .val (.int (Int32.ofNat o)), .val (.int (Int32.ofNat len)), .val .null, .val (.ref s.heap.size)] [.ref s.heap.size, .ref a])) rfl (rest := []) rfl (hb hbytes d54)
  have c16 : Steps p.tables e below (s₁.setTop (entryFrame m #[.ref a, .ref b, .int (Int32.ofNat o), .int (Int32.ofNat len), .null] 6)) (T15.setTop (mkF m 57 #[.val (.ref a), .val (.ref b), .val (.int (Int32.ofNat o)), .val (.int (Int32.ofNat len)), .val .null, .val (.ref s.heap.size)] [])) := c14.trans (st15 _ (Steps.refl _))
  have ap := apart (Or.inr ⟨_, (wk W (.laysFinal "java/lang/String" "java/lang/String" "value" "[B"))⟩) (Or.inr ⟨_, (wk W (.laysFinal "java/lang/String" "java/lang/String" "coder" "B"))⟩) f1 f2 (t₁ := .array .byte) (t₂ := .byte) (by decide +kernel) (by decide +kernel) (by decide)
  have al := X8.warmed.alike.symm.trans X15.warmed.alike
  have n7 : T11.heap[s.heap.size]? = some N := by rw [q11]; exact n1.1
  exact ⟨T15, none, _, _, _, X15, by simp, rfl, by omega, (fun _ => rfl), ⟨rfl, _, N, bl15, ((Same.refl D _).set _ (by simp)).set _ (by simp), sl15, (Cell.slots_setSlot_ne _ ap).trans sl13, n1.keep al (p15.other hne (p13.other hne n7)), n2, by rw [al.findClass]; exact n3, n4, n5, fun y c h1 h2 => p15.other h1 (p13.other h1 (by rw [q11]; exact n6 y c h2)), by rw [p15.2.2, p13.2.2, q11]; exact z8⟩, fun fs hl => c16.trans (X15.returnOut hexec hret (hb hbytes d57) hl)⟩
end New4
namespace New1
def yN : MethodName := ⟨"java/lang/String", "<init>", "([C)V"⟩
abbrev yB : ByteArray := jdk_42_method_3_code
theorem d0 : decode yB 0 = .ok (.aload_n 0, 1) := by decide +kernel
theorem d1 : decode yB 1 = .ok (.aload_n 1, 1) := by decide +kernel
theorem d2 : decode yB 2 = .ok (.iconst 0, 1) := by decide +kernel
theorem d3 : decode yB 3 = .ok (.aload_n 1, 1) := by decide +kernel
theorem d4 : decode yB 4 = .ok (.arraylength, 1) := by decide +kernel
theorem d5 : decode yB 5 = .ok (.aconst_null, 1) := by decide +kernel
theorem d6 : decode yB 6 = .ok (.invokespecial 27, 3) := by decide +kernel
theorem d9 : decode yB 9 = .ok (.return_, 1) := by decide +kernel
def site : List Cond := [New4.tab] ++ initW "java/lang/String" 27 New4.yN
def tab : Cond := tabOf yN yB 2 none site
def P (a : Addr) (D : Cell) (fV fC : Field) (b : Addr) (A : Cell) (z : Int32) (args : Array Value) (s : State) : Prop := args = #[.ref a, .ref b] ∧ Blank "java/lang/String" a D s ∧ Found "java/lang/String" "value" "[B" fV s ∧ Found "java/lang/String" "coder" "B" fC s ∧ Ch b A s ∧ StaticIs s "java/lang/String" "COMPACT_STRINGS" "Z" (.int z) ∧ ¬ z = 0 ∧ 0 < A.slots.size ∧ A.slots.size ≤ 536870912 ∧ ∀ i, i < A.slots.size → ¬ 255 < cv A i
def E (a : Addr) (D : Cell) (fV fC : Field) (A : Cell) (r : Option Value) (s u : State) : Prop := Got a D fV fC A 0 A.slots.size r s u
/-- new String(chars), not empty, no char above 255: a Latin-1 String of their low bytes -/
theorem law (l : Launch) (a : Addr) (D : Cell) (fV fC : Field) (b : Addr) (A : Cell) (z : Int32) : Law l yN 2 1 3 52 yB 2 none site (P a D fV fC b A z) (E a D fV fC A) [⟨a, fC.slot⟩, ⟨a, fV.slot⟩] 1 A.slots.size := by
  refine Law.of_walk (plainFor_of_name (by decide +kernel)) (by decide +kernel) (by decide +kernel) (by decide) (fun _ _ h => by rw [h.1]; rfl) (fun _ U U' hal hh h => ⟨h.1, h.2.1.mv hal hh, h.2.2.1.al hal, h.2.2.2.1.al hal, h.2.2.2.2.1.mv hal hh, h.2.2.2.2.2.1.there hal hh, h.2.2.2.2.2.2⟩) (fun r U U' V V' h1 hal h2 h => Got.mv r U U' V V' h1 hal h2 h) ?_
  intro p e s m args below meth c s₁ X0 hexec hbytes hml hret hlk hnm hown hh0 W hP
  obtain ⟨rfl, hB, f1, f2, hA, s1, hz, l0, l2, hp⟩ := hP
  have c1 : Steps p.tables e below (s₁.setTop (entryFrame m #[.ref a, .ref b] 2)) (s₁.setTop (mkF m 0 #[.val (.ref a), .val (.ref b)] [])) := entry rfl
  have c2 : Steps p.tables e below (s₁.setTop (entryFrame m #[.ref a, .ref b] 2)) (s₁.setTop (mkF m 6 #[.val (.ref a), .val (.ref b)] [.null, .int (Int32.ofNat A.slots.size), .int 0, .ref b, .ref a])) := c1.trans (by
    refine XS.aloadN X0.here hexec rfl (hb hbytes d0) rfl rfl ?_
    refine XS.aloadN X0.here hexec rfl (hb hbytes d1) rfl rfl ?_
    refine iconstV X0.here hexec rfl 0 (hb hbytes d2) (by decide) ?_
    refine XS.aloadN X0.here hexec rfl (hb hbytes d3) rfl rfl ?_
    refine X0.alen hexec (hA.1.mv X0.warmed.alike hh0) rfl rfl (hb hbytes d4) ?_
    refine XS.aconstNull X0.here hexec rfl (hb hbytes d5) ?_
    exact Steps.refl _)
  obtain ⟨v3, T3, X3, E3, g3⟩ := X0.callN hexec (New4.law l a D fV fC b A z 0 A.slots.size) rfl hown (wks W (initW "java/lang/String" 27 New4.yN)) (W New4.tab (by simp only [site, List.mem_cons, List.mem_append, true_or, or_true])) (W := 0) (Nat.le_of_ble_eq_true rfl) (Nat.le_of_ble_eq_true rfl) (Nat.le_refl _) (by show 0 + A.slots.size ≤ A.slots.size; omega) (g := (mkF m 6 #[.val (.ref a), .val (.ref b)] [.null, .int (Int32.ofNat A.slots.size), .int (Int32.ofNat 0), .ref b, .ref a])) rfl (by rw [hml]; rfl) c2 (argsL := [.ref b, .int (Int32.ofNat 0), .int (Int32.ofNat A.slots.size), .null]) (rest := []) rfl rfl (by show 2 * 0 + 0 ≤ _; decide) (hb hbytes d6) (⟨rfl, hB.mv X0.warmed.alike hh0, f1.al X0.warmed.alike, f2.al X0.warmed.alike, hA.mv X0.warmed.alike hh0, s1.there X0.warmed.alike hh0, hz, l0, by omega, l2, fun i hi => by rw [Nat.zero_add]; exact hp i hi⟩)
  have e0 := Got.mv _ s₁ s _ _ hh0.symm (Vm.Alike.refl _) rfl E3
  obtain rfl := e0.1
  have c4 : Steps p.tables e below (s₁.setTop (entryFrame m #[.ref a, .ref b] 2)) (T3.setTop (mkF m 9 #[.val (.ref a), .val (.ref b)] [])) := g3
  exact ⟨T3, none, _, _, _, X3, by simp, rfl, by omega, (fun _ => rfl), e0, fun fs hl => c4.trans (X3.returnOut hexec hret (hb hbytes d9) hl)⟩
theorem pays {l : Launch} {R : Room} {p : Program} {e : Env} {below : List Frame} {s : State} {sargs : Array Value} {len W : Nat} (a : Addr) (D : Cell) (fV fC : Field) (b : Addr) (A : Cell) (z : Int32) (htab : tab.before sargs s = true) (hfr : 4 ≤ R.frames) (hlo : W + 65 ≤ R.locals) :
    Back l R p e below s sargs yN len W (fun A₁ a₁ => A₁.cells + 1 ≤ R.cells ∧ A₁.slots + A.slots.size ≤ R.slots ∧ P a D fV fC b A z a₁ A₁.U) (fun A₁ _ v₁ B₁ => E a D fV fC A v₁ A₁.U B₁.U ∧ B₁.locs = A₁.locs ++ [⟨a, fC.slot⟩, ⟨a, fV.slot⟩] ∧ B₁.cells = A₁.cells + 1 ∧ B₁.slots = A₁.slots + A.slots.size) :=
  (law l a D fV fC b A z).pays htab hfr (by omega)
end New1
/-- the byte, read back as charAt reads it, is the char -/
theorem lo8_mask {x : Int32} (h0 : ¬ x < 0) (h1 : ¬ 255 < x) : lo8 x &&& 255 = x := by
  have t : ∀ k : Fin 256, lo8 (Int32.ofNat k.val) &&& 255 = Int32.ofNat k.val := by decide +kernel
  rw [Int32.lt_iff_toInt_lt] at h0 h1
  have e0 : (0 : Int32).toInt = 0 := rfl
  have e1 : (255 : Int32).toInt = 255 := rfl
  obtain ⟨k, hk⟩ : ∃ k : Nat, x.toInt = k := ⟨x.toInt.toNat, by omega⟩
  have hx : x = Int32.ofNat k := Int32.toInt_inj.mp (by rw [hk, Int32.toInt_ofNat_small (by omega)])
  rw [hx]
  exact t ⟨k, by omega⟩
end StrChars
namespace StrChars.Road
open Jvm Sem ClassFile Op Lib Jvm.Stand Jvm.Free Jvm.Free.XT
open Jvm.Lib.Cold (StaticIs)
abbrev ST : String := "java/lang/String"
/-- every table word that New1's law asks, flat -/
abbrev words : List Jvm.Cond := [.code New1.yN New1.yB 2 none, .initialized ST, .methodLink ST 27 New4.yN, .instanceMethod New4.yN,
  .code New4.yN New4.yB 6 none, .fieldLink ST 38 ST "COMPACT_STRINGS" "Z", .laysFinal ST ST "value" "[B", .fieldLink ST 9 ST "value" "[B", .laysFinal ST ST "coder" "B", .fieldLink ST 15 ST "coder" "B",
  .methodLink ST 1 Lib.objectInit, .instanceMethod Lib.objectInit, .code Lib.objectInit ⟨#[0xb1]⟩ 1 none, .methodLink ST 177 Cmp3.yN, .static Cmp3.yN, .methodLink ST 47 CodL.yN, .static CodL.yN,
  .code Cmp3.yN Cmp3.yB 6 (some (.array .byte)), .initialized U16, .arrayClass .byte, .methodLink U16 115 Cmp5.yN, .static Cmp5.yN, .code Cmp5.yN Cmp5.yB 7 (some .int), .code CodL.yN CodL.yB 2 (some .byte)]
theorem tab_of {a : Array Value} {s : State} (h : ∀ w ∈ words, w.before a s = true) : New1.tab.before a s = true := by
  have h5 : Cmp5.tab.before a s = true := unparts (wk h (.code Cmp5.yN Cmp5.yB 7 (some .int))) (wks h (.initialized Cmp5.yN.cls :: Cmp5.site))
  have hc : CodL.tab.before a s = true := unparts (wk h (.code CodL.yN CodL.yB 2 (some .byte))) (wks h (.initialized CodL.yN.cls :: CodL.site))
  have q5 : ∀ w ∈ Cmp5.tab :: words, w.before a s = true := fun w hw => (List.mem_cons.mp hw).elim (fun e => e ▸ h5) (h w)
  have h3 : Cmp3.tab.before a s = true := unparts (wk q5 (.code Cmp3.yN Cmp3.yB 6 (some (.array .byte)))) (wks q5 (.initialized Cmp3.yN.cls :: Cmp3.site))
  have q3 : ∀ w ∈ Cmp3.tab :: CodL.tab :: words, w.before a s = true := fun w hw => (List.mem_cons.mp hw).elim (fun e => e ▸ h3) fun hw => (List.mem_cons.mp hw).elim (fun e => e ▸ hc) (h w)
  have h4 : New4.tab.before a s = true := unparts (wk q3 (.code New4.yN New4.yB 6 none)) (wks q3 (.initialized New4.yN.cls :: New4.site))
  have q4 : ∀ w ∈ New4.tab :: words, w.before a s = true := fun w hw => (List.mem_cons.mp hw).elim (fun e => e ▸ h4) (h w)
  exact unparts (wk q4 (.code New1.yN New1.yB 2 none)) (wks q4 (.initialized New1.yN.cls :: New1.site))
/-- the words ride from the start Z to the walk's own state -/
theorem moved {Z s : State} {a0 args : Array Value} (hZ : Z.Warmed39 s.vm) (hw : ∀ d ∈ words, d.before a0 Z = true) : ∀ d ∈ words, d.before args s = true := fun d hd => by
  have q := hw d hd
  have t : ∀ d ∈ words, d = .arrayClass .byte ∨ (d.onTables && d.keepsFace) = true := by decide +kernel
  rcases t d hd with rfl | t
  · exact RoadKit.mvA hZ q
  · exact RoadKit.mv hZ q t
/-- WHAT COMES BACK, over the tables of the start Z: h the heap at the call, h' behind it -/
def Q (Z : State) (x : Addr) (A : Cell) (h : Heap) (v : Option Value) (h' : Heap) (L : List Loc) : Prop := v = none ∧ (∀ y ∈ L, y.base = x) ∧ RoadKit.Keep h h' [x] ∧ h'.size = h.size + 1 ∧ RoadKit.Exa Z h' x ST ∧ RoadKit.Fld Z h' x ST "value" "[B" (.ref h.size) ∧ RoadKit.Fld Z h' x ST "coder" "B" (.int 0) ∧
  (∃ V : Cell, RoadKit.Arr Z h' h.size V .byte ∧ V.vm = .none ∧ Z.vm.findClass "[B" = some V.cls ∧ V.slots.size = A.slots.size ∧ ∀ j, j < A.slots.size → V.slots[j]? = some (.int (lo8 (cv A j)))) ∧
  ∀ (O n d : String) (w : Value), RoadKit.Fld Z h x O n d w → RoadKit.slotOf Z O n d ≠ RoadKit.slotOf Z ST "value" "[B" → RoadKit.slotOf Z O n d ≠ RoadKit.slotOf Z ST "coder" "B" → RoadKit.Fld Z h' x O n d w
/-- **new String(chars) AT A CALL, IN THE ROAD'S FORM**: for specialBack behind newO: x the fresh String, b the char[] with the cell A -/
theorem back {p : Program} {l : Launch} {e : Env} {R : Room} {s : State} {args : Array Value} {below : List Frame} {len W : Nat} {Z : State} {a0 : Array Value} {h : Heap} (hZ : Z.Warmed39 s.vm) (hw : ∀ d ∈ words, d.before a0 Z = true) {kI : Nat} (wi : (Jvm.Cond.instantiable ST kI).before a0 Z = true)
    {x b : Addr} {A : Cell} {z : Int32} {v0 c0 : Value} (E : RoadKit.Exa Z h x ST) (V : RoadKit.Fld Z h x ST "value" "[B" v0) (C : RoadKit.Fld Z h x ST "coder" "B" c0) (K : RoadKit.Arr Z h b A .char) (hty : Typed .char A) (S : RoadKit.Sta Z h ST "COMPACT_STRINGS" "Z" (.int z)) (hz : ¬ z = 0)
    (l0 : 0 < A.slots.size) (l2 : A.slots.size ≤ 536870912) (hp : ∀ i, i < A.slots.size → ¬ 255 < cv A i) (hfr : 4 ≤ R.frames) (hlo : W + 65 ≤ R.locals) :
    Back l R p e below s args New1.yN len W (fun P a => a = #[.ref x, .ref b] ∧ P.U.heap = h ∧ P.cells + 1 ≤ R.cells ∧ P.slots + A.slots.size ≤ R.slots)
      (fun P _ v B => ∃ L, Q Z x A h v B.U.heap L ∧ B.locs = P.locs ++ L ∧ B.cells = P.cells + 1 ∧ B.slots = P.slots + A.slots.size) := by
  intro m meth c P g ig mk a X hg hsize hdg hW hn hp'
  obtain ⟨rfl, rfl, r1, r2⟩ := hp'
  have al : Z.vm.Alike P.U.vm := hZ.alike.trans X.warmed.alike
  obtain ⟨D, cfV, kV, iV, fV, hD, gV, stV, knV, obV, asV, slV⟩ := id V
  obtain ⟨D', cfC, kC, iC, fC, hD', gC, stC, -, -, asC, slC⟩ := id C
  cases hD.symm.trans hD'
  obtain ⟨D2, kD, e1, e2, e3, e4, e5⟩ := id E
  cases hD.symm.trans e1
  obtain ⟨c2, k2, i1, i2, i3, -⟩ := Cond.instantiable_spec wi
  cases e2.symm.trans i1
  cases e3.symm.trans i2
  obtain ⟨kU, u1, u2⟩ := al.2.2 _ _ e3
  have hB : Blank ST x D P.U := ⟨hD, ⟨knV, fun q hq => by rw [hq] at obV; cases obV⟩, by rw [al.findClass]; exact e2, kU, u1, by rw [u2]; exact i3, by rw [u2]; exact e5 i3⟩
  have F1 : Found ST "value" "[B" fV P.U := ⟨SBG.found_only al ⟨cfV, kV, iV, gV⟩, stV⟩
  have F2 : Found ST "coder" "B" fC P.U := ⟨SBG.found_only al ⟨cfC, kC, iC, gC⟩, stC⟩
  have hA : Ch b A P.U := ⟨⟨K.1, State.isArrayOf_alike al K.2.1, K.2.2, by omega⟩, hty⟩
  have hS : StaticIs P.U ST "COMPACT_STRINGS" "Z" (.int z) := by
    obtain ⟨cfS, iS, kS, fS, st, cS, t1, t2, t3, t4, t5, t6, t7⟩ := S
    exact StaticIs.there (s := { Z with heap := P.U.heap }) ⟨cfS, iS, kS, fS, st, cS, t1, t2, t3, t4, t5, (fun q => by rw [q] at t6; cases t6), t7⟩ al rfl
  obtain ⟨v, B, X', ⟨⟨hv, E', V', q1, q2, q3, q4, q5, q6, q7, q8, q9, q10, q11⟩, hl, hc, hs⟩, st⟩ := New1.pays x D fV fC b A z (tab_of (moved hZ hw)) hfr hlo m meth c P g ig mk _ X hg hsize hdg hW hn ⟨r1, r2, rfl, hB, F1, F2, hA, hS, hz, l0, l2, hp⟩
  have al' : Z.vm.Alike B.U.vm := hZ.alike.trans X'.warmed.alike
  have hsz : E'.slots.size = D.slots.size := by
    obtain ⟨-, -, -, kB, w1, w2, w3⟩ := q1
    obtain ⟨kB', y1, y2⟩ := al'.2.2 _ _ e3
    rw [q2.2.1] at w1
    cases w1.symm.trans y1
    rw [w3, e5 i3, y2]
  refine ⟨v, B, X', ⟨_, ⟨hv, ?_, ⟨by omega, fun y cy hy hn' => q10 y cy (by simpa using hn') hy, fun y cy hy => ?_⟩, q11, ⟨E', _, q1.1, by rw [q2.2.1]; exact e2, by rw [q2.2.1]; exact e3, by rw [q2.1]; exact obV, fun _ => by rw [hsz]; exact e5 i3⟩,
    ⟨E', cfV, kV, iV, fV, q1.1, gV, stV, by rw [q2.1]; exact knV, by rw [q2.1]; exact obV, by rw [q2.2.1]; exact asV, q3⟩, ⟨E', cfC, kC, iC, fC, q1.1, gC, stC, by rw [q2.1]; exact knV, by rw [q2.1]; exact obV, by rw [q2.2.1]; exact asC, q4⟩,
    ⟨V', ⟨q5.1, State.isArrayOf_alike al'.symm q5.2.1, q5.2.2.1⟩, q6, by rw [← al'.findClass]; exact q7, q8, fun j hj => by have := q9 j hj; rwa [Nat.zero_add] at this⟩, fun O n d w F n1 n2 => ?_⟩, hl, hc, hs⟩, st⟩
  · intro y hy
    simp only [List.mem_cons, List.not_mem_nil, or_false] at hy
    rcases hy with rfl | rfl <;> rfl
  · by_cases q : y = x
    · subst q
      cases hD.symm.trans hy
      exact ⟨E', q1.1, q2.2.1, q2.1, hsz⟩
    · exact ⟨cy, q10 y cy q hy, rfl, rfl, rfl⟩
  · obtain ⟨D3, cf, k, i, f, g1, g2, g3, g4, g5, g6, g7⟩ := F
    cases hD.symm.trans g1
    simp only [RoadKit.slotOf, g2, gV, gC, Option.map_some, Option.getD_some] at n1 n2
    exact ⟨E', cf, k, i, f, q1.1, g2, g3, by rw [q2.1]; exact g4, by rw [q2.1]; exact g5, by rw [q2.2.1]; exact g6, by rw [q2.2.2 f.slot (by simp [n1, n2])]; exact g7⟩
end StrChars.Road
namespace StrChars.Road
open Jvm Sem ClassFile Op Lib Jvm.Stand Jvm.Free Jvm.Free.XT
/-- WHAT COMES BACK, the byte[] as a list of values -/
def QA (Z : State) (x : Addr) (zn : Int32) (cs : List Int32) (h : Heap) (v : Option Value) (h' : Heap) (L : List Loc) : Prop := v = none ∧ (∀ y ∈ L, y.base = x) ∧ RoadKit.Keep h h' [x] ∧ h'.size = h.size + 1 ∧ RoadKit.Exa Z h' x ST ∧ RoadKit.Fld Z h' x ST "value" "[B" (.ref h.size) ∧ RoadKit.Fld Z h' x ST "coder" "B" (.int 0) ∧
  (∃ kb, Z.vm.findClass "[B" = some kb ∧ RoadKit.Arv Z h' h.size kb .byte zn (cs.map fun c => .int (lo8 c)) (.int 0)) ∧
  ∀ (O n d : String) (w : Value), RoadKit.Fld Z h x O n d w → RoadKit.slotOf Z O n d ≠ RoadKit.slotOf Z ST "value" "[B" → RoadKit.slotOf Z O n d ≠ RoadKit.slotOf Z ST "coder" "B" → RoadKit.Fld Z h' x O n d w
/-- **new String(chars) AT A CALL, THE ARRAYS AS LISTS**: the char[] at b holds cs, not empty, no char above 255 -/
theorem backArv {p : Program} {l : Launch} {e : Env} {R : Room} {s : State} {args : Array Value} {below : List Frame} {len W : Nat} {Z : State} {a0 : Array Value} {h : Heap} (hZ : Z.Warmed39 s.vm) (hw : ∀ d ∈ words, d.before a0 Z = true) {kI : Nat} (wi : (Jvm.Cond.instantiable ST kI).before a0 Z = true)
    {x b : Addr} {k : ClassId} {zn z : Int32} {cs : List Int32} {dv v0 c0 : Value} (E : RoadKit.Exa Z h x ST) (V : RoadKit.Fld Z h x ST "value" "[B" v0) (C : RoadKit.Fld Z h x ST "coder" "B" c0) (K : RoadKit.Arv Z h b k .char zn (cs.map Value.int) dv) (S : RoadKit.Sta Z h ST "COMPACT_STRINGS" "Z" (.int z)) (hz : ¬ z = 0)
    (hlen : zn.toNatClampNeg = cs.length) (h0 : 0 < cs.length) (hbig : cs.length ≤ 536870912) (hall : ∀ c ∈ cs, ¬ 255 < c) (hfr : 4 ≤ R.frames) (hlo : W + 65 ≤ R.locals) :
    Back l R p e below s args New1.yN len W (fun P a => a = #[.ref x, .ref b] ∧ P.U.heap = h ∧ P.cells + 1 ≤ R.cells ∧ P.slots + cs.length ≤ R.slots)
      (fun P _ v B => ∃ L, QA Z x zn cs h v B.U.heap L ∧ B.locs = P.locs ++ L ∧ B.cells = P.cells + 1 ∧ B.slots = P.slots + cs.length) := by
  obtain ⟨A, K1, K2, K3, K4, K5, K6⟩ := K
  have e : A.slots.size = cs.length := K3.trans hlen
  have hat : ∀ (i : Nat) (hi : i < cs.length), A.slots[i]? = some (.int cs[i]) := fun i hi => by rw [K5 i (by omega)]; simp [List.getD_eq_getElem?_getD, hi]
  have hcv : ∀ (i : Nat) (hi : i < cs.length), cv A i = cs[i] := fun i hi => by unfold cv; rw [hat i hi]
  have hty : Typed .char A := fun i v hv => by
    have hi : i < A.slots.size := (Array.getElem?_eq_some_iff.mp hv).1
    have q := K5 i hi
    rw [hv] at q
    rw [Option.some.inj q]
    exact K6 i hi
  refine Back.mono (back hZ hw wi E V C K1 hty S hz (by omega) (by omega) (fun i hi => by rw [hcv i (by omega)]; exact hall _ (List.getElem_mem _)) hfr hlo) (fun P a hp => ⟨hp.1, hp.2.1, hp.2.2.1, by rw [e]; exact hp.2.2.2⟩) (fun P a v B hp hq => ?_)
  obtain ⟨L, ⟨q1, q2, q3, q4, q5, q6, q7, ⟨V', v1, v2, v3, v4, v5⟩, q9⟩, hl, hc, hs⟩ := hq
  refine ⟨L, ⟨q1, q2, q3, q4, q5, q6, q7, ⟨V'.cls, v3, V', v1, rfl, by rw [v4, e, hlen], K4, fun i hi => ?_, fun i hi => ?_⟩, q9⟩, hl, hc, by rw [hs, e]⟩
  · have hi' : i < cs.length := by omega
    rw [v5 i (by omega), hcv i hi']; simp [List.getD_eq_getElem?_getD, hi']
  · have hi' : i < cs.length := by omega
    simp only [List.getD_eq_getElem?_getD, List.getElem?_map, List.getElem?_eq_getElem hi', Option.map_some, Option.getD_some]
    exact fits_lo8 _
end StrChars.Road
namespace StrChars.Road
open Jvm Sem ClassFile Op Lib Jvm.Stand Jvm.Free Jvm.Free.XT
/-- WHAT COMES BACK, in the writer's own shape -/
def QV (Z : State) (x : Addr) (N : Int32) (bs : List Int32) (h : Heap) (n0 : Nat) (v : Option Value) (h' : Heap) (L : List Loc) : Prop := v = none ∧ RoadKit.Fr n0 L ∧ RoadKit.Keep h h' [x] ∧ RoadKit.Exa Z h' x ST ∧ RoadKit.Fld Z h' x ST "coder" "B" (.int 0) ∧
  ∃ (t : Addr) (kb : ClassId), n0 ≤ t ∧ h.size ≤ t ∧ ¬ t = x ∧ RoadKit.Fld Z h' x ST "value" "[B" (.ref t) ∧ RoadKit.Arv Z h' t kb .byte N (bs.map Value.int) (.int 0)
/-- **new String(chars) AT A CALL, FOR THE WRITER**: a char[] of n known ints, each 0 to 255 -/
theorem backV {p : Program} {l : Launch} {e : Env} {R : Room} {s : State} {args : Array Value} {below : List Frame} {len W : Nat} {Z : State} {a0 : Array Value} {h : Heap} (hZ : Z.Warmed39 s.vm) (hw : ∀ d ∈ words, d.before a0 Z = true) {kI : Nat} (wi : (Jvm.Cond.instantiable ST kI).before a0 Z = true)
    {x b : Addr} {kC : ClassId} {cs bs : List Int32} {d v0 c0 : Value} {z N : Int32} {n n0 : Nat} (hx0 : n0 ≤ x) (hh0 : n0 ≤ h.size) (E : RoadKit.Exa Z h x ST) (V : RoadKit.Fld Z h x ST "value" "[B" v0) (C : RoadKit.Fld Z h x ST "coder" "B" c0) (K : RoadKit.Arv Z h b kC .char N (cs.map Value.int) d) (S : RoadKit.Sta Z h ST "COMPACT_STRINGS" "Z" (.int z)) (hz : ¬ z = 0)
    (hn : cs.length = n) (hN : N = Int32.ofNat n) (l0 : 0 < n) (l2 : n ≤ 4000) (hp : ∀ c ∈ cs, ¬ c < 0 ∧ ¬ (255 : Int32) < c) (hb : bs = cs.map (fun c => c.toInt8.toInt32)) (hfr : 4 ≤ R.frames) (hlo : W + 65 ≤ R.locals) :
    Back l R p e below s args (⟨"java/lang/String", "<init>", "([C)V"⟩ : MethodName) len W (fun P a => a = #[.ref x, .ref b] ∧ P.U.heap = h ∧ P.cells + 1 ≤ R.cells ∧ P.slots + n ≤ R.slots)
      (fun P _ v B => ∃ L, QV Z x N bs h n0 v B.U.heap L ∧ B.locs = P.locs ++ L ∧ B.cells = P.cells + 1 ∧ B.slots = P.slots + n) := by
  subst hn hN hb
  refine Back.mono (backArv hZ hw wi E V C K S hz (n32 (by omega)) l0 (by omega) (fun c hc => (hp c hc).2) hfr hlo) (fun P a hp => hp) (fun P a v B hp hq => ?_)
  obtain ⟨L, ⟨q1, q2, q3, q4, q5, q6, q7, ⟨kb, v1, v2⟩, q9⟩, hl, hc, hs⟩ := hq
  exact ⟨L, ⟨q1, fun y hy => by rw [q2 y hy]; exact hx0, q3, q5, q7, h.size, kb, hh0, Nat.le_refl _, Nat.ne_of_gt E.lt, q6, by rw [List.map_map]; exact v2⟩, hl, hc, hs⟩
end StrChars.Road
namespace StrChars
open Jvm Sem ClassFile Op Lib Jvm.Stand Jvm.Free.XT Jvm.Free.ALB Jvm.Free.JM Jvm.Free
open Jvm.Lib.Cold (StaticIs)
def hi8 (x : Int32) : Int32 := lo8 (x >>> ((8 : Int32) &&& 31))
/-- what StringUTF16.getChar makes of two bytes -/
def pairCh (u v : Int32) : Int32 := (((u &&& 255) <<< ((0 : Int32) &&& 31)) ||| ((v &&& 255) <<< ((8 : Int32) &&& 31))).toUInt32.toUInt16.toUInt32.toInt32
theorem shr0 (c : Int32) : c >>> ((0 : Int32) &&& 31) = c := by
  have e : ((0 : Int32) &&& 31) = 0 := by decide
  rw [e]
  apply Int32.toBitVec_inj.mp
  rw [Int32.toBitVec_shiftRight]
  have e1 : ((0 : Int32).toBitVec.smod 32) = 0#32 := by decide
  rw [e1, BitVec.sshiftRight_eq']
  exact BitVec.sshiftRight_zero
theorem lo8_and (x : Int32) : (lo8 x &&& 255).toBitVec.toNat = x.toBitVec.toNat % 256 := by
  have h : (lo8 x).toBitVec = (x.toBitVec.signExtend 8).signExtend 32 := by rw [lo8, Int8.toBitVec_toInt32, Int32.toBitVec_toInt8]
  rw [Int32.toBitVec_and, BitVec.toNat_and, h]
  have e : ((x.toBitVec.signExtend 8).signExtend 32).toNat % 256 = x.toBitVec.toNat % 256 := by
    rw [BitVec.toNat_signExtend]
    have hlt := x.toBitVec.isLt
    simp only [BitVec.toNat_setWidth, BitVec.toNat_signExtend]
    split <;> split <;> omega
  rw [← e]
  exact Nat.and_two_pow_sub_one_eq_mod _ 8
theorem pair_says {c : Int32} (h0 : ¬ c < 0) (h1 : ¬ 65535 < c) : pairCh (lo8 c) (hi8 c) = c := by
  rw [Int32.lt_iff_toInt_lt] at h0 h1
  have e0 : (0 : Int32).toInt = 0 := rfl
  have e1 : (65535 : Int32).toInt = 65535 := rfl
  have hc : c.toInt = c.toBitVec.toNat := by
    have := c.toBitVec.isLt
    have e : c.toInt = c.toBitVec.toInt := rfl
    rw [e] at h0 h1
    rw [e]
    rw [BitVec.toInt_eq_toNat_cond] at h0 h1 ⊢
    split at h0 <;> split <;> omega
  have hn : c.toBitVec.toNat < 65536 := by omega
  have a1 := lo8_and c
  have a2 : (hi8 c &&& 255).toBitVec.toNat = c.toBitVec.toNat / 256 := by
    rw [hi8, lo8_and]
    have e : ((8 : Int32) &&& 31) = 8 := by decide
    rw [e, Int32.toBitVec_shiftRight]
    have e2 : ((8 : Int32).toBitVec.smod 32) = 8#32 := by decide
    rw [e2, BitVec.sshiftRight_eq', BitVec.toNat_sshiftRight_of_msb_false (by rw [BitVec.msb_eq_false_iff_two_mul_lt]; omega)]
    show c.toBitVec.toNat >>> 8 % 256 = _
    rw [Nat.shiftRight_eq_div_pow]
    omega
  unfold pairCh
  apply Int32.toBitVec_inj.mp
  apply BitVec.eq_of_toNat_eq
  have f0 : ((0 : Int32) &&& 31) = 0 := by decide
  have f8 : ((8 : Int32) &&& 31) = 8 := by decide
  rw [f0, f8]
  have g : (((lo8 c &&& 255) <<< (0 : Int32)) ||| ((hi8 c &&& 255) <<< (8 : Int32))).toBitVec.toNat = c.toBitVec.toNat := by
    rw [Int32.toBitVec_or, Int32.toBitVec_shiftLeft, Int32.toBitVec_shiftLeft]
    have s0 : ((0 : Int32).toBitVec.smod 32) = 0#32 := by decide
    have s8 : ((8 : Int32).toBitVec.smod 32) = 8#32 := by decide
    rw [s0, s8, BitVec.toNat_or]
    simp only [BitVec.shiftLeft_eq', BitVec.toNat_shiftLeft, a1, a2]
    show (c.toBitVec.toNat % 256) <<< 0 % 2 ^ 32 ||| (c.toBitVec.toNat / 256) <<< 8 % 2 ^ 32 = _
    rw [Nat.shiftLeft_zero, Nat.mod_eq_of_lt (show c.toBitVec.toNat % 256 < 2 ^ 32 by omega), Nat.mod_eq_of_lt (show (c.toBitVec.toNat / 256) <<< 8 < 2 ^ 32 by rw [Nat.shiftLeft_eq]; omega), Nat.or_comm, ← Nat.shiftLeft_add_eq_or_of_lt (by omega), Nat.shiftLeft_eq]
    omega
  show BitVec.toNat (((((lo8 c &&& 255) <<< (0 : Int32)) ||| ((hi8 c &&& 255) <<< (8 : Int32))).toBitVec.setWidth 16).setWidth 32) = _
  rw [BitVec.toNat_setWidth, BitVec.toNat_setWidth, g]
  omega
end StrChars
namespace StrChars
open Jvm Sem ClassFile Op Lib Jvm.Stand Jvm.Free.XT Jvm.Free.ALB Jvm.Free.JM Jvm.Free
open Jvm.Lib.Cold (StaticIs)
theorem shr1 {n : Nat} (h : 2 * n < 2 ^ 31) : Int32.ofNat (2 * n) >>> ((1 : Int32) &&& 31) = Int32.ofNat n := by
  have e : ((1 : Int32) &&& 31) = 1 := by decide
  rw [e]
  apply Int32.toBitVec_inj.mp
  rw [Int32.toBitVec_shiftRight]
  have e1 : ((1 : Int32).toBitVec.smod 32) = 1#32 := by decide
  have hm : (BitVec.ofNat 32 (2 * n)).toNat = 2 * n := by rw [BitVec.toNat_ofNat, Nat.mod_eq_of_lt (by omega)]
  rw [e1, BitVec.sshiftRight_eq']
  apply BitVec.eq_of_toNat_eq
  show ((BitVec.ofNat 32 (2 * n)).sshiftRight 1).toNat = (BitVec.ofNat 32 n).toNat
  rw [BitVec.toNat_sshiftRight_of_msb_false (by rw [BitVec.msb_eq_false_iff_two_mul_lt, hm]; omega), hm, BitVec.toNat_ofNat, Nat.shiftRight_eq_div_pow]
  omega
/-- charAt's cast of a byte read back -/
def chr8 (u : Int32) : Int32 := (u &&& 255).toUInt32.toUInt16.toUInt32.toInt32
theorem chr8_lo8 {c : Int32} (h0 : ¬ c < 0) (h1 : ¬ 255 < c) : chr8 (lo8 c) = c := by
  have t : ∀ k : Fin 256, (Int32.ofNat k.val).toUInt32.toUInt16.toUInt32.toInt32 = Int32.ofNat k.val := by decide +kernel
  unfold chr8
  rw [lo8_mask h0 h1]
  rw [Int32.lt_iff_toInt_lt] at h0 h1
  have e0 : (0 : Int32).toInt = 0 := rfl
  have e1 : (255 : Int32).toInt = 255 := rfl
  obtain ⟨k, hk⟩ : ∃ k : Nat, c.toInt = k := ⟨c.toInt.toNat, by omega⟩
  have hx : c = Int32.ofNat k := Int32.toInt_inj.mp (by rw [hk, Int32.toInt_ofNat_small (by omega)])
  rw [hx]
  exact t ⟨k, by omega⟩
theorem narrow_ch {c : Int32} (h0 : ¬ c < 0) (h1 : ¬ 65535 < c) : narrow .char (.int c) = .int c := by
  have q : narrow .char (.int (pairCh (lo8 c) (hi8 c))) = .int (pairCh (lo8 c) (hi8 c)) := narrow_c _
  rwa [pair_says h0 h1] at q
/-- the array's cell V codes the n chars f 0 .. f (n - 1) by the coder cd, as the JDK does: coder 1 just where some char is above 255 -/
def Cod (cd : Int32) (n : Nat) (f : Nat → Int32) (V : Cell) : Prop := (cd = 0 ∧ V.slots.size = n ∧ ∀ j, j < n → V.slots[j]? = some (.int (lo8 (f j))) ∧ ¬ 255 < f j) ∨ (cd = 1 ∧ V.slots.size = 2 * n ∧ (∀ j, j < n → V.slots[2 * j]? = some (.int (lo8 (f j))) ∧ V.slots[2 * j + 1]? = some (.int (hi8 (f j)))) ∧ ∃ j, j < n ∧ 255 < f j)
theorem Cod.cd {cd : Int32} {n : Nat} {f : Nat → Int32} {V : Cell} (h : Cod cd n f V) : cd = 0 ∨ cd = 1 := h.imp (fun q => q.1) fun q => q.1
theorem Cod.len {cd : Int32} {n : Nat} {f : Nat → Int32} {V : Cell} (h : Cod cd n f V) (hs : V.slots.size < 2 ^ 31) : Int32.ofNat V.slots.size >>> (cd &&& 31) = Int32.ofNat n := by
  rcases h with ⟨rfl, h, -⟩ | ⟨rfl, h, -⟩
  · rw [shr0, h]
  · rw [h, shr1 (by omega)]
/-- **x is a String of the n chars f 0 .. f (n - 1)**, Latin-1 or UTF-16; its array at t has the cell V -/
def Txt (x t : Addr) (V : Cell) (cd : Int32) (n : Nat) (f : Nat → Int32) (U : State) : Prop := Exact "java/lang/String" x U ∧ Has x "java/lang/String" "value" "[B" (.ref t) U ∧ Has x "java/lang/String" "coder" "B" (.int cd) U ∧ XT.Arr .byte t V U ∧ Cod cd n f V ∧ ∀ j, j < n → ¬ f j < 0 ∧ ¬ 65535 < f j
theorem Txt.mv {x t : Addr} {V : Cell} {cd : Int32} {n : Nat} {f : Nat → Int32} {U U' : State} (h : Txt x t V cd n f U) (hal : U.vm.Alike U'.vm) (hh : U'.heap = U.heap) : Txt x t V cd n f U' := ⟨h.1.mv hal hh, h.2.1.mv hal hh, h.2.2.1.mv hal hh, h.2.2.2.1.mv hal hh, h.2.2.2.2⟩
namespace Cdr
def yN : MethodName := ⟨"java/lang/String", "coder", "()B"⟩
abbrev yB : ByteArray := jdk_42_method_152_code
theorem d0 : decode yB 0 = .ok (.getstatic 38, 3) := by decide +kernel
theorem d3 : decode yB 3 = .ok (.ifCond (.eq) 10, 3) := by decide +kernel
theorem d6 : decode yB 6 = .ok (.aload_n 0, 1) := by decide +kernel
theorem d7 : decode yB 7 = .ok (.getfield 15, 3) := by decide +kernel
theorem d10 : decode yB 10 = .ok (.goto 4, 3) := by decide +kernel
theorem d14 : decode yB 14 = .ok (.ireturn, 1) := by decide +kernel
def site : List Cond := [.fieldLink "java/lang/String" 38 "java/lang/String" "COMPACT_STRINGS" "Z", .fieldLink "java/lang/String" 15 "java/lang/String" "coder" "B"]
def tab : Cond := tabOf yN yB 1 (some .byte) site
def P (x : Addr) (cd z : Int32) (args : Array Value) (s : State) : Prop := args = #[.ref x] ∧ Has x "java/lang/String" "coder" "B" (.int cd) s ∧ (cd = 0 ∨ cd = 1) ∧ StaticIs s "java/lang/String" "COMPACT_STRINGS" "Z" (.int z) ∧ ¬ z = 0
def E (cd : Int32) (r : Option Value) (s u : State) : Prop := XT.PureE (some (.int cd)) r s u
theorem law (l : Launch) (x : Addr) (cd z : Int32) : Law l yN 1 0 0 0 yB 1 (some .byte) site (P x cd z) (E cd) [] 0 0 := by
  refine Law.of_walk (plainFor_of_name (by decide +kernel)) (by decide +kernel) (by decide +kernel) (by decide) (fun _ _ h => by rw [h.1]; rfl) (fun _ U U' hal hh h => ⟨h.1, h.2.1.mv hal hh, h.2.2.1, h.2.2.2.1.there hal hh, h.2.2.2.2⟩) (fun r U U' V V' h1 hal h2 h => XT.PureE.mv r U U' V V' h1 hal h2 h) ?_
  intro p e s m args below meth c s₁ X0 hexec hbytes hml hret hlk hnm hown hh0 W hP
  obtain ⟨rfl, hx, hc, s1, hz⟩ := hP
  have c1 : Steps p.tables e below (s₁.setTop (entryFrame m #[.ref x] 1)) (s₁.setTop (mkF m 0 #[.val (.ref x)] [])) := entry rfl
  obtain ⟨T2, X2, q2, st2⟩ := X0.sget hexec hown (wk W (.fieldLink "java/lang/String" 38 "java/lang/String" "COMPACT_STRINGS" "Z")) s1 (fun _ _ h => by rw [hh0]; exact h) (g := (mkF m 0 #[.val (.ref x)] [])) rfl (hb hbytes d0)
  have hh2 := q2.trans hh0
  have c3 : Steps p.tables e below (s₁.setTop (entryFrame m #[.ref x] 1)) (T2.setTop (mkF m 7 #[.val (.ref x)] [.ref x])) := (c1.trans (st2 _ (Steps.refl _))).trans (by
    refine XS.ifNo X2.here hexec rfl (hb hbytes d3) rfl (i0_eq_f hz) ?_
    refine XS.aloadN X2.here hexec rfl (hb hbytes d6) rfl rfl ?_
    exact Steps.refl _)
  obtain ⟨T4, X4, q4, st4⟩ := X2.hget hexec hown (wk W (.fieldLink "java/lang/String" 15 "java/lang/String" "coder" "B")) (hx.mv X2.warmed.alike hh2) (g := (mkF m 7 #[.val (.ref x)] [.ref x])) rfl (rest := []) rfl (hb hbytes d7)
  have c5 : Steps p.tables e below (s₁.setTop (entryFrame m #[.ref x] 1)) (T4.setTop (mkF m 14 #[.val (.ref x)] [.int cd])) := (c3.trans (st4 _ (Steps.refl _))).trans (by
    refine XS.goto X4.here hexec rfl (pc0 := 10) rfl (hb hbytes d10) (by decide) rfl ?_
    exact Steps.refl _)
  exact ⟨T4, some (.int cd), _, _, _, X4, rfl, rfl, rfl, (fun h => by cases h), ⟨rfl, q4.trans hh2⟩, fun fs hl => c5.trans (X4.ireturnOut hexec hret (by rcases hc with rfl | rfl <;> rfl) (Or.inr (Or.inr (Or.inl rfl))) (hb hbytes d14) hl)⟩
end Cdr
namespace Len
def yN : MethodName := ⟨"java/lang/String", "length", "()I"⟩
abbrev yB : ByteArray := jdk_42_method_54_code
theorem d0 : decode yB 0 = .ok (.aload_n 0, 1) := by decide +kernel
theorem d1 : decode yB 1 = .ok (.getfield 9, 3) := by decide +kernel
theorem d4 : decode yB 4 = .ok (.arraylength, 1) := by decide +kernel
theorem d5 : decode yB 5 = .ok (.aload_n 0, 1) := by decide +kernel
theorem d6 : decode yB 6 = .ok (.invokevirtual 335, 3) := by decide +kernel
theorem d9 : decode yB 9 = .ok (.ishr, 1) := by decide +kernel
theorem d10 : decode yB 10 = .ok (.ireturn, 1) := by decide +kernel
def site : List Cond := [.fieldLink "java/lang/String" 9 "java/lang/String" "value" "[B", Cdr.tab] ++ virtW "java/lang/String" 335 "java/lang/String" Cdr.yN Cdr.yN
def tab : Cond := tabOf yN yB 1 (some .int) site
def P (x t : Addr) (V : Cell) (cd : Int32) (n : Nat) (f : Nat → Int32) (z : Int32) (args : Array Value) (s : State) : Prop := args = #[.ref x] ∧ Txt x t V cd n f s ∧ StaticIs s "java/lang/String" "COMPACT_STRINGS" "Z" (.int z) ∧ ¬ z = 0
def E (n : Nat) (r : Option Value) (s u : State) : Prop := XT.PureE (some (.int (Int32.ofNat n))) r s u
/-- length() of a String of n chars, in either coding -/
theorem law (l : Launch) (x t : Addr) (V : Cell) (cd : Int32) (n : Nat) (f : Nat → Int32) (z : Int32) : Law l yN 1 0 1 13 yB 1 (some .int) site (P x t V cd n f z) (E n) [] 0 0 := by
  refine Law.of_walk (plainFor_of_name (by decide +kernel)) (by decide +kernel) (by decide +kernel) (by decide) (fun _ _ h => by rw [h.1]; rfl) (fun _ U U' hal hh h => ⟨h.1, h.2.1.mv hal hh, h.2.2.1.there hal hh, h.2.2.2⟩) (fun r U U' V V' h1 hal h2 h => XT.PureE.mv r U U' V V' h1 hal h2 h) ?_
  intro p e s m args below meth c s₁ X0 hexec hbytes hml hret hlk hnm hown hh0 W hP
  obtain ⟨rfl, hx, s1, hz⟩ := hP
  have v31 := hx.2.2.2.1.2.2.2
  have c1 : Steps p.tables e below (s₁.setTop (entryFrame m #[.ref x] 1)) (s₁.setTop (mkF m 1 #[.val (.ref x)] [.ref x])) := Steps.trans (entry rfl) (by
    show Steps p.tables e below (s₁.setTop (mkF m 0 #[.val (.ref x)] [])) _
    refine XS.aloadN X0.here hexec rfl (hb hbytes d0) rfl rfl ?_
    exact Steps.refl _)
  obtain ⟨T2, X2, q2, st2⟩ := X0.hget hexec hown (wk W (.fieldLink "java/lang/String" 9 "java/lang/String" "value" "[B")) (hx.mv X0.warmed.alike hh0).2.1 (g := (mkF m 1 #[.val (.ref x)] [.ref x])) rfl (rest := []) rfl (hb hbytes d1)
  have hh2 := q2.trans hh0
  have hx2 := hx.mv X2.warmed.alike hh2
  have c3 : Steps p.tables e below (s₁.setTop (entryFrame m #[.ref x] 1)) (T2.setTop (mkF m 6 #[.val (.ref x)] [.ref x, .int (Int32.ofNat V.slots.size)])) := (c1.trans (st2 _ (Steps.refl _))).trans (by
    refine X2.alen hexec hx2.2.2.2.1 rfl rfl (hb hbytes d4) ?_
    refine XS.aloadN X2.here hexec rfl (hb hbytes d5) rfl rfl ?_
    exact Steps.refl _)
  obtain ⟨v4, T4, X4, E4, g4⟩ := X2.callV hexec (Cdr.law l x cd z) hown (wks W (virtW "java/lang/String" 335 "java/lang/String" Cdr.yN Cdr.yN)) rfl (by decide) (wk W Cdr.tab) (W := 1) (Nat.le_of_ble_eq_true rfl) (Nat.le_of_ble_eq_true rfl) (Nat.le_refl _) (Nat.le_refl _) (hx2.1.fc X2.warmed.alike) hx2.1.is (g := (mkF m 6 #[.val (.ref x)] [.ref x, .int (Int32.ofNat V.slots.size)])) rfl (by rw [hml]; rfl) c3 (argsL := []) (rest := [.int (Int32.ofNat V.slots.size)]) rfl rfl (by show 2 * 0 + (1 + 0) ≤ _; decide) (hb hbytes d6) (⟨rfl, hx2.2.2.1, hx.2.2.2.2.1.cd, s1.there X2.warmed.alike hh2, hz⟩)
  obtain ⟨rfl, q4⟩ := E4
  have c5 : Steps p.tables e below (s₁.setTop (entryFrame m #[.ref x] 1)) (T4.setTop (mkF m 10 #[.val (.ref x)] [.int (Int32.ofNat V.slots.size >>> (cd &&& 31))])) := Steps.trans g4 (by
    refine ishr X4.here hexec rfl (hb hbytes d9) rfl ?_
    exact Steps.refl _)
  rw [hx.2.2.2.2.1.len v31] at c5
  exact ⟨T4, some (.int (Int32.ofNat n)), _, _, _, X4, rfl, rfl, rfl, (fun h => by cases h), ⟨rfl, q4.trans hh2⟩, fun fs hl => c5.trans (X4.ireturnOut hexec hret rfl (Or.inl rfl) (hb hbytes d10) hl)⟩
theorem pays {l : Launch} {R : Room} {p : Program} {e : Env} {below : List Frame} {s : State} {sargs : Array Value} {len W : Nat} (x t : Addr) (V : Cell) (cd : Int32) (n : Nat) (f : Nat → Int32) (z : Int32) (htab : tab.before sargs s = true) (hfr : 2 ≤ R.frames) (hlo : W + 25 ≤ R.locals) :
    Back l R p e below s sargs yN len W (fun A₁ a₁ => A₁.cells + 0 ≤ R.cells ∧ A₁.slots + 0 ≤ R.slots ∧ P x t V cd n f z a₁ A₁.U) (fun A₁ _ v₁ B₁ => E n v₁ A₁.U B₁.U ∧ B₁.locs = A₁.locs ++ [] ∧ B₁.cells = A₁.cells + 0 ∧ B₁.slots = A₁.slots + 0) :=
  (law l x t V cd n f z).pays htab hfr (by omega)
end Len
namespace IsL
def yN : MethodName := ⟨"java/lang/String", "isLatin1", "()Z"⟩
abbrev yB : ByteArray := jdk_42_method_154_code
theorem d0 : decode yB 0 = .ok (.getstatic 38, 3) := by decide +kernel
theorem d3 : decode yB 3 = .ok (.ifCond (.eq) 14, 3) := by decide +kernel
theorem d6 : decode yB 6 = .ok (.aload_n 0, 1) := by decide +kernel
theorem d7 : decode yB 7 = .ok (.getfield 15, 3) := by decide +kernel
theorem d10 : decode yB 10 = .ok (.ifCond (.ne) 7, 3) := by decide +kernel
theorem d13 : decode yB 13 = .ok (.iconst 1, 1) := by decide +kernel
theorem d14 : decode yB 14 = .ok (.goto 4, 3) := by decide +kernel
theorem d17 : decode yB 17 = .ok (.iconst 0, 1) := by decide +kernel
theorem d18 : decode yB 18 = .ok (.ireturn, 1) := by decide +kernel
def site : List Cond := [.fieldLink "java/lang/String" 38 "java/lang/String" "COMPACT_STRINGS" "Z", .fieldLink "java/lang/String" 15 "java/lang/String" "coder" "B"]
def tab : Cond := tabOf yN yB 1 (some .boolean) site
def P (x : Addr) (cd z : Int32) (args : Array Value) (s : State) : Prop := args = #[.ref x] ∧ Has x "java/lang/String" "coder" "B" (.int cd) s ∧ (cd = 0 ∨ cd = 1) ∧ StaticIs s "java/lang/String" "COMPACT_STRINGS" "Z" (.int z) ∧ ¬ z = 0
def E (cd : Int32) (r : Option Value) (s u : State) : Prop := XT.PureE (some (.int (1 - cd))) r s u
theorem law (l : Launch) (x : Addr) (cd z : Int32) : Law l yN 1 0 0 0 yB 1 (some .boolean) site (P x cd z) (E cd) [] 0 0 := by
  refine Law.of_walk (plainFor_of_name (by decide +kernel)) (by decide +kernel) (by decide +kernel) (by decide) (fun _ _ h => by rw [h.1]; rfl) (fun _ U U' hal hh h => ⟨h.1, h.2.1.mv hal hh, h.2.2.1, h.2.2.2.1.there hal hh, h.2.2.2.2⟩) (fun r U U' V V' h1 hal h2 h => XT.PureE.mv r U U' V V' h1 hal h2 h) ?_
  intro p e s m args below meth c s₁ X0 hexec hbytes hml hret hlk hnm hown hh0 W hP
  obtain ⟨rfl, hx, hc, s1, hz⟩ := hP
  have c1 : Steps p.tables e below (s₁.setTop (entryFrame m #[.ref x] 1)) (s₁.setTop (mkF m 0 #[.val (.ref x)] [])) := entry rfl
  obtain ⟨T2, X2, q2, st2⟩ := X0.sget hexec hown (wk W (.fieldLink "java/lang/String" 38 "java/lang/String" "COMPACT_STRINGS" "Z")) s1 (fun _ _ h => by rw [hh0]; exact h) (g := (mkF m 0 #[.val (.ref x)] [])) rfl (hb hbytes d0)
  have hh2 := q2.trans hh0
  have c3 : Steps p.tables e below (s₁.setTop (entryFrame m #[.ref x] 1)) (T2.setTop (mkF m 7 #[.val (.ref x)] [.ref x])) := (c1.trans (st2 _ (Steps.refl _))).trans (by
    refine XS.ifNo X2.here hexec rfl (hb hbytes d3) rfl (i0_eq_f hz) ?_
    refine XS.aloadN X2.here hexec rfl (hb hbytes d6) rfl rfl ?_
    exact Steps.refl _)
  obtain ⟨T4, X4, q4, st4⟩ := X2.hget hexec hown (wk W (.fieldLink "java/lang/String" 15 "java/lang/String" "coder" "B")) (hx.mv X2.warmed.alike hh2) (g := (mkF m 7 #[.val (.ref x)] [.ref x])) rfl (rest := []) rfl (hb hbytes d7)
  have c5 : Steps p.tables e below (s₁.setTop (entryFrame m #[.ref x] 1)) (T4.setTop (mkF m 10 #[.val (.ref x)] [.int cd])) := c3.trans (st4 _ (Steps.refl _))
  have c6 : Steps p.tables e below (s₁.setTop (entryFrame m #[.ref x] 1)) (T4.setTop (mkF m 18 #[.val (.ref x)] [.int (1 - cd)])) := by
    rcases hc with rfl | rfl
    · exact c5.trans (by
        refine XS.ifNo X4.here hexec rfl (hb hbytes d10) rfl (i0_ne_f rfl) ?_
        refine iconstV X4.here hexec rfl 1 (hb hbytes d13) (by decide) ?_
        refine XS.goto X4.here hexec rfl (pc0 := 14) rfl (hb hbytes d14) (by decide) rfl ?_
        exact Steps.refl _)
    · exact c5.trans (by
        refine XS.ifYes X4.here hexec rfl (pc0 := 10) rfl (hb hbytes d10) rfl (i0_ne_t (by decide)) (by decide) rfl ?_
        refine iconstV X4.here hexec rfl 0 (hb hbytes d17) (by decide) ?_
        exact Steps.refl _)
  exact ⟨T4, some (.int (1 - cd)), _, _, _, X4, rfl, rfl, rfl, (fun h => by cases h), ⟨rfl, q4.trans hh2⟩, fun fs hl => c6.trans (X4.ireturnOut hexec hret (by rcases hc with rfl | rfl <;> rfl) (Or.inr (Or.inl rfl)) (hb hbytes d18) hl)⟩
end IsL
namespace LChA
def yN : MethodName := ⟨"java/lang/StringLatin1", "charAt", "([BI)C"⟩
abbrev yB : ByteArray := jdk_43_method_2_code
theorem d0 : decode yB 0 = .ok (.iload_n 1, 1) := by decide +kernel
theorem d1 : decode yB 1 = .ok (.aload_n 0, 1) := by decide +kernel
theorem d2 : decode yB 2 = .ok (.arraylength, 1) := by decide +kernel
theorem d3 : decode yB 3 = .ok (.invokestatic 9, 3) := by decide +kernel
theorem d6 : decode yB 6 = .ok (.aload_n 0, 1) := by decide +kernel
theorem d7 : decode yB 7 = .ok (.iload_n 1, 1) := by decide +kernel
theorem d8 : decode yB 8 = .ok (.baload, 1) := by decide +kernel
theorem d9 : decode yB 9 = .ok (.sipush 255, 3) := by decide +kernel
theorem d12 : decode yB 12 = .ok (.iand, 1) := by decide +kernel
theorem d13 : decode yB 13 = .ok (.i2c, 1) := by decide +kernel
theorem d14 : decode yB 14 = .ok (.ireturn, 1) := by decide +kernel
def site : List Cond := [JO.Str_checkIndex.tab] ++ staticW "java/lang/StringLatin1" 9 JO.Str_checkIndex.yN
def tab : Cond := tabOf yN yB 2 (some .char) site
def P (t : Addr) (V : Cell) (i : Nat) (u : Int32) (fm : Value) (args : Array Value) (s : State) : Prop := args = #[.ref t, .int (Int32.ofNat i)] ∧ XT.Arr .byte t V s ∧ V.slots[i]? = some (.int u) ∧ (StaticIs s "jdk/internal/util/Preconditions" "SIOOBE_FORMATTER" "Ljava/util/function/BiFunction;" fm ∧ fm.isRef = true)
def E (u : Int32) (r : Option Value) (s w : State) : Prop := XT.PureE (some (.int (chr8 u))) r s w
theorem law (l : Launch) (t : Addr) (V : Cell) (i : Nat) (u : Int32) (fm : Value) : Law l yN 2 2 2 27 yB 2 (some .char) site (P t V i u fm) (E u) [] 0 0 := by
  refine Law.of_walk (plainFor_of_name (by decide +kernel)) (by decide +kernel) (by decide +kernel) (by decide) (fun _ _ h => by rw [h.1]; rfl) (fun _ U U' hal hh h => ⟨h.1, h.2.1.mv hal hh, h.2.2.1, h.2.2.2.1.there hal hh, h.2.2.2.2⟩) (fun r U U' V V' h1 hal h2 h => XT.PureE.mv r U U' V V' h1 hal h2 h) ?_
  intro p e s m args below meth c s₁ X0 hexec hbytes hml hret hlk hnm hown hh0 W hP
  obtain ⟨rfl, hV, hu, s1, rf⟩ := hP
  have v31 := hV.2.2.2
  have hi : i < V.slots.size := (Array.getElem?_eq_some_iff.mp hu).1
  have c1 : Steps p.tables e below (s₁.setTop (entryFrame m #[.ref t, .int (Int32.ofNat i)] 2)) (s₁.setTop (mkF m 0 #[.val (.ref t), .val (.int (Int32.ofNat i))] [])) := entry rfl
  have c2 : Steps p.tables e below (s₁.setTop (entryFrame m #[.ref t, .int (Int32.ofNat i)] 2)) (s₁.setTop (mkF m 3 #[.val (.ref t), .val (.int (Int32.ofNat i))] [.int (Int32.ofNat V.slots.size), .int (Int32.ofNat i)])) := c1.trans (by
    refine XS.iloadN X0.here hexec rfl (hb hbytes d0) rfl ?_
    refine XS.aloadN X0.here hexec rfl (hb hbytes d1) rfl rfl ?_
    refine X0.alen hexec (hV.mv X0.warmed.alike hh0) rfl rfl (hb hbytes d2) ?_
    exact Steps.refl _)
  obtain ⟨v3, T3, X3, E3, g3⟩ := X0.callS hexec (JO.Str_checkIndex.law l (Int32.ofNat i) (Int32.ofNat V.slots.size) fm) hown (wks W (staticW "java/lang/StringLatin1" 9 JO.Str_checkIndex.yN)) (wk W JO.Str_checkIndex.tab) (W := 0) (Nat.le_of_ble_eq_true rfl) (Nat.le_of_ble_eq_true rfl) (Nat.le_refl _) (Nat.le_refl _) (g := (mkF m 3 #[.val (.ref t), .val (.int (Int32.ofNat i))] [.int (Int32.ofNat V.slots.size), .int (Int32.ofNat i)])) rfl (by rw [hml]; rfl) c2 (argsL := [.int (Int32.ofNat i), .int (Int32.ofNat V.slots.size)]) (rest := []) rfl rfl (by show 2 * 0 + 0 ≤ _; decide) (hb hbytes d3) (⟨rfl, rf, s1.there X0.warmed.alike hh0, Int32.ofNat_not_neg (by omega), lt32 v31 hi⟩)
  obtain ⟨rfl, q3⟩ := E3
  have hh3 := q3.trans hh0
  have c4 : Steps p.tables e below (s₁.setTop (entryFrame m #[.ref t, .int (Int32.ofNat i)] 2)) (T3.setTop (mkF m 14 #[.val (.ref t), .val (.int (Int32.ofNat i))] [.int (chr8 u)])) := Steps.trans g3 (by
    refine XS.aloadN X3.here hexec rfl (hb hbytes d6) rfl rfl ?_
    refine XS.iloadN X3.here hexec rfl (hb hbytes d7) rfl ?_
    refine X3.aget hexec (hV.mv X3.warmed.alike hh3) rfl hu rfl rfl (hb hbytes d8) ?_
    refine sipushV X3.here hexec rfl 255 (hb hbytes d9) (by decide) ?_
    refine XS.iand X3.here hexec rfl (hb hbytes d12) rfl ?_
    refine i2c X3.here hexec rfl (hb hbytes d13) rfl ?_
    exact Steps.refl _)
  exact ⟨T3, some (.int (chr8 u)), _, _, _, X3, rfl, rfl, rfl, (fun h => by cases h), ⟨rfl, hh3⟩, fun fs hl => c4.trans (X3.ireturnOut hexec hret (narrow_c _) (Or.inr (Or.inr (Or.inr (Or.inl rfl)))) (hb hbytes d14) hl)⟩
end LChA
end StrChars
namespace StrChars.Road
open Jvm Sem ClassFile Op Lib Jvm.Stand Jvm.Free Jvm.Free.XT
open Jvm.Lib.Cold (StaticIs)
theorem consq {a : Array Value} {s : State} {c : Jvm.Cond} {L : List Jvm.Cond} (h0 : c.before a s = true) (h : ∀ w ∈ L, w.before a s = true) : ∀ w ∈ c :: L, w.before a s = true := fun w hw => (List.mem_cons.mp hw).elim (fun e => e ▸ h0) (h w)
/-- the words of String.length(), either coding -/
abbrev wordsLen : List Jvm.Cond := [.code Len.yN Len.yB 1 (some .int), .initialized ST, .fieldLink ST 9 ST "value" "[B", .fieldLink ST 38 ST "COMPACT_STRINGS" "Z", .fieldLink ST 15 ST "coder" "B", .code Cdr.yN Cdr.yB 1 (some .byte), .methodLink ST 335 Cdr.yN, .declares Cdr.yN, .selects ST Cdr.yN Cdr.yN, .instanceMethod Cdr.yN]
theorem tabLen_of {a : Array Value} {s : State} (h : ∀ w ∈ wordsLen, w.before a s = true) : Len.tab.before a s = true := by
  have hc : Cdr.tab.before a s = true := unparts (wk h (.code Cdr.yN Cdr.yB 1 (some .byte))) (wks h (.initialized Cdr.yN.cls :: Cdr.site))
  have q := consq hc h
  exact unparts (wk q (.code Len.yN Len.yB 1 (some .int))) (wks q (.initialized Len.yN.cls :: Len.site))
theorem movedLen {Z s : State} {a0 args : Array Value} (hZ : Z.Warmed39 s.vm) (hw : ∀ d ∈ wordsLen, d.before a0 Z = true) : ∀ d ∈ wordsLen, d.before args s = true := fun d hd => by
  have q := hw d hd
  have t : ∀ d ∈ wordsLen, d = .arrayClass .byte ∨ (d.onTables && d.keepsFace) = true := by decide +kernel
  rcases t d hd with rfl | t
  · exact RoadKit.mvA hZ q
  · exact RoadKit.mv hZ q t
/-- the bytes of the chars cs, low before high -/
def wideBytes : List Int32 → List Value
  | [] => []
  | c :: cs => .int (lo8 c) :: .int (hi8 c) :: wideBytes cs
theorem wide_lo (d : Value) : ∀ (cs : List Int32) (j : Nat), j < cs.length → (wideBytes cs).getD (2 * j) d = .int (lo8 (cs.getD j 0))
  | [], j, h => absurd h (Nat.not_lt_zero j)
  | c :: cs, 0, _ => rfl
  | c :: cs, j + 1, h => by
    have q := wide_lo d cs j (by simpa using h)
    rw [show 2 * (j + 1) = 2 * j + 1 + 1 from by omega]
    simpa [wideBytes] using q
theorem wide_hi (d : Value) : ∀ (cs : List Int32) (j : Nat), j < cs.length → (wideBytes cs).getD (2 * j + 1) d = .int (hi8 (cs.getD j 0))
  | [], j, h => absurd h (Nat.not_lt_zero j)
  | c :: cs, 0, _ => rfl
  | c :: cs, j + 1, h => by
    have q := wide_hi d cs j (by simpa using h)
    rw [show 2 * (j + 1) + 1 = 2 * j + 1 + 1 + 1 from by omega]
    simpa [wideBytes] using q
theorem low_at (d : Value) (cs : List Int32) (j : Nat) (h : j < cs.length) : (cs.map fun c => Value.int (lo8 c)).getD j d = .int (lo8 (cs.getD j 0)) := by
  simp [List.getD_eq_getElem?_getD, h]
/-- an array of N2 bytes vs codes the chars cs by the coder cd -/
def CodA (cs : List Int32) (cd N2 : Int32) (vs : List Value) : Prop := (cd = 0 ∧ N2 = Int32.ofNat cs.length ∧ vs = (cs.map fun c => Value.int (lo8 c)) ∧ ∀ c ∈ cs, ¬ 255 < c) ∨ (cd = 1 ∧ N2 = Int32.ofNat (2 * cs.length) ∧ vs = wideBytes cs ∧ ∃ c ∈ cs, 255 < c)
theorem CodA.cod {cs : List Int32} {cd N2 : Int32} {vs : List Value} {V : Cell} (h : CodA cs cd N2 vs) (hn : 2 * cs.length < 2 ^ 31) (hs : V.slots.size = N2.toNatClampNeg) (hv : RoadKit.Has V vs (.int 0)) : Cod cd cs.length (fun j => cs.getD j 0) V := by
  rcases h with ⟨rfl, rfl, rfl, h⟩ | ⟨rfl, rfl, rfl, c, hc, hw⟩
  · rw [n32 (by omega)] at hs
    exact Or.inl ⟨rfl, hs, fun j hj => ⟨by rw [hv j (by omega), low_at _ _ _ hj], by
      have e : cs.getD j 0 = cs[j] := by simp [List.getD_eq_getElem?_getD, hj]
      show ¬ 255 < cs.getD j 0
      rw [e]; exact h _ (List.getElem_mem _)⟩⟩
  · rw [n32 (by omega)] at hs
    obtain ⟨j, hj, rfl⟩ := List.getElem_of_mem hc
    exact Or.inr ⟨rfl, hs, fun j hj => ⟨by rw [hv _ (by omega), wide_lo _ _ _ hj], by rw [hv _ (by omega), wide_hi _ _ _ hj]⟩, j, hj, by
      have e : cs.getD j 0 = cs[j] := by simp [List.getD_eq_getElem?_getD, hj]
      show 255 < cs.getD j 0
      rw [e]; exact hw⟩
/-- an object of exactly java/lang/String, its two fields found: as the laws ask it -/
theorem strObj {Z U : State} {a0 : Array Value} {kI : Nat} (wi : (Jvm.Cond.instantiable ST kI).before a0 Z = true) (al : Z.vm.Alike U.vm) {x : Addr} {v0 c0 : Value} (E : RoadKit.Exa Z U.heap x ST) (V : RoadKit.Fld Z U.heap x ST "value" "[B" v0) (C : RoadKit.Fld Z U.heap x ST "coder" "B" c0) :
    ∃ (D : Cell) (fV fC : Field), Blank ST x D U ∧ Found ST "value" "[B" fV U ∧ Found ST "coder" "B" fC U ∧ D.slots[fV.slot]? = some v0 ∧ D.slots[fC.slot]? = some c0 ∧ RoadKit.slotOf Z ST "value" "[B" = fV.slot ∧ RoadKit.slotOf Z ST "coder" "B" = fC.slot := by
  obtain ⟨D, cfV, kV, iV, fV, hD, gV, stV, knV, obV, asV, slV⟩ := V
  obtain ⟨D', cfC, kC, iC, fC, hD', gC, stC, -, -, asC, slC⟩ := C
  cases hD.symm.trans hD'
  obtain ⟨D2, kD, e1, e2, e3, e4, e5⟩ := E
  cases hD.symm.trans e1
  obtain ⟨c2, k2, i1, i2, i3, -⟩ := Cond.instantiable_spec wi
  cases e2.symm.trans i1
  cases e3.symm.trans i2
  obtain ⟨kU, u1, u2⟩ := al.2.2 _ _ e3
  exact ⟨D, fV, fC, ⟨hD, ⟨knV, fun q hq => by rw [hq] at obV; cases obV⟩, by rw [al.findClass]; exact e2, kU, u1, by rw [u2]; exact i3, by rw [u2]; exact e5 i3⟩, ⟨SBG.found_only al ⟨cfV, kV, iV, gV⟩, stV⟩, ⟨SBG.found_only al ⟨cfC, kC, iC, gC⟩, stC⟩, slV, slC, by simp [RoadKit.slotOf, gV], by simp [RoadKit.slotOf, gC]⟩
theorem sta_is {Z U : State} (al : Z.vm.Alike U.vm) {C n d : String} {v : Value} (S : RoadKit.Sta Z U.heap C n d v) : StaticIs U C n d v := by
  obtain ⟨cfS, iS, kS, fS, st, cS, t1, t2, t3, t4, t5, t6, t7⟩ := S
  exact StaticIs.there (s := { Z with heap := U.heap }) ⟨cfS, iS, kS, fS, st, cS, t1, t2, t3, t4, t5, (fun q => by rw [q] at t6; cases t6), t7⟩ al rfl
/-- **length() OF SUCH A STRING** -/
theorem lenW {p : Program} {l : Launch} {e : Env} {R : Room} {s : State} {args : Array Value} {below : List Frame} {len W : Nat} {Z : State} {a0 : Array Value} {h : Heap} (hZ : Z.Warmed39 s.vm) (hw : ∀ d ∈ wordsLen, d.before a0 Z = true) {kI : Nat} (wi : (Jvm.Cond.instantiable ST kI).before a0 Z = true)
    {x t : Addr} {kb : ClassId} {cs : List Int32} {cd N2 z : Int32} {vs : List Value} (E : RoadKit.Exa Z h x ST) (V : RoadKit.Fld Z h x ST "value" "[B" (.ref t)) (C : RoadKit.Fld Z h x ST "coder" "B" (.int cd)) (K : RoadKit.Arv Z h t kb .byte N2 vs (.int 0)) (hc : CodA cs cd N2 vs) (hb : ∀ c ∈ cs, ¬ c < 0 ∧ ¬ (65535 : Int32) < c)
    (S : RoadKit.Sta Z h ST "COMPACT_STRINGS" "Z" (.int z)) (hz : ¬ z = 0) (l2 : cs.length ≤ 4000) (hfr : 2 ≤ R.frames) (hlo : W + 25 ≤ R.locals) :
    Back l R p e below s args (⟨"java/lang/String", "length", "()I"⟩ : MethodName) len W (fun P a => a = #[.ref x] ∧ P.U.heap = h ∧ P.cells + 0 ≤ R.cells ∧ P.slots + 0 ≤ R.slots)
      (fun P _ v B => ∃ L, (v = some (.int (Int32.ofNat cs.length)) ∧ L = [] ∧ B.U.heap = h) ∧ B.locs = P.locs ++ L ∧ B.cells = P.cells + 0 ∧ B.slots = P.slots + 0) := by
  obtain ⟨A, K1, K2, K3, K4, K5, K6⟩ := K
  have hcod := hc.cod (by omega) K3 K5
  intro m meth c P g ig mk a X hg hsize hdg hW hn hp'
  obtain ⟨rfl, rfl, r1, r2⟩ := hp'
  have al : Z.vm.Alike P.U.vm := hZ.alike.trans X.warmed.alike
  obtain ⟨D, fV, fC, hB, F1, F2, g1, g2, -, -⟩ := strObj wi al E V C
  have hx : Txt x t A cd cs.length (fun j => cs.getD j 0) P.U := ⟨⟨_, hB.2.2.1, D, hB.1, rfl, by cases q : D.vm <;> first | rfl | exact absurd q (hB.2.1.2 _)⟩, Has.of hB F1 g1, Has.of hB F2 g2, ⟨K1.1, State.isArrayOf_alike al K1.2.1, K1.2.2, by rcases hcod with ⟨-, q, -⟩ | ⟨-, q, -⟩ <;> omega⟩, hcod, fun j hj => by
    have e : cs.getD j 0 = cs[j] := by simp [List.getD_eq_getElem?_getD, hj]
    show ¬ cs.getD j 0 < 0 ∧ ¬ 65535 < cs.getD j 0
    rw [e]; exact hb _ (List.getElem_mem _)⟩
  obtain ⟨v, B, X', ⟨⟨hv, hh⟩, hl, hk, hs⟩, st⟩ := Len.pays x t A cd cs.length (fun j => cs.getD j 0) z (tabLen_of (movedLen hZ hw)) hfr hlo m meth c P g ig mk _ X hg hsize hdg hW hn ⟨r1, r2, rfl, hx, sta_is al S, hz⟩
  exact ⟨v, B, X', ⟨[], ⟨hv, rfl, hh⟩, hl, hk, hs⟩, st⟩
end StrChars.Road
namespace StrChars
open Jvm Sem ClassFile Op Lib Jvm.Stand Jvm.Free.XT Jvm.Free.ALB Jvm.Free.JM Jvm.Free
open Jvm.Lib.Cold (StaticIs)
/-- what place i of a byte[]'s cell holds -/
def yv (A : Cell) (i : Nat) : Int32 := match A.slots[i]? with | some (.int x) => x | _ => 0
theorem yv_get {a : Addr} {A : Cell} {U : State} (h : XT.Arr .byte a A U) (ht : Typed .byte A) {i : Nat} (hi : i < A.slots.size) : A.slots[i]? = some (.int (yv A i)) := by
  have e := Array.getElem?_eq_getElem hi
  have f := ht i _ e
  unfold yv; rw [e]
  generalize A.slots[i] = v at f
  cases v <;> simp [fits] at f ⊢
/-- the two arrays are equal, place for place -/
def EqC (A B : Cell) : Prop := A.slots.size = B.slots.size ∧ ∀ i, i < A.slots.size → yv A i = yv B i
/-- a boolean that says whether p -/
def Says01 (q : Prop) (r : Option Value) (s u : State) : Prop := ∃ v : Int32, r = some (.int v) ∧ u.heap = s.heap ∧ ((v = 1 ∧ q) ∨ (v = 0 ∧ ¬ q))
theorem Says01.mv {q : Prop} : ∀ r (U U' V V' : State), U'.heap = U.heap → V.vm.Alike V'.vm → V'.heap = V.heap → Says01 q r U V → Says01 q r U' V' :=
  fun r U U' V V' h1 _ h2 ⟨v, a, b, c⟩ => ⟨v, a, by rw [h1, h2]; exact b, c⟩
namespace LEq
def yN : MethodName := ⟨"java/lang/StringLatin1", "equals", "([B[B)Z"⟩
abbrev yB : ByteArray := jdk_43_method_13_code
theorem d0 : decode yB 0 = .ok (.aload_n 0, 1) := by decide +kernel
theorem d1 : decode yB 1 = .ok (.arraylength, 1) := by decide +kernel
theorem d2 : decode yB 2 = .ok (.aload_n 1, 1) := by decide +kernel
theorem d3 : decode yB 3 = .ok (.arraylength, 1) := by decide +kernel
theorem d4 : decode yB 4 = .ok (.if_icmp (.ne) 30, 3) := by decide +kernel
theorem d7 : decode yB 7 = .ok (.iconst 0, 1) := by decide +kernel
theorem d8 : decode yB 8 = .ok (.istore_n 2, 1) := by decide +kernel
theorem d9 : decode yB 9 = .ok (.iload_n 2, 1) := by decide +kernel
theorem d10 : decode yB 10 = .ok (.aload_n 0, 1) := by decide +kernel
theorem d11 : decode yB 11 = .ok (.arraylength, 1) := by decide +kernel
theorem d12 : decode yB 12 = .ok (.if_icmp (.ge) 20, 3) := by decide +kernel
theorem d15 : decode yB 15 = .ok (.aload_n 0, 1) := by decide +kernel
theorem d16 : decode yB 16 = .ok (.iload_n 2, 1) := by decide +kernel
theorem d17 : decode yB 17 = .ok (.baload, 1) := by decide +kernel
theorem d18 : decode yB 18 = .ok (.aload_n 1, 1) := by decide +kernel
theorem d19 : decode yB 19 = .ok (.iload_n 2, 1) := by decide +kernel
theorem d20 : decode yB 20 = .ok (.baload, 1) := by decide +kernel
theorem d21 : decode yB 21 = .ok (.if_icmp (.eq) 5, 3) := by decide +kernel
theorem d24 : decode yB 24 = .ok (.iconst 0, 1) := by decide +kernel
theorem d25 : decode yB 25 = .ok (.ireturn, 1) := by decide +kernel
theorem d26 : decode yB 26 = .ok (.iinc 2 1, 3) := by decide +kernel
theorem d29 : decode yB 29 = .ok (.goto (-20), 3) := by decide +kernel
theorem d32 : decode yB 32 = .ok (.iconst 1, 1) := by decide +kernel
theorem d33 : decode yB 33 = .ok (.ireturn, 1) := by decide +kernel
theorem d34 : decode yB 34 = .ok (.iconst 0, 1) := by decide +kernel
theorem d35 : decode yB 35 = .ok (.ireturn, 1) := by decide +kernel
def site : List Cond := []
def tab : Cond := tabOf yN yB 3 (some .boolean) site
def P (a : Addr) (A : Cell) (b : Addr) (B : Cell) (args : Array Value) (s : State) : Prop := args = #[.ref a, .ref b] ∧ XT.Arr .byte a A s ∧ Typed .byte A ∧ XT.Arr .byte b B s ∧ Typed .byte B
/-- whether two byte[] are equal, place for place -/
theorem law (l : Launch) (a : Addr) (A : Cell) (b : Addr) (B : Cell) : Law l yN 2 2 0 0 yB 3 (some .boolean) site (P a A b B) (Says01 (EqC A B)) [] 0 0 := by
  refine Law.of_walk (plainFor_of_name (by decide +kernel)) (by decide +kernel) (by decide +kernel) (by decide) (fun _ _ h => by rw [h.1]; rfl) (fun _ U U' hal hh h => ⟨h.1, h.2.1.mv hal hh, h.2.2.1, h.2.2.2.1.mv hal hh, h.2.2.2.2⟩) (fun r U U' V V' h1 hal h2 h => Says01.mv r U U' V V' h1 hal h2 h) ?_
  intro p e s m args below meth c s₁ X0 hexec hbytes hml hret hlk hnm hown hh0 W hP
  obtain ⟨rfl, hA, tA, hB, tB⟩ := hP
  have a31 := hA.2.2.2
  have b31 := hB.2.2.2
  have hA0 := hA.mv X0.warmed.alike hh0
  have hB0 := hB.mv X0.warmed.alike hh0
  have c1 : Steps p.tables e below (s₁.setTop (entryFrame m #[.ref a, .ref b] 3)) (s₁.setTop (mkF m 0 #[.val (.ref a), .val (.ref b), .unset] [])) := entry rfl
  have c2 : Steps p.tables e below (s₁.setTop (entryFrame m #[.ref a, .ref b] 3)) (s₁.setTop (mkF m 4 #[.val (.ref a), .val (.ref b), .unset] [.int (Int32.ofNat B.slots.size), .int (Int32.ofNat A.slots.size)])) := c1.trans (by
    refine XS.aloadN X0.here hexec rfl (hb hbytes d0) rfl rfl ?_
    refine X0.alen hexec hA0 rfl rfl (hb hbytes d1) ?_
    refine XS.aloadN X0.here hexec rfl (hb hbytes d2) rfl rfl ?_
    refine X0.alen hexec hB0 rfl rfl (hb hbytes d3) ?_
    exact Steps.refl _)
  by_cases hs : A.slots.size = B.slots.size
  · have c3 : Steps p.tables e below (s₁.setTop (entryFrame m #[.ref a, .ref b] 3)) (s₁.setTop (mkF m 9 #[.val (.ref a), .val (.ref b), .val (.int 0)] [])) := c2.trans (by
      refine XS.icmpNo X0.here hexec rfl (hb hbytes d4) rfl (ii_ne_f (by rw [hs])) ?_
      refine iconstV X0.here hexec rfl 0 (hb hbytes d7) (by decide) ?_
      refine XS.istoreN X0.here hexec rfl (hb hbytes d8) rfl rfl ?_
      exact Steps.refl _)
    have loop : ∀ (r i : Nat), i + r = A.slots.size → (∀ j, j < i → yv A j = yv B j) → Steps p.tables e below (s₁.setTop (entryFrame m #[.ref a, .ref b] 3)) (s₁.setTop (mkF m 9 #[.val (.ref a), .val (.ref b), .val (.int (Int32.ofNat i))] [])) → ∃ (pc : Nat) (Ls : Array Slot) (v : Int32), (pc = 25 ∨ pc = 33) ∧ ((v = 1 ∧ EqC A B) ∨ (v = 0 ∧ ¬ EqC A B)) ∧ Steps p.tables e below (s₁.setTop (entryFrame m #[.ref a, .ref b] 3)) (s₁.setTop (mkF m pc Ls [.int v])) := by
      intro r
      induction r with
      | zero =>
        intro i hi he cl
        exact ⟨33, _, 1, Or.inr rfl, Or.inl ⟨rfl, hs, fun j hj => he j (by omega)⟩, cl.trans (by
          refine XS.iloadN X0.here hexec rfl (hb hbytes d9) rfl ?_
          refine XS.aloadN X0.here hexec rfl (hb hbytes d10) rfl rfl ?_
          refine X0.alen hexec hA0 rfl rfl (hb hbytes d11) ?_
          refine XS.icmpYes X0.here hexec rfl (pc0 := 12) rfl (hb hbytes d12) rfl (ii_ge_t (nlt32 (by omega) (by omega))) (by decide) rfl ?_
          refine iconstV X0.here hexec rfl 1 (hb hbytes d32) (by decide) ?_
          exact Steps.refl _)⟩
      | succ r ih =>
        intro i hi he cl
        have c4 : Steps p.tables e below (s₁.setTop (entryFrame m #[.ref a, .ref b] 3)) (s₁.setTop (mkF m 21 #[.val (.ref a), .val (.ref b), .val (.int (Int32.ofNat i))] [.int (yv B i), .int (yv A i)])) := cl.trans (by
          refine XS.iloadN X0.here hexec rfl (hb hbytes d9) rfl ?_
          refine XS.aloadN X0.here hexec rfl (hb hbytes d10) rfl rfl ?_
          refine X0.alen hexec hA0 rfl rfl (hb hbytes d11) ?_
          refine XS.icmpNo X0.here hexec rfl (hb hbytes d12) rfl (ii_ge_f (lt32 (by omega) (by omega))) ?_
          refine XS.aloadN X0.here hexec rfl (hb hbytes d15) rfl rfl ?_
          refine XS.iloadN X0.here hexec rfl (hb hbytes d16) rfl ?_
          refine X0.aget hexec hA0 rfl (yv_get hA tA (i := i) (by omega)) rfl rfl (hb hbytes d17) ?_
          refine XS.aloadN X0.here hexec rfl (hb hbytes d18) rfl rfl ?_
          refine XS.iloadN X0.here hexec rfl (hb hbytes d19) rfl ?_
          refine X0.aget hexec hB0 rfl (yv_get hB tB (i := i) (by omega)) rfl rfl (hb hbytes d20) ?_
          exact Steps.refl _)
        by_cases hv : yv A i = yv B i
        · have c5 : Steps p.tables e below (s₁.setTop (entryFrame m #[.ref a, .ref b] 3)) (s₁.setTop (mkF m 9 #[.val (.ref a), .val (.ref b), .val (.int (Int32.ofNat i + 1))] [])) := c4.trans (by
            refine XS.icmpYes X0.here hexec rfl (pc0 := 21) rfl (hb hbytes d21) rfl (ii_eq_t hv) (by decide) rfl ?_
            refine iincV X0.here hexec rfl 1 (hb hbytes d26) (by decide) rfl rfl ?_
            refine XS.goto X0.here hexec rfl (pc0 := 29) rfl (hb hbytes d29) (by decide) rfl ?_
            exact Steps.refl _)
          rw [succ32] at c5
          exact ih (i + 1) (by omega) (fun j hj => by
            by_cases e : j = i
            · rw [e]; exact hv
            · exact he j (by omega)) c5
        · exact ⟨25, _, 0, Or.inl rfl, Or.inr ⟨rfl, fun q => hv (q.2 i (by omega))⟩, c4.trans (by
            refine XS.icmpNo X0.here hexec rfl (hb hbytes d21) rfl (ii_eq_f hv) ?_
            refine iconstV X0.here hexec rfl 0 (hb hbytes d24) (by decide) ?_
            exact Steps.refl _)⟩
    obtain ⟨pc, Ls, v, hpc, hv, cz⟩ := loop A.slots.size 0 (by omega) (fun j hj => absurd hj (Nat.not_lt_zero j)) c3
    have nv : narrow .boolean (.int v) = .int v := by rcases hv with ⟨rfl, -⟩ | ⟨rfl, -⟩ <;> rfl
    rcases hpc with rfl | rfl
    · exact ⟨s₁, some (.int v), _, _, _, X0, rfl, rfl, rfl, (fun h => by cases h), ⟨v, rfl, hh0, hv⟩, fun fs hl => cz.trans (X0.ireturnOut hexec hret nv (Or.inr (Or.inl rfl)) (hb hbytes d25) hl)⟩
    · exact ⟨s₁, some (.int v), _, _, _, X0, rfl, rfl, rfl, (fun h => by cases h), ⟨v, rfl, hh0, hv⟩, fun fs hl => cz.trans (X0.ireturnOut hexec hret nv (Or.inr (Or.inl rfl)) (hb hbytes d33) hl)⟩
  · have c3 : Steps p.tables e below (s₁.setTop (entryFrame m #[.ref a, .ref b] 3)) (s₁.setTop (mkF m 35 #[.val (.ref a), .val (.ref b), .unset] [.int 0])) := c2.trans (by
      refine XS.icmpYes X0.here hexec rfl (pc0 := 4) rfl (hb hbytes d4) rfl (ii_ne_t (ne32 a31 b31 hs)) (by decide) rfl ?_
      refine iconstV X0.here hexec rfl 0 (hb hbytes d34) (by decide) ?_
      exact Steps.refl _)
    exact ⟨s₁, some (.int 0), _, _, _, X0, rfl, rfl, rfl, (fun h => by cases h), ⟨0, rfl, hh0, Or.inr ⟨rfl, fun q => hs q.1⟩⟩, fun fs hl => c3.trans (X0.ireturnOut hexec hret rfl (Or.inr (Or.inl rfl)) (hb hbytes d35) hl)⟩
end LEq
theorem Cod.ty {cd : Int32} {n : Nat} {f : Nat → Int32} {V : Cell} (h : Cod cd n f V) : Typed .byte V := fun i v hv => by
  have hi : i < V.slots.size := (Array.getElem?_eq_some_iff.mp hv).1
  rcases h with ⟨-, k1, k2⟩ | ⟨-, k1, k2, -⟩
  · rw [(k2 i (by omega)).1] at hv; cases hv; exact fits_lo8 _
  · rcases Nat.mod_two_eq_zero_or_one i with e | e
    · obtain ⟨j, rfl⟩ : ∃ j, i = 2 * j := ⟨i / 2, by omega⟩
      rw [(k2 j (by omega)).1] at hv; cases hv; exact fits_lo8 _
    · obtain ⟨j, rfl⟩ : ∃ j, i = 2 * j + 1 := ⟨i / 2, by omega⟩
      rw [(k2 j (by omega)).2] at hv; cases hv; exact fits_lo8 _
/-- the same text -/
def SameT (n : Nat) (f : Nat → Int32) (k : Nat) (g : Nat → Int32) : Prop := n = k ∧ ∀ j, j < n → f j = g j
theorem lo8_inj {x y : Int32} (h0 : ¬ x < 0) (h1 : ¬ 255 < x) (k0 : ¬ y < 0) (k1 : ¬ 255 < y) (h : lo8 x = lo8 y) : x = y := by
  rw [← lo8_mask h0 h1, ← lo8_mask k0 k1, h]
/-- arrays coded by one coder are equal just where the texts are -/
theorem Cod.eqv {cd : Int32} {n k : Nat} {f g : Nat → Int32} {V V' : Cell} (h : Cod cd n f V) (h' : Cod cd k g V') (hf : ∀ j, j < n → ¬ f j < 0 ∧ ¬ 65535 < f j) (hg : ∀ j, j < k → ¬ g j < 0 ∧ ¬ 65535 < g j) : EqC V V' ↔ SameT n f k g := by
  have yvv : ∀ {W : Cell} {i : Nat} {x : Int32}, W.slots[i]? = some (.int x) → yv W i = x := fun q => by unfold yv; rw [q]
  rcases h with ⟨rfl, k1, k2⟩ | ⟨rfl, k1, k2, -⟩
  · rcases h' with ⟨-, m1, m2⟩ | ⟨e, -⟩
    · constructor
      · rintro ⟨e1, e2⟩
        refine ⟨by omega, fun j hj => ?_⟩
        have q := e2 j (by omega)
        rw [yvv (k2 j hj).1, yvv (m2 j (by omega)).1] at q
        exact lo8_inj (hf j hj).1 (k2 j hj).2 (hg j (by omega)).1 (m2 j (by omega)).2 q
      · rintro ⟨rfl, e2⟩
        refine ⟨by omega, fun j hj => ?_⟩
        rw [yvv (k2 j (by omega)).1, yvv (m2 j (by omega)).1, e2 j (by omega)]
    · exact absurd e (by decide)
  · rcases h' with ⟨e, -⟩ | ⟨-, m1, m2, -⟩
    · exact absurd e (by decide)
    · constructor
      · rintro ⟨e1, e2⟩
        refine ⟨by omega, fun j hj => ?_⟩
        have q1 := e2 (2 * j) (by omega)
        have q2 := e2 (2 * j + 1) (by omega)
        rw [yvv (k2 j hj).1, yvv (m2 j (by omega)).1] at q1
        rw [yvv (k2 j hj).2, yvv (m2 j (by omega)).2] at q2
        rw [← pair_says (hf j hj).1 (hf j hj).2, ← pair_says (hg j (by omega)).1 (hg j (by omega)).2, q1, q2]
      · rintro ⟨rfl, e2⟩
        refine ⟨by omega, fun i hi => ?_⟩
        rcases Nat.mod_two_eq_zero_or_one i with e | e
        · obtain ⟨j, rfl⟩ : ∃ j, i = 2 * j := ⟨i / 2, by omega⟩
          rw [yvv (k2 j (by omega)).1, yvv (m2 j (by omega)).1, e2 j (by omega)]
        · obtain ⟨j, rfl⟩ : ∃ j, i = 2 * j + 1 := ⟨i / 2, by omega⟩
          rw [yvv (k2 j (by omega)).2, yvv (m2 j (by omega)).2, e2 j (by omega)]
/-- two codings differ: so do the texts -/
theorem Cod.dif {cd cd' : Int32} {n k : Nat} {f g : Nat → Int32} {V V' : Cell} (h : Cod cd n f V) (h' : Cod cd' k g V') (hne : ¬ cd = cd') : ¬ SameT n f k g := by
  rintro ⟨rfl, e⟩
  rcases h with ⟨rfl, -, k2⟩ | ⟨rfl, -, -, j, hj, hw⟩
  · rcases h' with ⟨rfl, -⟩ | ⟨-, -, -, j, hj, hw⟩
    · exact hne rfl
    · exact (k2 j hj).2 (by rw [e j hj]; exact hw)
  · rcases h' with ⟨-, -, m2⟩ | ⟨rfl, -⟩
    · exact (m2 j hj).2 (by rw [← e j hj]; exact hw)
    · exact hne rfl
/-- an object of exactly C is an instance of C -/
theorem cinst {p : Program} {l : Launch} {e : Env} {R : Room} {s : State} {m : MethodId} {args : Array Value} {below : List Frame} {meth : Method} {c : Code} {T : State} {locs : List Loc} {cells slots : Nat} (X : Stand p l e R s m args below meth c T locs cells slots) (hexec : p.tables.exec = Jvm.exec) {own C : String} {index : Nat} (hown : s.vm.findClass own = some m.cls) (hlink : (Cond.classLink own index C).before args s = true) {a : Addr} (hE : Exact C a T)
    {g : JFrame} (hg : g.method = m) {rest : List Value} (hstack : g.stack = .ref a :: rest) (hdg : decode c.code g.pc = .ok (.instanceof index, 3)) :
    ∃ T', Stand p l e R s m args below meth c T' locs cells slots ∧ T'.heap = T.heap ∧ ∀ target, Steps p.tables e below (T'.setTop { g with pc := g.pc + 3, stack := .int 1 :: rest }) target → Steps p.tables e below (T.setTop g) target := by
  obtain ⟨cB, h1, D, h2, h3, h4⟩ := hE
  have h1' : s.vm.findClass C = some cB := by rw [← X.warmed.alike.findClass]; exact h1
  obtain ⟨vm', X', st⟩ := X.instanceofYes hexec hown hlink h2 h4 h1' (by rw [h3]; exact Jvm.Free.SB.assignable_self _ _) hg hstack hdg
  exact ⟨_, X', rfl, st⟩
theorem cself {p : Program} {l : Launch} {e : Env} {R : Room} {s : State} {m : MethodId} {args : Array Value} {below : List Frame} {meth : Method} {c : Code} {T : State} {locs : List Loc} {cells slots : Nat} (X : Stand p l e R s m args below meth c T locs cells slots) (hexec : p.tables.exec = Jvm.exec) {own C : String} {index : Nat} (hown : s.vm.findClass own = some m.cls) (hlink : (Cond.classLink own index C).before args s = true) {a : Addr} (hE : Exact C a T)
    {g : JFrame} (hg : g.method = m) {rest : List Value} (hstack : g.stack = .ref a :: rest) (hdg : decode c.code g.pc = .ok (.checkcast index, 3)) :
    ∃ T', Stand p l e R s m args below meth c T' locs cells slots ∧ T'.heap = T.heap ∧ ∀ target, Steps p.tables e below (T'.setTop { g with pc := g.pc + 3, stack := .ref a :: rest }) target → Steps p.tables e below (T.setTop g) target := by
  obtain ⟨cB, h1, D, h2, h3, h4⟩ := hE
  have h1' : s.vm.findClass C = some cB := by rw [← X.warmed.alike.findClass]; exact h1
  obtain ⟨vm', X', st⟩ := X.checkcastYes hexec hown hlink h2 h4 h1' (by rw [h3]; exact Jvm.Free.SB.assignable_self _ _) hg hstack hdg
  exact ⟨_, X', rfl, fun t h => st t (by rw [← hstack] at h; exact h)⟩
namespace SEq
def yN : MethodName := ⟨"java/lang/String", "equals", "(Ljava/lang/Object;)Z"⟩
abbrev yB : ByteArray := jdk_42_method_66_code
theorem d0 : decode yB 0 = .ok (.aload_n 0, 1) := by decide +kernel
theorem d1 : decode yB 1 = .ok (.aload_n 1, 1) := by decide +kernel
theorem d2 : decode yB 2 = .ok (.if_acmp (.ne) 5, 3) := by decide +kernel
theorem d5 : decode yB 5 = .ok (.iconst 1, 1) := by decide +kernel
theorem d6 : decode yB 6 = .ok (.ireturn, 1) := by decide +kernel
theorem d7 : decode yB 7 = .ok (.aload_n 1, 1) := by decide +kernel
theorem d8 : decode yB 8 = .ok (.instanceof 10, 3) := by decide +kernel
theorem d11 : decode yB 11 = .ok (.ifCond (.eq) 43, 3) := by decide +kernel
theorem d14 : decode yB 14 = .ok (.aload_n 1, 1) := by decide +kernel
theorem d15 : decode yB 15 = .ok (.checkcast 10, 3) := by decide +kernel
theorem d18 : decode yB 18 = .ok (.astore_n 2, 1) := by decide +kernel
theorem d19 : decode yB 19 = .ok (.getstatic 38, 3) := by decide +kernel
theorem d22 : decode yB 22 = .ok (.ifCond (.eq) 14, 3) := by decide +kernel
theorem d25 : decode yB 25 = .ok (.aload_n 0, 1) := by decide +kernel
theorem d26 : decode yB 26 = .ok (.getfield 15, 3) := by decide +kernel
theorem d29 : decode yB 29 = .ok (.aload_n 2, 1) := by decide +kernel
theorem d30 : decode yB 30 = .ok (.getfield 15, 3) := by decide +kernel
theorem d33 : decode yB 33 = .ok (.if_icmp (.ne) 21, 3) := by decide +kernel
theorem d36 : decode yB 36 = .ok (.aload_n 0, 1) := by decide +kernel
theorem d37 : decode yB 37 = .ok (.getfield 9, 3) := by decide +kernel
theorem d40 : decode yB 40 = .ok (.aload_n 2, 1) := by decide +kernel
theorem d41 : decode yB 41 = .ok (.getfield 9, 3) := by decide +kernel
theorem d44 : decode yB 44 = .ok (.invokestatic 541, 3) := by decide +kernel
theorem d47 : decode yB 47 = .ok (.ifCond (.eq) 7, 3) := by decide +kernel
theorem d50 : decode yB 50 = .ok (.iconst 1, 1) := by decide +kernel
theorem d51 : decode yB 51 = .ok (.goto 4, 3) := by decide +kernel
theorem d54 : decode yB 54 = .ok (.iconst 0, 1) := by decide +kernel
theorem d55 : decode yB 55 = .ok (.ireturn, 1) := by decide +kernel
def site : List Cond := [.classLink "java/lang/String" 10 "java/lang/String", .fieldLink "java/lang/String" 38 "java/lang/String" "COMPACT_STRINGS" "Z", .fieldLink "java/lang/String" 15 "java/lang/String" "coder" "B", .fieldLink "java/lang/String" 9 "java/lang/String" "value" "[B", LEq.tab] ++ staticW "java/lang/String" 541 LEq.yN
def tab : Cond := tabOf yN yB 3 (some .boolean) site
def P (x t : Addr) (V : Cell) (cd : Int32) (n : Nat) (f : Nat → Int32) (y t' : Addr) (V' : Cell) (cd' : Int32) (k : Nat) (g : Nat → Int32) (z : Int32) (args : Array Value) (s : State) : Prop := args = #[.ref x, .ref y] ∧ Txt x t V cd n f s ∧ Txt y t' V' cd' k g s ∧ StaticIs s "java/lang/String" "COMPACT_STRINGS" "Z" (.int z) ∧ ¬ z = 0
/-- equals(Object) of two Strings: whether the texts are the same -/
theorem law (l : Launch) (x t : Addr) (V : Cell) (cd : Int32) (n : Nat) (f : Nat → Int32) (y t' : Addr) (V' : Cell) (cd' : Int32) (k : Nat) (g : Nat → Int32) (z : Int32) : Law l yN 2 1 1 14 yB 3 (some .boolean) site (P x t V cd n f y t' V' cd' k g z) (Says01 (SameT n f k g)) [] 0 0 := by
  refine Law.of_walk (plainFor_of_name (by decide +kernel)) (by decide +kernel) (by decide +kernel) (by decide) (fun _ _ h => by rw [h.1]; rfl) (fun _ U U' hal hh h => ⟨h.1, h.2.1.mv hal hh, h.2.2.1.mv hal hh, h.2.2.2.1.there hal hh, h.2.2.2.2⟩) (fun r U U' V V' h1 hal h2 h => Says01.mv r U U' V V' h1 hal h2 h) ?_
  intro p e s m args below meth c s₁ X0 hexec hbytes hml hret hlk hnm hown hh0 W hP
  obtain ⟨rfl, hx, hy, s1, hz⟩ := hP
  have c1 : Steps p.tables e below (s₁.setTop (entryFrame m #[.ref x, .ref y] 3)) (s₁.setTop (mkF m 2 #[.val (.ref x), .val (.ref y), .unset] [.ref y, .ref x])) := Steps.trans (entry rfl) (by
    show Steps p.tables e below (s₁.setTop (mkF m 0 #[.val (.ref x), .val (.ref y), .unset] [])) _
    refine XS.aloadN X0.here hexec rfl (hb hbytes d0) rfl rfl ?_
    refine XS.aloadN X0.here hexec rfl (hb hbytes d1) rfl rfl ?_
    exact Steps.refl _)
  by_cases hxy : x = y
  · have c2 : Steps p.tables e below (s₁.setTop (entryFrame m #[.ref x, .ref y] 3)) (s₁.setTop (mkF m 6 #[.val (.ref x), .val (.ref y), .unset] [.int 1])) := c1.trans (by
      refine acmpNo X0.here hexec rfl (hb hbytes d2) rfl rfl rfl (by simp [acmp, hxy]) ?_
      refine iconstV X0.here hexec rfl 1 (hb hbytes d5) (by decide) ?_
      exact Steps.refl _)
    subst hxy
    have ec : cd = cd' := by
      obtain ⟨D, fd, a1, a2, a3⟩ := hx.2.2.1
      obtain ⟨D', fd', b1, b2, b3⟩ := hy.2.2.1
      cases a1.symm.trans b1
      obtain ⟨q1, q2, q3, q4⟩ := a2.1
      obtain ⟨r1, r2, r3, r4⟩ := b2.1
      cases q4.symm.trans r4
      cases a3.symm.trans b3; rfl
    have et : t = t' := by
      obtain ⟨D, fd, a1, a2, a3⟩ := hx.2.1
      obtain ⟨D', fd', b1, b2, b3⟩ := hy.2.1
      cases a1.symm.trans b1
      obtain ⟨q1, q2, q3, q4⟩ := a2.1
      obtain ⟨r1, r2, r3, r4⟩ := b2.1
      cases q4.symm.trans r4
      cases a3.symm.trans b3; rfl
    subst ec et
    have ev : V = V' := by cases hx.2.2.2.1.1.symm.trans hy.2.2.2.1.1; rfl
    subst ev
    have hs : SameT n f k g := (Cod.eqv hx.2.2.2.2.1 hy.2.2.2.2.1 hx.2.2.2.2.2 hy.2.2.2.2.2).mp ⟨rfl, fun _ _ => rfl⟩
    exact ⟨s₁, some (.int 1), _, _, _, X0, rfl, rfl, rfl, (fun h => by cases h), ⟨1, rfl, hh0, Or.inl ⟨rfl, hs⟩⟩, fun fs hl => c2.trans (X0.ireturnOut hexec hret rfl (Or.inr (Or.inl rfl)) (hb hbytes d6) hl)⟩
  · have c2 : Steps p.tables e below (s₁.setTop (entryFrame m #[.ref x, .ref y] 3)) (s₁.setTop (mkF m 8 #[.val (.ref x), .val (.ref y), .unset] [.ref y])) := c1.trans (by
      refine acmpYes X0.here hexec rfl (pc0 := 2) rfl (hb hbytes d2) rfl rfl rfl (by simp [acmp, hxy]) (by decide) rfl ?_
      refine XS.aloadN X0.here hexec rfl (hb hbytes d7) rfl rfl ?_
      exact Steps.refl _)
    obtain ⟨T3, X3, q3, st3⟩ := cinst X0 hexec hown (wk W (.classLink "java/lang/String" 10 "java/lang/String")) (hy.mv X0.warmed.alike hh0).1 (g := (mkF m 8 #[.val (.ref x), .val (.ref y), .unset] [.ref y])) rfl (rest := []) rfl (hb hbytes d8)
    have hh3 := q3.trans hh0
    have c4 : Steps p.tables e below (s₁.setTop (entryFrame m #[.ref x, .ref y] 3)) (T3.setTop (mkF m 15 #[.val (.ref x), .val (.ref y), .unset] [.ref y])) := (c2.trans (st3 _ (Steps.refl _))).trans (by
      refine XS.ifNo X3.here hexec rfl (hb hbytes d11) rfl (i0_eq_f (by decide)) ?_
      refine XS.aloadN X3.here hexec rfl (hb hbytes d14) rfl rfl ?_
      exact Steps.refl _)
    obtain ⟨T5, X5, q5, st5⟩ := cself X3 hexec hown (wk W (.classLink "java/lang/String" 10 "java/lang/String")) (hy.mv X3.warmed.alike hh3).1 (g := (mkF m 15 #[.val (.ref x), .val (.ref y), .unset] [.ref y])) rfl (rest := []) rfl (hb hbytes d15)
    have hh5 := q5.trans hh3
    have c6 : Steps p.tables e below (s₁.setTop (entryFrame m #[.ref x, .ref y] 3)) (T5.setTop (mkF m 19 #[.val (.ref x), .val (.ref y), .val (.ref y)] [])) := (c4.trans (st5 _ (Steps.refl _))).trans (by
      refine XS.astoreN X5.here hexec rfl (hb hbytes d18) rfl rfl rfl ?_
      exact Steps.refl _)
    obtain ⟨T7, X7, q7, st7⟩ := X5.sget hexec hown (wk W (.fieldLink "java/lang/String" 38 "java/lang/String" "COMPACT_STRINGS" "Z")) s1 (fun _ _ h => by rw [hh5]; exact h) (g := (mkF m 19 #[.val (.ref x), .val (.ref y), .val (.ref y)] [])) rfl (hb hbytes d19)
    have hh7 := q7.trans hh5
    have c8 : Steps p.tables e below (s₁.setTop (entryFrame m #[.ref x, .ref y] 3)) (T7.setTop (mkF m 26 #[.val (.ref x), .val (.ref y), .val (.ref y)] [.ref x])) := (c6.trans (st7 _ (Steps.refl _))).trans (by
      refine XS.ifNo X7.here hexec rfl (hb hbytes d22) rfl (i0_eq_f hz) ?_
      refine XS.aloadN X7.here hexec rfl (hb hbytes d25) rfl rfl ?_
      exact Steps.refl _)
    obtain ⟨T9, X9, q9, st9⟩ := X7.hget hexec hown (wk W (.fieldLink "java/lang/String" 15 "java/lang/String" "coder" "B")) (hx.mv X7.warmed.alike hh7).2.2.1 (g := (mkF m 26 #[.val (.ref x), .val (.ref y), .val (.ref y)] [.ref x])) rfl (rest := []) rfl (hb hbytes d26)
    have hh9 := q9.trans hh7
    have c10 : Steps p.tables e below (s₁.setTop (entryFrame m #[.ref x, .ref y] 3)) (T9.setTop (mkF m 30 #[.val (.ref x), .val (.ref y), .val (.ref y)] [.ref y, .int cd])) := (c8.trans (st9 _ (Steps.refl _))).trans (by
      refine XS.aloadN X9.here hexec rfl (hb hbytes d29) rfl rfl ?_
      exact Steps.refl _)
    obtain ⟨T11, X11, q11, st11⟩ := X9.hget hexec hown (wk W (.fieldLink "java/lang/String" 15 "java/lang/String" "coder" "B")) (hy.mv X9.warmed.alike hh9).2.2.1 (g := (mkF m 30 #[.val (.ref x), .val (.ref y), .val (.ref y)] [.ref y, .int cd])) rfl (rest := [.int cd]) rfl (hb hbytes d30)
    have hh11 := q11.trans hh9
    have c12 : Steps p.tables e below (s₁.setTop (entryFrame m #[.ref x, .ref y] 3)) (T11.setTop (mkF m 33 #[.val (.ref x), .val (.ref y), .val (.ref y)] [.int cd', .int cd])) := c10.trans (st11 _ (Steps.refl _))
    by_cases hcd : cd = cd'
    · subst hcd
      have c13 : Steps p.tables e below (s₁.setTop (entryFrame m #[.ref x, .ref y] 3)) (T11.setTop (mkF m 37 #[.val (.ref x), .val (.ref y), .val (.ref y)] [.ref x])) := c12.trans (by
        refine XS.icmpNo X11.here hexec rfl (hb hbytes d33) rfl (ii_ne_f rfl) ?_
        refine XS.aloadN X11.here hexec rfl (hb hbytes d36) rfl rfl ?_
        exact Steps.refl _)
      obtain ⟨T14, X14, q14, st14⟩ := X11.hget hexec hown (wk W (.fieldLink "java/lang/String" 9 "java/lang/String" "value" "[B")) (hx.mv X11.warmed.alike hh11).2.1 (g := (mkF m 37 #[.val (.ref x), .val (.ref y), .val (.ref y)] [.ref x])) rfl (rest := []) rfl (hb hbytes d37)
      have hh14 := q14.trans hh11
      have c15 : Steps p.tables e below (s₁.setTop (entryFrame m #[.ref x, .ref y] 3)) (T14.setTop (mkF m 41 #[.val (.ref x), .val (.ref y), .val (.ref y)] [.ref y, .ref t])) := (c13.trans (st14 _ (Steps.refl _))).trans (by
        refine XS.aloadN X14.here hexec rfl (hb hbytes d40) rfl rfl ?_
        exact Steps.refl _)
      obtain ⟨T16, X16, q16, st16⟩ := X14.hget hexec hown (wk W (.fieldLink "java/lang/String" 9 "java/lang/String" "value" "[B")) (hy.mv X14.warmed.alike hh14).2.1 (g := (mkF m 41 #[.val (.ref x), .val (.ref y), .val (.ref y)] [.ref y, .ref t])) rfl (rest := [.ref t]) rfl (hb hbytes d41)
      have hh16 := q16.trans hh14
      have c17 : Steps p.tables e below (s₁.setTop (entryFrame m #[.ref x, .ref y] 3)) (T16.setTop (mkF m 44 #[.val (.ref x), .val (.ref y), .val (.ref y)] [.ref t', .ref t])) := c15.trans (st16 _ (Steps.refl _))
      obtain ⟨v18, T18, X18, E18, g18⟩ := X16.callS hexec (LEq.law l t V t' V') hown (wks W (staticW "java/lang/String" 541 LEq.yN)) (wk W LEq.tab) (W := 0) (Nat.le_of_ble_eq_true rfl) (Nat.le_of_ble_eq_true rfl) (Nat.le_refl _) (Nat.le_refl _) (g := (mkF m 44 #[.val (.ref x), .val (.ref y), .val (.ref y)] [.ref t', .ref t])) rfl (by rw [hml]; rfl) c17 (argsL := [.ref t, .ref t']) (rest := []) rfl rfl (by show 2 * 0 + 0 ≤ _; decide) (hb hbytes d44) (⟨rfl, hx.2.2.2.1.mv X16.warmed.alike hh16, hx.2.2.2.2.1.ty, hy.2.2.2.1.mv X16.warmed.alike hh16, hy.2.2.2.2.1.ty⟩)
      obtain ⟨v, rfl, q18, hv⟩ := E18
      have iff := Cod.eqv hx.2.2.2.2.1 hy.2.2.2.2.1 hx.2.2.2.2.2 hy.2.2.2.2.2
      rcases hv with ⟨rfl, he⟩ | ⟨rfl, he⟩
      · have c19 : Steps p.tables e below (s₁.setTop (entryFrame m #[.ref x, .ref y] 3)) (T18.setTop (mkF m 55 #[.val (.ref x), .val (.ref y), .val (.ref y)] [.int 1])) := Steps.trans g18 (by
          refine XS.ifNo X18.here hexec rfl (hb hbytes d47) rfl (i0_eq_f (by decide)) ?_
          refine iconstV X18.here hexec rfl 1 (hb hbytes d50) (by decide) ?_
          refine XS.goto X18.here hexec rfl (pc0 := 51) rfl (hb hbytes d51) (by decide) rfl ?_
          exact Steps.refl _)
        exact ⟨T18, some (.int 1), _, _, _, X18, rfl, rfl, rfl, (fun h => by cases h), ⟨1, rfl, q18.trans hh16, Or.inl ⟨rfl, iff.mp he⟩⟩, fun fs hl => c19.trans (X18.ireturnOut hexec hret rfl (Or.inr (Or.inl rfl)) (hb hbytes d55) hl)⟩
      · have c19 : Steps p.tables e below (s₁.setTop (entryFrame m #[.ref x, .ref y] 3)) (T18.setTop (mkF m 55 #[.val (.ref x), .val (.ref y), .val (.ref y)] [.int 0])) := Steps.trans g18 (by
          refine XS.ifYes X18.here hexec rfl (pc0 := 47) rfl (hb hbytes d47) rfl (i0_eq_t rfl) (by decide) rfl ?_
          refine iconstV X18.here hexec rfl 0 (hb hbytes d54) (by decide) ?_
          exact Steps.refl _)
        exact ⟨T18, some (.int 0), _, _, _, X18, rfl, rfl, rfl, (fun h => by cases h), ⟨0, rfl, q18.trans hh16, Or.inr ⟨rfl, fun q => he (iff.mpr q)⟩⟩, fun fs hl => c19.trans (X18.ireturnOut hexec hret rfl (Or.inr (Or.inl rfl)) (hb hbytes d55) hl)⟩
    · have c13 : Steps p.tables e below (s₁.setTop (entryFrame m #[.ref x, .ref y] 3)) (T11.setTop (mkF m 55 #[.val (.ref x), .val (.ref y), .val (.ref y)] [.int 0])) := c12.trans (by
        refine XS.icmpYes X11.here hexec rfl (pc0 := 33) rfl (hb hbytes d33) rfl (ii_ne_t hcd) (by decide) rfl ?_
        refine iconstV X11.here hexec rfl 0 (hb hbytes d54) (by decide) ?_
        exact Steps.refl _)
      exact ⟨T11, some (.int 0), _, _, _, X11, rfl, rfl, rfl, (fun h => by cases h), ⟨0, rfl, hh11, Or.inr ⟨rfl, Cod.dif hx.2.2.2.2.1 hy.2.2.2.2.1 hcd⟩⟩, fun fs hl => c13.trans (X11.ireturnOut hexec hret rfl (Or.inr (Or.inl rfl)) (hb hbytes d55) hl)⟩
theorem pays {l : Launch} {R : Room} {p : Program} {e : Env} {below : List Frame} {s : State} {sargs : Array Value} {len W : Nat} (x t : Addr) (V : Cell) (cd : Int32) (n : Nat) (f : Nat → Int32) (y t' : Addr) (V' : Cell) (cd' : Int32) (k : Nat) (g : Nat → Int32) (z : Int32) (htab : tab.before sargs s = true) (hfr : 2 ≤ R.frames) (hlo : W + 28 ≤ R.locals) :
    Back l R p e below s sargs yN len W (fun A₁ a₁ => A₁.cells + 0 ≤ R.cells ∧ A₁.slots + 0 ≤ R.slots ∧ P x t V cd n f y t' V' cd' k g z a₁ A₁.U) (fun A₁ _ v₁ B₁ => Says01 (SameT n f k g) v₁ A₁.U B₁.U ∧ B₁.locs = A₁.locs ++ [] ∧ B₁.cells = A₁.cells + 0 ∧ B₁.slots = A₁.slots + 0) :=
  (law l x t V cd n f y t' V' cd' k g z).pays htab hfr (by omega)
end SEq
end StrChars
namespace StrChars.Road
open Jvm Sem ClassFile Op Lib Jvm.Stand Jvm.Free Jvm.Free.XT
open Jvm.Lib.Cold (StaticIs)
/-- the words of String.equals(Object) -/
abbrev wordsEq : List Jvm.Cond := [.code SEq.yN SEq.yB 3 (some .boolean), .initialized ST, .classLink ST 10 ST, .fieldLink ST 38 ST "COMPACT_STRINGS" "Z", .fieldLink ST 15 ST "coder" "B", .fieldLink ST 9 ST "value" "[B", .methodLink ST 541 LEq.yN, .static LEq.yN, .code LEq.yN LEq.yB 3 (some .boolean), .initialized "java/lang/StringLatin1"]
theorem tabEq_of {a : Array Value} {s : State} (h : ∀ w ∈ wordsEq, w.before a s = true) : SEq.tab.before a s = true := by
  have hl : LEq.tab.before a s = true := unparts (wk h (.code LEq.yN LEq.yB 3 (some .boolean))) (wks h (.initialized LEq.yN.cls :: LEq.site))
  have q := consq hl h
  exact unparts (wk q (.code SEq.yN SEq.yB 3 (some .boolean))) (wks q (.initialized SEq.yN.cls :: SEq.site))
theorem movedEq {Z s : State} {a0 args : Array Value} (hZ : Z.Warmed39 s.vm) (hw : ∀ d ∈ wordsEq, d.before a0 Z = true) : ∀ d ∈ wordsEq, d.before args s = true := fun d hd => by
  have t : ∀ d ∈ wordsEq, (d.onTables && d.keepsFace) = true := by decide +kernel
  exact RoadKit.mv hZ (hw d hd) (t d hd)
/-- the road's facts of a String, as the laws ask it -/
theorem txt_of {Z U : State} {a0 : Array Value} {kI : Nat} (wi : (Jvm.Cond.instantiable ST kI).before a0 Z = true) (al : Z.vm.Alike U.vm) {x t : Addr} {kb : ClassId} {cs : List Int32} {cd N2 : Int32} {vs : List Value} (E : RoadKit.Exa Z U.heap x ST) (V : RoadKit.Fld Z U.heap x ST "value" "[B" (.ref t)) (C : RoadKit.Fld Z U.heap x ST "coder" "B" (.int cd)) (K : RoadKit.Arv Z U.heap t kb .byte N2 vs (.int 0)) (hc : CodA cs cd N2 vs) (hb : ∀ c ∈ cs, ¬ c < 0 ∧ ¬ (65535 : Int32) < c) (l2 : cs.length ≤ 4000) :
    ∃ A, Txt x t A cd cs.length (fun j => cs.getD j 0) U := by
  obtain ⟨A, K1, K2, K3, K4, K5, K6⟩ := K
  have hcod := hc.cod (by omega) K3 K5
  obtain ⟨D, fV, fC, hB, F1, F2, g1, g2, -, -⟩ := strObj wi al E V C
  exact ⟨A, ⟨_, hB.2.2.1, D, hB.1, rfl, by cases q : D.vm <;> first | rfl | exact absurd q (hB.2.1.2 _)⟩, Has.of hB F1 g1, Has.of hB F2 g2, ⟨K1.1, State.isArrayOf_alike al K1.2.1, K1.2.2, by rcases hcod with ⟨-, q, -⟩ | ⟨-, q, -⟩ <;> omega⟩, hcod, fun j hj => by
    have e : cs.getD j 0 = cs[j] := by simp [List.getD_eq_getElem?_getD, hj]
    show ¬ cs.getD j 0 < 0 ∧ ¬ 65535 < cs.getD j 0
    rw [e]; exact hb _ (List.getElem_mem _)⟩
theorem same_list (cs ds : List Int32) : SameT cs.length (fun j => cs.getD j 0) ds.length (fun j => ds.getD j 0) ↔ cs = ds := by
  constructor
  · rintro ⟨e, q⟩
    refine List.ext_getElem e fun j h1 h2 => ?_
    have := q j h1
    simpa [List.getD_eq_getElem?_getD, h1, h2] using this
  · rintro rfl
    exact ⟨rfl, fun _ _ => rfl⟩
/-- **equals(Object) OF TWO SUCH STRINGS**: 1 just where the chars are the same -/
theorem eqW {p : Program} {l : Launch} {e : Env} {R : Room} {s : State} {args : Array Value} {below : List Frame} {len W : Nat} {Z : State} {a0 : Array Value} {h : Heap} (hZ : Z.Warmed39 s.vm) (hw : ∀ d ∈ wordsEq, d.before a0 Z = true) {kI : Nat} (wi : (Jvm.Cond.instantiable ST kI).before a0 Z = true)
    {x t : Addr} {kb : ClassId} {cs : List Int32} {cd N2 : Int32} {vs : List Value} (E : RoadKit.Exa Z h x ST) (V : RoadKit.Fld Z h x ST "value" "[B" (.ref t)) (C : RoadKit.Fld Z h x ST "coder" "B" (.int cd)) (K : RoadKit.Arv Z h t kb .byte N2 vs (.int 0)) (hc : CodA cs cd N2 vs) (hb : ∀ c ∈ cs, ¬ c < 0 ∧ ¬ (65535 : Int32) < c) (l2 : cs.length ≤ 4000)
    {y t' : Addr} {kb' : ClassId} {ds : List Int32} {cd' N2' : Int32} {vs' : List Value} (E' : RoadKit.Exa Z h y ST) (V' : RoadKit.Fld Z h y ST "value" "[B" (.ref t')) (C' : RoadKit.Fld Z h y ST "coder" "B" (.int cd')) (K' : RoadKit.Arv Z h t' kb' .byte N2' vs' (.int 0)) (hc' : CodA ds cd' N2' vs') (hb' : ∀ c ∈ ds, ¬ c < 0 ∧ ¬ (65535 : Int32) < c) (l2' : ds.length ≤ 4000)
    {z : Int32} (S : RoadKit.Sta Z h ST "COMPACT_STRINGS" "Z" (.int z)) (hz : ¬ z = 0) (hfr : 2 ≤ R.frames) (hlo : W + 28 ≤ R.locals) :
    Back l R p e below s args (⟨"java/lang/String", "equals", "(Ljava/lang/Object;)Z"⟩ : MethodName) len W (fun P a => a = #[.ref x, .ref y] ∧ P.U.heap = h ∧ P.cells + 0 ≤ R.cells ∧ P.slots + 0 ≤ R.slots)
      (fun P _ v B => ∃ L, (((v = some (.int 1) ∧ cs = ds) ∨ (v = some (.int 0) ∧ ¬ cs = ds)) ∧ L = [] ∧ B.U.heap = h) ∧ B.locs = P.locs ++ L ∧ B.cells = P.cells + 0 ∧ B.slots = P.slots + 0) := by
  intro m meth c P g ig mk a X hg hsize hdg hW hn hp'
  obtain ⟨rfl, rfl, r1, r2⟩ := hp'
  have al : Z.vm.Alike P.U.vm := hZ.alike.trans X.warmed.alike
  obtain ⟨A, hx⟩ := txt_of wi al E V C K hc hb l2
  obtain ⟨A', hy⟩ := txt_of wi al E' V' C' K' hc' hb' l2'
  obtain ⟨v, B, X', ⟨⟨w, hv, hh, hq⟩, hl, hk, hs⟩, st⟩ := SEq.pays x t A cd cs.length (fun j => cs.getD j 0) y t' A' cd' ds.length (fun j => ds.getD j 0) z (tabEq_of (movedEq hZ hw)) hfr hlo m meth c P g ig mk _ X hg hsize hdg hW hn ⟨r1, r2, rfl, hx, hy, sta_is al S, hz⟩
  refine ⟨v, B, X', ⟨[], ⟨?_, rfl, hh⟩, hl, hk, hs⟩, st⟩
  rcases hq with ⟨rfl, q⟩ | ⟨rfl, q⟩
  · exact Or.inl ⟨hv, (same_list cs ds).mp q⟩
  · exact Or.inr ⟨hv, fun e => q ((same_list cs ds).mpr e)⟩
end StrChars.Road
namespace StrChars
open Jvm Sem ClassFile Op Lib Jvm.Stand Jvm.Free.XT Jvm.Free.ALB Jvm.Free.JM Jvm.Free
open Jvm.Lib.Cold (StaticIs)
namespace ChN
def yN : MethodName := ⟨"java/lang/String", "charAt", "(I)C"⟩
abbrev yB : ByteArray := jdk_42_method_56_code
theorem d0 : decode yB 0 = .ok (.aload_n 0, 1) := by decide +kernel
theorem d1 : decode yB 1 = .ok (.invokevirtual 492, 3) := by decide +kernel
theorem d4 : decode yB 4 = .ok (.ifCond (.eq) 12, 3) := by decide +kernel
theorem d7 : decode yB 7 = .ok (.aload_n 0, 1) := by decide +kernel
theorem d8 : decode yB 8 = .ok (.getfield 9, 3) := by decide +kernel
theorem d11 : decode yB 11 = .ok (.iload_n 1, 1) := by decide +kernel
theorem d12 : decode yB 12 = .ok (.invokestatic 495, 3) := by decide +kernel
theorem d15 : decode yB 15 = .ok (.ireturn, 1) := by decide +kernel
def site : List Cond := [.fieldLink "java/lang/String" 9 "java/lang/String" "value" "[B", IsL.tab, LChA.tab] ++ virtW "java/lang/String" 492 "java/lang/String" IsL.yN IsL.yN ++ staticW "java/lang/String" 495 LChA.yN
def tab : Cond := tabOf yN yB 2 (some .char) site
def P (x t : Addr) (V : Cell) (n : Nat) (f : Nat → Int32) (z : Int32) (fm : Value) (i : Nat) (args : Array Value) (s : State) : Prop := args = #[.ref x, .int (Int32.ofNat i)] ∧ Txt x t V 0 n f s ∧ i < n ∧ StaticIs s "java/lang/String" "COMPACT_STRINGS" "Z" (.int z) ∧ ¬ z = 0 ∧ StaticIs s "jdk/internal/util/Preconditions" "SIOOBE_FORMATTER" "Ljava/util/function/BiFunction;" fm ∧ fm.isRef = true
def E (f : Nat → Int32) (i : Nat) (r : Option Value) (s u : State) : Prop := XT.PureE (some (.int (f i))) r s u
/-- charAt(i) of a Latin-1 String of n chars, i < n: f i -/
theorem law (l : Launch) (x t : Addr) (V : Cell) (n : Nat) (f : Nat → Int32) (z : Int32) (fm : Value) (i : Nat) : Law l yN 2 1 3 40 yB 2 (some .char) site (P x t V n f z fm i) (E f i) [] 0 0 := by
  refine Law.of_walk (plainFor_of_name (by decide +kernel)) (by decide +kernel) (by decide +kernel) (by decide) (fun _ _ h => by rw [h.1]; rfl) (fun _ U U' hal hh h => ⟨h.1, h.2.1.mv hal hh, h.2.2.1, h.2.2.2.1.there hal hh, h.2.2.2.2.1, h.2.2.2.2.2.1.there hal hh, h.2.2.2.2.2.2⟩) (fun r U U' V V' h1 hal h2 h => XT.PureE.mv r U U' V V' h1 hal h2 h) ?_
  intro p e s m args below meth c s₁ X0 hexec hbytes hml hret hlk hnm hown hh0 W hP
  obtain ⟨rfl, hx, hi, s1, hz, s3, rf⟩ := hP
  have v31 := hx.2.2.2.1.2.2.2
  have hr := hx.2.2.2.2.2 i hi
  have hx0 := hx.mv X0.warmed.alike hh0
  have c1 : Steps p.tables e below (s₁.setTop (entryFrame m #[.ref x, .int (Int32.ofNat i)] 2)) (s₁.setTop (mkF m 1 #[.val (.ref x), .val (.int (Int32.ofNat i))] [.ref x])) := Steps.trans (entry rfl) (by
    show Steps p.tables e below (s₁.setTop (mkF m 0 #[.val (.ref x), .val (.int (Int32.ofNat i))] [])) _
    refine XS.aloadN X0.here hexec rfl (hb hbytes d0) rfl rfl ?_
    exact Steps.refl _)
  obtain ⟨v2, T2, X2, E2, g2⟩ := X0.callV hexec (IsL.law l x 0 z) hown (wks W (virtW "java/lang/String" 492 "java/lang/String" IsL.yN IsL.yN)) rfl (by decide) (wk W IsL.tab) (W := 0) (Nat.le_of_ble_eq_true rfl) (Nat.le_of_ble_eq_true rfl) (Nat.le_refl _) (Nat.le_refl _) (hx0.1.fc X0.warmed.alike) hx0.1.is (g := (mkF m 1 #[.val (.ref x), .val (.int (Int32.ofNat i))] [.ref x])) rfl (by rw [hml]; rfl) c1 (argsL := []) (rest := []) rfl rfl (by show 2 * 0 + 0 ≤ _; decide) (hb hbytes d1) (⟨rfl, hx0.2.2.1, hx.2.2.2.2.1.cd, s1.there X0.warmed.alike hh0, hz⟩)
  obtain ⟨rfl, q2⟩ := E2
  have hh2 := q2.trans hh0
  have hx2 := hx.mv X2.warmed.alike hh2
  obtain ⟨-, k1, k2⟩ | ⟨k0, -⟩ := hx.2.2.2.2.1
  · have c3 : Steps p.tables e below (s₁.setTop (entryFrame m #[.ref x, .int (Int32.ofNat i)] 2)) (T2.setTop (mkF m 8 #[.val (.ref x), .val (.int (Int32.ofNat i))] [.ref x])) := Steps.trans g2 (by
      refine XS.ifNo X2.here hexec rfl (hb hbytes d4) rfl (i0_eq_f (by decide)) ?_
      refine XS.aloadN X2.here hexec rfl (hb hbytes d7) rfl rfl ?_
      exact Steps.refl _)
    obtain ⟨T4, X4, q4, st4⟩ := X2.hget hexec hown (wk W (.fieldLink "java/lang/String" 9 "java/lang/String" "value" "[B")) hx2.2.1 (g := (mkF m 8 #[.val (.ref x), .val (.int (Int32.ofNat i))] [.ref x])) rfl (rest := []) rfl (hb hbytes d8)
    have hh4 := q4.trans hh2
    have c5 : Steps p.tables e below (s₁.setTop (entryFrame m #[.ref x, .int (Int32.ofNat i)] 2)) (T4.setTop (mkF m 12 #[.val (.ref x), .val (.int (Int32.ofNat i))] [.int (Int32.ofNat i), .ref t])) := (c3.trans (st4 _ (Steps.refl _))).trans (by
      refine XS.iloadN X4.here hexec rfl (hb hbytes d11) rfl ?_
      exact Steps.refl _)
    obtain ⟨v6, T6, X6, E6, g6⟩ := X4.callS hexec (LChA.law l t V i (lo8 (f i)) fm) hown (wks W (staticW "java/lang/String" 495 LChA.yN)) (wk W LChA.tab) (W := 0) (Nat.le_of_ble_eq_true rfl) (Nat.le_of_ble_eq_true rfl) (Nat.le_refl _) (Nat.le_refl _) (g := (mkF m 12 #[.val (.ref x), .val (.int (Int32.ofNat i))] [.int (Int32.ofNat i), .ref t])) rfl (by rw [hml]; rfl) c5 (argsL := [.ref t, .int (Int32.ofNat i)]) (rest := []) rfl rfl (by show 2 * 0 + 0 ≤ _; decide) (hb hbytes d12) (⟨rfl, hx.2.2.2.1.mv X4.warmed.alike hh4, (k2 i hi).1, s3.there X4.warmed.alike hh4, rf⟩)
    obtain ⟨rfl, q6⟩ := E6
    rw [chr8_lo8 hr.1 (k2 i hi).2] at g6
    exact ⟨T6, some (.int (f i)), _, _, _, X6, rfl, rfl, rfl, (fun h => by cases h), ⟨rfl, q6.trans hh4⟩, fun fs hl => Steps.trans g6 (X6.ireturnOut hexec hret (narrow_ch hr.1 hr.2) (Or.inr (Or.inr (Or.inr (Or.inl rfl)))) (hb hbytes d15) hl)⟩
  · exact absurd k0 (by decide)
theorem pays {l : Launch} {R : Room} {p : Program} {e : Env} {below : List Frame} {s : State} {sargs : Array Value} {len W : Nat} (x t : Addr) (V : Cell) (n : Nat) (f : Nat → Int32) (z : Int32) (fm : Value) (i : Nat) (htab : tab.before sargs s = true) (hfr : 4 ≤ R.frames) (hlo : W + 53 ≤ R.locals) :
    Back l R p e below s sargs yN len W (fun A₁ a₁ => A₁.cells + 0 ≤ R.cells ∧ A₁.slots + 0 ≤ R.slots ∧ P x t V n f z fm i a₁ A₁.U) (fun A₁ _ v₁ B₁ => E f i v₁ A₁.U B₁.U ∧ B₁.locs = A₁.locs ++ [] ∧ B₁.cells = A₁.cells + 0 ∧ B₁.slots = A₁.slots + 0) :=
  (law l x t V n f z fm i).pays htab hfr (by omega)
end ChN
end StrChars
namespace StrChars.Road
open Jvm Sem ClassFile Op Lib Jvm.Stand Jvm.Free Jvm.Free.XT
open Jvm.Lib.Cold (StaticIs)
/-- the words of String.charAt(int), the Latin-1 road alone -/
abbrev wordsChN : List Jvm.Cond := [.code ChN.yN ChN.yB 2 (some .char), .initialized ST, .fieldLink ST 9 ST "value" "[B", .fieldLink ST 38 ST "COMPACT_STRINGS" "Z", .fieldLink ST 15 ST "coder" "B", .code IsL.yN IsL.yB 1 (some .boolean), .methodLink ST 492 IsL.yN, .declares IsL.yN, .selects ST IsL.yN IsL.yN, .instanceMethod IsL.yN,
  .methodLink ST 495 LChA.yN, .static LChA.yN, .code LChA.yN LChA.yB 2 (some .char), .initialized "java/lang/StringLatin1", .methodLink "java/lang/StringLatin1" 9 JO.Str_checkIndex.yN, .static JO.Str_checkIndex.yN, .code JO.Str_checkIndex.yN JO.Str_checkIndex.yB 2 none,
  .fieldLink ST 1053 "jdk/internal/util/Preconditions" "SIOOBE_FORMATTER" "Ljava/util/function/BiFunction;", .methodLink ST 1059 JC.PreCheck.yN, .static JC.PreCheck.yN, .code JC.PreCheck.yN JC.PreCheck.yB 3 (some .int), .initialized "jdk/internal/util/Preconditions"]
theorem tabChN_of {a : Array Value} {s : State} (h : ∀ w ∈ wordsChN, w.before a s = true) : ChN.tab.before a s = true := by
  have hp : JC.PreCheck.tab.before a s = true := unparts (wk h (.code JC.PreCheck.yN JC.PreCheck.yB 3 (some .int))) (wks h (.initialized JC.PreCheck.yN.cls :: JC.PreCheck.site))
  have qk := consq hp h
  have hk : JO.Str_checkIndex.tab.before a s = true := unparts (wk qk (.code JO.Str_checkIndex.yN JO.Str_checkIndex.yB 2 none)) (wks qk (.initialized JO.Str_checkIndex.yN.cls :: JO.Str_checkIndex.site))
  have ql := consq hk h
  have hl : LChA.tab.before a s = true := unparts (wk ql (.code LChA.yN LChA.yB 2 (some .char))) (wks ql (.initialized LChA.yN.cls :: LChA.site))
  have hi : IsL.tab.before a s = true := unparts (wk h (.code IsL.yN IsL.yB 1 (some .boolean))) (wks h (.initialized IsL.yN.cls :: IsL.site))
  have q := consq hi (consq hl h)
  exact unparts (wk q (.code ChN.yN ChN.yB 2 (some .char))) (wks q (.initialized ChN.yN.cls :: ChN.site))
theorem movedChN {Z s : State} {a0 args : Array Value} (hZ : Z.Warmed39 s.vm) (hw : ∀ d ∈ wordsChN, d.before a0 Z = true) : ∀ d ∈ wordsChN, d.before args s = true := fun d hd => by
  have t : ∀ d ∈ wordsChN, (d.onTables && d.keepsFace) = true := by decide +kernel
  exact RoadKit.mv hZ (hw d hd) (t d hd)
/-- **charAt(i) OF A LATIN-1 STRING**, i < n: the char -/
theorem chN {p : Program} {l : Launch} {e : Env} {R : Room} {s : State} {args : Array Value} {below : List Frame} {len W : Nat} {Z : State} {a0 : Array Value} {h : Heap} (hZ : Z.Warmed39 s.vm) (hw : ∀ d ∈ wordsChN, d.before a0 Z = true) {kI : Nat} (wi : (Jvm.Cond.instantiable ST kI).before a0 Z = true)
    {x t : Addr} {kb : ClassId} {cs : List Int32} {N2 z : Int32} {vs : List Value} {fm : Value} {i : Nat} {j : Int32} (E : RoadKit.Exa Z h x ST) (V : RoadKit.Fld Z h x ST "value" "[B" (.ref t)) (C : RoadKit.Fld Z h x ST "coder" "B" (.int 0)) (K : RoadKit.Arv Z h t kb .byte N2 vs (.int 0)) (hc : CodA cs 0 N2 vs) (hb : ∀ c ∈ cs, ¬ c < 0 ∧ ¬ (65535 : Int32) < c)
    (S : RoadKit.Sta Z h ST "COMPACT_STRINGS" "Z" (.int z)) (hz : ¬ z = 0) (F : RoadKit.Sta Z h "jdk/internal/util/Preconditions" "SIOOBE_FORMATTER" "Ljava/util/function/BiFunction;" fm) (rf : fm.isRef = true) (l2 : cs.length ≤ 4000) (hi : i < cs.length) (hj : j = Int32.ofNat i) (hfr : 4 ≤ R.frames) (hlo : W + 53 ≤ R.locals) :
    Back l R p e below s args (⟨"java/lang/String", "charAt", "(I)C"⟩ : MethodName) len W (fun P a => a = #[.ref x, .int j] ∧ P.U.heap = h ∧ P.cells + 0 ≤ R.cells ∧ P.slots + 0 ≤ R.slots)
      (fun P _ v B => ∃ L, (v = some (.int (cs.getD i 0)) ∧ L = [] ∧ B.U.heap = h) ∧ B.locs = P.locs ++ L ∧ B.cells = P.cells + 0 ∧ B.slots = P.slots + 0) := by
  subst hj
  intro m meth c P g ig mk a X hg hsize hdg hW hn hp'
  obtain ⟨rfl, rfl, r1, r2⟩ := hp'
  have al : Z.vm.Alike P.U.vm := hZ.alike.trans X.warmed.alike
  obtain ⟨A, hx⟩ := txt_of wi al E V C K hc hb l2
  obtain ⟨v, B, X', ⟨⟨hv, hh⟩, hl, hk, hs⟩, st⟩ := ChN.pays x t A cs.length (fun j => cs.getD j 0) z fm i (tabChN_of (movedChN hZ hw)) hfr hlo m meth c P g ig mk _ X hg hsize hdg hW hn ⟨r1, r2, rfl, hx, hi, sta_is al S, hz, sta_is al F, rf⟩
  exact ⟨v, B, X', ⟨[], ⟨hv, rfl, hh⟩, hl, hk, hs⟩, st⟩
/-- what backV says of its String, as the contracts of this text ask it: cs's low bytes, coder 0 -/
theorem codOf {cs : List Int32} {n : Nat} (hn : cs.length = n) (hb : ∀ c ∈ cs, ¬ 255 < c) : CodA cs 0 (Int32.ofNat n) ((cs.map lo8).map Value.int) := Or.inl ⟨rfl, by rw [hn], by simp [List.map_map, Function.comp_def], hb⟩
end StrChars.Road
end Jvm.Pilot.@@N@@
namespace Jvm.Pilot.@@N@@
open Jvm Jvm.ClassFile Sem Op Lib Jvm.Free Jvm.Stand Jvm.LawKit Jvm.RoadKit Bundle Jvm.Pilot.@@N@@.Jvm.D
/-- a String of known chars, Latin-1, at a -/
def StrV (Z : State) (h : Heap) (a : Addr) (cs : List Int32) : Prop := ∃ (b : Addr) (kb : ClassId) (N : Int32) (vs : List Value), Exa Z h a "java/lang/String" ∧ Fld Z h a "java/lang/String" "value" "[B" (.ref b) ∧ Fld Z h a "java/lang/String" "coder" "B" (.int 0) ∧ Arv Z h b kb .byte N vs (.int 0) ∧ StrChars.Road.CodA cs 0 N vs ∧ (∀ c ∈ cs, ¬ c < 0 ∧ ¬ (65535 : Int32) < c)
theorem StrV.exa {Z : State} {h : Heap} {a : Addr} {cs : List Int32} (S : StrV Z h a cs) : Exa Z h a "java/lang/String" := by obtain ⟨_, _, _, _, e, -⟩ := S; exact e
theorem StrV.lt {Z : State} {h : Heap} {a : Addr} {cs : List Int32} (S : StrV Z h a cs) : a < h.size := S.exa.lt
theorem StrV.ext {Z : State} {h h' : Heap} {a : Addr} {cs : List Int32} (S : StrV Z h a cs) (E : Ext h h') : StrV Z h' a cs := by
  obtain ⟨b, kb, N, vs, e, f, c, v, q⟩ := S
  exact ⟨b, kb, N, vs, e.ext E, f.ext E, c.ext E, v.ext E, q⟩
theorem StrV.keep0 {Z : State} {h h' : Heap} {a : Addr} {cs : List Int32} (S : StrV Z h a cs) (K : Keep h h' []) : StrV Z h' a cs := by
  obtain ⟨b, kb, N, vs, e, f, c, v, q⟩ := S
  exact ⟨b, kb, N, vs, e.keep K, f.keep K nin0, c.keep K nin0, v.keep K nin0, q⟩
/-- neither a String nor an array -/
def NStr (Z : State) (h : Heap) (x : Addr) : Prop := ∃ (C : String) (n : Nat) (a0 : Array Value), Exa Z h x C ∧ C ≠ "java/lang/String" ∧ (Jvm.Cond.instantiable C n).before a0 Z = true
theorem NStr.of {Z : State} {h : Heap} {x : Addr} {C : String} {n : Nat} {a0 : Array Value} (E : Exa Z h x C) (w : (Jvm.Cond.instantiable C n).before a0 Z = true) (q : C ≠ "java/lang/String") : NStr Z h x := ⟨C, n, a0, E, q, w⟩
theorem StrV.keepN {Z : State} {h h' : Heap} {a : Addr} {cs : List Int32} {ws : List Addr} (S : StrV Z h a cs) (K : Keep h h' ws) (hs : ∀ x ∈ ws, NStr Z h x) : StrV Z h' a cs := by
  obtain ⟨b, kb, N, vs, e, f, c, v, q⟩ := S
  have ha : a ∉ ws := fun m => by
    obtain ⟨C, n, a0, E, hne, w⟩ := hs a m
    exact Exa.ne E e hne rfl
  have hb : b ∉ ws := fun m => by
    obtain ⟨C, n, a0, E, hne, w⟩ := hs b m
    exact Exa.neArv E v w rfl
  exact ⟨b, kb, N, vs, e.keep K, f.keep K ha, c.keep K ha, v.keep K hb, q⟩
theorem own_keep {h h' : Heap} (e : h' = h) (ws : List Addr) : Keep h h' ws := by rw [e]; exact Keep.refl _ _
def own_c (x : Int32) : Int32 := ((x &&& (255 : Int32)).toUInt32.toUInt16.toUInt32.toInt32)
def own_k (x : Int32) : Int32 := nar .char (own_c x)
theorem own_k_lat (x : Int32) : ¬ own_k x < 0 ∧ ¬ (255 : Int32) < own_k x := by
  have t : ∀ k : Fin 256, ¬ nar .char ((Int32.ofNat k.val).toUInt32.toUInt16.toUInt32.toInt32) < 0 ∧ ¬ (255 : Int32) < nar .char ((Int32.ofNat k.val).toUInt32.toUInt16.toUInt32.toInt32) := by decide +kernel
  have h : (x &&& 255).toBitVec.toNat < 256 := by
    simp only [Int32.toBitVec_and, BitVec.toNat_and]
    exact Nat.lt_succ_of_le Nat.and_le_right
  have e : (x &&& 255) = Int32.ofNat (x &&& 255).toBitVec.toNat := by
    apply Int32.toBitVec_inj.mp
    show _ = BitVec.ofNat 32 _
    rw [BitVec.ofNat_toNat]; simp
  show ¬ nar .char ((x &&& (255 : Int32)).toUInt32.toUInt16.toUInt32.toInt32) < 0 ∧ ¬ (255 : Int32) < nar .char ((x &&& (255 : Int32)).toUInt32.toUInt16.toUInt32.toInt32)
  rw [e]
  exact t ⟨_, h⟩
theorem own_up (cs : List Int32) (h : ∀ c ∈ cs, ¬ c < 0 ∧ ¬ (255 : Int32) < c) : ∀ c ∈ cs, ¬ c < 0 ∧ ¬ (65535 : Int32) < c := fun c hc => ⟨(h c hc).1, fun q => (h c hc).2 (by rw [Int32.lt_iff_toInt_lt] at q ⊢; have e1 : (65535 : Int32).toInt = 65535 := rfl; have e2 : (255 : Int32).toInt = 255 := rfl; omega)⟩
/-- out of what backV answers -/
theorem own_mkStr {Z : State} {h : Heap} {a t : Addr} {kb : ClassId} {cs : List Int32} {n : Nat} (hn : cs.length = n) (hp : ∀ c ∈ cs, ¬ c < 0 ∧ ¬ (255 : Int32) < c) (E : Exa Z h a "java/lang/String") (C : Fld Z h a "java/lang/String" "coder" "B" (.int 0)) (V : Fld Z h a "java/lang/String" "value" "[B" (.ref t)) (A : Arv Z h t kb .byte (Int32.ofNat n) ((cs.map (fun c => c.toInt8.toInt32)).map Value.int) (.int 0)) : StrV Z h a cs :=
  ⟨t, kb, Int32.ofNat n, _, E, V, C, A, StrChars.Road.codOf hn (fun c hc => (hp c hc).2), own_up cs hp⟩
def own_EL : List (String × Nat) := [("com/example/restate/restate/Operation$Target", 55), ("com/example/restate/restate/Operation$Target", 61), ("com/example/restate/restate/TargetIsAttachedPinLaw", 7), ("com/example/restate/restate/TargetIsAttachedPinLaw", 9), ("java/lang/String", 7)]
theorem own_wS {Z : State} {a0 : Array Value} (hw : ∀ d ∈ tables_1, d.before a0 Z = true) : ∀ a ∈ Bundle.stringAtoms, a.before a0 Z = true := fun d hd => hw d ((by decide +kernel : ∀ d ∈ Bundle.stringAtoms, d ∈ tables_1) d hd)
theorem own_safeV {Z : State} {EL : List (String × Nat)} {vm : Vm} {h : Heap} {x : Addr} {k : ClassId} {ty : FieldType} {z : Int32} {vs : List Value} {dv : Value} (hal : Z.vm.Alike vm) (A : Arv Z h x k ty z vs dv) (ht : ty ≠ .byte) : Safe Z EL vm h x := by obtain ⟨c, B, -⟩ := A; exact Safe.arr hal B ht
/-- a call of a callee that may intern and that writes the object x -/
theorem own_backSHs {l : Launch} {p : Program} {e : Env} {R : Room} {s : State} {args : Array Value} {below : List Frame} {Z : State} {a0 : Array Value} {EL : List (String × Nat)} {h : Heap} {vm0 : Vm} {y : MethodName} {bytes : ByteArray} {maxL : Nat} {ret : Option FieldType} {rm : Room} {len W : Nat} {as' : Array Value} {Q : Option Value → Heap → List Loc → Prop} {x : Addr}
    (hM : MetFree l y (head1 [Jvm.Cond.code y bytes maxL ret] rm) (fun a U => a = as' ∧ Z.Warmed39 U.vm ∧ U.heap = h ∧ CHv Z EL U.vm h ∧ Safe Z EL U.vm h x) (fun _ _ _ _ _ => True) (fun _ U o U' => ∃ v L, o = .returned v ∧ Q v U'.heap L ∧ CHr Z EL U.vm U.heap U'.vm U'.heap ∧ ReturnedEndW U o U' L rm.cells rm.slots))
    (hZ : Z.Warmed39 vm0) (wc : (Jvm.Cond.code y bytes maxL ret).before a0 Z = true) (wz : (Jvm.Cond.initialized y.cls).before a0 Z = true) (hf : rm.frames + 1 ≤ R.frames) (hl : W + (maxL + 11) + rm.locals ≤ R.locals) (hEL : EW Z a0 EL) (H : CHv Z EL vm0 h) (hlt : x < h.size) (Sx : Safe Z EL vm0 h x) :
    BackS l R p e below (s.setVm vm0) args y len W (fun A a => a = as' ∧ A.U.heap = h ∧ A.cells + rm.cells ≤ R.cells ∧ A.slots + rm.slots ≤ R.slots)
      (fun A _ v B => ∃ L, Q v B.U.heap L ∧ B.locs = A.locs ++ L ∧ B.cells = A.cells + rm.cells ∧ B.slots = A.slots + rm.slots ∧ CHr Z EL vm0 h B.U.vm B.U.heap) := by
  refine BackS.of_freeW (bytes := bytes) (maxL := maxL) (ret := ret) (E := fun _ first o t L k n => k = rm.cells ∧ n = rm.slots ∧ (∃ v, o = .returned v ∧ Q v t.heap L) ∧ CHr Z EL first.vm first.heap t.vm t.heap) hM hf hl ?_ ?_ (fun _ _ _ _ _ _ _ _ _ => trivial) ?_ ?_
  · intro m meth c A a Y hp
    have hU : Z.Warmed39 A.U.vm := wtrans (s := s.setVm vm0) hZ Y.warmed
    refine ⟨?_, mv hU wc, mv hU wz, hp.2.2.1, hp.2.2.2⟩
    show (Jvm.Cond.and _ .tt).before a A.U = true
    rw [Cond.before_and, mv hU wc]; rfl
  · intro m meth c A a g mk Y hp
    have C := CHv.at Y hZ hEL H
    exact ⟨hp.1, wtrans (s := s.setVm vm0) hZ Y.warmed, hp.2.1, C.1, C.safe hlt Sx⟩
  · rintro _ _ _ _ ⟨v, L, h1, h2, h3, h4⟩
    exact ⟨L, _, _, h4, rfl, rfl, ⟨v, h1, h2⟩, h3⟩
  · rintro m meth c A a g mk v t L k n Y hp _ _ ⟨e1, e2, ⟨v', e3, e4⟩, e5⟩
    cases e3; subst e1 e2
    refine ⟨L, e4, rfl, rfl, rfl, (CHv.at Y hZ hEL H).trans ?_⟩
    rw [← hp.2.1]; exact e5
def QE (Z : State) (a1 : Addr) (h0 : Heap) (n0 : Nat) (v : Option Value) (h : Heap) (L : List Loc) : Prop := v = none ∧ Fr n0 L ∧ Keep h0 h [a1] ∧ StrV Z h a1 []
theorem own_hws {Z : State} {a0 : Array Value} (hw : ∀ d ∈ tables_1, d.before a0 Z = true) : ∀ d ∈ StrChars.Road.words, d.before a0 Z = true := fun d hd => hw d ((by decide +kernel : ∀ d ∈ StrChars.Road.words, d ∈ tables_1) d hd)
theorem own_heq {Z : State} {a0 : Array Value} (hw : ∀ d ∈ tables_1, d.before a0 Z = true) : ∀ d ∈ StrChars.Road.wordsEq, d.before a0 Z = true := fun d hd => hw d ((by decide +kernel : ∀ d ∈ StrChars.Road.wordsEq, d ∈ tables_1) d hd)
theorem own_hlen {Z : State} {a0 : Array Value} (hw : ∀ d ∈ tables_1, d.before a0 Z = true) : ∀ d ∈ StrChars.Road.wordsLen, d.before a0 Z = true := fun d hd => hw d ((by decide +kernel : ∀ d ∈ StrChars.Road.wordsLen, d ∈ tables_1) d hd)
theorem own_hch {Z : State} {a0 : Array Value} (hw : ∀ d ∈ tables_1, d.before a0 Z = true) : ∀ d ∈ StrChars.Road.wordsChN, d.before a0 Z = true := fun d hd => hw d ((by decide +kernel : ∀ d ∈ StrChars.Road.wordsChN, d ∈ tables_1) d hd)
theorem own_d_jdk_42_method_149_code_0 : decode jdk_42_method_149_code 0 = .ok (.aload_n 0, 1) := by decide +kernel
theorem own_d_jdk_42_method_149_code_1 : decode jdk_42_method_149_code 1 = .ok (.invokespecial 1, 3) := by decide +kernel
theorem own_d_jdk_42_method_149_code_4 : decode jdk_42_method_149_code 4 = .ok (.iload_n 3, 1) := by decide +kernel
theorem own_d_jdk_42_method_149_code_5 : decode jdk_42_method_149_code 5 = .ok (.ifCond .ne 22, 3) := by decide +kernel
theorem own_d_jdk_42_method_149_code_8 : decode jdk_42_method_149_code 8 = .ok (.aload_n 0, 1) := by decide +kernel
theorem own_d_jdk_42_method_149_code_9 : decode jdk_42_method_149_code 9 = .ok (.ldc 7, 2) := by decide +kernel
theorem own_d_jdk_42_method_149_code_11 : decode jdk_42_method_149_code 11 = .ok (.getfield 9, 3) := by decide +kernel
theorem own_d_jdk_42_method_149_code_14 : decode jdk_42_method_149_code 14 = .ok (.putfield 9, 3) := by decide +kernel
theorem own_d_jdk_42_method_149_code_17 : decode jdk_42_method_149_code 17 = .ok (.aload_n 0, 1) := by decide +kernel
theorem own_d_jdk_42_method_149_code_18 : decode jdk_42_method_149_code 18 = .ok (.ldc 7, 2) := by decide +kernel
theorem own_d_jdk_42_method_149_code_20 : decode jdk_42_method_149_code 20 = .ok (.getfield 15, 3) := by decide +kernel
theorem own_d_jdk_42_method_149_code_23 : decode jdk_42_method_149_code 23 = .ok (.putfield 15, 3) := by decide +kernel
theorem own_d_jdk_42_method_149_code_26 : decode jdk_42_method_149_code 26 = .ok (.return_, 1) := by decide +kernel
theorem own_lit_empty : (∀ c ∈ ("" : String).toList, c.toNat < 256) ∧ ("" : String).toList.map (fun c => Value.int (Jvm.Lit.byteI c.toNat.toUInt16)) = [] := by decide +kernel
theorem own_pn_java_lang_String : plainName "java/lang/String" = true := by first | (simp [plainName, overriddenIn]; done) | decide +kernel
theorem own_ef_jdk_42_method_149_code_xxxxn (m : MethodId) (x0 : Addr) (x1 : Addr) (x2 : Int32) (x3 : Int32) : entryFrame m #[(.ref x0), (.ref x1), (.int x2), (.int x3), .null] 6 = mkF m 0 #[.val (.ref x0), .val (.ref x1), .val (.int x2), .val (.int x3), .val .null, .unset] [] := by first | (simp [entryFrame, mkF, argsToLocals, Value.category]; done) | rfl
set_option maxRecDepth 65536 in
set_option maxHeartbeats 40000000 in
theorem rmE4 (l : Launch) (Z : State) (a0 : Array Value) (hw : ∀ d ∈ tables_1, d.before a0 Z = true) (ws : List Jvm.Cond) (hEL : EW Z a0 own_EL) (a1 a2 : Addr) (uv uc : Value) (h0 : Heap) (n0 : Nat) (Z0 : n0 ≤ h0.size) (E_a1 : Exa Z h0 a1 "java/lang/String") (F_value_a1 : Fld Z h0 a1 "java/lang/String" "value" "[B" uv) (F_coder_a1 : Fld Z h0 a1 "java/lang/String" "coder" "B" uc) (g_a1 : n0 ≤ a1) :
    MetFree l (⟨"java/lang/String", "<init>", "([CIILjava/lang/Void;)V"⟩ : MethodName) (head1 (Jvm.Cond.code (⟨"java/lang/String", "<init>", "([CIILjava/lang/Void;)V"⟩ : MethodName) jdk_42_method_149_code 6 none :: ws) ({ frames := 1, cells := 2, slots := 4, locals := 12 } : Room)) (fun a U => a = #[(.ref a1), (.ref a2), (.int (0 : Int32)), (.int (0 : Int32)), .null] ∧ Z.Warmed39 U.vm ∧ U.heap = h0 ∧ CHv Z own_EL U.vm h0 ∧ Safe Z own_EL U.vm h0 a1) (fun _ _ _ _ _ => True) (fun _ U o U' => ∃ vr_ Lr_, o = .returned vr_ ∧ QE Z a1 h0 n0 vr_ U'.heap Lr_ ∧ CHr Z own_EL U.vm U.heap U'.vm U'.heap ∧ ReturnedEndW U o U' Lr_ 2 4) := by
  refine MetFree.of_bodySF (plainFor_of_name own_pn_java_lang_String) hisR ?_
  intro p e s m args below meth c s₁ Bd hml0 hP hK
  obtain ⟨rfl, hZ, hh, hCH0, Sf_a1⟩ := hP
  have hx := Bd.exec
  have hby := Bd.bytes
  have hml : c.maxLocals = 6 := hml0
  have hown : s.vm.findClass "java/lang/String" = some m.cls := findClass_of_methodNamed Bd.named
  have hnm := (name_of_methodNamed Bd.named Bd.method).1
  have X0 : Stand p l e ({ frames := 1, cells := 2, slots := 4, locals := 12 } : Room) (s.setVm s.vm) m #[(.ref a1), (.ref a2), (.int (0 : Int32)), (.int (0 : Int32)), .null] below meth c s₁ [] 0 0 := Stand.of_body Bd
  have e0 : s₁.heap = h0 := by rw [← hh, Bd.state]; rfl
  have N0 := Fr.nil n0
  have CH0 : CHr Z own_EL s.vm h0 s.vm h0 := CHr.refl hCH0
  have hS0 : s.Since s.vm 0 := State.WarmedH.since (State.WarmedH.refl s) 0
  have pre0 : ∀ t, Steps p.tables e below (s₁.setTop (mkF m 0 #[.val (.ref a1), .val (.ref a2), .val (.int (0 : Int32)), .val (.int (0 : Int32)), .val .null, .unset] [])) t → Steps p.tables e below (s₁.setTop (entryFrame m #[(.ref a1), (.ref a2), (.int (0 : Int32)), (.int (0 : Int32)), .null] 6)) t := fun t k => castTop (own_ef_jdk_42_method_149_code_xxxxn m a1 a2 (0 : Int32) (0 : Int32)) k
  obtain ⟨T1, X1, e1, st1⟩ := initO X0 hx hZ hown (hw _ (List.mem_of_getElem? (i := 60) rfl)) (hw _ (List.mem_of_getElem? (i := 61) rfl)) (hw _ (List.mem_of_getElem? (i := 62) rfl)) e0 (g := (mkF m 1 #[.val (.ref a1), .val (.ref a2), .val (.int (0 : Int32)), .val (.int (0 : Int32)), .val .null, .unset] [(.ref a1)])) rfl (by rw [hml]; rfl) rfl (hb hby own_d_jdk_42_method_149_code_1) (by decide) (W := 0) (by show 2 * 0 + _ ≤ _; exact Nat.le_of_eq rfl) (by decide)
  obtain ⟨lit2, T2, h2, kl2, lba2, kk2, X2, e2, E2, hS2, hk2, hZ2, hown2, Ea2, Fc2, Fv2, V2, la2, lb2, C2, Lt2, sf2, st2⟩ := ldcCH X1 hx hZ hown (hw _ (List.mem_of_getElem? (i := 105) rfl)) (own_wS hw) e1 hS0 (Nat.zero_le _) hEL (by decide : ("java/lang/String", 7) ∈ own_EL) CH0.1 (vs := []) (z := (0 : Int32)) own_lit_empty (by decide) (by decide) (g := (mkF m 9 #[.val (.ref a1), .val (.ref a2), .val (.int (0 : Int32)), .val (.int (0 : Int32)), .val .null, .unset] [(.ref a1)])) rfl (hb hby own_d_jdk_42_method_149_code_9) (n := 0) (by decide) (by decide) (by decide) (by decide)
  have CH1 : CHr Z own_EL s.vm h0 T2.vm h2 := CH0.trans C2
  have K1 : Keep h0 h2 [a1] := (Keep.refl h0 [a1]).ext E2
  have f3 : Safe Z own_EL T2.vm h2 a1 := (C2.safe E_a1.lt Sf_a1)
  have ne2_a1 := sf2 a1 f3
  obtain ⟨T4, X4, e4, st4⟩ := getF X2 hx hZ2 hown2 (host := "") (Or.inl (hw _ (List.mem_of_getElem? (i := 13) rfl))) Via.refl e2 Fv2 (g := (mkF m 11 #[.val (.ref a1), .val (.ref a2), .val (.int (0 : Int32)), .val (.int (0 : Int32)), .val .null, .unset] [(.ref lit2), (.ref a1)])) rfl rfl (hb hby own_d_jdk_42_method_149_code_11)
  have f5 : Fld Z h2 a1 "java/lang/String" "value" "[B" uv := (F_value_a1.ext E2)
  have f6 : Exa Z h2 a1 "java/lang/String" := (E_a1.ext E2)
  obtain ⟨T7, h7, X7, e7, W7, st7⟩ := putF X4 hx hZ2 hown2 (host := "") (Or.inl (hw _ (List.mem_of_getElem? (i := 13) rfl))) Via.refl e4 f5 f6 (Or.inr ⟨(hw _ (List.mem_of_getElem? (i := 4) rfl)), rfl, hnm⟩) (hw _ (List.mem_of_getElem? (i := 2) rfl)) (ty := (.array .byte)) (by decide) rfl rfl (g := (mkF m 14 #[.val (.ref a1), .val (.ref a2), .val (.int (0 : Int32)), .val (.int (0 : Int32)), .val .null, .unset] [(.ref lba2), (.ref a1)])) rfl rfl (hb hby own_d_jdk_42_method_149_code_14)
  have Fw7 := f5.same W7
  have Nf7 := Fr.snoc X7 N0 g_a1
  have CH2 : CHr Z own_EL s.vm h0 T2.vm h7 := CH1.trans (CHr.wr W7 f3 CH1.1)
  have K2 : Keep h0 h7 [a1] := K1.wr W7 (Or.inl (List.mem_of_getElem? (i := 0) rfl))
  have f8 : Fld Z h7 lit2 "java/lang/String" "coder" "B" (.int 0) := (Fc2.other W7 (Or.inl (Ne.symm ne2_a1.1)))
  obtain ⟨T9, X9, e9, st9⟩ := getF X7 hx hZ2 hown2 (host := "") (Or.inl (hw _ (List.mem_of_getElem? (i := 20) rfl))) Via.refl e7 f8 (g := (mkF m 20 #[.val (.ref a1), .val (.ref a2), .val (.int (0 : Int32)), .val (.int (0 : Int32)), .val .null, .unset] [(.ref lit2), (.ref a1)])) rfl rfl (hb hby own_d_jdk_42_method_149_code_20)
  have f10 : Fld Z h7 a1 "java/lang/String" "coder" "B" uc := ((F_coder_a1.ext E2).other W7 (Or.inr (slot_ne (Or.inr (hw _ (List.mem_of_getElem? (i := 5) rfl))) (Or.inr (hw _ (List.mem_of_getElem? (i := 4) rfl))) (by decide) (t := .byte) (t' := (.array .byte)) (by decide) (by decide))))
  have f11 : Exa Z h7 a1 "java/lang/String" := (f6.wr W7)
  obtain ⟨T12, h12, X12, e12, W12, st12⟩ := putFN X9 hx hZ2 hown2 (hw _ (List.mem_of_getElem? (i := 20) rfl)) Via.refl e9 f10 f11 (Or.inr ⟨(hw _ (List.mem_of_getElem? (i := 5) rfl)), rfl, hnm⟩) (hw _ (List.mem_of_getElem? (i := 2) rfl)) (ty := .byte) (v' := (.int 0)) (by decide) rfl rfl (g := (mkF m 23 #[.val (.ref a1), .val (.ref a2), .val (.int (0 : Int32)), .val (.int (0 : Int32)), .val .null, .unset] [(.int 0), (.ref a1)])) rfl rfl (hb hby own_d_jdk_42_method_149_code_23)
  have Fw12 := f10.same W12
  have Nf12 := Fr.snoc X12 Nf7 g_a1
  have f13 : Safe Z own_EL T2.vm h7 a1 := (Safe.wr W7 f3 CH1.1 f3)
  have CH3 : CHr Z own_EL s.vm h0 T2.vm h12 := CH2.trans (CHr.wr W12 f13 CH2.1)
  have K3 : Keep h0 h12 [a1] := K2.wr W12 (Or.inl (List.mem_of_getElem? (i := 0) rfl))
  have f14 : Exa Z h12 a1 "java/lang/String" := (f11.wr W12)
  have f15 : Fld Z h12 a1 "java/lang/String" "value" "[B" (.ref lba2) := (Fw7.other W12 (Or.inr (slot_ne (Or.inr (hw _ (List.mem_of_getElem? (i := 4) rfl))) (Or.inr (hw _ (List.mem_of_getElem? (i := 5) rfl))) (by decide) (t := (.array .byte)) (t' := .byte) (by decide) (by decide))))
  have f16 : Arv Z h12 lba2 kk2 .byte (0 : Int32) [] (.int 0) := ((V2.other W7 (Ne.symm ne2_a1.2)).other W12 (Ne.symm ne2_a1.2))
  have hk_17 := Nat.le_trans hk2 (((Keep.refl h2 [a1]).wr W7 (Or.inl (List.mem_of_getElem? (i := 0) rfl))).wr W12 (Or.inl (List.mem_of_getElem? (i := 0) rfl))).1
  obtain ⟨fs, hr, hrun, hended, hend⟩ := X12.leaveW hS2 (by rw [e12]; exact hk_17) (v := none) (fun _ => rfl)
  refine ⟨_, _, pre0 _ ?_, hrun, hended, _, _, rfl, ?_, ?_, hend.1, hend.2.1, hend.2.2.1, hend.2.2.2.mono (by decide) (by decide)⟩
  · show Steps p.tables e below (s₁.setTop (mkF m 0 #[.val (.ref a1), .val (.ref a2), .val (.int (0 : Int32)), .val (.int (0 : Int32)), .val .null, .unset] [])) _
    refine XS.aloadN X0.here hx rfl (hb hby own_d_jdk_42_method_149_code_0) rfl rfl ?_
    show Steps p.tables e below (s₁.setTop (mkF m 1 #[.val (.ref a1), .val (.ref a2), .val (.int (0 : Int32)), .val (.int (0 : Int32)), .val .null, .unset] [(.ref a1)])) _
    refine st1 _ ?_
    refine XS.iloadN X1.here hx rfl (hb hby own_d_jdk_42_method_149_code_4) rfl ?_
    show Steps p.tables e below (T1.setTop (mkF m 5 #[.val (.ref a1), .val (.ref a2), .val (.int (0 : Int32)), .val (.int (0 : Int32)), .val .null, .unset] [(.int (0 : Int32))])) _
    refine XS.ifNo X1.here hx rfl (hb hby own_d_jdk_42_method_149_code_5) rfl ((if0 _ _).trans (teq (rfl : (0 : Int32) = (0 : Int32))).2) ?_
    refine XS.aloadN X1.here hx rfl (hb hby own_d_jdk_42_method_149_code_8) rfl rfl ?_
    show Steps p.tables e below (T1.setTop (mkF m 9 #[.val (.ref a1), .val (.ref a2), .val (.int (0 : Int32)), .val (.int (0 : Int32)), .val .null, .unset] [(.ref a1)])) _
    refine st2 _ ?_
    show Steps p.tables e below (T2.setTop (mkF m 11 #[.val (.ref a1), .val (.ref a2), .val (.int (0 : Int32)), .val (.int (0 : Int32)), .val .null, .unset] [(.ref lit2), (.ref a1)])) _
    refine st4 _ ?_
    show Steps p.tables e below (T4.setTop (mkF m 14 #[.val (.ref a1), .val (.ref a2), .val (.int (0 : Int32)), .val (.int (0 : Int32)), .val .null, .unset] [(.ref lba2), (.ref a1)])) _
    refine st7 _ ?_
    refine XS.aloadN X7.here hx rfl (hb hby own_d_jdk_42_method_149_code_17) rfl rfl ?_
    show Steps p.tables e below (T7.setTop (mkF m 18 #[.val (.ref a1), .val (.ref a2), .val (.int (0 : Int32)), .val (.int (0 : Int32)), .val .null, .unset] [(.ref a1)])) _
    refine ldcAgain X7 hx hZ2 hown2 (hw _ (List.mem_of_getElem? (i := 105) rfl)) Lt2 (g := (mkF m 18 #[.val (.ref a1), .val (.ref a2), .val (.int (0 : Int32)), .val (.int (0 : Int32)), .val .null, .unset] [(.ref a1)])) rfl (hb hby own_d_jdk_42_method_149_code_18) _ ?_
    show Steps p.tables e below (T7.setTop (mkF m 20 #[.val (.ref a1), .val (.ref a2), .val (.int (0 : Int32)), .val (.int (0 : Int32)), .val .null, .unset] [(.ref lit2), (.ref a1)])) _
    refine st9 _ ?_
    show Steps p.tables e below (T9.setTop (mkF m 23 #[.val (.ref a1), .val (.ref a2), .val (.int (0 : Int32)), .val (.int (0 : Int32)), .val .null, .unset] [(.int 0), (.ref a1)])) _
    refine st12 _ ?_
    show Steps p.tables e below (T12.setTop (mkF m 26 #[.val (.ref a1), .val (.ref a2), .val (.int (0 : Int32)), .val (.int (0 : Int32)), .val .null, .unset] [])) _
    exact X12.returnOut hx Bd.returns (hb hby own_d_jdk_42_method_149_code_26) hr
  · show QE Z a1 h0 n0 _ T12.heap _
    rw [e12]
    exact ⟨rfl, Nf12, K3, lba2, kk2, (0 : Int32), [], f14, f15, Fw12, f16, StrChars.Road.codOf (cs := []) (n := 0) rfl (fun c hc => nomatch hc), fun c hc => nomatch hc⟩
  · show CHr Z own_EL s.vm s.heap T12.vm T12.heap
    rw [hh, e12]
    exact CH3.trans (CHv.at X12 hZ2 hEL CH3.1)
theorem own_d_jdk_42_method_3_code_0 : decode jdk_42_method_3_code 0 = .ok (.aload_n 0, 1) := by decide +kernel
theorem own_d_jdk_42_method_3_code_1 : decode jdk_42_method_3_code 1 = .ok (.aload_n 1, 1) := by decide +kernel
theorem own_d_jdk_42_method_3_code_2 : decode jdk_42_method_3_code 2 = .ok (.iconst 0, 1) := by decide +kernel
theorem own_d_jdk_42_method_3_code_3 : decode jdk_42_method_3_code 3 = .ok (.aload_n 1, 1) := by decide +kernel
theorem own_d_jdk_42_method_3_code_4 : decode jdk_42_method_3_code 4 = .ok (.arraylength, 1) := by decide +kernel
theorem own_d_jdk_42_method_3_code_5 : decode jdk_42_method_3_code 5 = .ok (.aconst_null, 1) := by decide +kernel
theorem own_d_jdk_42_method_3_code_6 : decode jdk_42_method_3_code 6 = .ok (.invokespecial 27, 3) := by decide +kernel
theorem own_d_jdk_42_method_3_code_9 : decode jdk_42_method_3_code 9 = .ok (.return_, 1) := by decide +kernel
theorem own_pd___CIILjava_lang_Void__V : parseMethodDescriptor "([CIILjava/lang/Void;)V" = some ⟨[(.array .char), .int, .int, (.object "java/lang/Void")], none⟩ := by decide +kernel
theorem own_ef_jdk_42_method_3_code_xx (m : MethodId) (x0 : Addr) (x1 : Addr) : entryFrame m #[(.ref x0), (.ref x1)] 2 = mkF m 0 #[.val (.ref x0), .val (.ref x1)] [] := by first | (simp [entryFrame, mkF, argsToLocals, Value.category]; done) | rfl
set_option maxRecDepth 65536 in
set_option maxHeartbeats 40000000 in
theorem rmE1 (l : Launch) (Z : State) (a0 : Array Value) (hw : ∀ d ∈ tables_1, d.before a0 Z = true) (ws : List Jvm.Cond) (hEL : EW Z a0 own_EL) (a1 a2 : Addr) (uv uc : Value) (k2 : ClassId) (vs2 : List Value) (dv2 : Value) (h0 : Heap) (n0 : Nat) (Z0 : n0 ≤ h0.size) (E_a1 : Exa Z h0 a1 "java/lang/String") (F_value_a1 : Fld Z h0 a1 "java/lang/String" "value" "[B" uv) (F_coder_a1 : Fld Z h0 a1 "java/lang/String" "coder" "B" uc) (g_a1 : n0 ≤ a1) (V_a2 : Arv Z h0 a2 k2 .char (0 : Int32) vs2 dv2) :
    MetFree l (⟨"java/lang/String", "<init>", "([C)V"⟩ : MethodName) (head1 (Jvm.Cond.code (⟨"java/lang/String", "<init>", "([C)V"⟩ : MethodName) jdk_42_method_3_code 2 none :: ws) ({ frames := 2, cells := 2, slots := 4, locals := 29 } : Room)) (fun a U => a = #[(.ref a1), (.ref a2)] ∧ Z.Warmed39 U.vm ∧ U.heap = h0 ∧ CHv Z own_EL U.vm h0 ∧ Safe Z own_EL U.vm h0 a1) (fun _ _ _ _ _ => True) (fun _ U o U' => ∃ vr_ Lr_, o = .returned vr_ ∧ QE Z a1 h0 n0 vr_ U'.heap Lr_ ∧ CHr Z own_EL U.vm U.heap U'.vm U'.heap ∧ ReturnedEndW U o U' Lr_ 2 4) := by
  refine MetFree.of_bodySF (plainFor_of_name own_pn_java_lang_String) hisR ?_
  intro p e s m args below meth c s₁ Bd hml0 hP hK
  obtain ⟨rfl, hZ, hh, hCH0, Sf_a1⟩ := hP
  have hx := Bd.exec
  have hby := Bd.bytes
  have hml : c.maxLocals = 2 := hml0
  have hown : s.vm.findClass "java/lang/String" = some m.cls := findClass_of_methodNamed Bd.named
  have hnm := (name_of_methodNamed Bd.named Bd.method).1
  have X0 : Stand p l e ({ frames := 2, cells := 2, slots := 4, locals := 29 } : Room) (s.setVm s.vm) m #[(.ref a1), (.ref a2)] below meth c s₁ [] 0 0 := Stand.of_body Bd
  have e0 : s₁.heap = h0 := by rw [← hh, Bd.state]; rfl
  have N0 := Fr.nil n0
  have CH0 : CHr Z own_EL s.vm h0 s.vm h0 := CHr.refl hCH0
  have hS0 : s.Since s.vm 0 := State.WarmedH.since (State.WarmedH.refl s) 0
  have pre0 : ∀ t, Steps p.tables e below (s₁.setTop (mkF m 0 #[.val (.ref a1), .val (.ref a2)] [])) t → Steps p.tables e below (s₁.setTop (entryFrame m #[(.ref a1), (.ref a2)] 2)) t := fun t k => castTop (own_ef_jdk_42_method_3_code_xx m a1 a2) k
  obtain ⟨cl1, Ar1, q1, S1, N_1, H_1, G1⟩ := id V_a2
  obtain ⟨_, _, ⟨T2, L2, k2, n2⟩, -, X2', hs2, hg2, ⟨Lc2, hQ2, l2, y2, z2, C2⟩, st2⟩ := X0.specialBackS hx (y := (⟨"java/lang/String", "<init>", "([CIILjava/lang/Void;)V"⟩ : MethodName)) rfl hown (mvT hZ (hw _ (List.mem_of_getElem? (i := 56) rfl))) (mvT hZ (hw _ (List.mem_of_getElem? (i := 57) rfl))) (mvT hZ (hw _ (List.mem_of_getElem? (i := 59) rfl))) (by decide) (own_backSHs (x := a1) (W := 0) (rmE4 l Z a0 hw [] hEL a1 a2 uv uc h0 n0 Z0 E_a1 F_value_a1 F_coder_a1 g_a1) hZ (hw _ (List.mem_of_getElem? (i := 59) rfl)) (hw _ (List.mem_of_getElem? (i := 1) rfl)) (by decide) (by decide) hEL CH0.1 E_a1.lt Sf_a1) (g := (mkF m 6 #[.val (.ref a1), .val (.ref a2)] [.null, (.int (0 : Int32)), (.int (0 : Int32)), (.ref a2), (.ref a1)])) rfl (by rw [hml]; rfl) (Steps.refl _) (a := a1) (argsL := [(.ref a2), (.int (0 : Int32)), (.int (0 : Int32)), .null]) (rest := []) (lenOf own_pd___CIILjava_lang_Void__V rfl) rfl (by show 2 * 0 + _ ≤ _; exact Nat.le_of_eq rfl) (hb hby own_d_jdk_42_method_3_code_6) (fun _ _ => ⟨rfl, e0, (by decide : 0 + 2 ≤ _), (by decide : 0 + 4 ≤ _)⟩)
  dsimp only [Pt.U, Pt.locs, Pt.cells, Pt.slots] at X2' l2 y2 z2 st2 hQ2 C2 hs2 hg2
  rw [l2] at X2'
  clear l2; subst y2 z2
  obtain ⟨X2, hS2, hZ2, hown2⟩ := rebS hS0 (by rw [e0]; exact (Nat.zero_le _)) X2' hs2 hg2 hZ hown
  obtain ⟨rfl, N2q, K2q, SV2⟩ := hQ2
  have N2a := Fr.app N0 N2q
  have CH1 : CHr Z own_EL s.vm h0 T2.vm T2.heap := CH0.trans C2
  have K1 : Keep h0 T2.heap [a1] := (Keep.refl h0 [a1]).trans K2q (allS (Or.inl (List.mem_of_getElem? (i := 0) rfl)) all0)
  obtain ⟨fs, hr, hrun, hended, hend⟩ := X2.leaveW hS2 (Nat.le_refl _) (v := none) (fun _ => rfl)
  refine ⟨_, _, pre0 _ ?_, hrun, hended, _, _, rfl, ?_, ?_, hend.1, hend.2.1, hend.2.2.1, hend.2.2.2.mono (by decide) (by decide)⟩
  · show Steps p.tables e below (s₁.setTop (mkF m 0 #[.val (.ref a1), .val (.ref a2)] [])) _
    refine XS.aloadN X0.here hx rfl (hb hby own_d_jdk_42_method_3_code_0) rfl rfl ?_
    refine XS.aloadN X0.here hx rfl (hb hby own_d_jdk_42_method_3_code_1) rfl rfl ?_
    refine XS.iconst X0.here hx rfl (hb hby own_d_jdk_42_method_3_code_2) ?_
    show Steps p.tables e below (s₁.setTop (mkF m 3 #[.val (.ref a1), .val (.ref a2)] [(.int (0 : Int32)), (.ref a2), (.ref a1)])) _
    refine XS.aloadN X0.here hx rfl (hb hby own_d_jdk_42_method_3_code_3) rfl rfl ?_
    show Steps p.tables e below (s₁.setTop (mkF m 4 #[.val (.ref a1), .val (.ref a2)] [(.ref a2), (.int (0 : Int32)), (.ref a2), (.ref a1)])) _
    refine X0.arraylength hx (by rw [e0]; exact Ar1.1) (State.isArrayOf_alike hZ.alike Ar1.2.1) (g := (mkF m 4 #[.val (.ref a1), .val (.ref a2)] [(.ref a2), (.int (0 : Int32)), (.ref a2), (.ref a1)])) rfl rfl (hb hby own_d_jdk_42_method_3_code_4) _ ?_
    rw [len_of S1 N_1]
    refine XS.aconstNull X0.here hx rfl (hb hby own_d_jdk_42_method_3_code_5) ?_
    show Steps p.tables e below (s₁.setTop (mkF m 6 #[.val (.ref a1), .val (.ref a2)] [.null, (.int (0 : Int32)), (.int (0 : Int32)), (.ref a2), (.ref a1)])) _
    refine st2.trans ?_
    show Steps p.tables e below (T2.setTop (mkF m 9 #[.val (.ref a1), .val (.ref a2)] [])) _
    exact X2.returnOut hx Bd.returns (hb hby own_d_jdk_42_method_3_code_9) hr
  · show QE Z a1 h0 n0 _ T2.heap _
    exact ⟨rfl, N2a, K1, SV2⟩
  · show CHr Z own_EL s.vm s.heap T2.vm T2.heap
    rw [hh]
    exact CH1.trans (CHv.at X2 hZ2 hEL CH1.1)
def QB (b : Int32) (h0 : Heap) (n0 : Nat) (v : Option Value) (h : Heap) (L : List Loc) : Prop := v = some (.int b) ∧ Fr n0 L ∧ h = h0
def QR (h0 : Heap) (n0 : Nat) (v : Option Value) (h : Heap) (L : List Loc) : Prop := v = none ∧ Fr n0 L ∧ h = h0
def Lat (c : Int32) : Prop := ¬ c < 0 ∧ ¬ (255 : Int32) < c
def own_at (cs : List Int32) (i : Nat) (p : Int32) : Int32 := if i < cs.length then nar .char (cs.getD i 0) else nar .char p
theorem own_toNat {n : Nat} (h : n < 2 ^ 31) : (Int32.ofNat n).toInt = n := Int32.toInt_ofNat_small h
theorem own_lt_of {i n : Nat} (hi : i < 4000) (hn : n ≤ 4000) : (Int32.ofNat i < Int32.ofNat n) ↔ i < n := by
  rw [Int32.lt_iff_toInt_lt, own_toNat (by omega), own_toNat (by omega)]; omega
theorem own_d_method_3_code_0 : decode method_3_code 0 = .ok (.iload_n 1, 1) := by decide +kernel
theorem own_d_method_3_code_1 : decode method_3_code 1 = .ok (.aload_n 0, 1) := by decide +kernel
theorem own_d_method_3_code_2 : decode method_3_code 2 = .ok (.invokevirtual 11, 3) := by decide +kernel
theorem own_d_method_3_code_5 : decode method_3_code 5 = .ok (.if_icmp .ge 11, 3) := by decide +kernel
theorem own_d_method_3_code_8 : decode method_3_code 8 = .ok (.aload_n 0, 1) := by decide +kernel
theorem own_d_method_3_code_9 : decode method_3_code 9 = .ok (.iload_n 1, 1) := by decide +kernel
theorem own_d_method_3_code_10 : decode method_3_code 10 = .ok (.invokevirtual 37, 3) := by decide +kernel
theorem own_d_method_3_code_13 : decode method_3_code 13 = .ok (.goto 4, 3) := by decide +kernel
theorem own_d_method_3_code_17 : decode method_3_code 17 = .ok (.ireturn, 1) := by decide +kernel
theorem own_pd___I : parseMethodDescriptor "()I" = some ⟨[], some .int⟩ := by decide +kernel
theorem own_pd__I_C : parseMethodDescriptor "(I)C" = some ⟨[.int], some .char⟩ := by decide +kernel
theorem own_pn_com_example_restate_restate_TargetIsAttachedPinLaw : plainName "com/example/restate/restate/TargetIsAttachedPinLaw" = true := by first | (simp [plainName, overriddenIn]; done) | decide +kernel
theorem own_ef_method_3_code_xxx (m : MethodId) (x0 : Addr) (x1 : Int32) (x2 : Int32) : entryFrame m #[(.ref x0), (.int x1), (.int x2)] 3 = mkF m 0 #[.val (.ref x0), .val (.int x1), .val (.int x2)] [] := by first | (simp [entryFrame, mkF, argsToLocals, Value.category]; done) | rfl
set_option maxRecDepth 65536 in
set_option maxHeartbeats 40000000 in
theorem ra_in (l : Launch) (Z : State) (a0 : Array Value) (hw : ∀ d ∈ tables_1, d.before a0 Z = true) (ws : List Jvm.Cond) (a1 : Addr) (i : Nat) (p3 : Int32) (cs : List Int32) (G1 : Int32) (G3 : Value) (h0 : Heap) (n0 : Nat) (Z0 : n0 ≤ h0.size) (O2 : Sta Z Z.heap "java/lang/String" "COMPACT_STRINGS" "Z" (.int G1)) (P5 : ¬ (G1 = (0 : Int32))) (O4 : Sta Z Z.heap "jdk/internal/util/Preconditions" "SIOOBE_FORMATTER" "Ljava/util/function/BiFunction;" G3) (rG3 : G3.isRef = true) (O0 : Old Z n0 h0) (S_a1 : StrV Z h0 a1 cs) (hlen4 : cs.length ≤ 4000) (hi : i < 4000) (hin : i < cs.length) :
    MetFree l (⟨"com/example/restate/restate/TargetIsAttachedPinLaw", "at", "(Ljava/lang/String;IC)C"⟩ : MethodName) (head1 (Jvm.Cond.code (⟨"com/example/restate/restate/TargetIsAttachedPinLaw", "at", "(Ljava/lang/String;IC)C"⟩ : MethodName) method_3_code 3 (some .char) :: ws) ({ frames := 4, cells := 0, slots := 0, locals := 53 } : Room)) (fun a U => a = #[(.ref a1), (.int (Int32.ofNat i)), (.int p3)] ∧ Z.Warmed39 U.vm ∧ U.heap = h0) (fun _ _ _ _ _ => True) (fun _ U o U' => ∃ vr_ Lr_, o = .returned vr_ ∧ QB (own_at cs i p3) h0 n0 vr_ U'.heap Lr_ ∧ FrameEnd U o U' Lr_ 0 0) := by
  refine MetFree.of_bodySF (plainFor_of_name own_pn_com_example_restate_restate_TargetIsAttachedPinLaw) hisR ?_
  intro p e s m args below meth c s₁ Bd hml0 hP hK
  obtain ⟨rfl, hZ, hh⟩ := hP
  have hx := Bd.exec
  have hby := Bd.bytes
  have hml : c.maxLocals = 3 := hml0
  have hown : s.vm.findClass "com/example/restate/restate/TargetIsAttachedPinLaw" = some m.cls := findClass_of_methodNamed Bd.named
  have hnm := (name_of_methodNamed Bd.named Bd.method).1
  have X0 : Stand p l e ({ frames := 4, cells := 0, slots := 0, locals := 53 } : Room) s m #[(.ref a1), (.int (Int32.ofNat i)), (.int p3)] below meth c s₁ [] 0 0 := Stand.of_body Bd
  have e0 : s₁.heap = h0 := by rw [← hh, Bd.state]; rfl
  have N0 := Fr.nil n0
  have pre0 : ∀ t, Steps p.tables e below (s₁.setTop (mkF m 0 #[.val (.ref a1), .val (.int (Int32.ofNat i)), .val (.int p3)] [])) t → Steps p.tables e below (s₁.setTop (entryFrame m #[(.ref a1), (.int (Int32.ofNat i)), (.int p3)] 3)) t := fun t k => castTop (own_ef_method_3_code_xxx m a1 (Int32.ofNat i) p3) k
  obtain ⟨sb2, sk2, sN2, sv2, sE2, sV2, sC2, sA2, sc2, su2⟩ := id S_a1
  obtain ⟨cq1, kq1, q1a, q1b, q1c⟩ := isOf hZ e0 S_a1.exa
  obtain ⟨_, _, ⟨T1, L1, k1, n1⟩, -, X1, ⟨Lc1, hQ1, l1, y1, z1⟩, st1⟩ := X0.virtualBack hx (y := (⟨"java/lang/String", "length", "()I"⟩ : MethodName)) (z := (⟨"java/lang/String", "length", "()I"⟩ : MethodName)) hown (mvT hZ (hw _ (List.mem_of_getElem? (i := 8) rfl))) (mvT hZ (hw _ (List.mem_of_getElem? (i := 9) rfl))) (notFace_of_selects (args := #[]) (mvT hZ (hw _ (List.mem_of_getElem? (i := 11) rfl)))) (mvT hZ (hw _ (List.mem_of_getElem? (i := 11) rfl))) (mvT hZ (hw _ (List.mem_of_getElem? (i := 10) rfl))) (by decide) (StrChars.Road.lenW (W := 1) hZ (own_hlen hw) (kI := 4) (hw _ (List.mem_of_getElem? (i := 2) rfl)) sE2 sV2 sC2 sA2 sc2 su2 (O2.ext O0.2) P5 hlen4 (by decide) (by decide)) q1a q1c (g := (mkF m 2 #[.val (.ref a1), .val (.int (Int32.ofNat i)), .val (.int p3)] [(.ref a1), (.int (Int32.ofNat i))])) rfl (by rw [hml]; rfl) (Steps.refl _) (argsL := []) (rest := [(.int (Int32.ofNat i))]) (lenOf own_pd___I rfl) rfl (by show 2 * 0 + _ ≤ _; exact Nat.le_of_eq rfl) (hb hby own_d_method_3_code_2) (fun _ _ => ⟨rfl, e0, (by decide : 0 + 0 ≤ _), (by decide : 0 + 0 ≤ _)⟩)
  dsimp only [Pt.U, Pt.locs, Pt.cells, Pt.slots] at X1 l1 y1 z1 st1 hQ1
  rw [l1] at X1
  clear l1; subst y1 z1
  obtain ⟨rfl, rfl, e1q⟩ := hQ1
  have N1a := Fr.app N0 (Fr.nil n0)
  obtain ⟨sb4, sk4, sN4, sv4, sE4, sV4, sC4, sA4, sc4, su4⟩ := id S_a1
  obtain ⟨cq3, kq3, q3a, q3b, q3c⟩ := isOf hZ e1q S_a1.exa
  obtain ⟨_, _, ⟨T3, L3, k3, n3⟩, -, X3, ⟨Lc3, hQ3, l3, y3, z3⟩, st3⟩ := X1.virtualBack hx (y := (⟨"java/lang/String", "charAt", "(I)C"⟩ : MethodName)) (z := (⟨"java/lang/String", "charAt", "(I)C"⟩ : MethodName)) hown (mvT hZ (hw _ (List.mem_of_getElem? (i := 27) rfl))) (mvT hZ (hw _ (List.mem_of_getElem? (i := 28) rfl))) (notFace_of_selects (args := #[]) (mvT hZ (hw _ (List.mem_of_getElem? (i := 30) rfl)))) (mvT hZ (hw _ (List.mem_of_getElem? (i := 30) rfl))) (mvT hZ (hw _ (List.mem_of_getElem? (i := 29) rfl))) (by decide) (StrChars.Road.chN (W := 0) hZ (own_hch hw) (kI := 4) (hw _ (List.mem_of_getElem? (i := 2) rfl)) sE4 sV4 sC4 sA4 sc4 su4 (O2.ext O0.2) P5 (O4.ext O0.2) rG3 hlen4 (i := i) hin (j := (Int32.ofNat i)) rfl (by decide) (by decide)) q3a q3c (g := (mkF m 10 #[.val (.ref a1), .val (.int (Int32.ofNat i)), .val (.int p3)] [(.int (Int32.ofNat i)), (.ref a1)])) rfl (by rw [hml]; rfl) (Steps.refl _) (argsL := [(.int (Int32.ofNat i))]) (rest := []) (lenOf own_pd__I_C rfl) rfl (by show 2 * 0 + _ ≤ _; exact Nat.le_of_eq rfl) (hb hby own_d_method_3_code_10) (fun _ _ => ⟨rfl, e1q, (by decide : 0 + 0 ≤ _), (by decide : 0 + 0 ≤ _)⟩)
  dsimp only [Pt.U, Pt.locs, Pt.cells, Pt.slots] at X3 l3 y3 z3 st3 hQ3
  rw [l3] at X3
  clear l3; subst y3 z3
  obtain ⟨rfl, rfl, e3q⟩ := hQ3
  have N3a := Fr.app N1a (Fr.nil n0)
  obtain ⟨fs, hr, hrun, hended, hW, hsame⟩ := X3.leave (v := some (.int (nar .char (cs.getD i 0)))) (fun h => by rw [Bd.returns] at h; cases h)
  refine ⟨_, _, pre0 _ ?_, hrun, hended, _, _, rfl, ?_, ⟨_, rfl⟩, hW, hsame.mono (by decide) (by decide)⟩
  · show Steps p.tables e below (s₁.setTop (mkF m 0 #[.val (.ref a1), .val (.int (Int32.ofNat i)), .val (.int p3)] [])) _
    refine XS.iloadN X0.here hx rfl (hb hby own_d_method_3_code_0) rfl ?_
    refine XS.aloadN X0.here hx rfl (hb hby own_d_method_3_code_1) rfl rfl ?_
    show Steps p.tables e below (s₁.setTop (mkF m 2 #[.val (.ref a1), .val (.int (Int32.ofNat i)), .val (.int p3)] [(.ref a1), (.int (Int32.ofNat i))])) _
    refine st1.trans ?_
    show Steps p.tables e below (T1.setTop (mkF m 5 #[.val (.ref a1), .val (.int (Int32.ofNat i)), .val (.int p3)] [(.int (Int32.ofNat cs.length)), (.int (Int32.ofNat i))])) _
    refine XS.icmpNo X1.here hx rfl (hb hby own_d_method_3_code_5) rfl (tlt ((own_lt_of hi hlen4).mpr hin : (Int32.ofNat i) < (Int32.ofNat cs.length))).2.1 ?_
    refine XS.aloadN X1.here hx rfl (hb hby own_d_method_3_code_8) rfl rfl ?_
    refine XS.iloadN X1.here hx rfl (hb hby own_d_method_3_code_9) rfl ?_
    show Steps p.tables e below (T1.setTop (mkF m 10 #[.val (.ref a1), .val (.int (Int32.ofNat i)), .val (.int p3)] [(.int (Int32.ofNat i)), (.ref a1)])) _
    refine st3.trans ?_
    refine XS.goto X3.here hx rfl (pc0 := 13) (pc' := 17) rfl (hb hby own_d_method_3_code_13) (by decide) (by decide) ?_
    show Steps p.tables e below (T3.setTop (mkF m 17 #[.val (.ref a1), .val (.int (Int32.ofNat i)), .val (.int p3)] [(.int (cs.getD i 0))])) _
    exact retN X3 hx (t := .char) Bd.returns (by simp) (hb hby own_d_method_3_code_17) hr
  · show QB (own_at cs i p3) h0 n0 _ T3.heap _
    rw [e3q]
    exact ⟨congrArg (fun z => some (Value.int z)) (if_pos hin).symm, N3a, rfl⟩
theorem own_d_method_3_code_16 : decode method_3_code 16 = .ok (.iload_n 2, 1) := by decide +kernel
set_option maxRecDepth 65536 in
set_option maxHeartbeats 40000000 in
theorem ra_out (l : Launch) (Z : State) (a0 : Array Value) (hw : ∀ d ∈ tables_1, d.before a0 Z = true) (ws : List Jvm.Cond) (a1 : Addr) (i : Nat) (p3 : Int32) (cs : List Int32) (G1 : Int32) (G3 : Value) (h0 : Heap) (n0 : Nat) (Z0 : n0 ≤ h0.size) (O2 : Sta Z Z.heap "java/lang/String" "COMPACT_STRINGS" "Z" (.int G1)) (P5 : ¬ (G1 = (0 : Int32))) (O4 : Sta Z Z.heap "jdk/internal/util/Preconditions" "SIOOBE_FORMATTER" "Ljava/util/function/BiFunction;" G3) (rG3 : G3.isRef = true) (O0 : Old Z n0 h0) (S_a1 : StrV Z h0 a1 cs) (hlen4 : cs.length ≤ 4000) (hi : i < 4000) (hin : ¬ (i < cs.length)) :
    MetFree l (⟨"com/example/restate/restate/TargetIsAttachedPinLaw", "at", "(Ljava/lang/String;IC)C"⟩ : MethodName) (head1 (Jvm.Cond.code (⟨"com/example/restate/restate/TargetIsAttachedPinLaw", "at", "(Ljava/lang/String;IC)C"⟩ : MethodName) method_3_code 3 (some .char) :: ws) ({ frames := 4, cells := 0, slots := 0, locals := 53 } : Room)) (fun a U => a = #[(.ref a1), (.int (Int32.ofNat i)), (.int p3)] ∧ Z.Warmed39 U.vm ∧ U.heap = h0) (fun _ _ _ _ _ => True) (fun _ U o U' => ∃ vr_ Lr_, o = .returned vr_ ∧ QB (own_at cs i p3) h0 n0 vr_ U'.heap Lr_ ∧ FrameEnd U o U' Lr_ 0 0) := by
  refine MetFree.of_bodySF (plainFor_of_name own_pn_com_example_restate_restate_TargetIsAttachedPinLaw) hisR ?_
  intro p e s m args below meth c s₁ Bd hml0 hP hK
  obtain ⟨rfl, hZ, hh⟩ := hP
  have hx := Bd.exec
  have hby := Bd.bytes
  have hml : c.maxLocals = 3 := hml0
  have hown : s.vm.findClass "com/example/restate/restate/TargetIsAttachedPinLaw" = some m.cls := findClass_of_methodNamed Bd.named
  have hnm := (name_of_methodNamed Bd.named Bd.method).1
  have X0 : Stand p l e ({ frames := 4, cells := 0, slots := 0, locals := 53 } : Room) s m #[(.ref a1), (.int (Int32.ofNat i)), (.int p3)] below meth c s₁ [] 0 0 := Stand.of_body Bd
  have e0 : s₁.heap = h0 := by rw [← hh, Bd.state]; rfl
  have N0 := Fr.nil n0
  have pre0 : ∀ t, Steps p.tables e below (s₁.setTop (mkF m 0 #[.val (.ref a1), .val (.int (Int32.ofNat i)), .val (.int p3)] [])) t → Steps p.tables e below (s₁.setTop (entryFrame m #[(.ref a1), (.int (Int32.ofNat i)), (.int p3)] 3)) t := fun t k => castTop (own_ef_method_3_code_xxx m a1 (Int32.ofNat i) p3) k
  obtain ⟨sb2, sk2, sN2, sv2, sE2, sV2, sC2, sA2, sc2, su2⟩ := id S_a1
  obtain ⟨cq1, kq1, q1a, q1b, q1c⟩ := isOf hZ e0 S_a1.exa
  obtain ⟨_, _, ⟨T1, L1, k1, n1⟩, -, X1, ⟨Lc1, hQ1, l1, y1, z1⟩, st1⟩ := X0.virtualBack hx (y := (⟨"java/lang/String", "length", "()I"⟩ : MethodName)) (z := (⟨"java/lang/String", "length", "()I"⟩ : MethodName)) hown (mvT hZ (hw _ (List.mem_of_getElem? (i := 8) rfl))) (mvT hZ (hw _ (List.mem_of_getElem? (i := 9) rfl))) (notFace_of_selects (args := #[]) (mvT hZ (hw _ (List.mem_of_getElem? (i := 11) rfl)))) (mvT hZ (hw _ (List.mem_of_getElem? (i := 11) rfl))) (mvT hZ (hw _ (List.mem_of_getElem? (i := 10) rfl))) (by decide) (StrChars.Road.lenW (W := 1) hZ (own_hlen hw) (kI := 4) (hw _ (List.mem_of_getElem? (i := 2) rfl)) sE2 sV2 sC2 sA2 sc2 su2 (O2.ext O0.2) P5 hlen4 (by decide) (by decide)) q1a q1c (g := (mkF m 2 #[.val (.ref a1), .val (.int (Int32.ofNat i)), .val (.int p3)] [(.ref a1), (.int (Int32.ofNat i))])) rfl (by rw [hml]; rfl) (Steps.refl _) (argsL := []) (rest := [(.int (Int32.ofNat i))]) (lenOf own_pd___I rfl) rfl (by show 2 * 0 + _ ≤ _; exact Nat.le_of_eq rfl) (hb hby own_d_method_3_code_2) (fun _ _ => ⟨rfl, e0, (by decide : 0 + 0 ≤ _), (by decide : 0 + 0 ≤ _)⟩)
  dsimp only [Pt.U, Pt.locs, Pt.cells, Pt.slots] at X1 l1 y1 z1 st1 hQ1
  rw [l1] at X1
  clear l1; subst y1 z1
  obtain ⟨rfl, rfl, e1q⟩ := hQ1
  have N1a := Fr.app N0 (Fr.nil n0)
  obtain ⟨fs, hr, hrun, hended, hW, hsame⟩ := X1.leave (v := some (.int (nar .char p3))) (fun h => by rw [Bd.returns] at h; cases h)
  refine ⟨_, _, pre0 _ ?_, hrun, hended, _, _, rfl, ?_, ⟨_, rfl⟩, hW, hsame.mono (by decide) (by decide)⟩
  · show Steps p.tables e below (s₁.setTop (mkF m 0 #[.val (.ref a1), .val (.int (Int32.ofNat i)), .val (.int p3)] [])) _
    refine XS.iloadN X0.here hx rfl (hb hby own_d_method_3_code_0) rfl ?_
    refine XS.aloadN X0.here hx rfl (hb hby own_d_method_3_code_1) rfl rfl ?_
    show Steps p.tables e below (s₁.setTop (mkF m 2 #[.val (.ref a1), .val (.int (Int32.ofNat i)), .val (.int p3)] [(.ref a1), (.int (Int32.ofNat i))])) _
    refine st1.trans ?_
    show Steps p.tables e below (T1.setTop (mkF m 5 #[.val (.ref a1), .val (.int (Int32.ofNat i)), .val (.int p3)] [(.int (Int32.ofNat cs.length)), (.int (Int32.ofNat i))])) _
    refine XS.icmpYes X1.here hx rfl (pc0 := 5) (pc' := 16) rfl (hb hby own_d_method_3_code_5) rfl (flt ((fun q => hin ((own_lt_of hi hlen4).mp q)) : ¬ ((Int32.ofNat i) < (Int32.ofNat cs.length)))).2.1 (by decide) (by decide) ?_
    refine XS.iloadN X1.here hx rfl (hb hby own_d_method_3_code_16) rfl ?_
    show Steps p.tables e below (T1.setTop (mkF m 17 #[.val (.ref a1), .val (.int (Int32.ofNat i)), .val (.int p3)] [(.int p3)])) _
    exact retN X1 hx (t := .char) Bd.returns (by simp) (hb hby own_d_method_3_code_17) hr
  · show QB (own_at cs i p3) h0 n0 _ T1.heap _
    rw [e1q]
    exact ⟨congrArg (fun z => some (Value.int z)) (if_neg hin).symm, N1a, rfl⟩
theorem rmA (l : Launch) (Z : State) (a0 : Array Value) (hw : ∀ d ∈ tables_1, d.before a0 Z = true) (ws : List Jvm.Cond) (a1 : Addr) (i : Nat) (p3 : Int32) (cs : List Int32) (G1 : Int32) (G3 : Value) (h0 : Heap) (n0 : Nat) (Z0 : n0 ≤ h0.size) (O2 : Sta Z Z.heap "java/lang/String" "COMPACT_STRINGS" "Z" (.int G1)) (P5 : ¬ (G1 = (0 : Int32))) (O4 : Sta Z Z.heap "jdk/internal/util/Preconditions" "SIOOBE_FORMATTER" "Ljava/util/function/BiFunction;" G3) (rG3 : G3.isRef = true) (O0 : Old Z n0 h0) (S_a1 : StrV Z h0 a1 cs) (hlen4 : cs.length ≤ 4000) (hi : i < 4000) :
    MetFree l (⟨"com/example/restate/restate/TargetIsAttachedPinLaw", "at", "(Ljava/lang/String;IC)C"⟩ : MethodName) (head1 (Jvm.Cond.code (⟨"com/example/restate/restate/TargetIsAttachedPinLaw", "at", "(Ljava/lang/String;IC)C"⟩ : MethodName) method_3_code 3 (some .char) :: ws) ({ frames := 4, cells := 0, slots := 0, locals := 53 } : Room)) (fun a U => a = #[(.ref a1), (.int (Int32.ofNat i)), (.int p3)] ∧ Z.Warmed39 U.vm ∧ U.heap = h0) (fun _ _ _ _ _ => True) (fun _ U o U' => ∃ v L, o = .returned v ∧ QB (own_at cs i p3) h0 n0 v U'.heap L ∧ FrameEnd U o U' L 0 0) := by
  by_cases hin : i < cs.length
  · exact ra_in l Z a0 hw ws a1 i p3 cs G1 G3 h0 n0 Z0 O2 P5 O4 rG3 O0 S_a1 hlen4 hi hin
  · exact ra_out l Z a0 hw ws a1 i p3 cs G1 G3 h0 n0 Z0 O2 P5 O4 rG3 O0 S_a1 hlen4 hi hin
theorem own_getD (cs : List Int32) (i : Nat) : (cs.map Value.int).getD i (.int (0 : Int32)) = .int (cs.getD i 0) := by
  simp only [List.getD_eq_getElem?_getD, List.getElem?_map]; cases cs[i]? <;> rfl
theorem own_latD {cs : List Int32} (h : ∀ c ∈ cs, Lat c) (i : Nat) : Lat (cs.getD i 0) := by
  rw [List.getD_eq_getElem?_getD]
  cases e : cs[i]? with
  | none => exact ⟨by decide, by decide⟩
  | some c => exact h c (List.mem_of_getElem? e)
theorem own_narL {c : Int32} (h : Lat c) : nar .char c = c := by
  have t : ∀ k : Fin 256, nar .char (Int32.ofNat k.val) = Int32.ofNat k.val := by decide +kernel
  obtain ⟨h0, h1⟩ := h
  have e0 : (0 : Int32).toInt = 0 := rfl
  have e1 : (255 : Int32).toInt = 255 := rfl
  rw [Int32.lt_iff_toInt_lt] at h0 h1
  have e : c = Int32.ofNat c.toInt.toNat := by apply Int32.toInt_inj.mp; rw [own_toNat (by omega)]; omega
  rw [e]; exact t ⟨c.toInt.toNat, by omega⟩
def own_cut (cs : List Int32) (n : Nat) : List Int32 := (List.range n).map fun j => nar .char (cs.getD j 0)
theorem own_cut_lat {cs : List Int32} (h : ∀ c ∈ cs, Lat c) (n : Nat) : ∀ c ∈ own_cut cs n, ¬ c < 0 ∧ ¬ (255 : Int32) < c := fun c hc => by
  obtain ⟨j, -, rfl⟩ := List.mem_map.mp hc
  rw [own_narL (own_latD h j)]; exact own_latD h j
def QS (Z : State) (cs : List Int32) (h0 : Heap) (n0 : Nat) (v : Option Value) (h : Heap) (L : List Loc) : Prop := ∃ b : Addr, v = some (.ref b) ∧ Fr n0 L ∧ Keep h0 h [] ∧ StrV Z h b cs
theorem own_d_method_4_code_0 : decode method_4_code 0 = .ok (.iload_n 1, 1) := by decide +kernel
theorem own_d_method_4_code_1 : decode method_4_code 1 = .ok (.ifCond .ne 14, 3) := by decide +kernel
theorem own_d_method_4_code_4 : decode method_4_code 4 = .ok (.new 12, 3) := by decide +kernel
theorem own_d_method_4_code_7 : decode method_4_code 7 = .ok (.dup, 1) := by decide +kernel
theorem own_d_method_4_code_8 : decode method_4_code 8 = .ok (.iconst 0, 1) := by decide +kernel
theorem own_d_method_4_code_9 : decode method_4_code 9 = .ok (.newarray .char, 2) := by decide +kernel
theorem own_d_method_4_code_11 : decode method_4_code 11 = .ok (.invokespecial 45, 3) := by decide +kernel
theorem own_d_method_4_code_14 : decode method_4_code 14 = .ok (.areturn, 1) := by decide +kernel
theorem own_pd___C_V : parseMethodDescriptor "([C)V" = some ⟨[(.array .char)], none⟩ := by decide +kernel
theorem own_ef_method_4_code_xx (m : MethodId) (x0 : Addr) (x1 : Int32) : entryFrame m #[(.ref x0), (.int x1)] 2 = mkF m 0 #[.val (.ref x0), .val (.int x1)] [] := by first | (simp [entryFrame, mkF, argsToLocals, Value.category]; done) | rfl
set_option maxRecDepth 65536 in
set_option maxHeartbeats 40000000 in
theorem rc0 (l : Launch) (Z : State) (a0 : Array Value) (hw : ∀ d ∈ tables_1, d.before a0 Z = true) (ws : List Jvm.Cond) (hEL : EW Z a0 own_EL) (a1 : Addr) (p2 : Int32) (cs : List Int32) (kc : ClassId) (G1 : Int32) (G3 : Value) (h0 : Heap) (n0 : Nat) (Z0 : n0 ≤ h0.size) (O2 : Sta Z Z.heap "java/lang/String" "COMPACT_STRINGS" "Z" (.int G1)) (P5 : ¬ (G1 = (0 : Int32))) (O4 : Sta Z Z.heap "jdk/internal/util/Preconditions" "SIOOBE_FORMATTER" "Ljava/util/function/BiFunction;" G3) (rG3 : G3.isRef = true) (O0 : Old Z n0 h0) (V_a1 : Arv Z h0 a1 kc .char (9 : Int32) (cs.map Value.int) (.int (0 : Int32))) (hlat : ∀ c ∈ cs, Lat c) (hc1 : p2 = (0 : Int32)) :
    MetFree l (⟨"com/example/restate/restate/TargetIsAttachedPinLaw", "cut", "([CI)Ljava/lang/String;"⟩ : MethodName) (head1 (Jvm.Cond.code (⟨"com/example/restate/restate/TargetIsAttachedPinLaw", "cut", "([CI)Ljava/lang/String;"⟩ : MethodName) method_4_code 2 (some (.object "java/lang/String")) :: ws) ({ frames := 4, cells := 4, slots := 22, locals := 66 } : Room)) (fun a U => a = #[(.ref a1), (.int p2)] ∧ Z.Warmed39 U.vm ∧ U.heap = h0 ∧ CHv Z own_EL U.vm h0) (fun _ _ _ _ _ => True) (fun _ U o U' => ∃ vr_ Lr_, o = .returned vr_ ∧ QS Z (own_cut cs 0) h0 n0 vr_ U'.heap Lr_ ∧ CHr Z own_EL U.vm U.heap U'.vm U'.heap ∧ ReturnedEndW U o U' Lr_ 4 22) := by
  refine MetFree.of_bodySF (plainFor_of_name own_pn_com_example_restate_restate_TargetIsAttachedPinLaw) hisR ?_
  intro p e s m args below meth c s₁ Bd hml0 hP hK
  obtain ⟨rfl, hZ, hh, hCH0⟩ := hP
  have hx := Bd.exec
  have hby := Bd.bytes
  have hml : c.maxLocals = 2 := hml0
  have hown : s.vm.findClass "com/example/restate/restate/TargetIsAttachedPinLaw" = some m.cls := findClass_of_methodNamed Bd.named
  have hnm := (name_of_methodNamed Bd.named Bd.method).1
  have X0 : Stand p l e ({ frames := 4, cells := 4, slots := 22, locals := 66 } : Room) (s.setVm s.vm) m #[(.ref a1), (.int p2)] below meth c s₁ [] 0 0 := Stand.of_body Bd
  have e0 : s₁.heap = h0 := by rw [← hh, Bd.state]; rfl
  have N0 := Fr.nil n0
  have CH0 : CHr Z own_EL s.vm h0 s.vm h0 := CHr.refl hCH0
  have hS0 : s.Since s.vm 0 := State.WarmedH.since (State.WarmedH.refl s) 0
  have pre0 : ∀ t, Steps p.tables e below (s₁.setTop (mkF m 0 #[.val (.ref a1), .val (.int p2)] [])) t → Steps p.tables e below (s₁.setTop (entryFrame m #[(.ref a1), (.int p2)] 2)) t := fun t k => castTop (own_ef_method_4_code_xx m a1 p2) k
  obtain ⟨T1, h1, X1, e1, E1, A1, D1, -, st1⟩ := newO X0 hx hZ hown (hw _ (List.mem_of_getElem? (i := 52) rfl)) (hw _ (List.mem_of_getElem? (i := 2) rfl)) (hw _ (List.mem_of_getElem? (i := 1) rfl)) e0 (g := (mkF m 4 #[.val (.ref a1), .val (.int p2)] [])) rfl (hb hby own_d_method_4_code_4) (by decide) (by decide)
  obtain ⟨b1, g1⟩ : ∃ z, z = h0.size := ⟨_, rfl⟩
  rw [← g1] at A1 D1 st1
  have sz_b1 : h0.size ≤ b1 := Nat.le_trans (Keep.refl h0 []).1 (Nat.le_of_eq g1.symm)
  have g_b1 : n0 ≤ b1 := Nat.le_trans Z0 sz_b1
  have CH1 : CHr Z own_EL s.vm h0 s.vm h1 := CH0.trans (CHr.ext E1 CH0.1)
  have K1 : Keep h0 h1 [] := (Keep.refl h0 []).ext E1
  have F_value_b1 : Fld Z h1 b1 "java/lang/String" "value" "[B" .null := D1 (Or.inr (hw _ (List.mem_of_getElem? (i := 4) rfl))) (ty := (.array .byte)) (by decide)
  have F_coder_b1 : Fld Z h1 b1 "java/lang/String" "coder" "B" (.int (0 : Int32)) := D1 (Or.inr (hw _ (List.mem_of_getElem? (i := 5) rfl))) (ty := .byte) (by decide)
  have Sf1 : Safe Z own_EL s.vm h1 b1 := Safe.ext E1 CH0.1 (Safe.new (Nat.le_of_eq g1.symm))
  obtain ⟨T2, h2, ka2, X2, e2, E2, A2, st2⟩ := newP X1 hx hZ (hw _ (List.mem_of_getElem? (i := 22) rfl)) e1 (g := (mkF m 9 #[.val (.ref a1), .val (.int p2)] [(.int (0 : Int32)), (.ref b1), (.ref b1)])) rfl (hb hby own_d_method_4_code_9) rfl (by decide) (cap := 0) (by decide) (by decide) (by decide) (by decide)
  obtain ⟨b2, g2⟩ : ∃ z, z = h1.size := ⟨_, rfl⟩
  rw [← g2] at A2 st2
  have sz_b2 : h0.size ≤ b2 := Nat.le_trans K1.1 (Nat.le_of_eq g2.symm)
  have g_b2 : n0 ≤ b2 := Nat.le_trans Z0 sz_b2
  have CH2 : CHr Z own_EL s.vm h0 s.vm h2 := CH1.trans (CHr.ext E2 CH1.1)
  have K2 : Keep h0 h2 [] := K1.ext E2
  have V_b2 : Arv Z h2 b2 ka2 .char (0 : Int32) [] (.int (0 : Int32)) := (Arv.new A2 (by decide)).pad (pad_rep [] (.int (0 : Int32)) 0)
  have f4 : Exa Z h2 b1 "java/lang/String" := (A1.ext E2)
  have f5 : Fld Z h2 b1 "java/lang/String" "value" "[B" .null := (F_value_b1.ext E2)
  have f6 : Fld Z h2 b1 "java/lang/String" "coder" "B" (.int (0 : Int32)) := (F_coder_b1.ext E2)
  have f7 : Safe Z own_EL s.vm h2 b1 := (Safe.ext E2 CH1.1 Sf1)
  obtain ⟨_, _, ⟨T3, L3, k3, n3⟩, -, X3', hs3, hg3, ⟨Lc3, hQ3, l3, y3, z3, C3⟩, st3⟩ := X2.specialBackS hx (y := (⟨"java/lang/String", "<init>", "([C)V"⟩ : MethodName)) rfl hown (mvT hZ (hw _ (List.mem_of_getElem? (i := 53) rfl))) (mvT hZ (hw _ (List.mem_of_getElem? (i := 54) rfl))) (mvT hZ (hw _ (List.mem_of_getElem? (i := 55) rfl))) (by decide) (own_backSHs (x := b1) (W := 1) (rmE1 l Z a0 hw [] hEL b1 b2 .null (.int (0 : Int32)) ka2 [] (.int (0 : Int32)) h2 n0 (Nat.le_trans Z0 K2.1) f4 f5 f6 g_b1 V_b2) hZ (hw _ (List.mem_of_getElem? (i := 55) rfl)) (hw _ (List.mem_of_getElem? (i := 1) rfl)) (by decide) (by decide) hEL CH2.1 f4.lt f7) (g := (mkF m 11 #[.val (.ref a1), .val (.int p2)] [(.ref b2), (.ref b1), (.ref b1)])) rfl (by rw [hml]; rfl) (Steps.refl _) (a := b1) (argsL := [(.ref b2)]) (rest := [(.ref b1)]) (lenOf own_pd___C_V rfl) rfl (by show 2 * 0 + _ ≤ _; exact Nat.le_of_eq rfl) (hb hby own_d_method_4_code_11) (fun _ _ => ⟨rfl, e2, (by decide : 2 + 2 ≤ _), (by decide : 4 + 4 ≤ _)⟩)
  dsimp only [Pt.U, Pt.locs, Pt.cells, Pt.slots] at X3' l3 y3 z3 st3 hQ3 C3 hs3 hg3
  rw [l3] at X3'
  clear l3; subst y3 z3
  obtain ⟨X3, hS3, hZ3, hown3⟩ := rebS hS0 (by rw [e2]; exact (Nat.zero_le _)) X3' hs3 hg3 hZ hown
  obtain ⟨rfl, N3q, K3q, SV3⟩ := hQ3
  have N3a := Fr.app N0 N3q
  have CH3 : CHr Z own_EL s.vm h0 T3.vm T3.heap := CH2.trans C3
  have K3 : Keep h0 T3.heap [] := K2.trans K3q (allS (Or.inr sz_b1) all0)
  obtain ⟨fs, hr, hrun, hended, hend⟩ := X3.leaveW hS3 (Nat.le_refl _) (v := some (.ref b1)) (fun h => by rw [Bd.returns] at h; cases h)
  refine ⟨_, _, pre0 _ ?_, hrun, hended, _, _, rfl, ?_, ?_, hend.1, hend.2.1, hend.2.2.1, hend.2.2.2.mono (by decide) (by decide)⟩
  · show Steps p.tables e below (s₁.setTop (mkF m 0 #[.val (.ref a1), .val (.int p2)] [])) _
    refine XS.iloadN X0.here hx rfl (hb hby own_d_method_4_code_0) rfl ?_
    show Steps p.tables e below (s₁.setTop (mkF m 1 #[.val (.ref a1), .val (.int p2)] [(.int p2)])) _
    refine XS.ifNo X0.here hx rfl (hb hby own_d_method_4_code_1) rfl ((if0 _ _).trans (teq hc1).2) ?_
    show Steps p.tables e below (s₁.setTop (mkF m 4 #[.val (.ref a1), .val (.int p2)] [])) _
    refine st1 _ ?_
    refine XS.dup X1.here hx rfl (hb hby own_d_method_4_code_7) rfl rfl ?_
    refine XS.iconst X1.here hx rfl (hb hby own_d_method_4_code_8) ?_
    show Steps p.tables e below (T1.setTop (mkF m 9 #[.val (.ref a1), .val (.int p2)] [(.int (0 : Int32)), (.ref b1), (.ref b1)])) _
    refine st2 _ ?_
    show Steps p.tables e below (T2.setTop (mkF m 11 #[.val (.ref a1), .val (.int p2)] [(.ref b2), (.ref b1), (.ref b1)])) _
    refine st3.trans ?_
    show Steps p.tables e below (T3.setTop (mkF m 14 #[.val (.ref a1), .val (.int p2)] [(.ref b1)])) _
    jvm_step X3.here [X3.here.top, hx, (hb hby own_d_method_4_code_14), X3.method', Bd.returns, Value.isRef, FieldType.isReference]
    first | (intro acts; rw [hr _ acts rfl rfl rfl]) | rw [hr _ _ rfl rfl rfl]
    exact Steps.refl _
  · show QS Z (own_cut cs 0) h0 n0 _ T3.heap _
    exact ⟨b1, rfl, N3a, K3, SV3⟩
  · show CHr Z own_EL s.vm s.heap T3.vm T3.heap
    rw [hh]
    exact CH3.trans (CHv.at X3 hZ3 hEL CH3.1)
theorem own_d_method_4_code_15 : decode method_4_code 15 = .ok (.iload_n 1, 1) := by decide +kernel
theorem own_d_method_4_code_16 : decode method_4_code 16 = .ok (.iconst 1, 1) := by decide +kernel
theorem own_d_method_4_code_17 : decode method_4_code 17 = .ok (.if_icmp .ne 20, 3) := by decide +kernel
theorem own_d_method_4_code_20 : decode method_4_code 20 = .ok (.new 12, 3) := by decide +kernel
theorem own_d_method_4_code_23 : decode method_4_code 23 = .ok (.dup, 1) := by decide +kernel
theorem own_d_method_4_code_24 : decode method_4_code 24 = .ok (.iconst 1, 1) := by decide +kernel
theorem own_d_method_4_code_25 : decode method_4_code 25 = .ok (.newarray .char, 2) := by decide +kernel
theorem own_d_method_4_code_27 : decode method_4_code 27 = .ok (.dup, 1) := by decide +kernel
theorem own_d_method_4_code_28 : decode method_4_code 28 = .ok (.iconst 0, 1) := by decide +kernel
theorem own_d_method_4_code_29 : decode method_4_code 29 = .ok (.aload_n 0, 1) := by decide +kernel
theorem own_d_method_4_code_30 : decode method_4_code 30 = .ok (.iconst 0, 1) := by decide +kernel
theorem own_d_method_4_code_31 : decode method_4_code 31 = .ok (.caload, 1) := by decide +kernel
theorem own_d_method_4_code_32 : decode method_4_code 32 = .ok (.castore, 1) := by decide +kernel
theorem own_d_method_4_code_33 : decode method_4_code 33 = .ok (.invokespecial 45, 3) := by decide +kernel
theorem own_d_method_4_code_36 : decode method_4_code 36 = .ok (.areturn, 1) := by decide +kernel
set_option maxRecDepth 65536 in
set_option maxHeartbeats 40000000 in
theorem rc1 (l : Launch) (Z : State) (a0 : Array Value) (hw : ∀ d ∈ tables_1, d.before a0 Z = true) (ws : List Jvm.Cond) (hEL : EW Z a0 own_EL) (a1 : Addr) (p2 : Int32) (cs : List Int32) (kc : ClassId) (G1 : Int32) (G3 : Value) (h0 : Heap) (n0 : Nat) (Z0 : n0 ≤ h0.size) (O2 : Sta Z Z.heap "java/lang/String" "COMPACT_STRINGS" "Z" (.int G1)) (P5 : ¬ (G1 = (0 : Int32))) (O4 : Sta Z Z.heap "jdk/internal/util/Preconditions" "SIOOBE_FORMATTER" "Ljava/util/function/BiFunction;" G3) (rG3 : G3.isRef = true) (O0 : Old Z n0 h0) (V_a1 : Arv Z h0 a1 kc .char (9 : Int32) (cs.map Value.int) (.int (0 : Int32))) (hlat : ∀ c ∈ cs, Lat c) (hc1 : ¬ (p2 = (0 : Int32))) (hc17 : p2 = (1 : Int32)) :
    MetFree l (⟨"com/example/restate/restate/TargetIsAttachedPinLaw", "cut", "([CI)Ljava/lang/String;"⟩ : MethodName) (head1 (Jvm.Cond.code (⟨"com/example/restate/restate/TargetIsAttachedPinLaw", "cut", "([CI)Ljava/lang/String;"⟩ : MethodName) method_4_code 2 (some (.object "java/lang/String")) :: ws) ({ frames := 4, cells := 4, slots := 22, locals := 66 } : Room)) (fun a U => a = #[(.ref a1), (.int p2)] ∧ Z.Warmed39 U.vm ∧ U.heap = h0 ∧ CHv Z own_EL U.vm h0) (fun _ _ _ _ _ => True) (fun _ U o U' => ∃ vr_ Lr_, o = .returned vr_ ∧ QS Z (own_cut cs 1) h0 n0 vr_ U'.heap Lr_ ∧ CHr Z own_EL U.vm U.heap U'.vm U'.heap ∧ ReturnedEndW U o U' Lr_ 4 22) := by
  refine MetFree.of_bodySF (plainFor_of_name own_pn_com_example_restate_restate_TargetIsAttachedPinLaw) hisR ?_
  intro p e s m args below meth c s₁ Bd hml0 hP hK
  obtain ⟨rfl, hZ, hh, hCH0⟩ := hP
  have hx := Bd.exec
  have hby := Bd.bytes
  have hml : c.maxLocals = 2 := hml0
  have hown : s.vm.findClass "com/example/restate/restate/TargetIsAttachedPinLaw" = some m.cls := findClass_of_methodNamed Bd.named
  have hnm := (name_of_methodNamed Bd.named Bd.method).1
  have X0 : Stand p l e ({ frames := 4, cells := 4, slots := 22, locals := 66 } : Room) (s.setVm s.vm) m #[(.ref a1), (.int p2)] below meth c s₁ [] 0 0 := Stand.of_body Bd
  have e0 : s₁.heap = h0 := by rw [← hh, Bd.state]; rfl
  have N0 := Fr.nil n0
  have CH0 : CHr Z own_EL s.vm h0 s.vm h0 := CHr.refl hCH0
  have hS0 : s.Since s.vm 0 := State.WarmedH.since (State.WarmedH.refl s) 0
  have pre0 : ∀ t, Steps p.tables e below (s₁.setTop (mkF m 0 #[.val (.ref a1), .val (.int p2)] [])) t → Steps p.tables e below (s₁.setTop (entryFrame m #[(.ref a1), (.int p2)] 2)) t := fun t k => castTop (own_ef_method_4_code_xx m a1 p2) k
  obtain ⟨T1, h1, X1, e1, E1, A1, D1, -, st1⟩ := newO X0 hx hZ hown (hw _ (List.mem_of_getElem? (i := 52) rfl)) (hw _ (List.mem_of_getElem? (i := 2) rfl)) (hw _ (List.mem_of_getElem? (i := 1) rfl)) e0 (g := (mkF m 20 #[.val (.ref a1), .val (.int p2)] [])) rfl (hb hby own_d_method_4_code_20) (by decide) (by decide)
  obtain ⟨b1, g1⟩ : ∃ z, z = h0.size := ⟨_, rfl⟩
  rw [← g1] at A1 D1 st1
  have sz_b1 : h0.size ≤ b1 := Nat.le_trans (Keep.refl h0 []).1 (Nat.le_of_eq g1.symm)
  have g_b1 : n0 ≤ b1 := Nat.le_trans Z0 sz_b1
  have CH1 : CHr Z own_EL s.vm h0 s.vm h1 := CH0.trans (CHr.ext E1 CH0.1)
  have K1 : Keep h0 h1 [] := (Keep.refl h0 []).ext E1
  have F_value_b1 : Fld Z h1 b1 "java/lang/String" "value" "[B" .null := D1 (Or.inr (hw _ (List.mem_of_getElem? (i := 4) rfl))) (ty := (.array .byte)) (by decide)
  have F_coder_b1 : Fld Z h1 b1 "java/lang/String" "coder" "B" (.int (0 : Int32)) := D1 (Or.inr (hw _ (List.mem_of_getElem? (i := 5) rfl))) (ty := .byte) (by decide)
  have Sf1 : Safe Z own_EL s.vm h1 b1 := Safe.ext E1 CH0.1 (Safe.new (Nat.le_of_eq g1.symm))
  obtain ⟨T2, h2, ka2, X2, e2, E2, A2, st2⟩ := newP X1 hx hZ (hw _ (List.mem_of_getElem? (i := 22) rfl)) e1 (g := (mkF m 25 #[.val (.ref a1), .val (.int p2)] [(.int (1 : Int32)), (.ref b1), (.ref b1)])) rfl (hb hby own_d_method_4_code_25) rfl (by decide) (cap := 1) (by decide) (by decide) (by decide) (by decide)
  obtain ⟨b2, g2⟩ : ∃ z, z = h1.size := ⟨_, rfl⟩
  rw [← g2] at A2 st2
  have sz_b2 : h0.size ≤ b2 := Nat.le_trans K1.1 (Nat.le_of_eq g2.symm)
  have g_b2 : n0 ≤ b2 := Nat.le_trans Z0 sz_b2
  have CH2 : CHr Z own_EL s.vm h0 s.vm h2 := CH1.trans (CHr.ext E2 CH1.1)
  have K2 : Keep h0 h2 [] := K1.ext E2
  have V_b2 : Arv Z h2 b2 ka2 .char (1 : Int32) [(.int (0 : Int32))] (.int (0 : Int32)) := (Arv.new A2 (by decide)).pad (pad_rep [] (.int (0 : Int32)) 1)
  have f3 : Arv Z h2 a1 kc .char (9 : Int32) (cs.map Value.int) (.int (0 : Int32)) := ((V_a1.ext E1).ext E2)
  obtain ⟨cl4, Ar4, q4, S4, N_4, H_4, G4⟩ := id f3
  have hin4 : ¬ ((0 : Int32) < 0 ∨ cl4.slots.size ≤ ((0 : Int32)).toNatClampNeg) := inb_of S4 ⟨by decide, by decide⟩
  have hat4 : cl4.slots[((0 : Int32)).toNatClampNeg]? = some (.int (cs.getD 0 0)) := H_4.at hin4 (own_getD cs 0)
  obtain ⟨cl5, Ar5, q5, S5, N_5, H_5, G5⟩ := id V_b2
  obtain ⟨T6, h6, X6, e6, W6, st6⟩ := stC X2 hx hZ e2 Ar5 (j := (0 : Int32)) (inb_of S5 ⟨by decide, by decide⟩) (g := (mkF m 32 #[.val (.ref a1), .val (.int p2)] [(.int (cs.getD 0 0)), (.int (0 : Int32)), (.ref b2), (.ref b2), (.ref b1), (.ref b1)])) rfl rfl (hb hby own_d_method_4_code_32)
  have V6_b2 : Arv Z h6 b2 ka2 .char (1 : Int32) [(.int (nar .char (cs.getD 0 0)))] (.int (0 : Int32)) := Arv.set Ar5 q5 S5 N_5 H_5 G5 (fits_nar_char _) W6 0 rfl (Nat.le_of_ble_eq_true rfl)
  have Nf6 := Fr.snoc X6 N0 g_b2
  have CH3 : CHr Z own_EL s.vm h0 s.vm h6 := CH2.trans (CHr.wr W6 (own_safeV (hZ : Z.Warmed39 s.vm).alike V_b2 (by decide)) CH2.1)
  have K3 : Keep h0 h6 [] := K2.wr W6 (Or.inr sz_b2)
  have f8 : Exa Z h6 b1 "java/lang/String" := ((A1.ext E2).wr W6)
  have f9 : Fld Z h6 b1 "java/lang/String" "value" "[B" .null := ((F_value_b1.ext E2).other W6 (Or.inl (Nat.ne_of_lt (Nat.lt_of_lt_of_le A1.lt (Nat.le_of_eq g2.symm)))))
  have f10 : Fld Z h6 b1 "java/lang/String" "coder" "B" (.int (0 : Int32)) := ((F_coder_b1.ext E2).other W6 (Or.inl (Nat.ne_of_lt (Nat.lt_of_lt_of_le A1.lt (Nat.le_of_eq g2.symm)))))
  have f11 : Old Z n0 h6 := (((O0.ext E1).ext E2).wr W6 g_b2)
  obtain ⟨_, _, ⟨T7, L7, k7, n7⟩, -, X7, ⟨Lc7, hQ7, l7, y7, z7⟩, st7⟩ := X6.specialBack hx (y := (⟨"java/lang/String", "<init>", "([C)V"⟩ : MethodName)) rfl hown (mvT hZ (hw _ (List.mem_of_getElem? (i := 53) rfl))) (mvT hZ (hw _ (List.mem_of_getElem? (i := 54) rfl))) (mvT hZ (hw _ (List.mem_of_getElem? (i := 55) rfl))) (by decide) (StrChars.Road.backV (W := 1) hZ (own_hws hw) (kI := 4) (hw _ (List.mem_of_getElem? (i := 2) rfl)) (cs := ([(nar .char (cs.getD 0 0))] : List Int32)) (bs := (([(nar .char (cs.getD 0 0))] : List Int32)).map (fun c => c.toInt8.toInt32)) (n := 1) g_b1 (Nat.le_trans Z0 K3.1) f8 f9 f10 (V6_b2 : Arv Z h6 b2 ka2 .char (Int32.ofNat 1) (([(nar .char (cs.getD 0 0))] : List Int32).map Value.int) _) (O2.ext f11.2) P5 rfl rfl (by decide) (by decide) (own_cut_lat hlat 1) rfl (by decide) (by decide)) (g := (mkF m 33 #[.val (.ref a1), .val (.int p2)] [(.ref b2), (.ref b1), (.ref b1)])) rfl (by rw [hml]; rfl) (Steps.refl _) (a := b1) (argsL := [(.ref b2)]) (rest := [(.ref b1)]) (lenOf own_pd___C_V rfl) rfl (by show 2 * 0 + _ ≤ _; exact Nat.le_of_eq rfl) (hb hby own_d_method_4_code_33) (fun _ _ => ⟨rfl, e6, (by decide : 2 + 1 ≤ _), (by decide : 5 + 1 ≤ _)⟩)
  dsimp only [Pt.U, Pt.locs, Pt.cells, Pt.slots] at X7 l7 y7 z7 st7 hQ7
  rw [l7] at X7
  clear l7; subst y7 z7
  obtain ⟨rfl, N7q, K7q, E7q, gc7, t7, kb7, -, -, -, gv7, ga7⟩ := hQ7
  have N7a := Fr.app Nf6 N7q
  have f12 : Safe Z own_EL s.vm h6 b1 := (Safe.wr W6 (own_safeV (hZ : Z.Warmed39 s.vm).alike V_b2 (by decide)) CH2.1 (Safe.ext E2 CH1.1 Sf1))
  have CH4 : CHr Z own_EL s.vm h0 s.vm T7.heap := CH3.trans (CHr.keep K7q (allS f12 all0) CH3.1)
  have K4 : Keep h0 T7.heap [] := K3.trans K7q (allS (Or.inr sz_b1) all0)
  have SV7 : StrV Z T7.heap b1 ([(nar .char (cs.getD 0 0))] : List Int32) := own_mkStr rfl (own_cut_lat hlat 1) E7q gc7 gv7 ga7
  obtain ⟨fs, hr, hrun, hended, hend⟩ := X7.leaveW hS0 (Nat.zero_le _) (v := some (.ref b1)) (fun h => by rw [Bd.returns] at h; cases h)
  refine ⟨_, _, pre0 _ ?_, hrun, hended, _, _, rfl, ?_, ?_, hend.1, hend.2.1, hend.2.2.1, hend.2.2.2.mono (by decide) (by decide)⟩
  · show Steps p.tables e below (s₁.setTop (mkF m 0 #[.val (.ref a1), .val (.int p2)] [])) _
    refine XS.iloadN X0.here hx rfl (hb hby own_d_method_4_code_0) rfl ?_
    show Steps p.tables e below (s₁.setTop (mkF m 1 #[.val (.ref a1), .val (.int p2)] [(.int p2)])) _
    refine XS.ifYes X0.here hx rfl (pc0 := 1) (pc' := 15) rfl (hb hby own_d_method_4_code_1) rfl ((if0 _ _).trans (feq hc1).2) (by decide) (by decide) ?_
    refine XS.iloadN X0.here hx rfl (hb hby own_d_method_4_code_15) rfl ?_
    refine XS.iconst X0.here hx rfl (hb hby own_d_method_4_code_16) ?_
    show Steps p.tables e below (s₁.setTop (mkF m 17 #[.val (.ref a1), .val (.int p2)] [(.int (1 : Int32)), (.int p2)])) _
    refine XS.icmpNo X0.here hx rfl (hb hby own_d_method_4_code_17) rfl (teq hc17).2 ?_
    show Steps p.tables e below (s₁.setTop (mkF m 20 #[.val (.ref a1), .val (.int p2)] [])) _
    refine st1 _ ?_
    refine XS.dup X1.here hx rfl (hb hby own_d_method_4_code_23) rfl rfl ?_
    refine XS.iconst X1.here hx rfl (hb hby own_d_method_4_code_24) ?_
    show Steps p.tables e below (T1.setTop (mkF m 25 #[.val (.ref a1), .val (.int p2)] [(.int (1 : Int32)), (.ref b1), (.ref b1)])) _
    refine st2 _ ?_
    refine XS.dup X2.here hx rfl (hb hby own_d_method_4_code_27) rfl rfl ?_
    refine XS.iconst X2.here hx rfl (hb hby own_d_method_4_code_28) ?_
    show Steps p.tables e below (T2.setTop (mkF m 29 #[.val (.ref a1), .val (.int p2)] [(.int (0 : Int32)), (.ref b2), (.ref b2), (.ref b1), (.ref b1)])) _
    refine XS.aloadN X2.here hx rfl (hb hby own_d_method_4_code_29) rfl rfl ?_
    refine XS.iconst X2.here hx rfl (hb hby own_d_method_4_code_30) ?_
    show Steps p.tables e below (T2.setTop (mkF m 31 #[.val (.ref a1), .val (.int p2)] [(.int (0 : Int32)), (.ref a1), (.int (0 : Int32)), (.ref b2), (.ref b2), (.ref b1), (.ref b1)])) _
    refine X2.caload hx (j := (0 : Int32)) (v := (.int (cs.getD 0 0))) (by rw [e2]; exact Ar4.1) (State.isArrayOf_alike hZ.alike Ar4.2.1) Ar4.2.2 hin4 hat4 (g := (mkF m 31 #[.val (.ref a1), .val (.int p2)] [(.int (0 : Int32)), (.ref a1), (.int (0 : Int32)), (.ref b2), (.ref b2), (.ref b1), (.ref b1)])) rfl rfl (hb hby own_d_method_4_code_31) _ ?_
    show Steps p.tables e below (T2.setTop (mkF m 32 #[.val (.ref a1), .val (.int p2)] [(.int (cs.getD 0 0)), (.int (0 : Int32)), (.ref b2), (.ref b2), (.ref b1), (.ref b1)])) _
    refine st6 _ ?_
    show Steps p.tables e below (T6.setTop (mkF m 33 #[.val (.ref a1), .val (.int p2)] [(.ref b2), (.ref b1), (.ref b1)])) _
    refine st7.trans ?_
    show Steps p.tables e below (T7.setTop (mkF m 36 #[.val (.ref a1), .val (.int p2)] [(.ref b1)])) _
    jvm_step X7.here [X7.here.top, hx, (hb hby own_d_method_4_code_36), X7.method', Bd.returns, Value.isRef, FieldType.isReference]
    first | (intro acts; rw [hr _ acts rfl rfl rfl]) | rw [hr _ _ rfl rfl rfl]
    exact Steps.refl _
  · show QS Z (own_cut cs 1) h0 n0 _ T7.heap _
    exact ⟨b1, rfl, N7a, K4, SV7⟩
  · show CHr Z own_EL s.vm s.heap T7.vm T7.heap
    rw [hh]
    exact CH4.trans (CHv.at X7 hZ hEL CH4.1)
theorem own_d_method_4_code_37 : decode method_4_code 37 = .ok (.iload_n 1, 1) := by decide +kernel
theorem own_d_method_4_code_38 : decode method_4_code 38 = .ok (.iconst 2, 1) := by decide +kernel
theorem own_d_method_4_code_39 : decode method_4_code 39 = .ok (.if_icmp .ne 26, 3) := by decide +kernel
theorem own_d_method_4_code_42 : decode method_4_code 42 = .ok (.new 12, 3) := by decide +kernel
theorem own_d_method_4_code_45 : decode method_4_code 45 = .ok (.dup, 1) := by decide +kernel
theorem own_d_method_4_code_46 : decode method_4_code 46 = .ok (.iconst 2, 1) := by decide +kernel
theorem own_d_method_4_code_47 : decode method_4_code 47 = .ok (.newarray .char, 2) := by decide +kernel
theorem own_d_method_4_code_49 : decode method_4_code 49 = .ok (.dup, 1) := by decide +kernel
theorem own_d_method_4_code_50 : decode method_4_code 50 = .ok (.iconst 0, 1) := by decide +kernel
theorem own_d_method_4_code_51 : decode method_4_code 51 = .ok (.aload_n 0, 1) := by decide +kernel
theorem own_d_method_4_code_52 : decode method_4_code 52 = .ok (.iconst 0, 1) := by decide +kernel
theorem own_d_method_4_code_53 : decode method_4_code 53 = .ok (.caload, 1) := by decide +kernel
theorem own_d_method_4_code_54 : decode method_4_code 54 = .ok (.castore, 1) := by decide +kernel
theorem own_d_method_4_code_55 : decode method_4_code 55 = .ok (.dup, 1) := by decide +kernel
theorem own_d_method_4_code_56 : decode method_4_code 56 = .ok (.iconst 1, 1) := by decide +kernel
theorem own_d_method_4_code_57 : decode method_4_code 57 = .ok (.aload_n 0, 1) := by decide +kernel
theorem own_d_method_4_code_58 : decode method_4_code 58 = .ok (.iconst 1, 1) := by decide +kernel
theorem own_d_method_4_code_59 : decode method_4_code 59 = .ok (.caload, 1) := by decide +kernel
theorem own_d_method_4_code_60 : decode method_4_code 60 = .ok (.castore, 1) := by decide +kernel
theorem own_d_method_4_code_61 : decode method_4_code 61 = .ok (.invokespecial 45, 3) := by decide +kernel
theorem own_d_method_4_code_64 : decode method_4_code 64 = .ok (.areturn, 1) := by decide +kernel
set_option maxRecDepth 65536 in
set_option maxHeartbeats 40000000 in
theorem rc2 (l : Launch) (Z : State) (a0 : Array Value) (hw : ∀ d ∈ tables_1, d.before a0 Z = true) (ws : List Jvm.Cond) (hEL : EW Z a0 own_EL) (a1 : Addr) (p2 : Int32) (cs : List Int32) (kc : ClassId) (G1 : Int32) (G3 : Value) (h0 : Heap) (n0 : Nat) (Z0 : n0 ≤ h0.size) (O2 : Sta Z Z.heap "java/lang/String" "COMPACT_STRINGS" "Z" (.int G1)) (P5 : ¬ (G1 = (0 : Int32))) (O4 : Sta Z Z.heap "jdk/internal/util/Preconditions" "SIOOBE_FORMATTER" "Ljava/util/function/BiFunction;" G3) (rG3 : G3.isRef = true) (O0 : Old Z n0 h0) (V_a1 : Arv Z h0 a1 kc .char (9 : Int32) (cs.map Value.int) (.int (0 : Int32))) (hlat : ∀ c ∈ cs, Lat c) (hc1 : ¬ (p2 = (0 : Int32))) (hc17 : ¬ (p2 = (1 : Int32))) (hc39 : p2 = (2 : Int32)) :
    MetFree l (⟨"com/example/restate/restate/TargetIsAttachedPinLaw", "cut", "([CI)Ljava/lang/String;"⟩ : MethodName) (head1 (Jvm.Cond.code (⟨"com/example/restate/restate/TargetIsAttachedPinLaw", "cut", "([CI)Ljava/lang/String;"⟩ : MethodName) method_4_code 2 (some (.object "java/lang/String")) :: ws) ({ frames := 4, cells := 4, slots := 22, locals := 66 } : Room)) (fun a U => a = #[(.ref a1), (.int p2)] ∧ Z.Warmed39 U.vm ∧ U.heap = h0 ∧ CHv Z own_EL U.vm h0) (fun _ _ _ _ _ => True) (fun _ U o U' => ∃ vr_ Lr_, o = .returned vr_ ∧ QS Z (own_cut cs 2) h0 n0 vr_ U'.heap Lr_ ∧ CHr Z own_EL U.vm U.heap U'.vm U'.heap ∧ ReturnedEndW U o U' Lr_ 4 22) := by
  refine MetFree.of_bodySF (plainFor_of_name own_pn_com_example_restate_restate_TargetIsAttachedPinLaw) hisR ?_
  intro p e s m args below meth c s₁ Bd hml0 hP hK
  obtain ⟨rfl, hZ, hh, hCH0⟩ := hP
  have hx := Bd.exec
  have hby := Bd.bytes
  have hml : c.maxLocals = 2 := hml0
  have hown : s.vm.findClass "com/example/restate/restate/TargetIsAttachedPinLaw" = some m.cls := findClass_of_methodNamed Bd.named
  have hnm := (name_of_methodNamed Bd.named Bd.method).1
  have X0 : Stand p l e ({ frames := 4, cells := 4, slots := 22, locals := 66 } : Room) (s.setVm s.vm) m #[(.ref a1), (.int p2)] below meth c s₁ [] 0 0 := Stand.of_body Bd
  have e0 : s₁.heap = h0 := by rw [← hh, Bd.state]; rfl
  have N0 := Fr.nil n0
  have CH0 : CHr Z own_EL s.vm h0 s.vm h0 := CHr.refl hCH0
  have hS0 : s.Since s.vm 0 := State.WarmedH.since (State.WarmedH.refl s) 0
  have pre0 : ∀ t, Steps p.tables e below (s₁.setTop (mkF m 0 #[.val (.ref a1), .val (.int p2)] [])) t → Steps p.tables e below (s₁.setTop (entryFrame m #[(.ref a1), (.int p2)] 2)) t := fun t k => castTop (own_ef_method_4_code_xx m a1 p2) k
  obtain ⟨T1, h1, X1, e1, E1, A1, D1, -, st1⟩ := newO X0 hx hZ hown (hw _ (List.mem_of_getElem? (i := 52) rfl)) (hw _ (List.mem_of_getElem? (i := 2) rfl)) (hw _ (List.mem_of_getElem? (i := 1) rfl)) e0 (g := (mkF m 42 #[.val (.ref a1), .val (.int p2)] [])) rfl (hb hby own_d_method_4_code_42) (by decide) (by decide)
  obtain ⟨b1, g1⟩ : ∃ z, z = h0.size := ⟨_, rfl⟩
  rw [← g1] at A1 D1 st1
  have sz_b1 : h0.size ≤ b1 := Nat.le_trans (Keep.refl h0 []).1 (Nat.le_of_eq g1.symm)
  have g_b1 : n0 ≤ b1 := Nat.le_trans Z0 sz_b1
  have CH1 : CHr Z own_EL s.vm h0 s.vm h1 := CH0.trans (CHr.ext E1 CH0.1)
  have K1 : Keep h0 h1 [] := (Keep.refl h0 []).ext E1
  have F_value_b1 : Fld Z h1 b1 "java/lang/String" "value" "[B" .null := D1 (Or.inr (hw _ (List.mem_of_getElem? (i := 4) rfl))) (ty := (.array .byte)) (by decide)
  have F_coder_b1 : Fld Z h1 b1 "java/lang/String" "coder" "B" (.int (0 : Int32)) := D1 (Or.inr (hw _ (List.mem_of_getElem? (i := 5) rfl))) (ty := .byte) (by decide)
  have Sf1 : Safe Z own_EL s.vm h1 b1 := Safe.ext E1 CH0.1 (Safe.new (Nat.le_of_eq g1.symm))
  obtain ⟨T2, h2, ka2, X2, e2, E2, A2, st2⟩ := newP X1 hx hZ (hw _ (List.mem_of_getElem? (i := 22) rfl)) e1 (g := (mkF m 47 #[.val (.ref a1), .val (.int p2)] [(.int (2 : Int32)), (.ref b1), (.ref b1)])) rfl (hb hby own_d_method_4_code_47) rfl (by decide) (cap := 2) (by decide) (by decide) (by decide) (by decide)
  obtain ⟨b2, g2⟩ : ∃ z, z = h1.size := ⟨_, rfl⟩
  rw [← g2] at A2 st2
  have sz_b2 : h0.size ≤ b2 := Nat.le_trans K1.1 (Nat.le_of_eq g2.symm)
  have g_b2 : n0 ≤ b2 := Nat.le_trans Z0 sz_b2
  have CH2 : CHr Z own_EL s.vm h0 s.vm h2 := CH1.trans (CHr.ext E2 CH1.1)
  have K2 : Keep h0 h2 [] := K1.ext E2
  have V_b2 : Arv Z h2 b2 ka2 .char (2 : Int32) [(.int (0 : Int32)), (.int (0 : Int32))] (.int (0 : Int32)) := (Arv.new A2 (by decide)).pad (pad_rep [] (.int (0 : Int32)) 2)
  have f3 : Arv Z h2 a1 kc .char (9 : Int32) (cs.map Value.int) (.int (0 : Int32)) := ((V_a1.ext E1).ext E2)
  obtain ⟨cl4, Ar4, q4, S4, N_4, H_4, G4⟩ := id f3
  have hin4 : ¬ ((0 : Int32) < 0 ∨ cl4.slots.size ≤ ((0 : Int32)).toNatClampNeg) := inb_of S4 ⟨by decide, by decide⟩
  have hat4 : cl4.slots[((0 : Int32)).toNatClampNeg]? = some (.int (cs.getD 0 0)) := H_4.at hin4 (own_getD cs 0)
  obtain ⟨cl5, Ar5, q5, S5, N_5, H_5, G5⟩ := id V_b2
  obtain ⟨T6, h6, X6, e6, W6, st6⟩ := stC X2 hx hZ e2 Ar5 (j := (0 : Int32)) (inb_of S5 ⟨by decide, by decide⟩) (g := (mkF m 54 #[.val (.ref a1), .val (.int p2)] [(.int (cs.getD 0 0)), (.int (0 : Int32)), (.ref b2), (.ref b2), (.ref b1), (.ref b1)])) rfl rfl (hb hby own_d_method_4_code_54)
  have V6_b2 : Arv Z h6 b2 ka2 .char (2 : Int32) [(.int (nar .char (cs.getD 0 0))), (.int (0 : Int32))] (.int (0 : Int32)) := Arv.set Ar5 q5 S5 N_5 H_5 G5 (fits_nar_char _) W6 0 rfl (Nat.le_of_ble_eq_true rfl)
  have Nf6 := Fr.snoc X6 N0 g_b2
  have CH3 : CHr Z own_EL s.vm h0 s.vm h6 := CH2.trans (CHr.wr W6 (own_safeV (hZ : Z.Warmed39 s.vm).alike V_b2 (by decide)) CH2.1)
  have K3 : Keep h0 h6 [] := K2.wr W6 (Or.inr sz_b2)
  have f7 : Arv Z h1 a1 kc .char (9 : Int32) (cs.map Value.int) (.int (0 : Int32)) := (V_a1.ext E1)
  have f8 : Arv Z h6 a1 kc .char (9 : Int32) (cs.map Value.int) (.int (0 : Int32)) := (f3.other W6 (Nat.ne_of_lt (Nat.lt_of_lt_of_le f7.lt (Nat.le_of_eq g2.symm))))
  obtain ⟨cl9, Ar9, q9, S9, N_9, H_9, G9⟩ := id f8
  have hin9 : ¬ ((1 : Int32) < 0 ∨ cl9.slots.size ≤ ((1 : Int32)).toNatClampNeg) := inb_of S9 ⟨by decide, by decide⟩
  have hat9 : cl9.slots[((1 : Int32)).toNatClampNeg]? = some (.int (cs.getD 1 0)) := H_9.at hin9 (own_getD cs 1)
  obtain ⟨cl10, Ar10, q10, S10, N_10, H_10, G10⟩ := id V6_b2
  obtain ⟨T11, h11, X11, e11, W11, st11⟩ := stC X6 hx hZ e6 Ar10 (j := (1 : Int32)) (inb_of S10 ⟨by decide, by decide⟩) (g := (mkF m 60 #[.val (.ref a1), .val (.int p2)] [(.int (cs.getD 1 0)), (.int (1 : Int32)), (.ref b2), (.ref b2), (.ref b1), (.ref b1)])) rfl rfl (hb hby own_d_method_4_code_60)
  have V11_b2 : Arv Z h11 b2 ka2 .char (2 : Int32) [(.int (nar .char (cs.getD 0 0))), (.int (nar .char (cs.getD 1 0)))] (.int (0 : Int32)) := Arv.set Ar10 q10 S10 N_10 H_10 G10 (fits_nar_char _) W11 1 rfl (Nat.le_of_ble_eq_true rfl)
  have Nf11 := Fr.snoc X11 Nf6 g_b2
  have CH4 : CHr Z own_EL s.vm h0 s.vm h11 := CH3.trans (CHr.wr W11 (own_safeV (hZ : Z.Warmed39 s.vm).alike V6_b2 (by decide)) CH3.1)
  have K4 : Keep h0 h11 [] := K3.wr W11 (Or.inr sz_b2)
  have f13 : Exa Z h11 b1 "java/lang/String" := (((A1.ext E2).wr W6).wr W11)
  have f14 : Fld Z h11 b1 "java/lang/String" "value" "[B" .null := (((F_value_b1.ext E2).other W6 (Or.inl (Nat.ne_of_lt (Nat.lt_of_lt_of_le A1.lt (Nat.le_of_eq g2.symm))))).other W11 (Or.inl (Nat.ne_of_lt (Nat.lt_of_lt_of_le A1.lt (Nat.le_of_eq g2.symm)))))
  have f15 : Fld Z h11 b1 "java/lang/String" "coder" "B" (.int (0 : Int32)) := (((F_coder_b1.ext E2).other W6 (Or.inl (Nat.ne_of_lt (Nat.lt_of_lt_of_le A1.lt (Nat.le_of_eq g2.symm))))).other W11 (Or.inl (Nat.ne_of_lt (Nat.lt_of_lt_of_le A1.lt (Nat.le_of_eq g2.symm)))))
  have f16 : Old Z n0 h11 := ((((O0.ext E1).ext E2).wr W6 g_b2).wr W11 g_b2)
  obtain ⟨_, _, ⟨T12, L12, k12, n12⟩, -, X12, ⟨Lc12, hQ12, l12, y12, z12⟩, st12⟩ := X11.specialBack hx (y := (⟨"java/lang/String", "<init>", "([C)V"⟩ : MethodName)) rfl hown (mvT hZ (hw _ (List.mem_of_getElem? (i := 53) rfl))) (mvT hZ (hw _ (List.mem_of_getElem? (i := 54) rfl))) (mvT hZ (hw _ (List.mem_of_getElem? (i := 55) rfl))) (by decide) (StrChars.Road.backV (W := 1) hZ (own_hws hw) (kI := 4) (hw _ (List.mem_of_getElem? (i := 2) rfl)) (cs := ([(nar .char (cs.getD 0 0)), (nar .char (cs.getD 1 0))] : List Int32)) (bs := (([(nar .char (cs.getD 0 0)), (nar .char (cs.getD 1 0))] : List Int32)).map (fun c => c.toInt8.toInt32)) (n := 2) g_b1 (Nat.le_trans Z0 K4.1) f13 f14 f15 (V11_b2 : Arv Z h11 b2 ka2 .char (Int32.ofNat 2) (([(nar .char (cs.getD 0 0)), (nar .char (cs.getD 1 0))] : List Int32).map Value.int) _) (O2.ext f16.2) P5 rfl rfl (by decide) (by decide) (own_cut_lat hlat 2) rfl (by decide) (by decide)) (g := (mkF m 61 #[.val (.ref a1), .val (.int p2)] [(.ref b2), (.ref b1), (.ref b1)])) rfl (by rw [hml]; rfl) (Steps.refl _) (a := b1) (argsL := [(.ref b2)]) (rest := [(.ref b1)]) (lenOf own_pd___C_V rfl) rfl (by show 2 * 0 + _ ≤ _; exact Nat.le_of_eq rfl) (hb hby own_d_method_4_code_61) (fun _ _ => ⟨rfl, e11, (by decide : 2 + 1 ≤ _), (by decide : 6 + 2 ≤ _)⟩)
  dsimp only [Pt.U, Pt.locs, Pt.cells, Pt.slots] at X12 l12 y12 z12 st12 hQ12
  rw [l12] at X12
  clear l12; subst y12 z12
  obtain ⟨rfl, N12q, K12q, E12q, gc12, t12, kb12, -, -, -, gv12, ga12⟩ := hQ12
  have N12a := Fr.app Nf11 N12q
  have f17 : Safe Z own_EL s.vm h11 b1 := (Safe.wr W11 (own_safeV (hZ : Z.Warmed39 s.vm).alike V6_b2 (by decide)) CH3.1 (Safe.wr W6 (own_safeV (hZ : Z.Warmed39 s.vm).alike V_b2 (by decide)) CH2.1 (Safe.ext E2 CH1.1 Sf1)))
  have CH5 : CHr Z own_EL s.vm h0 s.vm T12.heap := CH4.trans (CHr.keep K12q (allS f17 all0) CH4.1)
  have K5 : Keep h0 T12.heap [] := K4.trans K12q (allS (Or.inr sz_b1) all0)
  have SV12 : StrV Z T12.heap b1 ([(nar .char (cs.getD 0 0)), (nar .char (cs.getD 1 0))] : List Int32) := own_mkStr rfl (own_cut_lat hlat 2) E12q gc12 gv12 ga12
  obtain ⟨fs, hr, hrun, hended, hend⟩ := X12.leaveW hS0 (Nat.zero_le _) (v := some (.ref b1)) (fun h => by rw [Bd.returns] at h; cases h)
  refine ⟨_, _, pre0 _ ?_, hrun, hended, _, _, rfl, ?_, ?_, hend.1, hend.2.1, hend.2.2.1, hend.2.2.2.mono (by decide) (by decide)⟩
  · show Steps p.tables e below (s₁.setTop (mkF m 0 #[.val (.ref a1), .val (.int p2)] [])) _
    refine XS.iloadN X0.here hx rfl (hb hby own_d_method_4_code_0) rfl ?_
    show Steps p.tables e below (s₁.setTop (mkF m 1 #[.val (.ref a1), .val (.int p2)] [(.int p2)])) _
    refine XS.ifYes X0.here hx rfl (pc0 := 1) (pc' := 15) rfl (hb hby own_d_method_4_code_1) rfl ((if0 _ _).trans (feq hc1).2) (by decide) (by decide) ?_
    refine XS.iloadN X0.here hx rfl (hb hby own_d_method_4_code_15) rfl ?_
    refine XS.iconst X0.here hx rfl (hb hby own_d_method_4_code_16) ?_
    show Steps p.tables e below (s₁.setTop (mkF m 17 #[.val (.ref a1), .val (.int p2)] [(.int (1 : Int32)), (.int p2)])) _
    refine XS.icmpYes X0.here hx rfl (pc0 := 17) (pc' := 37) rfl (hb hby own_d_method_4_code_17) rfl (feq hc17).2 (by decide) (by decide) ?_
    refine XS.iloadN X0.here hx rfl (hb hby own_d_method_4_code_37) rfl ?_
    refine XS.iconst X0.here hx rfl (hb hby own_d_method_4_code_38) ?_
    show Steps p.tables e below (s₁.setTop (mkF m 39 #[.val (.ref a1), .val (.int p2)] [(.int (2 : Int32)), (.int p2)])) _
    refine XS.icmpNo X0.here hx rfl (hb hby own_d_method_4_code_39) rfl (teq hc39).2 ?_
    show Steps p.tables e below (s₁.setTop (mkF m 42 #[.val (.ref a1), .val (.int p2)] [])) _
    refine st1 _ ?_
    refine XS.dup X1.here hx rfl (hb hby own_d_method_4_code_45) rfl rfl ?_
    refine XS.iconst X1.here hx rfl (hb hby own_d_method_4_code_46) ?_
    show Steps p.tables e below (T1.setTop (mkF m 47 #[.val (.ref a1), .val (.int p2)] [(.int (2 : Int32)), (.ref b1), (.ref b1)])) _
    refine st2 _ ?_
    refine XS.dup X2.here hx rfl (hb hby own_d_method_4_code_49) rfl rfl ?_
    refine XS.iconst X2.here hx rfl (hb hby own_d_method_4_code_50) ?_
    show Steps p.tables e below (T2.setTop (mkF m 51 #[.val (.ref a1), .val (.int p2)] [(.int (0 : Int32)), (.ref b2), (.ref b2), (.ref b1), (.ref b1)])) _
    refine XS.aloadN X2.here hx rfl (hb hby own_d_method_4_code_51) rfl rfl ?_
    refine XS.iconst X2.here hx rfl (hb hby own_d_method_4_code_52) ?_
    show Steps p.tables e below (T2.setTop (mkF m 53 #[.val (.ref a1), .val (.int p2)] [(.int (0 : Int32)), (.ref a1), (.int (0 : Int32)), (.ref b2), (.ref b2), (.ref b1), (.ref b1)])) _
    refine X2.caload hx (j := (0 : Int32)) (v := (.int (cs.getD 0 0))) (by rw [e2]; exact Ar4.1) (State.isArrayOf_alike hZ.alike Ar4.2.1) Ar4.2.2 hin4 hat4 (g := (mkF m 53 #[.val (.ref a1), .val (.int p2)] [(.int (0 : Int32)), (.ref a1), (.int (0 : Int32)), (.ref b2), (.ref b2), (.ref b1), (.ref b1)])) rfl rfl (hb hby own_d_method_4_code_53) _ ?_
    show Steps p.tables e below (T2.setTop (mkF m 54 #[.val (.ref a1), .val (.int p2)] [(.int (cs.getD 0 0)), (.int (0 : Int32)), (.ref b2), (.ref b2), (.ref b1), (.ref b1)])) _
    refine st6 _ ?_
    refine XS.dup X6.here hx rfl (hb hby own_d_method_4_code_55) rfl rfl ?_
    refine XS.iconst X6.here hx rfl (hb hby own_d_method_4_code_56) ?_
    show Steps p.tables e below (T6.setTop (mkF m 57 #[.val (.ref a1), .val (.int p2)] [(.int (1 : Int32)), (.ref b2), (.ref b2), (.ref b1), (.ref b1)])) _
    refine XS.aloadN X6.here hx rfl (hb hby own_d_method_4_code_57) rfl rfl ?_
    refine XS.iconst X6.here hx rfl (hb hby own_d_method_4_code_58) ?_
    show Steps p.tables e below (T6.setTop (mkF m 59 #[.val (.ref a1), .val (.int p2)] [(.int (1 : Int32)), (.ref a1), (.int (1 : Int32)), (.ref b2), (.ref b2), (.ref b1), (.ref b1)])) _
    refine X6.caload hx (j := (1 : Int32)) (v := (.int (cs.getD 1 0))) (by rw [e6]; exact Ar9.1) (State.isArrayOf_alike hZ.alike Ar9.2.1) Ar9.2.2 hin9 hat9 (g := (mkF m 59 #[.val (.ref a1), .val (.int p2)] [(.int (1 : Int32)), (.ref a1), (.int (1 : Int32)), (.ref b2), (.ref b2), (.ref b1), (.ref b1)])) rfl rfl (hb hby own_d_method_4_code_59) _ ?_
    show Steps p.tables e below (T6.setTop (mkF m 60 #[.val (.ref a1), .val (.int p2)] [(.int (cs.getD 1 0)), (.int (1 : Int32)), (.ref b2), (.ref b2), (.ref b1), (.ref b1)])) _
    refine st11 _ ?_
    show Steps p.tables e below (T11.setTop (mkF m 61 #[.val (.ref a1), .val (.int p2)] [(.ref b2), (.ref b1), (.ref b1)])) _
    refine st12.trans ?_
    show Steps p.tables e below (T12.setTop (mkF m 64 #[.val (.ref a1), .val (.int p2)] [(.ref b1)])) _
    jvm_step X12.here [X12.here.top, hx, (hb hby own_d_method_4_code_64), X12.method', Bd.returns, Value.isRef, FieldType.isReference]
    first | (intro acts; rw [hr _ acts rfl rfl rfl]) | rw [hr _ _ rfl rfl rfl]
    exact Steps.refl _
  · show QS Z (own_cut cs 2) h0 n0 _ T12.heap _
    exact ⟨b1, rfl, N12a, K5, SV12⟩
  · show CHr Z own_EL s.vm s.heap T12.vm T12.heap
    rw [hh]
    exact CH5.trans (CHv.at X12 hZ hEL CH5.1)
theorem own_d_method_4_code_65 : decode method_4_code 65 = .ok (.iload_n 1, 1) := by decide +kernel
theorem own_d_method_4_code_66 : decode method_4_code 66 = .ok (.iconst 3, 1) := by decide +kernel
theorem own_d_method_4_code_67 : decode method_4_code 67 = .ok (.if_icmp .ne 32, 3) := by decide +kernel
theorem own_d_method_4_code_70 : decode method_4_code 70 = .ok (.new 12, 3) := by decide +kernel
theorem own_d_method_4_code_73 : decode method_4_code 73 = .ok (.dup, 1) := by decide +kernel
theorem own_d_method_4_code_74 : decode method_4_code 74 = .ok (.iconst 3, 1) := by decide +kernel
theorem own_d_method_4_code_75 : decode method_4_code 75 = .ok (.newarray .char, 2) := by decide +kernel
theorem own_d_method_4_code_77 : decode method_4_code 77 = .ok (.dup, 1) := by decide +kernel
theorem own_d_method_4_code_78 : decode method_4_code 78 = .ok (.iconst 0, 1) := by decide +kernel
theorem own_d_method_4_code_79 : decode method_4_code 79 = .ok (.aload_n 0, 1) := by decide +kernel
theorem own_d_method_4_code_80 : decode method_4_code 80 = .ok (.iconst 0, 1) := by decide +kernel
theorem own_d_method_4_code_81 : decode method_4_code 81 = .ok (.caload, 1) := by decide +kernel
theorem own_d_method_4_code_82 : decode method_4_code 82 = .ok (.castore, 1) := by decide +kernel
theorem own_d_method_4_code_83 : decode method_4_code 83 = .ok (.dup, 1) := by decide +kernel
theorem own_d_method_4_code_84 : decode method_4_code 84 = .ok (.iconst 1, 1) := by decide +kernel
theorem own_d_method_4_code_85 : decode method_4_code 85 = .ok (.aload_n 0, 1) := by decide +kernel
theorem own_d_method_4_code_86 : decode method_4_code 86 = .ok (.iconst 1, 1) := by decide +kernel
theorem own_d_method_4_code_87 : decode method_4_code 87 = .ok (.caload, 1) := by decide +kernel
theorem own_d_method_4_code_88 : decode method_4_code 88 = .ok (.castore, 1) := by decide +kernel
theorem own_d_method_4_code_89 : decode method_4_code 89 = .ok (.dup, 1) := by decide +kernel
theorem own_d_method_4_code_90 : decode method_4_code 90 = .ok (.iconst 2, 1) := by decide +kernel
theorem own_d_method_4_code_91 : decode method_4_code 91 = .ok (.aload_n 0, 1) := by decide +kernel
theorem own_d_method_4_code_92 : decode method_4_code 92 = .ok (.iconst 2, 1) := by decide +kernel
theorem own_d_method_4_code_93 : decode method_4_code 93 = .ok (.caload, 1) := by decide +kernel
theorem own_d_method_4_code_94 : decode method_4_code 94 = .ok (.castore, 1) := by decide +kernel
theorem own_d_method_4_code_95 : decode method_4_code 95 = .ok (.invokespecial 45, 3) := by decide +kernel
theorem own_d_method_4_code_98 : decode method_4_code 98 = .ok (.areturn, 1) := by decide +kernel
set_option maxRecDepth 65536 in
set_option maxHeartbeats 40000000 in
theorem rc3 (l : Launch) (Z : State) (a0 : Array Value) (hw : ∀ d ∈ tables_1, d.before a0 Z = true) (ws : List Jvm.Cond) (hEL : EW Z a0 own_EL) (a1 : Addr) (p2 : Int32) (cs : List Int32) (kc : ClassId) (G1 : Int32) (G3 : Value) (h0 : Heap) (n0 : Nat) (Z0 : n0 ≤ h0.size) (O2 : Sta Z Z.heap "java/lang/String" "COMPACT_STRINGS" "Z" (.int G1)) (P5 : ¬ (G1 = (0 : Int32))) (O4 : Sta Z Z.heap "jdk/internal/util/Preconditions" "SIOOBE_FORMATTER" "Ljava/util/function/BiFunction;" G3) (rG3 : G3.isRef = true) (O0 : Old Z n0 h0) (V_a1 : Arv Z h0 a1 kc .char (9 : Int32) (cs.map Value.int) (.int (0 : Int32))) (hlat : ∀ c ∈ cs, Lat c) (hc1 : ¬ (p2 = (0 : Int32))) (hc17 : ¬ (p2 = (1 : Int32))) (hc39 : ¬ (p2 = (2 : Int32))) (hc67 : p2 = (3 : Int32)) :
    MetFree l (⟨"com/example/restate/restate/TargetIsAttachedPinLaw", "cut", "([CI)Ljava/lang/String;"⟩ : MethodName) (head1 (Jvm.Cond.code (⟨"com/example/restate/restate/TargetIsAttachedPinLaw", "cut", "([CI)Ljava/lang/String;"⟩ : MethodName) method_4_code 2 (some (.object "java/lang/String")) :: ws) ({ frames := 4, cells := 4, slots := 22, locals := 66 } : Room)) (fun a U => a = #[(.ref a1), (.int p2)] ∧ Z.Warmed39 U.vm ∧ U.heap = h0 ∧ CHv Z own_EL U.vm h0) (fun _ _ _ _ _ => True) (fun _ U o U' => ∃ vr_ Lr_, o = .returned vr_ ∧ QS Z (own_cut cs 3) h0 n0 vr_ U'.heap Lr_ ∧ CHr Z own_EL U.vm U.heap U'.vm U'.heap ∧ ReturnedEndW U o U' Lr_ 4 22) := by
  refine MetFree.of_bodySF (plainFor_of_name own_pn_com_example_restate_restate_TargetIsAttachedPinLaw) hisR ?_
  intro p e s m args below meth c s₁ Bd hml0 hP hK
  obtain ⟨rfl, hZ, hh, hCH0⟩ := hP
  have hx := Bd.exec
  have hby := Bd.bytes
  have hml : c.maxLocals = 2 := hml0
  have hown : s.vm.findClass "com/example/restate/restate/TargetIsAttachedPinLaw" = some m.cls := findClass_of_methodNamed Bd.named
  have hnm := (name_of_methodNamed Bd.named Bd.method).1
  have X0 : Stand p l e ({ frames := 4, cells := 4, slots := 22, locals := 66 } : Room) (s.setVm s.vm) m #[(.ref a1), (.int p2)] below meth c s₁ [] 0 0 := Stand.of_body Bd
  have e0 : s₁.heap = h0 := by rw [← hh, Bd.state]; rfl
  have N0 := Fr.nil n0
  have CH0 : CHr Z own_EL s.vm h0 s.vm h0 := CHr.refl hCH0
  have hS0 : s.Since s.vm 0 := State.WarmedH.since (State.WarmedH.refl s) 0
  have pre0 : ∀ t, Steps p.tables e below (s₁.setTop (mkF m 0 #[.val (.ref a1), .val (.int p2)] [])) t → Steps p.tables e below (s₁.setTop (entryFrame m #[(.ref a1), (.int p2)] 2)) t := fun t k => castTop (own_ef_method_4_code_xx m a1 p2) k
  obtain ⟨T1, h1, X1, e1, E1, A1, D1, -, st1⟩ := newO X0 hx hZ hown (hw _ (List.mem_of_getElem? (i := 52) rfl)) (hw _ (List.mem_of_getElem? (i := 2) rfl)) (hw _ (List.mem_of_getElem? (i := 1) rfl)) e0 (g := (mkF m 70 #[.val (.ref a1), .val (.int p2)] [])) rfl (hb hby own_d_method_4_code_70) (by decide) (by decide)
  obtain ⟨b1, g1⟩ : ∃ z, z = h0.size := ⟨_, rfl⟩
  rw [← g1] at A1 D1 st1
  have sz_b1 : h0.size ≤ b1 := Nat.le_trans (Keep.refl h0 []).1 (Nat.le_of_eq g1.symm)
  have g_b1 : n0 ≤ b1 := Nat.le_trans Z0 sz_b1
  have CH1 : CHr Z own_EL s.vm h0 s.vm h1 := CH0.trans (CHr.ext E1 CH0.1)
  have K1 : Keep h0 h1 [] := (Keep.refl h0 []).ext E1
  have F_value_b1 : Fld Z h1 b1 "java/lang/String" "value" "[B" .null := D1 (Or.inr (hw _ (List.mem_of_getElem? (i := 4) rfl))) (ty := (.array .byte)) (by decide)
  have F_coder_b1 : Fld Z h1 b1 "java/lang/String" "coder" "B" (.int (0 : Int32)) := D1 (Or.inr (hw _ (List.mem_of_getElem? (i := 5) rfl))) (ty := .byte) (by decide)
  have Sf1 : Safe Z own_EL s.vm h1 b1 := Safe.ext E1 CH0.1 (Safe.new (Nat.le_of_eq g1.symm))
  obtain ⟨T2, h2, ka2, X2, e2, E2, A2, st2⟩ := newP X1 hx hZ (hw _ (List.mem_of_getElem? (i := 22) rfl)) e1 (g := (mkF m 75 #[.val (.ref a1), .val (.int p2)] [(.int (3 : Int32)), (.ref b1), (.ref b1)])) rfl (hb hby own_d_method_4_code_75) rfl (by decide) (cap := 3) (by decide) (by decide) (by decide) (by decide)
  obtain ⟨b2, g2⟩ : ∃ z, z = h1.size := ⟨_, rfl⟩
  rw [← g2] at A2 st2
  have sz_b2 : h0.size ≤ b2 := Nat.le_trans K1.1 (Nat.le_of_eq g2.symm)
  have g_b2 : n0 ≤ b2 := Nat.le_trans Z0 sz_b2
  have CH2 : CHr Z own_EL s.vm h0 s.vm h2 := CH1.trans (CHr.ext E2 CH1.1)
  have K2 : Keep h0 h2 [] := K1.ext E2
  have V_b2 : Arv Z h2 b2 ka2 .char (3 : Int32) [(.int (0 : Int32)), (.int (0 : Int32)), (.int (0 : Int32))] (.int (0 : Int32)) := (Arv.new A2 (by decide)).pad (pad_rep [] (.int (0 : Int32)) 3)
  have f3 : Arv Z h2 a1 kc .char (9 : Int32) (cs.map Value.int) (.int (0 : Int32)) := ((V_a1.ext E1).ext E2)
  obtain ⟨cl4, Ar4, q4, S4, N_4, H_4, G4⟩ := id f3
  have hin4 : ¬ ((0 : Int32) < 0 ∨ cl4.slots.size ≤ ((0 : Int32)).toNatClampNeg) := inb_of S4 ⟨by decide, by decide⟩
  have hat4 : cl4.slots[((0 : Int32)).toNatClampNeg]? = some (.int (cs.getD 0 0)) := H_4.at hin4 (own_getD cs 0)
  obtain ⟨cl5, Ar5, q5, S5, N_5, H_5, G5⟩ := id V_b2
  obtain ⟨T6, h6, X6, e6, W6, st6⟩ := stC X2 hx hZ e2 Ar5 (j := (0 : Int32)) (inb_of S5 ⟨by decide, by decide⟩) (g := (mkF m 82 #[.val (.ref a1), .val (.int p2)] [(.int (cs.getD 0 0)), (.int (0 : Int32)), (.ref b2), (.ref b2), (.ref b1), (.ref b1)])) rfl rfl (hb hby own_d_method_4_code_82)
  have V6_b2 : Arv Z h6 b2 ka2 .char (3 : Int32) [(.int (nar .char (cs.getD 0 0))), (.int (0 : Int32)), (.int (0 : Int32))] (.int (0 : Int32)) := Arv.set Ar5 q5 S5 N_5 H_5 G5 (fits_nar_char _) W6 0 rfl (Nat.le_of_ble_eq_true rfl)
  have Nf6 := Fr.snoc X6 N0 g_b2
  have CH3 : CHr Z own_EL s.vm h0 s.vm h6 := CH2.trans (CHr.wr W6 (own_safeV (hZ : Z.Warmed39 s.vm).alike V_b2 (by decide)) CH2.1)
  have K3 : Keep h0 h6 [] := K2.wr W6 (Or.inr sz_b2)
  have f7 : Arv Z h1 a1 kc .char (9 : Int32) (cs.map Value.int) (.int (0 : Int32)) := (V_a1.ext E1)
  have f8 : Arv Z h6 a1 kc .char (9 : Int32) (cs.map Value.int) (.int (0 : Int32)) := (f3.other W6 (Nat.ne_of_lt (Nat.lt_of_lt_of_le f7.lt (Nat.le_of_eq g2.symm))))
  obtain ⟨cl9, Ar9, q9, S9, N_9, H_9, G9⟩ := id f8
  have hin9 : ¬ ((1 : Int32) < 0 ∨ cl9.slots.size ≤ ((1 : Int32)).toNatClampNeg) := inb_of S9 ⟨by decide, by decide⟩
  have hat9 : cl9.slots[((1 : Int32)).toNatClampNeg]? = some (.int (cs.getD 1 0)) := H_9.at hin9 (own_getD cs 1)
  obtain ⟨cl10, Ar10, q10, S10, N_10, H_10, G10⟩ := id V6_b2
  obtain ⟨T11, h11, X11, e11, W11, st11⟩ := stC X6 hx hZ e6 Ar10 (j := (1 : Int32)) (inb_of S10 ⟨by decide, by decide⟩) (g := (mkF m 88 #[.val (.ref a1), .val (.int p2)] [(.int (cs.getD 1 0)), (.int (1 : Int32)), (.ref b2), (.ref b2), (.ref b1), (.ref b1)])) rfl rfl (hb hby own_d_method_4_code_88)
  have V11_b2 : Arv Z h11 b2 ka2 .char (3 : Int32) [(.int (nar .char (cs.getD 0 0))), (.int (nar .char (cs.getD 1 0))), (.int (0 : Int32))] (.int (0 : Int32)) := Arv.set Ar10 q10 S10 N_10 H_10 G10 (fits_nar_char _) W11 1 rfl (Nat.le_of_ble_eq_true rfl)
  have Nf11 := Fr.snoc X11 Nf6 g_b2
  have CH4 : CHr Z own_EL s.vm h0 s.vm h11 := CH3.trans (CHr.wr W11 (own_safeV (hZ : Z.Warmed39 s.vm).alike V6_b2 (by decide)) CH3.1)
  have K4 : Keep h0 h11 [] := K3.wr W11 (Or.inr sz_b2)
  have f12 : Arv Z h11 a1 kc .char (9 : Int32) (cs.map Value.int) (.int (0 : Int32)) := (f8.other W11 (Nat.ne_of_lt (Nat.lt_of_lt_of_le f7.lt (Nat.le_of_eq g2.symm))))
  obtain ⟨cl13, Ar13, q13, S13, N_13, H_13, G13⟩ := id f12
  have hin13 : ¬ ((2 : Int32) < 0 ∨ cl13.slots.size ≤ ((2 : Int32)).toNatClampNeg) := inb_of S13 ⟨by decide, by decide⟩
  have hat13 : cl13.slots[((2 : Int32)).toNatClampNeg]? = some (.int (cs.getD 2 0)) := H_13.at hin13 (own_getD cs 2)
  obtain ⟨cl14, Ar14, q14, S14, N_14, H_14, G14⟩ := id V11_b2
  obtain ⟨T15, h15, X15, e15, W15, st15⟩ := stC X11 hx hZ e11 Ar14 (j := (2 : Int32)) (inb_of S14 ⟨by decide, by decide⟩) (g := (mkF m 94 #[.val (.ref a1), .val (.int p2)] [(.int (cs.getD 2 0)), (.int (2 : Int32)), (.ref b2), (.ref b2), (.ref b1), (.ref b1)])) rfl rfl (hb hby own_d_method_4_code_94)
  have V15_b2 : Arv Z h15 b2 ka2 .char (3 : Int32) [(.int (nar .char (cs.getD 0 0))), (.int (nar .char (cs.getD 1 0))), (.int (nar .char (cs.getD 2 0)))] (.int (0 : Int32)) := Arv.set Ar14 q14 S14 N_14 H_14 G14 (fits_nar_char _) W15 2 rfl (Nat.le_of_ble_eq_true rfl)
  have Nf15 := Fr.snoc X15 Nf11 g_b2
  have CH5 : CHr Z own_EL s.vm h0 s.vm h15 := CH4.trans (CHr.wr W15 (own_safeV (hZ : Z.Warmed39 s.vm).alike V11_b2 (by decide)) CH4.1)
  have K5 : Keep h0 h15 [] := K4.wr W15 (Or.inr sz_b2)
  have f17 : Exa Z h15 b1 "java/lang/String" := ((((A1.ext E2).wr W6).wr W11).wr W15)
  have f18 : Fld Z h15 b1 "java/lang/String" "value" "[B" .null := ((((F_value_b1.ext E2).other W6 (Or.inl (Nat.ne_of_lt (Nat.lt_of_lt_of_le A1.lt (Nat.le_of_eq g2.symm))))).other W11 (Or.inl (Nat.ne_of_lt (Nat.lt_of_lt_of_le A1.lt (Nat.le_of_eq g2.symm))))).other W15 (Or.inl (Nat.ne_of_lt (Nat.lt_of_lt_of_le A1.lt (Nat.le_of_eq g2.symm)))))
  have f19 : Fld Z h15 b1 "java/lang/String" "coder" "B" (.int (0 : Int32)) := ((((F_coder_b1.ext E2).other W6 (Or.inl (Nat.ne_of_lt (Nat.lt_of_lt_of_le A1.lt (Nat.le_of_eq g2.symm))))).other W11 (Or.inl (Nat.ne_of_lt (Nat.lt_of_lt_of_le A1.lt (Nat.le_of_eq g2.symm))))).other W15 (Or.inl (Nat.ne_of_lt (Nat.lt_of_lt_of_le A1.lt (Nat.le_of_eq g2.symm)))))
  have f20 : Old Z n0 h15 := (((((O0.ext E1).ext E2).wr W6 g_b2).wr W11 g_b2).wr W15 g_b2)
  obtain ⟨_, _, ⟨T16, L16, k16, n16⟩, -, X16, ⟨Lc16, hQ16, l16, y16, z16⟩, st16⟩ := X15.specialBack hx (y := (⟨"java/lang/String", "<init>", "([C)V"⟩ : MethodName)) rfl hown (mvT hZ (hw _ (List.mem_of_getElem? (i := 53) rfl))) (mvT hZ (hw _ (List.mem_of_getElem? (i := 54) rfl))) (mvT hZ (hw _ (List.mem_of_getElem? (i := 55) rfl))) (by decide) (StrChars.Road.backV (W := 1) hZ (own_hws hw) (kI := 4) (hw _ (List.mem_of_getElem? (i := 2) rfl)) (cs := ([(nar .char (cs.getD 0 0)), (nar .char (cs.getD 1 0)), (nar .char (cs.getD 2 0))] : List Int32)) (bs := (([(nar .char (cs.getD 0 0)), (nar .char (cs.getD 1 0)), (nar .char (cs.getD 2 0))] : List Int32)).map (fun c => c.toInt8.toInt32)) (n := 3) g_b1 (Nat.le_trans Z0 K5.1) f17 f18 f19 (V15_b2 : Arv Z h15 b2 ka2 .char (Int32.ofNat 3) (([(nar .char (cs.getD 0 0)), (nar .char (cs.getD 1 0)), (nar .char (cs.getD 2 0))] : List Int32).map Value.int) _) (O2.ext f20.2) P5 rfl rfl (by decide) (by decide) (own_cut_lat hlat 3) rfl (by decide) (by decide)) (g := (mkF m 95 #[.val (.ref a1), .val (.int p2)] [(.ref b2), (.ref b1), (.ref b1)])) rfl (by rw [hml]; rfl) (Steps.refl _) (a := b1) (argsL := [(.ref b2)]) (rest := [(.ref b1)]) (lenOf own_pd___C_V rfl) rfl (by show 2 * 0 + _ ≤ _; exact Nat.le_of_eq rfl) (hb hby own_d_method_4_code_95) (fun _ _ => ⟨rfl, e15, (by decide : 2 + 1 ≤ _), (by decide : 7 + 3 ≤ _)⟩)
  dsimp only [Pt.U, Pt.locs, Pt.cells, Pt.slots] at X16 l16 y16 z16 st16 hQ16
  rw [l16] at X16
  clear l16; subst y16 z16
  obtain ⟨rfl, N16q, K16q, E16q, gc16, t16, kb16, -, -, -, gv16, ga16⟩ := hQ16
  have N16a := Fr.app Nf15 N16q
  have f21 : Safe Z own_EL s.vm h15 b1 := (Safe.wr W15 (own_safeV (hZ : Z.Warmed39 s.vm).alike V11_b2 (by decide)) CH4.1 (Safe.wr W11 (own_safeV (hZ : Z.Warmed39 s.vm).alike V6_b2 (by decide)) CH3.1 (Safe.wr W6 (own_safeV (hZ : Z.Warmed39 s.vm).alike V_b2 (by decide)) CH2.1 (Safe.ext E2 CH1.1 Sf1))))
  have CH6 : CHr Z own_EL s.vm h0 s.vm T16.heap := CH5.trans (CHr.keep K16q (allS f21 all0) CH5.1)
  have K6 : Keep h0 T16.heap [] := K5.trans K16q (allS (Or.inr sz_b1) all0)
  have SV16 : StrV Z T16.heap b1 ([(nar .char (cs.getD 0 0)), (nar .char (cs.getD 1 0)), (nar .char (cs.getD 2 0))] : List Int32) := own_mkStr rfl (own_cut_lat hlat 3) E16q gc16 gv16 ga16
  obtain ⟨fs, hr, hrun, hended, hend⟩ := X16.leaveW hS0 (Nat.zero_le _) (v := some (.ref b1)) (fun h => by rw [Bd.returns] at h; cases h)
  refine ⟨_, _, pre0 _ ?_, hrun, hended, _, _, rfl, ?_, ?_, hend.1, hend.2.1, hend.2.2.1, hend.2.2.2.mono (by decide) (by decide)⟩
  · show Steps p.tables e below (s₁.setTop (mkF m 0 #[.val (.ref a1), .val (.int p2)] [])) _
    refine XS.iloadN X0.here hx rfl (hb hby own_d_method_4_code_0) rfl ?_
    show Steps p.tables e below (s₁.setTop (mkF m 1 #[.val (.ref a1), .val (.int p2)] [(.int p2)])) _
    refine XS.ifYes X0.here hx rfl (pc0 := 1) (pc' := 15) rfl (hb hby own_d_method_4_code_1) rfl ((if0 _ _).trans (feq hc1).2) (by decide) (by decide) ?_
    refine XS.iloadN X0.here hx rfl (hb hby own_d_method_4_code_15) rfl ?_
    refine XS.iconst X0.here hx rfl (hb hby own_d_method_4_code_16) ?_
    show Steps p.tables e below (s₁.setTop (mkF m 17 #[.val (.ref a1), .val (.int p2)] [(.int (1 : Int32)), (.int p2)])) _
    refine XS.icmpYes X0.here hx rfl (pc0 := 17) (pc' := 37) rfl (hb hby own_d_method_4_code_17) rfl (feq hc17).2 (by decide) (by decide) ?_
    refine XS.iloadN X0.here hx rfl (hb hby own_d_method_4_code_37) rfl ?_
    refine XS.iconst X0.here hx rfl (hb hby own_d_method_4_code_38) ?_
    show Steps p.tables e below (s₁.setTop (mkF m 39 #[.val (.ref a1), .val (.int p2)] [(.int (2 : Int32)), (.int p2)])) _
    refine XS.icmpYes X0.here hx rfl (pc0 := 39) (pc' := 65) rfl (hb hby own_d_method_4_code_39) rfl (feq hc39).2 (by decide) (by decide) ?_
    refine XS.iloadN X0.here hx rfl (hb hby own_d_method_4_code_65) rfl ?_
    refine XS.iconst X0.here hx rfl (hb hby own_d_method_4_code_66) ?_
    show Steps p.tables e below (s₁.setTop (mkF m 67 #[.val (.ref a1), .val (.int p2)] [(.int (3 : Int32)), (.int p2)])) _
    refine XS.icmpNo X0.here hx rfl (hb hby own_d_method_4_code_67) rfl (teq hc67).2 ?_
    show Steps p.tables e below (s₁.setTop (mkF m 70 #[.val (.ref a1), .val (.int p2)] [])) _
    refine st1 _ ?_
    refine XS.dup X1.here hx rfl (hb hby own_d_method_4_code_73) rfl rfl ?_
    refine XS.iconst X1.here hx rfl (hb hby own_d_method_4_code_74) ?_
    show Steps p.tables e below (T1.setTop (mkF m 75 #[.val (.ref a1), .val (.int p2)] [(.int (3 : Int32)), (.ref b1), (.ref b1)])) _
    refine st2 _ ?_
    refine XS.dup X2.here hx rfl (hb hby own_d_method_4_code_77) rfl rfl ?_
    refine XS.iconst X2.here hx rfl (hb hby own_d_method_4_code_78) ?_
    show Steps p.tables e below (T2.setTop (mkF m 79 #[.val (.ref a1), .val (.int p2)] [(.int (0 : Int32)), (.ref b2), (.ref b2), (.ref b1), (.ref b1)])) _
    refine XS.aloadN X2.here hx rfl (hb hby own_d_method_4_code_79) rfl rfl ?_
    refine XS.iconst X2.here hx rfl (hb hby own_d_method_4_code_80) ?_
    show Steps p.tables e below (T2.setTop (mkF m 81 #[.val (.ref a1), .val (.int p2)] [(.int (0 : Int32)), (.ref a1), (.int (0 : Int32)), (.ref b2), (.ref b2), (.ref b1), (.ref b1)])) _
    refine X2.caload hx (j := (0 : Int32)) (v := (.int (cs.getD 0 0))) (by rw [e2]; exact Ar4.1) (State.isArrayOf_alike hZ.alike Ar4.2.1) Ar4.2.2 hin4 hat4 (g := (mkF m 81 #[.val (.ref a1), .val (.int p2)] [(.int (0 : Int32)), (.ref a1), (.int (0 : Int32)), (.ref b2), (.ref b2), (.ref b1), (.ref b1)])) rfl rfl (hb hby own_d_method_4_code_81) _ ?_
    show Steps p.tables e below (T2.setTop (mkF m 82 #[.val (.ref a1), .val (.int p2)] [(.int (cs.getD 0 0)), (.int (0 : Int32)), (.ref b2), (.ref b2), (.ref b1), (.ref b1)])) _
    refine st6 _ ?_
    refine XS.dup X6.here hx rfl (hb hby own_d_method_4_code_83) rfl rfl ?_
    refine XS.iconst X6.here hx rfl (hb hby own_d_method_4_code_84) ?_
    show Steps p.tables e below (T6.setTop (mkF m 85 #[.val (.ref a1), .val (.int p2)] [(.int (1 : Int32)), (.ref b2), (.ref b2), (.ref b1), (.ref b1)])) _
    refine XS.aloadN X6.here hx rfl (hb hby own_d_method_4_code_85) rfl rfl ?_
    refine XS.iconst X6.here hx rfl (hb hby own_d_method_4_code_86) ?_
    show Steps p.tables e below (T6.setTop (mkF m 87 #[.val (.ref a1), .val (.int p2)] [(.int (1 : Int32)), (.ref a1), (.int (1 : Int32)), (.ref b2), (.ref b2), (.ref b1), (.ref b1)])) _
    refine X6.caload hx (j := (1 : Int32)) (v := (.int (cs.getD 1 0))) (by rw [e6]; exact Ar9.1) (State.isArrayOf_alike hZ.alike Ar9.2.1) Ar9.2.2 hin9 hat9 (g := (mkF m 87 #[.val (.ref a1), .val (.int p2)] [(.int (1 : Int32)), (.ref a1), (.int (1 : Int32)), (.ref b2), (.ref b2), (.ref b1), (.ref b1)])) rfl rfl (hb hby own_d_method_4_code_87) _ ?_
    show Steps p.tables e below (T6.setTop (mkF m 88 #[.val (.ref a1), .val (.int p2)] [(.int (cs.getD 1 0)), (.int (1 : Int32)), (.ref b2), (.ref b2), (.ref b1), (.ref b1)])) _
    refine st11 _ ?_
    refine XS.dup X11.here hx rfl (hb hby own_d_method_4_code_89) rfl rfl ?_
    refine XS.iconst X11.here hx rfl (hb hby own_d_method_4_code_90) ?_
    show Steps p.tables e below (T11.setTop (mkF m 91 #[.val (.ref a1), .val (.int p2)] [(.int (2 : Int32)), (.ref b2), (.ref b2), (.ref b1), (.ref b1)])) _
    refine XS.aloadN X11.here hx rfl (hb hby own_d_method_4_code_91) rfl rfl ?_
    refine XS.iconst X11.here hx rfl (hb hby own_d_method_4_code_92) ?_
    show Steps p.tables e below (T11.setTop (mkF m 93 #[.val (.ref a1), .val (.int p2)] [(.int (2 : Int32)), (.ref a1), (.int (2 : Int32)), (.ref b2), (.ref b2), (.ref b1), (.ref b1)])) _
    refine X11.caload hx (j := (2 : Int32)) (v := (.int (cs.getD 2 0))) (by rw [e11]; exact Ar13.1) (State.isArrayOf_alike hZ.alike Ar13.2.1) Ar13.2.2 hin13 hat13 (g := (mkF m 93 #[.val (.ref a1), .val (.int p2)] [(.int (2 : Int32)), (.ref a1), (.int (2 : Int32)), (.ref b2), (.ref b2), (.ref b1), (.ref b1)])) rfl rfl (hb hby own_d_method_4_code_93) _ ?_
    show Steps p.tables e below (T11.setTop (mkF m 94 #[.val (.ref a1), .val (.int p2)] [(.int (cs.getD 2 0)), (.int (2 : Int32)), (.ref b2), (.ref b2), (.ref b1), (.ref b1)])) _
    refine st15 _ ?_
    show Steps p.tables e below (T15.setTop (mkF m 95 #[.val (.ref a1), .val (.int p2)] [(.ref b2), (.ref b1), (.ref b1)])) _
    refine st16.trans ?_
    show Steps p.tables e below (T16.setTop (mkF m 98 #[.val (.ref a1), .val (.int p2)] [(.ref b1)])) _
    jvm_step X16.here [X16.here.top, hx, (hb hby own_d_method_4_code_98), X16.method', Bd.returns, Value.isRef, FieldType.isReference]
    first | (intro acts; rw [hr _ acts rfl rfl rfl]) | rw [hr _ _ rfl rfl rfl]
    exact Steps.refl _
  · show QS Z (own_cut cs 3) h0 n0 _ T16.heap _
    exact ⟨b1, rfl, N16a, K6, SV16⟩
  · show CHr Z own_EL s.vm s.heap T16.vm T16.heap
    rw [hh]
    exact CH6.trans (CHv.at X16 hZ hEL CH6.1)
theorem own_d_method_4_code_99 : decode method_4_code 99 = .ok (.iload_n 1, 1) := by decide +kernel
theorem own_d_method_4_code_100 : decode method_4_code 100 = .ok (.iconst 4, 1) := by decide +kernel
theorem own_d_method_4_code_101 : decode method_4_code 101 = .ok (.if_icmp .ne 38, 3) := by decide +kernel
theorem own_d_method_4_code_104 : decode method_4_code 104 = .ok (.new 12, 3) := by decide +kernel
theorem own_d_method_4_code_107 : decode method_4_code 107 = .ok (.dup, 1) := by decide +kernel
theorem own_d_method_4_code_108 : decode method_4_code 108 = .ok (.iconst 4, 1) := by decide +kernel
theorem own_d_method_4_code_109 : decode method_4_code 109 = .ok (.newarray .char, 2) := by decide +kernel
theorem own_d_method_4_code_111 : decode method_4_code 111 = .ok (.dup, 1) := by decide +kernel
theorem own_d_method_4_code_112 : decode method_4_code 112 = .ok (.iconst 0, 1) := by decide +kernel
theorem own_d_method_4_code_113 : decode method_4_code 113 = .ok (.aload_n 0, 1) := by decide +kernel
theorem own_d_method_4_code_114 : decode method_4_code 114 = .ok (.iconst 0, 1) := by decide +kernel
theorem own_d_method_4_code_115 : decode method_4_code 115 = .ok (.caload, 1) := by decide +kernel
theorem own_d_method_4_code_116 : decode method_4_code 116 = .ok (.castore, 1) := by decide +kernel
theorem own_d_method_4_code_117 : decode method_4_code 117 = .ok (.dup, 1) := by decide +kernel
theorem own_d_method_4_code_118 : decode method_4_code 118 = .ok (.iconst 1, 1) := by decide +kernel
theorem own_d_method_4_code_119 : decode method_4_code 119 = .ok (.aload_n 0, 1) := by decide +kernel
theorem own_d_method_4_code_120 : decode method_4_code 120 = .ok (.iconst 1, 1) := by decide +kernel
theorem own_d_method_4_code_121 : decode method_4_code 121 = .ok (.caload, 1) := by decide +kernel
theorem own_d_method_4_code_122 : decode method_4_code 122 = .ok (.castore, 1) := by decide +kernel
theorem own_d_method_4_code_123 : decode method_4_code 123 = .ok (.dup, 1) := by decide +kernel
theorem own_d_method_4_code_124 : decode method_4_code 124 = .ok (.iconst 2, 1) := by decide +kernel
theorem own_d_method_4_code_125 : decode method_4_code 125 = .ok (.aload_n 0, 1) := by decide +kernel
theorem own_d_method_4_code_126 : decode method_4_code 126 = .ok (.iconst 2, 1) := by decide +kernel
theorem own_d_method_4_code_127 : decode method_4_code 127 = .ok (.caload, 1) := by decide +kernel
theorem own_d_method_4_code_128 : decode method_4_code 128 = .ok (.castore, 1) := by decide +kernel
theorem own_d_method_4_code_129 : decode method_4_code 129 = .ok (.dup, 1) := by decide +kernel
theorem own_d_method_4_code_130 : decode method_4_code 130 = .ok (.iconst 3, 1) := by decide +kernel
theorem own_d_method_4_code_131 : decode method_4_code 131 = .ok (.aload_n 0, 1) := by decide +kernel
theorem own_d_method_4_code_132 : decode method_4_code 132 = .ok (.iconst 3, 1) := by decide +kernel
theorem own_d_method_4_code_133 : decode method_4_code 133 = .ok (.caload, 1) := by decide +kernel
theorem own_d_method_4_code_134 : decode method_4_code 134 = .ok (.castore, 1) := by decide +kernel
theorem own_d_method_4_code_135 : decode method_4_code 135 = .ok (.invokespecial 45, 3) := by decide +kernel
theorem own_d_method_4_code_138 : decode method_4_code 138 = .ok (.areturn, 1) := by decide +kernel
set_option maxRecDepth 65536 in
set_option maxHeartbeats 40000000 in
theorem rc4 (l : Launch) (Z : State) (a0 : Array Value) (hw : ∀ d ∈ tables_1, d.before a0 Z = true) (ws : List Jvm.Cond) (hEL : EW Z a0 own_EL) (a1 : Addr) (p2 : Int32) (cs : List Int32) (kc : ClassId) (G1 : Int32) (G3 : Value) (h0 : Heap) (n0 : Nat) (Z0 : n0 ≤ h0.size) (O2 : Sta Z Z.heap "java/lang/String" "COMPACT_STRINGS" "Z" (.int G1)) (P5 : ¬ (G1 = (0 : Int32))) (O4 : Sta Z Z.heap "jdk/internal/util/Preconditions" "SIOOBE_FORMATTER" "Ljava/util/function/BiFunction;" G3) (rG3 : G3.isRef = true) (O0 : Old Z n0 h0) (V_a1 : Arv Z h0 a1 kc .char (9 : Int32) (cs.map Value.int) (.int (0 : Int32))) (hlat : ∀ c ∈ cs, Lat c) (hc1 : ¬ (p2 = (0 : Int32))) (hc17 : ¬ (p2 = (1 : Int32))) (hc39 : ¬ (p2 = (2 : Int32))) (hc67 : ¬ (p2 = (3 : Int32))) (hc101 : p2 = (4 : Int32)) :
    MetFree l (⟨"com/example/restate/restate/TargetIsAttachedPinLaw", "cut", "([CI)Ljava/lang/String;"⟩ : MethodName) (head1 (Jvm.Cond.code (⟨"com/example/restate/restate/TargetIsAttachedPinLaw", "cut", "([CI)Ljava/lang/String;"⟩ : MethodName) method_4_code 2 (some (.object "java/lang/String")) :: ws) ({ frames := 4, cells := 4, slots := 22, locals := 66 } : Room)) (fun a U => a = #[(.ref a1), (.int p2)] ∧ Z.Warmed39 U.vm ∧ U.heap = h0 ∧ CHv Z own_EL U.vm h0) (fun _ _ _ _ _ => True) (fun _ U o U' => ∃ vr_ Lr_, o = .returned vr_ ∧ QS Z (own_cut cs 4) h0 n0 vr_ U'.heap Lr_ ∧ CHr Z own_EL U.vm U.heap U'.vm U'.heap ∧ ReturnedEndW U o U' Lr_ 4 22) := by
  refine MetFree.of_bodySF (plainFor_of_name own_pn_com_example_restate_restate_TargetIsAttachedPinLaw) hisR ?_
  intro p e s m args below meth c s₁ Bd hml0 hP hK
  obtain ⟨rfl, hZ, hh, hCH0⟩ := hP
  have hx := Bd.exec
  have hby := Bd.bytes
  have hml : c.maxLocals = 2 := hml0
  have hown : s.vm.findClass "com/example/restate/restate/TargetIsAttachedPinLaw" = some m.cls := findClass_of_methodNamed Bd.named
  have hnm := (name_of_methodNamed Bd.named Bd.method).1
  have X0 : Stand p l e ({ frames := 4, cells := 4, slots := 22, locals := 66 } : Room) (s.setVm s.vm) m #[(.ref a1), (.int p2)] below meth c s₁ [] 0 0 := Stand.of_body Bd
  have e0 : s₁.heap = h0 := by rw [← hh, Bd.state]; rfl
  have N0 := Fr.nil n0
  have CH0 : CHr Z own_EL s.vm h0 s.vm h0 := CHr.refl hCH0
  have hS0 : s.Since s.vm 0 := State.WarmedH.since (State.WarmedH.refl s) 0
  have pre0 : ∀ t, Steps p.tables e below (s₁.setTop (mkF m 0 #[.val (.ref a1), .val (.int p2)] [])) t → Steps p.tables e below (s₁.setTop (entryFrame m #[(.ref a1), (.int p2)] 2)) t := fun t k => castTop (own_ef_method_4_code_xx m a1 p2) k
  obtain ⟨T1, h1, X1, e1, E1, A1, D1, -, st1⟩ := newO X0 hx hZ hown (hw _ (List.mem_of_getElem? (i := 52) rfl)) (hw _ (List.mem_of_getElem? (i := 2) rfl)) (hw _ (List.mem_of_getElem? (i := 1) rfl)) e0 (g := (mkF m 104 #[.val (.ref a1), .val (.int p2)] [])) rfl (hb hby own_d_method_4_code_104) (by decide) (by decide)
  obtain ⟨b1, g1⟩ : ∃ z, z = h0.size := ⟨_, rfl⟩
  rw [← g1] at A1 D1 st1
  have sz_b1 : h0.size ≤ b1 := Nat.le_trans (Keep.refl h0 []).1 (Nat.le_of_eq g1.symm)
  have g_b1 : n0 ≤ b1 := Nat.le_trans Z0 sz_b1
  have CH1 : CHr Z own_EL s.vm h0 s.vm h1 := CH0.trans (CHr.ext E1 CH0.1)
  have K1 : Keep h0 h1 [] := (Keep.refl h0 []).ext E1
  have F_value_b1 : Fld Z h1 b1 "java/lang/String" "value" "[B" .null := D1 (Or.inr (hw _ (List.mem_of_getElem? (i := 4) rfl))) (ty := (.array .byte)) (by decide)
  have F_coder_b1 : Fld Z h1 b1 "java/lang/String" "coder" "B" (.int (0 : Int32)) := D1 (Or.inr (hw _ (List.mem_of_getElem? (i := 5) rfl))) (ty := .byte) (by decide)
  have Sf1 : Safe Z own_EL s.vm h1 b1 := Safe.ext E1 CH0.1 (Safe.new (Nat.le_of_eq g1.symm))
  obtain ⟨T2, h2, ka2, X2, e2, E2, A2, st2⟩ := newP X1 hx hZ (hw _ (List.mem_of_getElem? (i := 22) rfl)) e1 (g := (mkF m 109 #[.val (.ref a1), .val (.int p2)] [(.int (4 : Int32)), (.ref b1), (.ref b1)])) rfl (hb hby own_d_method_4_code_109) rfl (by decide) (cap := 4) (by decide) (by decide) (by decide) (by decide)
  obtain ⟨b2, g2⟩ : ∃ z, z = h1.size := ⟨_, rfl⟩
  rw [← g2] at A2 st2
  have sz_b2 : h0.size ≤ b2 := Nat.le_trans K1.1 (Nat.le_of_eq g2.symm)
  have g_b2 : n0 ≤ b2 := Nat.le_trans Z0 sz_b2
  have CH2 : CHr Z own_EL s.vm h0 s.vm h2 := CH1.trans (CHr.ext E2 CH1.1)
  have K2 : Keep h0 h2 [] := K1.ext E2
  have V_b2 : Arv Z h2 b2 ka2 .char (4 : Int32) [(.int (0 : Int32)), (.int (0 : Int32)), (.int (0 : Int32)), (.int (0 : Int32))] (.int (0 : Int32)) := (Arv.new A2 (by decide)).pad (pad_rep [] (.int (0 : Int32)) 4)
  have f3 : Arv Z h2 a1 kc .char (9 : Int32) (cs.map Value.int) (.int (0 : Int32)) := ((V_a1.ext E1).ext E2)
  obtain ⟨cl4, Ar4, q4, S4, N_4, H_4, G4⟩ := id f3
  have hin4 : ¬ ((0 : Int32) < 0 ∨ cl4.slots.size ≤ ((0 : Int32)).toNatClampNeg) := inb_of S4 ⟨by decide, by decide⟩
  have hat4 : cl4.slots[((0 : Int32)).toNatClampNeg]? = some (.int (cs.getD 0 0)) := H_4.at hin4 (own_getD cs 0)
  obtain ⟨cl5, Ar5, q5, S5, N_5, H_5, G5⟩ := id V_b2
  obtain ⟨T6, h6, X6, e6, W6, st6⟩ := stC X2 hx hZ e2 Ar5 (j := (0 : Int32)) (inb_of S5 ⟨by decide, by decide⟩) (g := (mkF m 116 #[.val (.ref a1), .val (.int p2)] [(.int (cs.getD 0 0)), (.int (0 : Int32)), (.ref b2), (.ref b2), (.ref b1), (.ref b1)])) rfl rfl (hb hby own_d_method_4_code_116)
  have V6_b2 : Arv Z h6 b2 ka2 .char (4 : Int32) [(.int (nar .char (cs.getD 0 0))), (.int (0 : Int32)), (.int (0 : Int32)), (.int (0 : Int32))] (.int (0 : Int32)) := Arv.set Ar5 q5 S5 N_5 H_5 G5 (fits_nar_char _) W6 0 rfl (Nat.le_of_ble_eq_true rfl)
  have Nf6 := Fr.snoc X6 N0 g_b2
  have CH3 : CHr Z own_EL s.vm h0 s.vm h6 := CH2.trans (CHr.wr W6 (own_safeV (hZ : Z.Warmed39 s.vm).alike V_b2 (by decide)) CH2.1)
  have K3 : Keep h0 h6 [] := K2.wr W6 (Or.inr sz_b2)
  have f7 : Arv Z h1 a1 kc .char (9 : Int32) (cs.map Value.int) (.int (0 : Int32)) := (V_a1.ext E1)
  have f8 : Arv Z h6 a1 kc .char (9 : Int32) (cs.map Value.int) (.int (0 : Int32)) := (f3.other W6 (Nat.ne_of_lt (Nat.lt_of_lt_of_le f7.lt (Nat.le_of_eq g2.symm))))
  obtain ⟨cl9, Ar9, q9, S9, N_9, H_9, G9⟩ := id f8
  have hin9 : ¬ ((1 : Int32) < 0 ∨ cl9.slots.size ≤ ((1 : Int32)).toNatClampNeg) := inb_of S9 ⟨by decide, by decide⟩
  have hat9 : cl9.slots[((1 : Int32)).toNatClampNeg]? = some (.int (cs.getD 1 0)) := H_9.at hin9 (own_getD cs 1)
  obtain ⟨cl10, Ar10, q10, S10, N_10, H_10, G10⟩ := id V6_b2
  obtain ⟨T11, h11, X11, e11, W11, st11⟩ := stC X6 hx hZ e6 Ar10 (j := (1 : Int32)) (inb_of S10 ⟨by decide, by decide⟩) (g := (mkF m 122 #[.val (.ref a1), .val (.int p2)] [(.int (cs.getD 1 0)), (.int (1 : Int32)), (.ref b2), (.ref b2), (.ref b1), (.ref b1)])) rfl rfl (hb hby own_d_method_4_code_122)
  have V11_b2 : Arv Z h11 b2 ka2 .char (4 : Int32) [(.int (nar .char (cs.getD 0 0))), (.int (nar .char (cs.getD 1 0))), (.int (0 : Int32)), (.int (0 : Int32))] (.int (0 : Int32)) := Arv.set Ar10 q10 S10 N_10 H_10 G10 (fits_nar_char _) W11 1 rfl (Nat.le_of_ble_eq_true rfl)
  have Nf11 := Fr.snoc X11 Nf6 g_b2
  have CH4 : CHr Z own_EL s.vm h0 s.vm h11 := CH3.trans (CHr.wr W11 (own_safeV (hZ : Z.Warmed39 s.vm).alike V6_b2 (by decide)) CH3.1)
  have K4 : Keep h0 h11 [] := K3.wr W11 (Or.inr sz_b2)
  have f12 : Arv Z h11 a1 kc .char (9 : Int32) (cs.map Value.int) (.int (0 : Int32)) := (f8.other W11 (Nat.ne_of_lt (Nat.lt_of_lt_of_le f7.lt (Nat.le_of_eq g2.symm))))
  obtain ⟨cl13, Ar13, q13, S13, N_13, H_13, G13⟩ := id f12
  have hin13 : ¬ ((2 : Int32) < 0 ∨ cl13.slots.size ≤ ((2 : Int32)).toNatClampNeg) := inb_of S13 ⟨by decide, by decide⟩
  have hat13 : cl13.slots[((2 : Int32)).toNatClampNeg]? = some (.int (cs.getD 2 0)) := H_13.at hin13 (own_getD cs 2)
  obtain ⟨cl14, Ar14, q14, S14, N_14, H_14, G14⟩ := id V11_b2
  obtain ⟨T15, h15, X15, e15, W15, st15⟩ := stC X11 hx hZ e11 Ar14 (j := (2 : Int32)) (inb_of S14 ⟨by decide, by decide⟩) (g := (mkF m 128 #[.val (.ref a1), .val (.int p2)] [(.int (cs.getD 2 0)), (.int (2 : Int32)), (.ref b2), (.ref b2), (.ref b1), (.ref b1)])) rfl rfl (hb hby own_d_method_4_code_128)
  have V15_b2 : Arv Z h15 b2 ka2 .char (4 : Int32) [(.int (nar .char (cs.getD 0 0))), (.int (nar .char (cs.getD 1 0))), (.int (nar .char (cs.getD 2 0))), (.int (0 : Int32))] (.int (0 : Int32)) := Arv.set Ar14 q14 S14 N_14 H_14 G14 (fits_nar_char _) W15 2 rfl (Nat.le_of_ble_eq_true rfl)
  have Nf15 := Fr.snoc X15 Nf11 g_b2
  have CH5 : CHr Z own_EL s.vm h0 s.vm h15 := CH4.trans (CHr.wr W15 (own_safeV (hZ : Z.Warmed39 s.vm).alike V11_b2 (by decide)) CH4.1)
  have K5 : Keep h0 h15 [] := K4.wr W15 (Or.inr sz_b2)
  have f16 : Arv Z h15 a1 kc .char (9 : Int32) (cs.map Value.int) (.int (0 : Int32)) := (f12.other W15 (Nat.ne_of_lt (Nat.lt_of_lt_of_le f7.lt (Nat.le_of_eq g2.symm))))
  obtain ⟨cl17, Ar17, q17, S17, N_17, H_17, G17⟩ := id f16
  have hin17 : ¬ ((3 : Int32) < 0 ∨ cl17.slots.size ≤ ((3 : Int32)).toNatClampNeg) := inb_of S17 ⟨by decide, by decide⟩
  have hat17 : cl17.slots[((3 : Int32)).toNatClampNeg]? = some (.int (cs.getD 3 0)) := H_17.at hin17 (own_getD cs 3)
  obtain ⟨cl18, Ar18, q18, S18, N_18, H_18, G18⟩ := id V15_b2
  obtain ⟨T19, h19, X19, e19, W19, st19⟩ := stC X15 hx hZ e15 Ar18 (j := (3 : Int32)) (inb_of S18 ⟨by decide, by decide⟩) (g := (mkF m 134 #[.val (.ref a1), .val (.int p2)] [(.int (cs.getD 3 0)), (.int (3 : Int32)), (.ref b2), (.ref b2), (.ref b1), (.ref b1)])) rfl rfl (hb hby own_d_method_4_code_134)
  have V19_b2 : Arv Z h19 b2 ka2 .char (4 : Int32) [(.int (nar .char (cs.getD 0 0))), (.int (nar .char (cs.getD 1 0))), (.int (nar .char (cs.getD 2 0))), (.int (nar .char (cs.getD 3 0)))] (.int (0 : Int32)) := Arv.set Ar18 q18 S18 N_18 H_18 G18 (fits_nar_char _) W19 3 rfl (Nat.le_of_ble_eq_true rfl)
  have Nf19 := Fr.snoc X19 Nf15 g_b2
  have CH6 : CHr Z own_EL s.vm h0 s.vm h19 := CH5.trans (CHr.wr W19 (own_safeV (hZ : Z.Warmed39 s.vm).alike V15_b2 (by decide)) CH5.1)
  have K6 : Keep h0 h19 [] := K5.wr W19 (Or.inr sz_b2)
  have f21 : Exa Z h19 b1 "java/lang/String" := (((((A1.ext E2).wr W6).wr W11).wr W15).wr W19)
  have f22 : Fld Z h19 b1 "java/lang/String" "value" "[B" .null := (((((F_value_b1.ext E2).other W6 (Or.inl (Nat.ne_of_lt (Nat.lt_of_lt_of_le A1.lt (Nat.le_of_eq g2.symm))))).other W11 (Or.inl (Nat.ne_of_lt (Nat.lt_of_lt_of_le A1.lt (Nat.le_of_eq g2.symm))))).other W15 (Or.inl (Nat.ne_of_lt (Nat.lt_of_lt_of_le A1.lt (Nat.le_of_eq g2.symm))))).other W19 (Or.inl (Nat.ne_of_lt (Nat.lt_of_lt_of_le A1.lt (Nat.le_of_eq g2.symm)))))
  have f23 : Fld Z h19 b1 "java/lang/String" "coder" "B" (.int (0 : Int32)) := (((((F_coder_b1.ext E2).other W6 (Or.inl (Nat.ne_of_lt (Nat.lt_of_lt_of_le A1.lt (Nat.le_of_eq g2.symm))))).other W11 (Or.inl (Nat.ne_of_lt (Nat.lt_of_lt_of_le A1.lt (Nat.le_of_eq g2.symm))))).other W15 (Or.inl (Nat.ne_of_lt (Nat.lt_of_lt_of_le A1.lt (Nat.le_of_eq g2.symm))))).other W19 (Or.inl (Nat.ne_of_lt (Nat.lt_of_lt_of_le A1.lt (Nat.le_of_eq g2.symm)))))
  have f24 : Old Z n0 h19 := ((((((O0.ext E1).ext E2).wr W6 g_b2).wr W11 g_b2).wr W15 g_b2).wr W19 g_b2)
  obtain ⟨_, _, ⟨T20, L20, k20, n20⟩, -, X20, ⟨Lc20, hQ20, l20, y20, z20⟩, st20⟩ := X19.specialBack hx (y := (⟨"java/lang/String", "<init>", "([C)V"⟩ : MethodName)) rfl hown (mvT hZ (hw _ (List.mem_of_getElem? (i := 53) rfl))) (mvT hZ (hw _ (List.mem_of_getElem? (i := 54) rfl))) (mvT hZ (hw _ (List.mem_of_getElem? (i := 55) rfl))) (by decide) (StrChars.Road.backV (W := 1) hZ (own_hws hw) (kI := 4) (hw _ (List.mem_of_getElem? (i := 2) rfl)) (cs := ([(nar .char (cs.getD 0 0)), (nar .char (cs.getD 1 0)), (nar .char (cs.getD 2 0)), (nar .char (cs.getD 3 0))] : List Int32)) (bs := (([(nar .char (cs.getD 0 0)), (nar .char (cs.getD 1 0)), (nar .char (cs.getD 2 0)), (nar .char (cs.getD 3 0))] : List Int32)).map (fun c => c.toInt8.toInt32)) (n := 4) g_b1 (Nat.le_trans Z0 K6.1) f21 f22 f23 (V19_b2 : Arv Z h19 b2 ka2 .char (Int32.ofNat 4) (([(nar .char (cs.getD 0 0)), (nar .char (cs.getD 1 0)), (nar .char (cs.getD 2 0)), (nar .char (cs.getD 3 0))] : List Int32).map Value.int) _) (O2.ext f24.2) P5 rfl rfl (by decide) (by decide) (own_cut_lat hlat 4) rfl (by decide) (by decide)) (g := (mkF m 135 #[.val (.ref a1), .val (.int p2)] [(.ref b2), (.ref b1), (.ref b1)])) rfl (by rw [hml]; rfl) (Steps.refl _) (a := b1) (argsL := [(.ref b2)]) (rest := [(.ref b1)]) (lenOf own_pd___C_V rfl) rfl (by show 2 * 0 + _ ≤ _; exact Nat.le_of_eq rfl) (hb hby own_d_method_4_code_135) (fun _ _ => ⟨rfl, e19, (by decide : 2 + 1 ≤ _), (by decide : 8 + 4 ≤ _)⟩)
  dsimp only [Pt.U, Pt.locs, Pt.cells, Pt.slots] at X20 l20 y20 z20 st20 hQ20
  rw [l20] at X20
  clear l20; subst y20 z20
  obtain ⟨rfl, N20q, K20q, E20q, gc20, t20, kb20, -, -, -, gv20, ga20⟩ := hQ20
  have N20a := Fr.app Nf19 N20q
  have f25 : Safe Z own_EL s.vm h19 b1 := (Safe.wr W19 (own_safeV (hZ : Z.Warmed39 s.vm).alike V15_b2 (by decide)) CH5.1 (Safe.wr W15 (own_safeV (hZ : Z.Warmed39 s.vm).alike V11_b2 (by decide)) CH4.1 (Safe.wr W11 (own_safeV (hZ : Z.Warmed39 s.vm).alike V6_b2 (by decide)) CH3.1 (Safe.wr W6 (own_safeV (hZ : Z.Warmed39 s.vm).alike V_b2 (by decide)) CH2.1 (Safe.ext E2 CH1.1 Sf1)))))
  have CH7 : CHr Z own_EL s.vm h0 s.vm T20.heap := CH6.trans (CHr.keep K20q (allS f25 all0) CH6.1)
  have K7 : Keep h0 T20.heap [] := K6.trans K20q (allS (Or.inr sz_b1) all0)
  have SV20 : StrV Z T20.heap b1 ([(nar .char (cs.getD 0 0)), (nar .char (cs.getD 1 0)), (nar .char (cs.getD 2 0)), (nar .char (cs.getD 3 0))] : List Int32) := own_mkStr rfl (own_cut_lat hlat 4) E20q gc20 gv20 ga20
  obtain ⟨fs, hr, hrun, hended, hend⟩ := X20.leaveW hS0 (Nat.zero_le _) (v := some (.ref b1)) (fun h => by rw [Bd.returns] at h; cases h)
  refine ⟨_, _, pre0 _ ?_, hrun, hended, _, _, rfl, ?_, ?_, hend.1, hend.2.1, hend.2.2.1, hend.2.2.2.mono (by decide) (by decide)⟩
  · show Steps p.tables e below (s₁.setTop (mkF m 0 #[.val (.ref a1), .val (.int p2)] [])) _
    refine XS.iloadN X0.here hx rfl (hb hby own_d_method_4_code_0) rfl ?_
    show Steps p.tables e below (s₁.setTop (mkF m 1 #[.val (.ref a1), .val (.int p2)] [(.int p2)])) _
    refine XS.ifYes X0.here hx rfl (pc0 := 1) (pc' := 15) rfl (hb hby own_d_method_4_code_1) rfl ((if0 _ _).trans (feq hc1).2) (by decide) (by decide) ?_
    refine XS.iloadN X0.here hx rfl (hb hby own_d_method_4_code_15) rfl ?_
    refine XS.iconst X0.here hx rfl (hb hby own_d_method_4_code_16) ?_
    show Steps p.tables e below (s₁.setTop (mkF m 17 #[.val (.ref a1), .val (.int p2)] [(.int (1 : Int32)), (.int p2)])) _
    refine XS.icmpYes X0.here hx rfl (pc0 := 17) (pc' := 37) rfl (hb hby own_d_method_4_code_17) rfl (feq hc17).2 (by decide) (by decide) ?_
    refine XS.iloadN X0.here hx rfl (hb hby own_d_method_4_code_37) rfl ?_
    refine XS.iconst X0.here hx rfl (hb hby own_d_method_4_code_38) ?_
    show Steps p.tables e below (s₁.setTop (mkF m 39 #[.val (.ref a1), .val (.int p2)] [(.int (2 : Int32)), (.int p2)])) _
    refine XS.icmpYes X0.here hx rfl (pc0 := 39) (pc' := 65) rfl (hb hby own_d_method_4_code_39) rfl (feq hc39).2 (by decide) (by decide) ?_
    refine XS.iloadN X0.here hx rfl (hb hby own_d_method_4_code_65) rfl ?_
    refine XS.iconst X0.here hx rfl (hb hby own_d_method_4_code_66) ?_
    show Steps p.tables e below (s₁.setTop (mkF m 67 #[.val (.ref a1), .val (.int p2)] [(.int (3 : Int32)), (.int p2)])) _
    refine XS.icmpYes X0.here hx rfl (pc0 := 67) (pc' := 99) rfl (hb hby own_d_method_4_code_67) rfl (feq hc67).2 (by decide) (by decide) ?_
    refine XS.iloadN X0.here hx rfl (hb hby own_d_method_4_code_99) rfl ?_
    refine XS.iconst X0.here hx rfl (hb hby own_d_method_4_code_100) ?_
    show Steps p.tables e below (s₁.setTop (mkF m 101 #[.val (.ref a1), .val (.int p2)] [(.int (4 : Int32)), (.int p2)])) _
    refine XS.icmpNo X0.here hx rfl (hb hby own_d_method_4_code_101) rfl (teq hc101).2 ?_
    show Steps p.tables e below (s₁.setTop (mkF m 104 #[.val (.ref a1), .val (.int p2)] [])) _
    refine st1 _ ?_
    refine XS.dup X1.here hx rfl (hb hby own_d_method_4_code_107) rfl rfl ?_
    refine XS.iconst X1.here hx rfl (hb hby own_d_method_4_code_108) ?_
    show Steps p.tables e below (T1.setTop (mkF m 109 #[.val (.ref a1), .val (.int p2)] [(.int (4 : Int32)), (.ref b1), (.ref b1)])) _
    refine st2 _ ?_
    refine XS.dup X2.here hx rfl (hb hby own_d_method_4_code_111) rfl rfl ?_
    refine XS.iconst X2.here hx rfl (hb hby own_d_method_4_code_112) ?_
    show Steps p.tables e below (T2.setTop (mkF m 113 #[.val (.ref a1), .val (.int p2)] [(.int (0 : Int32)), (.ref b2), (.ref b2), (.ref b1), (.ref b1)])) _
    refine XS.aloadN X2.here hx rfl (hb hby own_d_method_4_code_113) rfl rfl ?_
    refine XS.iconst X2.here hx rfl (hb hby own_d_method_4_code_114) ?_
    show Steps p.tables e below (T2.setTop (mkF m 115 #[.val (.ref a1), .val (.int p2)] [(.int (0 : Int32)), (.ref a1), (.int (0 : Int32)), (.ref b2), (.ref b2), (.ref b1), (.ref b1)])) _
    refine X2.caload hx (j := (0 : Int32)) (v := (.int (cs.getD 0 0))) (by rw [e2]; exact Ar4.1) (State.isArrayOf_alike hZ.alike Ar4.2.1) Ar4.2.2 hin4 hat4 (g := (mkF m 115 #[.val (.ref a1), .val (.int p2)] [(.int (0 : Int32)), (.ref a1), (.int (0 : Int32)), (.ref b2), (.ref b2), (.ref b1), (.ref b1)])) rfl rfl (hb hby own_d_method_4_code_115) _ ?_
    show Steps p.tables e below (T2.setTop (mkF m 116 #[.val (.ref a1), .val (.int p2)] [(.int (cs.getD 0 0)), (.int (0 : Int32)), (.ref b2), (.ref b2), (.ref b1), (.ref b1)])) _
    refine st6 _ ?_
    refine XS.dup X6.here hx rfl (hb hby own_d_method_4_code_117) rfl rfl ?_
    refine XS.iconst X6.here hx rfl (hb hby own_d_method_4_code_118) ?_
    show Steps p.tables e below (T6.setTop (mkF m 119 #[.val (.ref a1), .val (.int p2)] [(.int (1 : Int32)), (.ref b2), (.ref b2), (.ref b1), (.ref b1)])) _
    refine XS.aloadN X6.here hx rfl (hb hby own_d_method_4_code_119) rfl rfl ?_
    refine XS.iconst X6.here hx rfl (hb hby own_d_method_4_code_120) ?_
    show Steps p.tables e below (T6.setTop (mkF m 121 #[.val (.ref a1), .val (.int p2)] [(.int (1 : Int32)), (.ref a1), (.int (1 : Int32)), (.ref b2), (.ref b2), (.ref b1), (.ref b1)])) _
    refine X6.caload hx (j := (1 : Int32)) (v := (.int (cs.getD 1 0))) (by rw [e6]; exact Ar9.1) (State.isArrayOf_alike hZ.alike Ar9.2.1) Ar9.2.2 hin9 hat9 (g := (mkF m 121 #[.val (.ref a1), .val (.int p2)] [(.int (1 : Int32)), (.ref a1), (.int (1 : Int32)), (.ref b2), (.ref b2), (.ref b1), (.ref b1)])) rfl rfl (hb hby own_d_method_4_code_121) _ ?_
    show Steps p.tables e below (T6.setTop (mkF m 122 #[.val (.ref a1), .val (.int p2)] [(.int (cs.getD 1 0)), (.int (1 : Int32)), (.ref b2), (.ref b2), (.ref b1), (.ref b1)])) _
    refine st11 _ ?_
    refine XS.dup X11.here hx rfl (hb hby own_d_method_4_code_123) rfl rfl ?_
    refine XS.iconst X11.here hx rfl (hb hby own_d_method_4_code_124) ?_
    show Steps p.tables e below (T11.setTop (mkF m 125 #[.val (.ref a1), .val (.int p2)] [(.int (2 : Int32)), (.ref b2), (.ref b2), (.ref b1), (.ref b1)])) _
    refine XS.aloadN X11.here hx rfl (hb hby own_d_method_4_code_125) rfl rfl ?_
    refine XS.iconst X11.here hx rfl (hb hby own_d_method_4_code_126) ?_
    show Steps p.tables e below (T11.setTop (mkF m 127 #[.val (.ref a1), .val (.int p2)] [(.int (2 : Int32)), (.ref a1), (.int (2 : Int32)), (.ref b2), (.ref b2), (.ref b1), (.ref b1)])) _
    refine X11.caload hx (j := (2 : Int32)) (v := (.int (cs.getD 2 0))) (by rw [e11]; exact Ar13.1) (State.isArrayOf_alike hZ.alike Ar13.2.1) Ar13.2.2 hin13 hat13 (g := (mkF m 127 #[.val (.ref a1), .val (.int p2)] [(.int (2 : Int32)), (.ref a1), (.int (2 : Int32)), (.ref b2), (.ref b2), (.ref b1), (.ref b1)])) rfl rfl (hb hby own_d_method_4_code_127) _ ?_
    show Steps p.tables e below (T11.setTop (mkF m 128 #[.val (.ref a1), .val (.int p2)] [(.int (cs.getD 2 0)), (.int (2 : Int32)), (.ref b2), (.ref b2), (.ref b1), (.ref b1)])) _
    refine st15 _ ?_
    refine XS.dup X15.here hx rfl (hb hby own_d_method_4_code_129) rfl rfl ?_
    refine XS.iconst X15.here hx rfl (hb hby own_d_method_4_code_130) ?_
    show Steps p.tables e below (T15.setTop (mkF m 131 #[.val (.ref a1), .val (.int p2)] [(.int (3 : Int32)), (.ref b2), (.ref b2), (.ref b1), (.ref b1)])) _
    refine XS.aloadN X15.here hx rfl (hb hby own_d_method_4_code_131) rfl rfl ?_
    refine XS.iconst X15.here hx rfl (hb hby own_d_method_4_code_132) ?_
    show Steps p.tables e below (T15.setTop (mkF m 133 #[.val (.ref a1), .val (.int p2)] [(.int (3 : Int32)), (.ref a1), (.int (3 : Int32)), (.ref b2), (.ref b2), (.ref b1), (.ref b1)])) _
    refine X15.caload hx (j := (3 : Int32)) (v := (.int (cs.getD 3 0))) (by rw [e15]; exact Ar17.1) (State.isArrayOf_alike hZ.alike Ar17.2.1) Ar17.2.2 hin17 hat17 (g := (mkF m 133 #[.val (.ref a1), .val (.int p2)] [(.int (3 : Int32)), (.ref a1), (.int (3 : Int32)), (.ref b2), (.ref b2), (.ref b1), (.ref b1)])) rfl rfl (hb hby own_d_method_4_code_133) _ ?_
    show Steps p.tables e below (T15.setTop (mkF m 134 #[.val (.ref a1), .val (.int p2)] [(.int (cs.getD 3 0)), (.int (3 : Int32)), (.ref b2), (.ref b2), (.ref b1), (.ref b1)])) _
    refine st19 _ ?_
    show Steps p.tables e below (T19.setTop (mkF m 135 #[.val (.ref a1), .val (.int p2)] [(.ref b2), (.ref b1), (.ref b1)])) _
    refine st20.trans ?_
    show Steps p.tables e below (T20.setTop (mkF m 138 #[.val (.ref a1), .val (.int p2)] [(.ref b1)])) _
    jvm_step X20.here [X20.here.top, hx, (hb hby own_d_method_4_code_138), X20.method', Bd.returns, Value.isRef, FieldType.isReference]
    first | (intro acts; rw [hr _ acts rfl rfl rfl]) | rw [hr _ _ rfl rfl rfl]
    exact Steps.refl _
  · show QS Z (own_cut cs 4) h0 n0 _ T20.heap _
    exact ⟨b1, rfl, N20a, K7, SV20⟩
  · show CHr Z own_EL s.vm s.heap T20.vm T20.heap
    rw [hh]
    exact CH7.trans (CHv.at X20 hZ hEL CH7.1)
theorem own_d_method_4_code_139 : decode method_4_code 139 = .ok (.iload_n 1, 1) := by decide +kernel
theorem own_d_method_4_code_140 : decode method_4_code 140 = .ok (.iconst 5, 1) := by decide +kernel
theorem own_d_method_4_code_141 : decode method_4_code 141 = .ok (.if_icmp .ne 44, 3) := by decide +kernel
theorem own_d_method_4_code_144 : decode method_4_code 144 = .ok (.new 12, 3) := by decide +kernel
theorem own_d_method_4_code_147 : decode method_4_code 147 = .ok (.dup, 1) := by decide +kernel
theorem own_d_method_4_code_148 : decode method_4_code 148 = .ok (.iconst 5, 1) := by decide +kernel
theorem own_d_method_4_code_149 : decode method_4_code 149 = .ok (.newarray .char, 2) := by decide +kernel
theorem own_d_method_4_code_151 : decode method_4_code 151 = .ok (.dup, 1) := by decide +kernel
theorem own_d_method_4_code_152 : decode method_4_code 152 = .ok (.iconst 0, 1) := by decide +kernel
theorem own_d_method_4_code_153 : decode method_4_code 153 = .ok (.aload_n 0, 1) := by decide +kernel
theorem own_d_method_4_code_154 : decode method_4_code 154 = .ok (.iconst 0, 1) := by decide +kernel
theorem own_d_method_4_code_155 : decode method_4_code 155 = .ok (.caload, 1) := by decide +kernel
theorem own_d_method_4_code_156 : decode method_4_code 156 = .ok (.castore, 1) := by decide +kernel
theorem own_d_method_4_code_157 : decode method_4_code 157 = .ok (.dup, 1) := by decide +kernel
theorem own_d_method_4_code_158 : decode method_4_code 158 = .ok (.iconst 1, 1) := by decide +kernel
theorem own_d_method_4_code_159 : decode method_4_code 159 = .ok (.aload_n 0, 1) := by decide +kernel
theorem own_d_method_4_code_160 : decode method_4_code 160 = .ok (.iconst 1, 1) := by decide +kernel
theorem own_d_method_4_code_161 : decode method_4_code 161 = .ok (.caload, 1) := by decide +kernel
theorem own_d_method_4_code_162 : decode method_4_code 162 = .ok (.castore, 1) := by decide +kernel
theorem own_d_method_4_code_163 : decode method_4_code 163 = .ok (.dup, 1) := by decide +kernel
theorem own_d_method_4_code_164 : decode method_4_code 164 = .ok (.iconst 2, 1) := by decide +kernel
theorem own_d_method_4_code_165 : decode method_4_code 165 = .ok (.aload_n 0, 1) := by decide +kernel
theorem own_d_method_4_code_166 : decode method_4_code 166 = .ok (.iconst 2, 1) := by decide +kernel
theorem own_d_method_4_code_167 : decode method_4_code 167 = .ok (.caload, 1) := by decide +kernel
theorem own_d_method_4_code_168 : decode method_4_code 168 = .ok (.castore, 1) := by decide +kernel
theorem own_d_method_4_code_169 : decode method_4_code 169 = .ok (.dup, 1) := by decide +kernel
theorem own_d_method_4_code_170 : decode method_4_code 170 = .ok (.iconst 3, 1) := by decide +kernel
theorem own_d_method_4_code_171 : decode method_4_code 171 = .ok (.aload_n 0, 1) := by decide +kernel
theorem own_d_method_4_code_172 : decode method_4_code 172 = .ok (.iconst 3, 1) := by decide +kernel
theorem own_d_method_4_code_173 : decode method_4_code 173 = .ok (.caload, 1) := by decide +kernel
theorem own_d_method_4_code_174 : decode method_4_code 174 = .ok (.castore, 1) := by decide +kernel
theorem own_d_method_4_code_175 : decode method_4_code 175 = .ok (.dup, 1) := by decide +kernel
theorem own_d_method_4_code_176 : decode method_4_code 176 = .ok (.iconst 4, 1) := by decide +kernel
theorem own_d_method_4_code_177 : decode method_4_code 177 = .ok (.aload_n 0, 1) := by decide +kernel
theorem own_d_method_4_code_178 : decode method_4_code 178 = .ok (.iconst 4, 1) := by decide +kernel
theorem own_d_method_4_code_179 : decode method_4_code 179 = .ok (.caload, 1) := by decide +kernel
theorem own_d_method_4_code_180 : decode method_4_code 180 = .ok (.castore, 1) := by decide +kernel
theorem own_d_method_4_code_181 : decode method_4_code 181 = .ok (.invokespecial 45, 3) := by decide +kernel
theorem own_d_method_4_code_184 : decode method_4_code 184 = .ok (.areturn, 1) := by decide +kernel
set_option maxRecDepth 65536 in
set_option maxHeartbeats 40000000 in
theorem rc5 (l : Launch) (Z : State) (a0 : Array Value) (hw : ∀ d ∈ tables_1, d.before a0 Z = true) (ws : List Jvm.Cond) (hEL : EW Z a0 own_EL) (a1 : Addr) (p2 : Int32) (cs : List Int32) (kc : ClassId) (G1 : Int32) (G3 : Value) (h0 : Heap) (n0 : Nat) (Z0 : n0 ≤ h0.size) (O2 : Sta Z Z.heap "java/lang/String" "COMPACT_STRINGS" "Z" (.int G1)) (P5 : ¬ (G1 = (0 : Int32))) (O4 : Sta Z Z.heap "jdk/internal/util/Preconditions" "SIOOBE_FORMATTER" "Ljava/util/function/BiFunction;" G3) (rG3 : G3.isRef = true) (O0 : Old Z n0 h0) (V_a1 : Arv Z h0 a1 kc .char (9 : Int32) (cs.map Value.int) (.int (0 : Int32))) (hlat : ∀ c ∈ cs, Lat c) (hc1 : ¬ (p2 = (0 : Int32))) (hc17 : ¬ (p2 = (1 : Int32))) (hc39 : ¬ (p2 = (2 : Int32))) (hc67 : ¬ (p2 = (3 : Int32))) (hc101 : ¬ (p2 = (4 : Int32))) (hc141 : p2 = (5 : Int32)) :
    MetFree l (⟨"com/example/restate/restate/TargetIsAttachedPinLaw", "cut", "([CI)Ljava/lang/String;"⟩ : MethodName) (head1 (Jvm.Cond.code (⟨"com/example/restate/restate/TargetIsAttachedPinLaw", "cut", "([CI)Ljava/lang/String;"⟩ : MethodName) method_4_code 2 (some (.object "java/lang/String")) :: ws) ({ frames := 4, cells := 4, slots := 22, locals := 66 } : Room)) (fun a U => a = #[(.ref a1), (.int p2)] ∧ Z.Warmed39 U.vm ∧ U.heap = h0 ∧ CHv Z own_EL U.vm h0) (fun _ _ _ _ _ => True) (fun _ U o U' => ∃ vr_ Lr_, o = .returned vr_ ∧ QS Z (own_cut cs 5) h0 n0 vr_ U'.heap Lr_ ∧ CHr Z own_EL U.vm U.heap U'.vm U'.heap ∧ ReturnedEndW U o U' Lr_ 4 22) := by
  refine MetFree.of_bodySF (plainFor_of_name own_pn_com_example_restate_restate_TargetIsAttachedPinLaw) hisR ?_
  intro p e s m args below meth c s₁ Bd hml0 hP hK
  obtain ⟨rfl, hZ, hh, hCH0⟩ := hP
  have hx := Bd.exec
  have hby := Bd.bytes
  have hml : c.maxLocals = 2 := hml0
  have hown : s.vm.findClass "com/example/restate/restate/TargetIsAttachedPinLaw" = some m.cls := findClass_of_methodNamed Bd.named
  have hnm := (name_of_methodNamed Bd.named Bd.method).1
  have X0 : Stand p l e ({ frames := 4, cells := 4, slots := 22, locals := 66 } : Room) (s.setVm s.vm) m #[(.ref a1), (.int p2)] below meth c s₁ [] 0 0 := Stand.of_body Bd
  have e0 : s₁.heap = h0 := by rw [← hh, Bd.state]; rfl
  have N0 := Fr.nil n0
  have CH0 : CHr Z own_EL s.vm h0 s.vm h0 := CHr.refl hCH0
  have hS0 : s.Since s.vm 0 := State.WarmedH.since (State.WarmedH.refl s) 0
  have pre0 : ∀ t, Steps p.tables e below (s₁.setTop (mkF m 0 #[.val (.ref a1), .val (.int p2)] [])) t → Steps p.tables e below (s₁.setTop (entryFrame m #[(.ref a1), (.int p2)] 2)) t := fun t k => castTop (own_ef_method_4_code_xx m a1 p2) k
  obtain ⟨T1, h1, X1, e1, E1, A1, D1, -, st1⟩ := newO X0 hx hZ hown (hw _ (List.mem_of_getElem? (i := 52) rfl)) (hw _ (List.mem_of_getElem? (i := 2) rfl)) (hw _ (List.mem_of_getElem? (i := 1) rfl)) e0 (g := (mkF m 144 #[.val (.ref a1), .val (.int p2)] [])) rfl (hb hby own_d_method_4_code_144) (by decide) (by decide)
  obtain ⟨b1, g1⟩ : ∃ z, z = h0.size := ⟨_, rfl⟩
  rw [← g1] at A1 D1 st1
  have sz_b1 : h0.size ≤ b1 := Nat.le_trans (Keep.refl h0 []).1 (Nat.le_of_eq g1.symm)
  have g_b1 : n0 ≤ b1 := Nat.le_trans Z0 sz_b1
  have CH1 : CHr Z own_EL s.vm h0 s.vm h1 := CH0.trans (CHr.ext E1 CH0.1)
  have K1 : Keep h0 h1 [] := (Keep.refl h0 []).ext E1
  have F_value_b1 : Fld Z h1 b1 "java/lang/String" "value" "[B" .null := D1 (Or.inr (hw _ (List.mem_of_getElem? (i := 4) rfl))) (ty := (.array .byte)) (by decide)
  have F_coder_b1 : Fld Z h1 b1 "java/lang/String" "coder" "B" (.int (0 : Int32)) := D1 (Or.inr (hw _ (List.mem_of_getElem? (i := 5) rfl))) (ty := .byte) (by decide)
  have Sf1 : Safe Z own_EL s.vm h1 b1 := Safe.ext E1 CH0.1 (Safe.new (Nat.le_of_eq g1.symm))
  obtain ⟨T2, h2, ka2, X2, e2, E2, A2, st2⟩ := newP X1 hx hZ (hw _ (List.mem_of_getElem? (i := 22) rfl)) e1 (g := (mkF m 149 #[.val (.ref a1), .val (.int p2)] [(.int (5 : Int32)), (.ref b1), (.ref b1)])) rfl (hb hby own_d_method_4_code_149) rfl (by decide) (cap := 5) (by decide) (by decide) (by decide) (by decide)
  obtain ⟨b2, g2⟩ : ∃ z, z = h1.size := ⟨_, rfl⟩
  rw [← g2] at A2 st2
  have sz_b2 : h0.size ≤ b2 := Nat.le_trans K1.1 (Nat.le_of_eq g2.symm)
  have g_b2 : n0 ≤ b2 := Nat.le_trans Z0 sz_b2
  have CH2 : CHr Z own_EL s.vm h0 s.vm h2 := CH1.trans (CHr.ext E2 CH1.1)
  have K2 : Keep h0 h2 [] := K1.ext E2
  have V_b2 : Arv Z h2 b2 ka2 .char (5 : Int32) [(.int (0 : Int32)), (.int (0 : Int32)), (.int (0 : Int32)), (.int (0 : Int32)), (.int (0 : Int32))] (.int (0 : Int32)) := (Arv.new A2 (by decide)).pad (pad_rep [] (.int (0 : Int32)) 5)
  have f3 : Arv Z h2 a1 kc .char (9 : Int32) (cs.map Value.int) (.int (0 : Int32)) := ((V_a1.ext E1).ext E2)
  obtain ⟨cl4, Ar4, q4, S4, N_4, H_4, G4⟩ := id f3
  have hin4 : ¬ ((0 : Int32) < 0 ∨ cl4.slots.size ≤ ((0 : Int32)).toNatClampNeg) := inb_of S4 ⟨by decide, by decide⟩
  have hat4 : cl4.slots[((0 : Int32)).toNatClampNeg]? = some (.int (cs.getD 0 0)) := H_4.at hin4 (own_getD cs 0)
  obtain ⟨cl5, Ar5, q5, S5, N_5, H_5, G5⟩ := id V_b2
  obtain ⟨T6, h6, X6, e6, W6, st6⟩ := stC X2 hx hZ e2 Ar5 (j := (0 : Int32)) (inb_of S5 ⟨by decide, by decide⟩) (g := (mkF m 156 #[.val (.ref a1), .val (.int p2)] [(.int (cs.getD 0 0)), (.int (0 : Int32)), (.ref b2), (.ref b2), (.ref b1), (.ref b1)])) rfl rfl (hb hby own_d_method_4_code_156)
  have V6_b2 : Arv Z h6 b2 ka2 .char (5 : Int32) [(.int (nar .char (cs.getD 0 0))), (.int (0 : Int32)), (.int (0 : Int32)), (.int (0 : Int32)), (.int (0 : Int32))] (.int (0 : Int32)) := Arv.set Ar5 q5 S5 N_5 H_5 G5 (fits_nar_char _) W6 0 rfl (Nat.le_of_ble_eq_true rfl)
  have Nf6 := Fr.snoc X6 N0 g_b2
  have CH3 : CHr Z own_EL s.vm h0 s.vm h6 := CH2.trans (CHr.wr W6 (own_safeV (hZ : Z.Warmed39 s.vm).alike V_b2 (by decide)) CH2.1)
  have K3 : Keep h0 h6 [] := K2.wr W6 (Or.inr sz_b2)
  have f7 : Arv Z h1 a1 kc .char (9 : Int32) (cs.map Value.int) (.int (0 : Int32)) := (V_a1.ext E1)
  have f8 : Arv Z h6 a1 kc .char (9 : Int32) (cs.map Value.int) (.int (0 : Int32)) := (f3.other W6 (Nat.ne_of_lt (Nat.lt_of_lt_of_le f7.lt (Nat.le_of_eq g2.symm))))
  obtain ⟨cl9, Ar9, q9, S9, N_9, H_9, G9⟩ := id f8
  have hin9 : ¬ ((1 : Int32) < 0 ∨ cl9.slots.size ≤ ((1 : Int32)).toNatClampNeg) := inb_of S9 ⟨by decide, by decide⟩
  have hat9 : cl9.slots[((1 : Int32)).toNatClampNeg]? = some (.int (cs.getD 1 0)) := H_9.at hin9 (own_getD cs 1)
  obtain ⟨cl10, Ar10, q10, S10, N_10, H_10, G10⟩ := id V6_b2
  obtain ⟨T11, h11, X11, e11, W11, st11⟩ := stC X6 hx hZ e6 Ar10 (j := (1 : Int32)) (inb_of S10 ⟨by decide, by decide⟩) (g := (mkF m 162 #[.val (.ref a1), .val (.int p2)] [(.int (cs.getD 1 0)), (.int (1 : Int32)), (.ref b2), (.ref b2), (.ref b1), (.ref b1)])) rfl rfl (hb hby own_d_method_4_code_162)
  have V11_b2 : Arv Z h11 b2 ka2 .char (5 : Int32) [(.int (nar .char (cs.getD 0 0))), (.int (nar .char (cs.getD 1 0))), (.int (0 : Int32)), (.int (0 : Int32)), (.int (0 : Int32))] (.int (0 : Int32)) := Arv.set Ar10 q10 S10 N_10 H_10 G10 (fits_nar_char _) W11 1 rfl (Nat.le_of_ble_eq_true rfl)
  have Nf11 := Fr.snoc X11 Nf6 g_b2
  have CH4 : CHr Z own_EL s.vm h0 s.vm h11 := CH3.trans (CHr.wr W11 (own_safeV (hZ : Z.Warmed39 s.vm).alike V6_b2 (by decide)) CH3.1)
  have K4 : Keep h0 h11 [] := K3.wr W11 (Or.inr sz_b2)
  have f12 : Arv Z h11 a1 kc .char (9 : Int32) (cs.map Value.int) (.int (0 : Int32)) := (f8.other W11 (Nat.ne_of_lt (Nat.lt_of_lt_of_le f7.lt (Nat.le_of_eq g2.symm))))
  obtain ⟨cl13, Ar13, q13, S13, N_13, H_13, G13⟩ := id f12
  have hin13 : ¬ ((2 : Int32) < 0 ∨ cl13.slots.size ≤ ((2 : Int32)).toNatClampNeg) := inb_of S13 ⟨by decide, by decide⟩
  have hat13 : cl13.slots[((2 : Int32)).toNatClampNeg]? = some (.int (cs.getD 2 0)) := H_13.at hin13 (own_getD cs 2)
  obtain ⟨cl14, Ar14, q14, S14, N_14, H_14, G14⟩ := id V11_b2
  obtain ⟨T15, h15, X15, e15, W15, st15⟩ := stC X11 hx hZ e11 Ar14 (j := (2 : Int32)) (inb_of S14 ⟨by decide, by decide⟩) (g := (mkF m 168 #[.val (.ref a1), .val (.int p2)] [(.int (cs.getD 2 0)), (.int (2 : Int32)), (.ref b2), (.ref b2), (.ref b1), (.ref b1)])) rfl rfl (hb hby own_d_method_4_code_168)
  have V15_b2 : Arv Z h15 b2 ka2 .char (5 : Int32) [(.int (nar .char (cs.getD 0 0))), (.int (nar .char (cs.getD 1 0))), (.int (nar .char (cs.getD 2 0))), (.int (0 : Int32)), (.int (0 : Int32))] (.int (0 : Int32)) := Arv.set Ar14 q14 S14 N_14 H_14 G14 (fits_nar_char _) W15 2 rfl (Nat.le_of_ble_eq_true rfl)
  have Nf15 := Fr.snoc X15 Nf11 g_b2
  have CH5 : CHr Z own_EL s.vm h0 s.vm h15 := CH4.trans (CHr.wr W15 (own_safeV (hZ : Z.Warmed39 s.vm).alike V11_b2 (by decide)) CH4.1)
  have K5 : Keep h0 h15 [] := K4.wr W15 (Or.inr sz_b2)
  have f16 : Arv Z h15 a1 kc .char (9 : Int32) (cs.map Value.int) (.int (0 : Int32)) := (f12.other W15 (Nat.ne_of_lt (Nat.lt_of_lt_of_le f7.lt (Nat.le_of_eq g2.symm))))
  obtain ⟨cl17, Ar17, q17, S17, N_17, H_17, G17⟩ := id f16
  have hin17 : ¬ ((3 : Int32) < 0 ∨ cl17.slots.size ≤ ((3 : Int32)).toNatClampNeg) := inb_of S17 ⟨by decide, by decide⟩
  have hat17 : cl17.slots[((3 : Int32)).toNatClampNeg]? = some (.int (cs.getD 3 0)) := H_17.at hin17 (own_getD cs 3)
  obtain ⟨cl18, Ar18, q18, S18, N_18, H_18, G18⟩ := id V15_b2
  obtain ⟨T19, h19, X19, e19, W19, st19⟩ := stC X15 hx hZ e15 Ar18 (j := (3 : Int32)) (inb_of S18 ⟨by decide, by decide⟩) (g := (mkF m 174 #[.val (.ref a1), .val (.int p2)] [(.int (cs.getD 3 0)), (.int (3 : Int32)), (.ref b2), (.ref b2), (.ref b1), (.ref b1)])) rfl rfl (hb hby own_d_method_4_code_174)
  have V19_b2 : Arv Z h19 b2 ka2 .char (5 : Int32) [(.int (nar .char (cs.getD 0 0))), (.int (nar .char (cs.getD 1 0))), (.int (nar .char (cs.getD 2 0))), (.int (nar .char (cs.getD 3 0))), (.int (0 : Int32))] (.int (0 : Int32)) := Arv.set Ar18 q18 S18 N_18 H_18 G18 (fits_nar_char _) W19 3 rfl (Nat.le_of_ble_eq_true rfl)
  have Nf19 := Fr.snoc X19 Nf15 g_b2
  have CH6 : CHr Z own_EL s.vm h0 s.vm h19 := CH5.trans (CHr.wr W19 (own_safeV (hZ : Z.Warmed39 s.vm).alike V15_b2 (by decide)) CH5.1)
  have K6 : Keep h0 h19 [] := K5.wr W19 (Or.inr sz_b2)
  have f20 : Arv Z h19 a1 kc .char (9 : Int32) (cs.map Value.int) (.int (0 : Int32)) := (f16.other W19 (Nat.ne_of_lt (Nat.lt_of_lt_of_le f7.lt (Nat.le_of_eq g2.symm))))
  obtain ⟨cl21, Ar21, q21, S21, N_21, H_21, G21⟩ := id f20
  have hin21 : ¬ ((4 : Int32) < 0 ∨ cl21.slots.size ≤ ((4 : Int32)).toNatClampNeg) := inb_of S21 ⟨by decide, by decide⟩
  have hat21 : cl21.slots[((4 : Int32)).toNatClampNeg]? = some (.int (cs.getD 4 0)) := H_21.at hin21 (own_getD cs 4)
  obtain ⟨cl22, Ar22, q22, S22, N_22, H_22, G22⟩ := id V19_b2
  obtain ⟨T23, h23, X23, e23, W23, st23⟩ := stC X19 hx hZ e19 Ar22 (j := (4 : Int32)) (inb_of S22 ⟨by decide, by decide⟩) (g := (mkF m 180 #[.val (.ref a1), .val (.int p2)] [(.int (cs.getD 4 0)), (.int (4 : Int32)), (.ref b2), (.ref b2), (.ref b1), (.ref b1)])) rfl rfl (hb hby own_d_method_4_code_180)
  have V23_b2 : Arv Z h23 b2 ka2 .char (5 : Int32) [(.int (nar .char (cs.getD 0 0))), (.int (nar .char (cs.getD 1 0))), (.int (nar .char (cs.getD 2 0))), (.int (nar .char (cs.getD 3 0))), (.int (nar .char (cs.getD 4 0)))] (.int (0 : Int32)) := Arv.set Ar22 q22 S22 N_22 H_22 G22 (fits_nar_char _) W23 4 rfl (Nat.le_of_ble_eq_true rfl)
  have Nf23 := Fr.snoc X23 Nf19 g_b2
  have CH7 : CHr Z own_EL s.vm h0 s.vm h23 := CH6.trans (CHr.wr W23 (own_safeV (hZ : Z.Warmed39 s.vm).alike V19_b2 (by decide)) CH6.1)
  have K7 : Keep h0 h23 [] := K6.wr W23 (Or.inr sz_b2)
  have f25 : Exa Z h23 b1 "java/lang/String" := ((((((A1.ext E2).wr W6).wr W11).wr W15).wr W19).wr W23)
  have f26 : Fld Z h23 b1 "java/lang/String" "value" "[B" .null := ((((((F_value_b1.ext E2).other W6 (Or.inl (Nat.ne_of_lt (Nat.lt_of_lt_of_le A1.lt (Nat.le_of_eq g2.symm))))).other W11 (Or.inl (Nat.ne_of_lt (Nat.lt_of_lt_of_le A1.lt (Nat.le_of_eq g2.symm))))).other W15 (Or.inl (Nat.ne_of_lt (Nat.lt_of_lt_of_le A1.lt (Nat.le_of_eq g2.symm))))).other W19 (Or.inl (Nat.ne_of_lt (Nat.lt_of_lt_of_le A1.lt (Nat.le_of_eq g2.symm))))).other W23 (Or.inl (Nat.ne_of_lt (Nat.lt_of_lt_of_le A1.lt (Nat.le_of_eq g2.symm)))))
  have f27 : Fld Z h23 b1 "java/lang/String" "coder" "B" (.int (0 : Int32)) := ((((((F_coder_b1.ext E2).other W6 (Or.inl (Nat.ne_of_lt (Nat.lt_of_lt_of_le A1.lt (Nat.le_of_eq g2.symm))))).other W11 (Or.inl (Nat.ne_of_lt (Nat.lt_of_lt_of_le A1.lt (Nat.le_of_eq g2.symm))))).other W15 (Or.inl (Nat.ne_of_lt (Nat.lt_of_lt_of_le A1.lt (Nat.le_of_eq g2.symm))))).other W19 (Or.inl (Nat.ne_of_lt (Nat.lt_of_lt_of_le A1.lt (Nat.le_of_eq g2.symm))))).other W23 (Or.inl (Nat.ne_of_lt (Nat.lt_of_lt_of_le A1.lt (Nat.le_of_eq g2.symm)))))
  have f28 : Old Z n0 h23 := (((((((O0.ext E1).ext E2).wr W6 g_b2).wr W11 g_b2).wr W15 g_b2).wr W19 g_b2).wr W23 g_b2)
  obtain ⟨_, _, ⟨T24, L24, k24, n24⟩, -, X24, ⟨Lc24, hQ24, l24, y24, z24⟩, st24⟩ := X23.specialBack hx (y := (⟨"java/lang/String", "<init>", "([C)V"⟩ : MethodName)) rfl hown (mvT hZ (hw _ (List.mem_of_getElem? (i := 53) rfl))) (mvT hZ (hw _ (List.mem_of_getElem? (i := 54) rfl))) (mvT hZ (hw _ (List.mem_of_getElem? (i := 55) rfl))) (by decide) (StrChars.Road.backV (W := 1) hZ (own_hws hw) (kI := 4) (hw _ (List.mem_of_getElem? (i := 2) rfl)) (cs := ([(nar .char (cs.getD 0 0)), (nar .char (cs.getD 1 0)), (nar .char (cs.getD 2 0)), (nar .char (cs.getD 3 0)), (nar .char (cs.getD 4 0))] : List Int32)) (bs := (([(nar .char (cs.getD 0 0)), (nar .char (cs.getD 1 0)), (nar .char (cs.getD 2 0)), (nar .char (cs.getD 3 0)), (nar .char (cs.getD 4 0))] : List Int32)).map (fun c => c.toInt8.toInt32)) (n := 5) g_b1 (Nat.le_trans Z0 K7.1) f25 f26 f27 (V23_b2 : Arv Z h23 b2 ka2 .char (Int32.ofNat 5) (([(nar .char (cs.getD 0 0)), (nar .char (cs.getD 1 0)), (nar .char (cs.getD 2 0)), (nar .char (cs.getD 3 0)), (nar .char (cs.getD 4 0))] : List Int32).map Value.int) _) (O2.ext f28.2) P5 rfl rfl (by decide) (by decide) (own_cut_lat hlat 5) rfl (by decide) (by decide)) (g := (mkF m 181 #[.val (.ref a1), .val (.int p2)] [(.ref b2), (.ref b1), (.ref b1)])) rfl (by rw [hml]; rfl) (Steps.refl _) (a := b1) (argsL := [(.ref b2)]) (rest := [(.ref b1)]) (lenOf own_pd___C_V rfl) rfl (by show 2 * 0 + _ ≤ _; exact Nat.le_of_eq rfl) (hb hby own_d_method_4_code_181) (fun _ _ => ⟨rfl, e23, (by decide : 2 + 1 ≤ _), (by decide : 9 + 5 ≤ _)⟩)
  dsimp only [Pt.U, Pt.locs, Pt.cells, Pt.slots] at X24 l24 y24 z24 st24 hQ24
  rw [l24] at X24
  clear l24; subst y24 z24
  obtain ⟨rfl, N24q, K24q, E24q, gc24, t24, kb24, -, -, -, gv24, ga24⟩ := hQ24
  have N24a := Fr.app Nf23 N24q
  have f29 : Safe Z own_EL s.vm h23 b1 := (Safe.wr W23 (own_safeV (hZ : Z.Warmed39 s.vm).alike V19_b2 (by decide)) CH6.1 (Safe.wr W19 (own_safeV (hZ : Z.Warmed39 s.vm).alike V15_b2 (by decide)) CH5.1 (Safe.wr W15 (own_safeV (hZ : Z.Warmed39 s.vm).alike V11_b2 (by decide)) CH4.1 (Safe.wr W11 (own_safeV (hZ : Z.Warmed39 s.vm).alike V6_b2 (by decide)) CH3.1 (Safe.wr W6 (own_safeV (hZ : Z.Warmed39 s.vm).alike V_b2 (by decide)) CH2.1 (Safe.ext E2 CH1.1 Sf1))))))
  have CH8 : CHr Z own_EL s.vm h0 s.vm T24.heap := CH7.trans (CHr.keep K24q (allS f29 all0) CH7.1)
  have K8 : Keep h0 T24.heap [] := K7.trans K24q (allS (Or.inr sz_b1) all0)
  have SV24 : StrV Z T24.heap b1 ([(nar .char (cs.getD 0 0)), (nar .char (cs.getD 1 0)), (nar .char (cs.getD 2 0)), (nar .char (cs.getD 3 0)), (nar .char (cs.getD 4 0))] : List Int32) := own_mkStr rfl (own_cut_lat hlat 5) E24q gc24 gv24 ga24
  obtain ⟨fs, hr, hrun, hended, hend⟩ := X24.leaveW hS0 (Nat.zero_le _) (v := some (.ref b1)) (fun h => by rw [Bd.returns] at h; cases h)
  refine ⟨_, _, pre0 _ ?_, hrun, hended, _, _, rfl, ?_, ?_, hend.1, hend.2.1, hend.2.2.1, hend.2.2.2.mono (by decide) (by decide)⟩
  · show Steps p.tables e below (s₁.setTop (mkF m 0 #[.val (.ref a1), .val (.int p2)] [])) _
    refine XS.iloadN X0.here hx rfl (hb hby own_d_method_4_code_0) rfl ?_
    show Steps p.tables e below (s₁.setTop (mkF m 1 #[.val (.ref a1), .val (.int p2)] [(.int p2)])) _
    refine XS.ifYes X0.here hx rfl (pc0 := 1) (pc' := 15) rfl (hb hby own_d_method_4_code_1) rfl ((if0 _ _).trans (feq hc1).2) (by decide) (by decide) ?_
    refine XS.iloadN X0.here hx rfl (hb hby own_d_method_4_code_15) rfl ?_
    refine XS.iconst X0.here hx rfl (hb hby own_d_method_4_code_16) ?_
    show Steps p.tables e below (s₁.setTop (mkF m 17 #[.val (.ref a1), .val (.int p2)] [(.int (1 : Int32)), (.int p2)])) _
    refine XS.icmpYes X0.here hx rfl (pc0 := 17) (pc' := 37) rfl (hb hby own_d_method_4_code_17) rfl (feq hc17).2 (by decide) (by decide) ?_
    refine XS.iloadN X0.here hx rfl (hb hby own_d_method_4_code_37) rfl ?_
    refine XS.iconst X0.here hx rfl (hb hby own_d_method_4_code_38) ?_
    show Steps p.tables e below (s₁.setTop (mkF m 39 #[.val (.ref a1), .val (.int p2)] [(.int (2 : Int32)), (.int p2)])) _
    refine XS.icmpYes X0.here hx rfl (pc0 := 39) (pc' := 65) rfl (hb hby own_d_method_4_code_39) rfl (feq hc39).2 (by decide) (by decide) ?_
    refine XS.iloadN X0.here hx rfl (hb hby own_d_method_4_code_65) rfl ?_
    refine XS.iconst X0.here hx rfl (hb hby own_d_method_4_code_66) ?_
    show Steps p.tables e below (s₁.setTop (mkF m 67 #[.val (.ref a1), .val (.int p2)] [(.int (3 : Int32)), (.int p2)])) _
    refine XS.icmpYes X0.here hx rfl (pc0 := 67) (pc' := 99) rfl (hb hby own_d_method_4_code_67) rfl (feq hc67).2 (by decide) (by decide) ?_
    refine XS.iloadN X0.here hx rfl (hb hby own_d_method_4_code_99) rfl ?_
    refine XS.iconst X0.here hx rfl (hb hby own_d_method_4_code_100) ?_
    show Steps p.tables e below (s₁.setTop (mkF m 101 #[.val (.ref a1), .val (.int p2)] [(.int (4 : Int32)), (.int p2)])) _
    refine XS.icmpYes X0.here hx rfl (pc0 := 101) (pc' := 139) rfl (hb hby own_d_method_4_code_101) rfl (feq hc101).2 (by decide) (by decide) ?_
    refine XS.iloadN X0.here hx rfl (hb hby own_d_method_4_code_139) rfl ?_
    refine XS.iconst X0.here hx rfl (hb hby own_d_method_4_code_140) ?_
    show Steps p.tables e below (s₁.setTop (mkF m 141 #[.val (.ref a1), .val (.int p2)] [(.int (5 : Int32)), (.int p2)])) _
    refine XS.icmpNo X0.here hx rfl (hb hby own_d_method_4_code_141) rfl (teq hc141).2 ?_
    show Steps p.tables e below (s₁.setTop (mkF m 144 #[.val (.ref a1), .val (.int p2)] [])) _
    refine st1 _ ?_
    refine XS.dup X1.here hx rfl (hb hby own_d_method_4_code_147) rfl rfl ?_
    refine XS.iconst X1.here hx rfl (hb hby own_d_method_4_code_148) ?_
    show Steps p.tables e below (T1.setTop (mkF m 149 #[.val (.ref a1), .val (.int p2)] [(.int (5 : Int32)), (.ref b1), (.ref b1)])) _
    refine st2 _ ?_
    refine XS.dup X2.here hx rfl (hb hby own_d_method_4_code_151) rfl rfl ?_
    refine XS.iconst X2.here hx rfl (hb hby own_d_method_4_code_152) ?_
    show Steps p.tables e below (T2.setTop (mkF m 153 #[.val (.ref a1), .val (.int p2)] [(.int (0 : Int32)), (.ref b2), (.ref b2), (.ref b1), (.ref b1)])) _
    refine XS.aloadN X2.here hx rfl (hb hby own_d_method_4_code_153) rfl rfl ?_
    refine XS.iconst X2.here hx rfl (hb hby own_d_method_4_code_154) ?_
    show Steps p.tables e below (T2.setTop (mkF m 155 #[.val (.ref a1), .val (.int p2)] [(.int (0 : Int32)), (.ref a1), (.int (0 : Int32)), (.ref b2), (.ref b2), (.ref b1), (.ref b1)])) _
    refine X2.caload hx (j := (0 : Int32)) (v := (.int (cs.getD 0 0))) (by rw [e2]; exact Ar4.1) (State.isArrayOf_alike hZ.alike Ar4.2.1) Ar4.2.2 hin4 hat4 (g := (mkF m 155 #[.val (.ref a1), .val (.int p2)] [(.int (0 : Int32)), (.ref a1), (.int (0 : Int32)), (.ref b2), (.ref b2), (.ref b1), (.ref b1)])) rfl rfl (hb hby own_d_method_4_code_155) _ ?_
    show Steps p.tables e below (T2.setTop (mkF m 156 #[.val (.ref a1), .val (.int p2)] [(.int (cs.getD 0 0)), (.int (0 : Int32)), (.ref b2), (.ref b2), (.ref b1), (.ref b1)])) _
    refine st6 _ ?_
    refine XS.dup X6.here hx rfl (hb hby own_d_method_4_code_157) rfl rfl ?_
    refine XS.iconst X6.here hx rfl (hb hby own_d_method_4_code_158) ?_
    show Steps p.tables e below (T6.setTop (mkF m 159 #[.val (.ref a1), .val (.int p2)] [(.int (1 : Int32)), (.ref b2), (.ref b2), (.ref b1), (.ref b1)])) _
    refine XS.aloadN X6.here hx rfl (hb hby own_d_method_4_code_159) rfl rfl ?_
    refine XS.iconst X6.here hx rfl (hb hby own_d_method_4_code_160) ?_
    show Steps p.tables e below (T6.setTop (mkF m 161 #[.val (.ref a1), .val (.int p2)] [(.int (1 : Int32)), (.ref a1), (.int (1 : Int32)), (.ref b2), (.ref b2), (.ref b1), (.ref b1)])) _
    refine X6.caload hx (j := (1 : Int32)) (v := (.int (cs.getD 1 0))) (by rw [e6]; exact Ar9.1) (State.isArrayOf_alike hZ.alike Ar9.2.1) Ar9.2.2 hin9 hat9 (g := (mkF m 161 #[.val (.ref a1), .val (.int p2)] [(.int (1 : Int32)), (.ref a1), (.int (1 : Int32)), (.ref b2), (.ref b2), (.ref b1), (.ref b1)])) rfl rfl (hb hby own_d_method_4_code_161) _ ?_
    show Steps p.tables e below (T6.setTop (mkF m 162 #[.val (.ref a1), .val (.int p2)] [(.int (cs.getD 1 0)), (.int (1 : Int32)), (.ref b2), (.ref b2), (.ref b1), (.ref b1)])) _
    refine st11 _ ?_
    refine XS.dup X11.here hx rfl (hb hby own_d_method_4_code_163) rfl rfl ?_
    refine XS.iconst X11.here hx rfl (hb hby own_d_method_4_code_164) ?_
    show Steps p.tables e below (T11.setTop (mkF m 165 #[.val (.ref a1), .val (.int p2)] [(.int (2 : Int32)), (.ref b2), (.ref b2), (.ref b1), (.ref b1)])) _
    refine XS.aloadN X11.here hx rfl (hb hby own_d_method_4_code_165) rfl rfl ?_
    refine XS.iconst X11.here hx rfl (hb hby own_d_method_4_code_166) ?_
    show Steps p.tables e below (T11.setTop (mkF m 167 #[.val (.ref a1), .val (.int p2)] [(.int (2 : Int32)), (.ref a1), (.int (2 : Int32)), (.ref b2), (.ref b2), (.ref b1), (.ref b1)])) _
    refine X11.caload hx (j := (2 : Int32)) (v := (.int (cs.getD 2 0))) (by rw [e11]; exact Ar13.1) (State.isArrayOf_alike hZ.alike Ar13.2.1) Ar13.2.2 hin13 hat13 (g := (mkF m 167 #[.val (.ref a1), .val (.int p2)] [(.int (2 : Int32)), (.ref a1), (.int (2 : Int32)), (.ref b2), (.ref b2), (.ref b1), (.ref b1)])) rfl rfl (hb hby own_d_method_4_code_167) _ ?_
    show Steps p.tables e below (T11.setTop (mkF m 168 #[.val (.ref a1), .val (.int p2)] [(.int (cs.getD 2 0)), (.int (2 : Int32)), (.ref b2), (.ref b2), (.ref b1), (.ref b1)])) _
    refine st15 _ ?_
    refine XS.dup X15.here hx rfl (hb hby own_d_method_4_code_169) rfl rfl ?_
    refine XS.iconst X15.here hx rfl (hb hby own_d_method_4_code_170) ?_
    show Steps p.tables e below (T15.setTop (mkF m 171 #[.val (.ref a1), .val (.int p2)] [(.int (3 : Int32)), (.ref b2), (.ref b2), (.ref b1), (.ref b1)])) _
    refine XS.aloadN X15.here hx rfl (hb hby own_d_method_4_code_171) rfl rfl ?_
    refine XS.iconst X15.here hx rfl (hb hby own_d_method_4_code_172) ?_
    show Steps p.tables e below (T15.setTop (mkF m 173 #[.val (.ref a1), .val (.int p2)] [(.int (3 : Int32)), (.ref a1), (.int (3 : Int32)), (.ref b2), (.ref b2), (.ref b1), (.ref b1)])) _
    refine X15.caload hx (j := (3 : Int32)) (v := (.int (cs.getD 3 0))) (by rw [e15]; exact Ar17.1) (State.isArrayOf_alike hZ.alike Ar17.2.1) Ar17.2.2 hin17 hat17 (g := (mkF m 173 #[.val (.ref a1), .val (.int p2)] [(.int (3 : Int32)), (.ref a1), (.int (3 : Int32)), (.ref b2), (.ref b2), (.ref b1), (.ref b1)])) rfl rfl (hb hby own_d_method_4_code_173) _ ?_
    show Steps p.tables e below (T15.setTop (mkF m 174 #[.val (.ref a1), .val (.int p2)] [(.int (cs.getD 3 0)), (.int (3 : Int32)), (.ref b2), (.ref b2), (.ref b1), (.ref b1)])) _
    refine st19 _ ?_
    refine XS.dup X19.here hx rfl (hb hby own_d_method_4_code_175) rfl rfl ?_
    refine XS.iconst X19.here hx rfl (hb hby own_d_method_4_code_176) ?_
    show Steps p.tables e below (T19.setTop (mkF m 177 #[.val (.ref a1), .val (.int p2)] [(.int (4 : Int32)), (.ref b2), (.ref b2), (.ref b1), (.ref b1)])) _
    refine XS.aloadN X19.here hx rfl (hb hby own_d_method_4_code_177) rfl rfl ?_
    refine XS.iconst X19.here hx rfl (hb hby own_d_method_4_code_178) ?_
    show Steps p.tables e below (T19.setTop (mkF m 179 #[.val (.ref a1), .val (.int p2)] [(.int (4 : Int32)), (.ref a1), (.int (4 : Int32)), (.ref b2), (.ref b2), (.ref b1), (.ref b1)])) _
    refine X19.caload hx (j := (4 : Int32)) (v := (.int (cs.getD 4 0))) (by rw [e19]; exact Ar21.1) (State.isArrayOf_alike hZ.alike Ar21.2.1) Ar21.2.2 hin21 hat21 (g := (mkF m 179 #[.val (.ref a1), .val (.int p2)] [(.int (4 : Int32)), (.ref a1), (.int (4 : Int32)), (.ref b2), (.ref b2), (.ref b1), (.ref b1)])) rfl rfl (hb hby own_d_method_4_code_179) _ ?_
    show Steps p.tables e below (T19.setTop (mkF m 180 #[.val (.ref a1), .val (.int p2)] [(.int (cs.getD 4 0)), (.int (4 : Int32)), (.ref b2), (.ref b2), (.ref b1), (.ref b1)])) _
    refine st23 _ ?_
    show Steps p.tables e below (T23.setTop (mkF m 181 #[.val (.ref a1), .val (.int p2)] [(.ref b2), (.ref b1), (.ref b1)])) _
    refine st24.trans ?_
    show Steps p.tables e below (T24.setTop (mkF m 184 #[.val (.ref a1), .val (.int p2)] [(.ref b1)])) _
    jvm_step X24.here [X24.here.top, hx, (hb hby own_d_method_4_code_184), X24.method', Bd.returns, Value.isRef, FieldType.isReference]
    first | (intro acts; rw [hr _ acts rfl rfl rfl]) | rw [hr _ _ rfl rfl rfl]
    exact Steps.refl _
  · show QS Z (own_cut cs 5) h0 n0 _ T24.heap _
    exact ⟨b1, rfl, N24a, K8, SV24⟩
  · show CHr Z own_EL s.vm s.heap T24.vm T24.heap
    rw [hh]
    exact CH8.trans (CHv.at X24 hZ hEL CH8.1)
theorem own_d_method_4_code_185 : decode method_4_code 185 = .ok (.iload_n 1, 1) := by decide +kernel
theorem own_d_method_4_code_186 : decode method_4_code 186 = .ok (.bipush 6, 2) := by decide +kernel
theorem own_d_method_4_code_188 : decode method_4_code 188 = .ok (.if_icmp .ne 51, 3) := by decide +kernel
theorem own_d_method_4_code_191 : decode method_4_code 191 = .ok (.new 12, 3) := by decide +kernel
theorem own_d_method_4_code_194 : decode method_4_code 194 = .ok (.dup, 1) := by decide +kernel
theorem own_d_method_4_code_195 : decode method_4_code 195 = .ok (.bipush 6, 2) := by decide +kernel
theorem own_d_method_4_code_197 : decode method_4_code 197 = .ok (.newarray .char, 2) := by decide +kernel
theorem own_d_method_4_code_199 : decode method_4_code 199 = .ok (.dup, 1) := by decide +kernel
theorem own_d_method_4_code_200 : decode method_4_code 200 = .ok (.iconst 0, 1) := by decide +kernel
theorem own_d_method_4_code_201 : decode method_4_code 201 = .ok (.aload_n 0, 1) := by decide +kernel
theorem own_d_method_4_code_202 : decode method_4_code 202 = .ok (.iconst 0, 1) := by decide +kernel
theorem own_d_method_4_code_203 : decode method_4_code 203 = .ok (.caload, 1) := by decide +kernel
theorem own_d_method_4_code_204 : decode method_4_code 204 = .ok (.castore, 1) := by decide +kernel
theorem own_d_method_4_code_205 : decode method_4_code 205 = .ok (.dup, 1) := by decide +kernel
theorem own_d_method_4_code_206 : decode method_4_code 206 = .ok (.iconst 1, 1) := by decide +kernel
theorem own_d_method_4_code_207 : decode method_4_code 207 = .ok (.aload_n 0, 1) := by decide +kernel
theorem own_d_method_4_code_208 : decode method_4_code 208 = .ok (.iconst 1, 1) := by decide +kernel
theorem own_d_method_4_code_209 : decode method_4_code 209 = .ok (.caload, 1) := by decide +kernel
theorem own_d_method_4_code_210 : decode method_4_code 210 = .ok (.castore, 1) := by decide +kernel
theorem own_d_method_4_code_211 : decode method_4_code 211 = .ok (.dup, 1) := by decide +kernel
theorem own_d_method_4_code_212 : decode method_4_code 212 = .ok (.iconst 2, 1) := by decide +kernel
theorem own_d_method_4_code_213 : decode method_4_code 213 = .ok (.aload_n 0, 1) := by decide +kernel
theorem own_d_method_4_code_214 : decode method_4_code 214 = .ok (.iconst 2, 1) := by decide +kernel
theorem own_d_method_4_code_215 : decode method_4_code 215 = .ok (.caload, 1) := by decide +kernel
theorem own_d_method_4_code_216 : decode method_4_code 216 = .ok (.castore, 1) := by decide +kernel
theorem own_d_method_4_code_217 : decode method_4_code 217 = .ok (.dup, 1) := by decide +kernel
theorem own_d_method_4_code_218 : decode method_4_code 218 = .ok (.iconst 3, 1) := by decide +kernel
theorem own_d_method_4_code_219 : decode method_4_code 219 = .ok (.aload_n 0, 1) := by decide +kernel
theorem own_d_method_4_code_220 : decode method_4_code 220 = .ok (.iconst 3, 1) := by decide +kernel
theorem own_d_method_4_code_221 : decode method_4_code 221 = .ok (.caload, 1) := by decide +kernel
theorem own_d_method_4_code_222 : decode method_4_code 222 = .ok (.castore, 1) := by decide +kernel
theorem own_d_method_4_code_223 : decode method_4_code 223 = .ok (.dup, 1) := by decide +kernel
theorem own_d_method_4_code_224 : decode method_4_code 224 = .ok (.iconst 4, 1) := by decide +kernel
theorem own_d_method_4_code_225 : decode method_4_code 225 = .ok (.aload_n 0, 1) := by decide +kernel
theorem own_d_method_4_code_226 : decode method_4_code 226 = .ok (.iconst 4, 1) := by decide +kernel
theorem own_d_method_4_code_227 : decode method_4_code 227 = .ok (.caload, 1) := by decide +kernel
theorem own_d_method_4_code_228 : decode method_4_code 228 = .ok (.castore, 1) := by decide +kernel
theorem own_d_method_4_code_229 : decode method_4_code 229 = .ok (.dup, 1) := by decide +kernel
theorem own_d_method_4_code_230 : decode method_4_code 230 = .ok (.iconst 5, 1) := by decide +kernel
theorem own_d_method_4_code_231 : decode method_4_code 231 = .ok (.aload_n 0, 1) := by decide +kernel
theorem own_d_method_4_code_232 : decode method_4_code 232 = .ok (.iconst 5, 1) := by decide +kernel
theorem own_d_method_4_code_233 : decode method_4_code 233 = .ok (.caload, 1) := by decide +kernel
theorem own_d_method_4_code_234 : decode method_4_code 234 = .ok (.castore, 1) := by decide +kernel
theorem own_d_method_4_code_235 : decode method_4_code 235 = .ok (.invokespecial 45, 3) := by decide +kernel
theorem own_d_method_4_code_238 : decode method_4_code 238 = .ok (.areturn, 1) := by decide +kernel
set_option maxRecDepth 65536 in
set_option maxHeartbeats 40000000 in
theorem rc6 (l : Launch) (Z : State) (a0 : Array Value) (hw : ∀ d ∈ tables_1, d.before a0 Z = true) (ws : List Jvm.Cond) (hEL : EW Z a0 own_EL) (a1 : Addr) (p2 : Int32) (cs : List Int32) (kc : ClassId) (G1 : Int32) (G3 : Value) (h0 : Heap) (n0 : Nat) (Z0 : n0 ≤ h0.size) (O2 : Sta Z Z.heap "java/lang/String" "COMPACT_STRINGS" "Z" (.int G1)) (P5 : ¬ (G1 = (0 : Int32))) (O4 : Sta Z Z.heap "jdk/internal/util/Preconditions" "SIOOBE_FORMATTER" "Ljava/util/function/BiFunction;" G3) (rG3 : G3.isRef = true) (O0 : Old Z n0 h0) (V_a1 : Arv Z h0 a1 kc .char (9 : Int32) (cs.map Value.int) (.int (0 : Int32))) (hlat : ∀ c ∈ cs, Lat c) (hc1 : ¬ (p2 = (0 : Int32))) (hc17 : ¬ (p2 = (1 : Int32))) (hc39 : ¬ (p2 = (2 : Int32))) (hc67 : ¬ (p2 = (3 : Int32))) (hc101 : ¬ (p2 = (4 : Int32))) (hc141 : ¬ (p2 = (5 : Int32))) (hc188 : p2 = (6 : Int32)) :
    MetFree l (⟨"com/example/restate/restate/TargetIsAttachedPinLaw", "cut", "([CI)Ljava/lang/String;"⟩ : MethodName) (head1 (Jvm.Cond.code (⟨"com/example/restate/restate/TargetIsAttachedPinLaw", "cut", "([CI)Ljava/lang/String;"⟩ : MethodName) method_4_code 2 (some (.object "java/lang/String")) :: ws) ({ frames := 4, cells := 4, slots := 22, locals := 66 } : Room)) (fun a U => a = #[(.ref a1), (.int p2)] ∧ Z.Warmed39 U.vm ∧ U.heap = h0 ∧ CHv Z own_EL U.vm h0) (fun _ _ _ _ _ => True) (fun _ U o U' => ∃ vr_ Lr_, o = .returned vr_ ∧ QS Z (own_cut cs 6) h0 n0 vr_ U'.heap Lr_ ∧ CHr Z own_EL U.vm U.heap U'.vm U'.heap ∧ ReturnedEndW U o U' Lr_ 4 22) := by
  refine MetFree.of_bodySF (plainFor_of_name own_pn_com_example_restate_restate_TargetIsAttachedPinLaw) hisR ?_
  intro p e s m args below meth c s₁ Bd hml0 hP hK
  obtain ⟨rfl, hZ, hh, hCH0⟩ := hP
  have hx := Bd.exec
  have hby := Bd.bytes
  have hml : c.maxLocals = 2 := hml0
  have hown : s.vm.findClass "com/example/restate/restate/TargetIsAttachedPinLaw" = some m.cls := findClass_of_methodNamed Bd.named
  have hnm := (name_of_methodNamed Bd.named Bd.method).1
  have X0 : Stand p l e ({ frames := 4, cells := 4, slots := 22, locals := 66 } : Room) (s.setVm s.vm) m #[(.ref a1), (.int p2)] below meth c s₁ [] 0 0 := Stand.of_body Bd
  have e0 : s₁.heap = h0 := by rw [← hh, Bd.state]; rfl
  have N0 := Fr.nil n0
  have CH0 : CHr Z own_EL s.vm h0 s.vm h0 := CHr.refl hCH0
  have hS0 : s.Since s.vm 0 := State.WarmedH.since (State.WarmedH.refl s) 0
  have pre0 : ∀ t, Steps p.tables e below (s₁.setTop (mkF m 0 #[.val (.ref a1), .val (.int p2)] [])) t → Steps p.tables e below (s₁.setTop (entryFrame m #[(.ref a1), (.int p2)] 2)) t := fun t k => castTop (own_ef_method_4_code_xx m a1 p2) k
  obtain ⟨T1, h1, X1, e1, E1, A1, D1, -, st1⟩ := newO X0 hx hZ hown (hw _ (List.mem_of_getElem? (i := 52) rfl)) (hw _ (List.mem_of_getElem? (i := 2) rfl)) (hw _ (List.mem_of_getElem? (i := 1) rfl)) e0 (g := (mkF m 191 #[.val (.ref a1), .val (.int p2)] [])) rfl (hb hby own_d_method_4_code_191) (by decide) (by decide)
  obtain ⟨b1, g1⟩ : ∃ z, z = h0.size := ⟨_, rfl⟩
  rw [← g1] at A1 D1 st1
  have sz_b1 : h0.size ≤ b1 := Nat.le_trans (Keep.refl h0 []).1 (Nat.le_of_eq g1.symm)
  have g_b1 : n0 ≤ b1 := Nat.le_trans Z0 sz_b1
  have CH1 : CHr Z own_EL s.vm h0 s.vm h1 := CH0.trans (CHr.ext E1 CH0.1)
  have K1 : Keep h0 h1 [] := (Keep.refl h0 []).ext E1
  have F_value_b1 : Fld Z h1 b1 "java/lang/String" "value" "[B" .null := D1 (Or.inr (hw _ (List.mem_of_getElem? (i := 4) rfl))) (ty := (.array .byte)) (by decide)
  have F_coder_b1 : Fld Z h1 b1 "java/lang/String" "coder" "B" (.int (0 : Int32)) := D1 (Or.inr (hw _ (List.mem_of_getElem? (i := 5) rfl))) (ty := .byte) (by decide)
  have Sf1 : Safe Z own_EL s.vm h1 b1 := Safe.ext E1 CH0.1 (Safe.new (Nat.le_of_eq g1.symm))
  obtain ⟨T2, h2, ka2, X2, e2, E2, A2, st2⟩ := newP X1 hx hZ (hw _ (List.mem_of_getElem? (i := 22) rfl)) e1 (g := (mkF m 197 #[.val (.ref a1), .val (.int p2)] [(.int (6 : Int32)), (.ref b1), (.ref b1)])) rfl (hb hby own_d_method_4_code_197) rfl (by decide) (cap := 6) (by decide) (by decide) (by decide) (by decide)
  obtain ⟨b2, g2⟩ : ∃ z, z = h1.size := ⟨_, rfl⟩
  rw [← g2] at A2 st2
  have sz_b2 : h0.size ≤ b2 := Nat.le_trans K1.1 (Nat.le_of_eq g2.symm)
  have g_b2 : n0 ≤ b2 := Nat.le_trans Z0 sz_b2
  have CH2 : CHr Z own_EL s.vm h0 s.vm h2 := CH1.trans (CHr.ext E2 CH1.1)
  have K2 : Keep h0 h2 [] := K1.ext E2
  have V_b2 : Arv Z h2 b2 ka2 .char (6 : Int32) [(.int (0 : Int32)), (.int (0 : Int32)), (.int (0 : Int32)), (.int (0 : Int32)), (.int (0 : Int32)), (.int (0 : Int32))] (.int (0 : Int32)) := (Arv.new A2 (by decide)).pad (pad_rep [] (.int (0 : Int32)) 6)
  have f3 : Arv Z h2 a1 kc .char (9 : Int32) (cs.map Value.int) (.int (0 : Int32)) := ((V_a1.ext E1).ext E2)
  obtain ⟨cl4, Ar4, q4, S4, N_4, H_4, G4⟩ := id f3
  have hin4 : ¬ ((0 : Int32) < 0 ∨ cl4.slots.size ≤ ((0 : Int32)).toNatClampNeg) := inb_of S4 ⟨by decide, by decide⟩
  have hat4 : cl4.slots[((0 : Int32)).toNatClampNeg]? = some (.int (cs.getD 0 0)) := H_4.at hin4 (own_getD cs 0)
  obtain ⟨cl5, Ar5, q5, S5, N_5, H_5, G5⟩ := id V_b2
  obtain ⟨T6, h6, X6, e6, W6, st6⟩ := stC X2 hx hZ e2 Ar5 (j := (0 : Int32)) (inb_of S5 ⟨by decide, by decide⟩) (g := (mkF m 204 #[.val (.ref a1), .val (.int p2)] [(.int (cs.getD 0 0)), (.int (0 : Int32)), (.ref b2), (.ref b2), (.ref b1), (.ref b1)])) rfl rfl (hb hby own_d_method_4_code_204)
  have V6_b2 : Arv Z h6 b2 ka2 .char (6 : Int32) [(.int (nar .char (cs.getD 0 0))), (.int (0 : Int32)), (.int (0 : Int32)), (.int (0 : Int32)), (.int (0 : Int32)), (.int (0 : Int32))] (.int (0 : Int32)) := Arv.set Ar5 q5 S5 N_5 H_5 G5 (fits_nar_char _) W6 0 rfl (Nat.le_of_ble_eq_true rfl)
  have Nf6 := Fr.snoc X6 N0 g_b2
  have CH3 : CHr Z own_EL s.vm h0 s.vm h6 := CH2.trans (CHr.wr W6 (own_safeV (hZ : Z.Warmed39 s.vm).alike V_b2 (by decide)) CH2.1)
  have K3 : Keep h0 h6 [] := K2.wr W6 (Or.inr sz_b2)
  have f7 : Arv Z h1 a1 kc .char (9 : Int32) (cs.map Value.int) (.int (0 : Int32)) := (V_a1.ext E1)
  have f8 : Arv Z h6 a1 kc .char (9 : Int32) (cs.map Value.int) (.int (0 : Int32)) := (f3.other W6 (Nat.ne_of_lt (Nat.lt_of_lt_of_le f7.lt (Nat.le_of_eq g2.symm))))
  obtain ⟨cl9, Ar9, q9, S9, N_9, H_9, G9⟩ := id f8
  have hin9 : ¬ ((1 : Int32) < 0 ∨ cl9.slots.size ≤ ((1 : Int32)).toNatClampNeg) := inb_of S9 ⟨by decide, by decide⟩
  have hat9 : cl9.slots[((1 : Int32)).toNatClampNeg]? = some (.int (cs.getD 1 0)) := H_9.at hin9 (own_getD cs 1)
  obtain ⟨cl10, Ar10, q10, S10, N_10, H_10, G10⟩ := id V6_b2
  obtain ⟨T11, h11, X11, e11, W11, st11⟩ := stC X6 hx hZ e6 Ar10 (j := (1 : Int32)) (inb_of S10 ⟨by decide, by decide⟩) (g := (mkF m 210 #[.val (.ref a1), .val (.int p2)] [(.int (cs.getD 1 0)), (.int (1 : Int32)), (.ref b2), (.ref b2), (.ref b1), (.ref b1)])) rfl rfl (hb hby own_d_method_4_code_210)
  have V11_b2 : Arv Z h11 b2 ka2 .char (6 : Int32) [(.int (nar .char (cs.getD 0 0))), (.int (nar .char (cs.getD 1 0))), (.int (0 : Int32)), (.int (0 : Int32)), (.int (0 : Int32)), (.int (0 : Int32))] (.int (0 : Int32)) := Arv.set Ar10 q10 S10 N_10 H_10 G10 (fits_nar_char _) W11 1 rfl (Nat.le_of_ble_eq_true rfl)
  have Nf11 := Fr.snoc X11 Nf6 g_b2
  have CH4 : CHr Z own_EL s.vm h0 s.vm h11 := CH3.trans (CHr.wr W11 (own_safeV (hZ : Z.Warmed39 s.vm).alike V6_b2 (by decide)) CH3.1)
  have K4 : Keep h0 h11 [] := K3.wr W11 (Or.inr sz_b2)
  have f12 : Arv Z h11 a1 kc .char (9 : Int32) (cs.map Value.int) (.int (0 : Int32)) := (f8.other W11 (Nat.ne_of_lt (Nat.lt_of_lt_of_le f7.lt (Nat.le_of_eq g2.symm))))
  obtain ⟨cl13, Ar13, q13, S13, N_13, H_13, G13⟩ := id f12
  have hin13 : ¬ ((2 : Int32) < 0 ∨ cl13.slots.size ≤ ((2 : Int32)).toNatClampNeg) := inb_of S13 ⟨by decide, by decide⟩
  have hat13 : cl13.slots[((2 : Int32)).toNatClampNeg]? = some (.int (cs.getD 2 0)) := H_13.at hin13 (own_getD cs 2)
  obtain ⟨cl14, Ar14, q14, S14, N_14, H_14, G14⟩ := id V11_b2
  obtain ⟨T15, h15, X15, e15, W15, st15⟩ := stC X11 hx hZ e11 Ar14 (j := (2 : Int32)) (inb_of S14 ⟨by decide, by decide⟩) (g := (mkF m 216 #[.val (.ref a1), .val (.int p2)] [(.int (cs.getD 2 0)), (.int (2 : Int32)), (.ref b2), (.ref b2), (.ref b1), (.ref b1)])) rfl rfl (hb hby own_d_method_4_code_216)
  have V15_b2 : Arv Z h15 b2 ka2 .char (6 : Int32) [(.int (nar .char (cs.getD 0 0))), (.int (nar .char (cs.getD 1 0))), (.int (nar .char (cs.getD 2 0))), (.int (0 : Int32)), (.int (0 : Int32)), (.int (0 : Int32))] (.int (0 : Int32)) := Arv.set Ar14 q14 S14 N_14 H_14 G14 (fits_nar_char _) W15 2 rfl (Nat.le_of_ble_eq_true rfl)
  have Nf15 := Fr.snoc X15 Nf11 g_b2
  have CH5 : CHr Z own_EL s.vm h0 s.vm h15 := CH4.trans (CHr.wr W15 (own_safeV (hZ : Z.Warmed39 s.vm).alike V11_b2 (by decide)) CH4.1)
  have K5 : Keep h0 h15 [] := K4.wr W15 (Or.inr sz_b2)
  have f16 : Arv Z h15 a1 kc .char (9 : Int32) (cs.map Value.int) (.int (0 : Int32)) := (f12.other W15 (Nat.ne_of_lt (Nat.lt_of_lt_of_le f7.lt (Nat.le_of_eq g2.symm))))
  obtain ⟨cl17, Ar17, q17, S17, N_17, H_17, G17⟩ := id f16
  have hin17 : ¬ ((3 : Int32) < 0 ∨ cl17.slots.size ≤ ((3 : Int32)).toNatClampNeg) := inb_of S17 ⟨by decide, by decide⟩
  have hat17 : cl17.slots[((3 : Int32)).toNatClampNeg]? = some (.int (cs.getD 3 0)) := H_17.at hin17 (own_getD cs 3)
  obtain ⟨cl18, Ar18, q18, S18, N_18, H_18, G18⟩ := id V15_b2
  obtain ⟨T19, h19, X19, e19, W19, st19⟩ := stC X15 hx hZ e15 Ar18 (j := (3 : Int32)) (inb_of S18 ⟨by decide, by decide⟩) (g := (mkF m 222 #[.val (.ref a1), .val (.int p2)] [(.int (cs.getD 3 0)), (.int (3 : Int32)), (.ref b2), (.ref b2), (.ref b1), (.ref b1)])) rfl rfl (hb hby own_d_method_4_code_222)
  have V19_b2 : Arv Z h19 b2 ka2 .char (6 : Int32) [(.int (nar .char (cs.getD 0 0))), (.int (nar .char (cs.getD 1 0))), (.int (nar .char (cs.getD 2 0))), (.int (nar .char (cs.getD 3 0))), (.int (0 : Int32)), (.int (0 : Int32))] (.int (0 : Int32)) := Arv.set Ar18 q18 S18 N_18 H_18 G18 (fits_nar_char _) W19 3 rfl (Nat.le_of_ble_eq_true rfl)
  have Nf19 := Fr.snoc X19 Nf15 g_b2
  have CH6 : CHr Z own_EL s.vm h0 s.vm h19 := CH5.trans (CHr.wr W19 (own_safeV (hZ : Z.Warmed39 s.vm).alike V15_b2 (by decide)) CH5.1)
  have K6 : Keep h0 h19 [] := K5.wr W19 (Or.inr sz_b2)
  have f20 : Arv Z h19 a1 kc .char (9 : Int32) (cs.map Value.int) (.int (0 : Int32)) := (f16.other W19 (Nat.ne_of_lt (Nat.lt_of_lt_of_le f7.lt (Nat.le_of_eq g2.symm))))
  obtain ⟨cl21, Ar21, q21, S21, N_21, H_21, G21⟩ := id f20
  have hin21 : ¬ ((4 : Int32) < 0 ∨ cl21.slots.size ≤ ((4 : Int32)).toNatClampNeg) := inb_of S21 ⟨by decide, by decide⟩
  have hat21 : cl21.slots[((4 : Int32)).toNatClampNeg]? = some (.int (cs.getD 4 0)) := H_21.at hin21 (own_getD cs 4)
  obtain ⟨cl22, Ar22, q22, S22, N_22, H_22, G22⟩ := id V19_b2
  obtain ⟨T23, h23, X23, e23, W23, st23⟩ := stC X19 hx hZ e19 Ar22 (j := (4 : Int32)) (inb_of S22 ⟨by decide, by decide⟩) (g := (mkF m 228 #[.val (.ref a1), .val (.int p2)] [(.int (cs.getD 4 0)), (.int (4 : Int32)), (.ref b2), (.ref b2), (.ref b1), (.ref b1)])) rfl rfl (hb hby own_d_method_4_code_228)
  have V23_b2 : Arv Z h23 b2 ka2 .char (6 : Int32) [(.int (nar .char (cs.getD 0 0))), (.int (nar .char (cs.getD 1 0))), (.int (nar .char (cs.getD 2 0))), (.int (nar .char (cs.getD 3 0))), (.int (nar .char (cs.getD 4 0))), (.int (0 : Int32))] (.int (0 : Int32)) := Arv.set Ar22 q22 S22 N_22 H_22 G22 (fits_nar_char _) W23 4 rfl (Nat.le_of_ble_eq_true rfl)
  have Nf23 := Fr.snoc X23 Nf19 g_b2
  have CH7 : CHr Z own_EL s.vm h0 s.vm h23 := CH6.trans (CHr.wr W23 (own_safeV (hZ : Z.Warmed39 s.vm).alike V19_b2 (by decide)) CH6.1)
  have K7 : Keep h0 h23 [] := K6.wr W23 (Or.inr sz_b2)
  have f24 : Arv Z h23 a1 kc .char (9 : Int32) (cs.map Value.int) (.int (0 : Int32)) := (f20.other W23 (Nat.ne_of_lt (Nat.lt_of_lt_of_le f7.lt (Nat.le_of_eq g2.symm))))
  obtain ⟨cl25, Ar25, q25, S25, N_25, H_25, G25⟩ := id f24
  have hin25 : ¬ ((5 : Int32) < 0 ∨ cl25.slots.size ≤ ((5 : Int32)).toNatClampNeg) := inb_of S25 ⟨by decide, by decide⟩
  have hat25 : cl25.slots[((5 : Int32)).toNatClampNeg]? = some (.int (cs.getD 5 0)) := H_25.at hin25 (own_getD cs 5)
  obtain ⟨cl26, Ar26, q26, S26, N_26, H_26, G26⟩ := id V23_b2
  obtain ⟨T27, h27, X27, e27, W27, st27⟩ := stC X23 hx hZ e23 Ar26 (j := (5 : Int32)) (inb_of S26 ⟨by decide, by decide⟩) (g := (mkF m 234 #[.val (.ref a1), .val (.int p2)] [(.int (cs.getD 5 0)), (.int (5 : Int32)), (.ref b2), (.ref b2), (.ref b1), (.ref b1)])) rfl rfl (hb hby own_d_method_4_code_234)
  have V27_b2 : Arv Z h27 b2 ka2 .char (6 : Int32) [(.int (nar .char (cs.getD 0 0))), (.int (nar .char (cs.getD 1 0))), (.int (nar .char (cs.getD 2 0))), (.int (nar .char (cs.getD 3 0))), (.int (nar .char (cs.getD 4 0))), (.int (nar .char (cs.getD 5 0)))] (.int (0 : Int32)) := Arv.set Ar26 q26 S26 N_26 H_26 G26 (fits_nar_char _) W27 5 rfl (Nat.le_of_ble_eq_true rfl)
  have Nf27 := Fr.snoc X27 Nf23 g_b2
  have CH8 : CHr Z own_EL s.vm h0 s.vm h27 := CH7.trans (CHr.wr W27 (own_safeV (hZ : Z.Warmed39 s.vm).alike V23_b2 (by decide)) CH7.1)
  have K8 : Keep h0 h27 [] := K7.wr W27 (Or.inr sz_b2)
  have f29 : Exa Z h27 b1 "java/lang/String" := (((((((A1.ext E2).wr W6).wr W11).wr W15).wr W19).wr W23).wr W27)
  have f30 : Fld Z h27 b1 "java/lang/String" "value" "[B" .null := (((((((F_value_b1.ext E2).other W6 (Or.inl (Nat.ne_of_lt (Nat.lt_of_lt_of_le A1.lt (Nat.le_of_eq g2.symm))))).other W11 (Or.inl (Nat.ne_of_lt (Nat.lt_of_lt_of_le A1.lt (Nat.le_of_eq g2.symm))))).other W15 (Or.inl (Nat.ne_of_lt (Nat.lt_of_lt_of_le A1.lt (Nat.le_of_eq g2.symm))))).other W19 (Or.inl (Nat.ne_of_lt (Nat.lt_of_lt_of_le A1.lt (Nat.le_of_eq g2.symm))))).other W23 (Or.inl (Nat.ne_of_lt (Nat.lt_of_lt_of_le A1.lt (Nat.le_of_eq g2.symm))))).other W27 (Or.inl (Nat.ne_of_lt (Nat.lt_of_lt_of_le A1.lt (Nat.le_of_eq g2.symm)))))
  have f31 : Fld Z h27 b1 "java/lang/String" "coder" "B" (.int (0 : Int32)) := (((((((F_coder_b1.ext E2).other W6 (Or.inl (Nat.ne_of_lt (Nat.lt_of_lt_of_le A1.lt (Nat.le_of_eq g2.symm))))).other W11 (Or.inl (Nat.ne_of_lt (Nat.lt_of_lt_of_le A1.lt (Nat.le_of_eq g2.symm))))).other W15 (Or.inl (Nat.ne_of_lt (Nat.lt_of_lt_of_le A1.lt (Nat.le_of_eq g2.symm))))).other W19 (Or.inl (Nat.ne_of_lt (Nat.lt_of_lt_of_le A1.lt (Nat.le_of_eq g2.symm))))).other W23 (Or.inl (Nat.ne_of_lt (Nat.lt_of_lt_of_le A1.lt (Nat.le_of_eq g2.symm))))).other W27 (Or.inl (Nat.ne_of_lt (Nat.lt_of_lt_of_le A1.lt (Nat.le_of_eq g2.symm)))))
  have f32 : Old Z n0 h27 := ((((((((O0.ext E1).ext E2).wr W6 g_b2).wr W11 g_b2).wr W15 g_b2).wr W19 g_b2).wr W23 g_b2).wr W27 g_b2)
  obtain ⟨_, _, ⟨T28, L28, k28, n28⟩, -, X28, ⟨Lc28, hQ28, l28, y28, z28⟩, st28⟩ := X27.specialBack hx (y := (⟨"java/lang/String", "<init>", "([C)V"⟩ : MethodName)) rfl hown (mvT hZ (hw _ (List.mem_of_getElem? (i := 53) rfl))) (mvT hZ (hw _ (List.mem_of_getElem? (i := 54) rfl))) (mvT hZ (hw _ (List.mem_of_getElem? (i := 55) rfl))) (by decide) (StrChars.Road.backV (W := 1) hZ (own_hws hw) (kI := 4) (hw _ (List.mem_of_getElem? (i := 2) rfl)) (cs := ([(nar .char (cs.getD 0 0)), (nar .char (cs.getD 1 0)), (nar .char (cs.getD 2 0)), (nar .char (cs.getD 3 0)), (nar .char (cs.getD 4 0)), (nar .char (cs.getD 5 0))] : List Int32)) (bs := (([(nar .char (cs.getD 0 0)), (nar .char (cs.getD 1 0)), (nar .char (cs.getD 2 0)), (nar .char (cs.getD 3 0)), (nar .char (cs.getD 4 0)), (nar .char (cs.getD 5 0))] : List Int32)).map (fun c => c.toInt8.toInt32)) (n := 6) g_b1 (Nat.le_trans Z0 K8.1) f29 f30 f31 (V27_b2 : Arv Z h27 b2 ka2 .char (Int32.ofNat 6) (([(nar .char (cs.getD 0 0)), (nar .char (cs.getD 1 0)), (nar .char (cs.getD 2 0)), (nar .char (cs.getD 3 0)), (nar .char (cs.getD 4 0)), (nar .char (cs.getD 5 0))] : List Int32).map Value.int) _) (O2.ext f32.2) P5 rfl rfl (by decide) (by decide) (own_cut_lat hlat 6) rfl (by decide) (by decide)) (g := (mkF m 235 #[.val (.ref a1), .val (.int p2)] [(.ref b2), (.ref b1), (.ref b1)])) rfl (by rw [hml]; rfl) (Steps.refl _) (a := b1) (argsL := [(.ref b2)]) (rest := [(.ref b1)]) (lenOf own_pd___C_V rfl) rfl (by show 2 * 0 + _ ≤ _; exact Nat.le_of_eq rfl) (hb hby own_d_method_4_code_235) (fun _ _ => ⟨rfl, e27, (by decide : 2 + 1 ≤ _), (by decide : 10 + 6 ≤ _)⟩)
  dsimp only [Pt.U, Pt.locs, Pt.cells, Pt.slots] at X28 l28 y28 z28 st28 hQ28
  rw [l28] at X28
  clear l28; subst y28 z28
  obtain ⟨rfl, N28q, K28q, E28q, gc28, t28, kb28, -, -, -, gv28, ga28⟩ := hQ28
  have N28a := Fr.app Nf27 N28q
  have f33 : Safe Z own_EL s.vm h27 b1 := (Safe.wr W27 (own_safeV (hZ : Z.Warmed39 s.vm).alike V23_b2 (by decide)) CH7.1 (Safe.wr W23 (own_safeV (hZ : Z.Warmed39 s.vm).alike V19_b2 (by decide)) CH6.1 (Safe.wr W19 (own_safeV (hZ : Z.Warmed39 s.vm).alike V15_b2 (by decide)) CH5.1 (Safe.wr W15 (own_safeV (hZ : Z.Warmed39 s.vm).alike V11_b2 (by decide)) CH4.1 (Safe.wr W11 (own_safeV (hZ : Z.Warmed39 s.vm).alike V6_b2 (by decide)) CH3.1 (Safe.wr W6 (own_safeV (hZ : Z.Warmed39 s.vm).alike V_b2 (by decide)) CH2.1 (Safe.ext E2 CH1.1 Sf1)))))))
  have CH9 : CHr Z own_EL s.vm h0 s.vm T28.heap := CH8.trans (CHr.keep K28q (allS f33 all0) CH8.1)
  have K9 : Keep h0 T28.heap [] := K8.trans K28q (allS (Or.inr sz_b1) all0)
  have SV28 : StrV Z T28.heap b1 ([(nar .char (cs.getD 0 0)), (nar .char (cs.getD 1 0)), (nar .char (cs.getD 2 0)), (nar .char (cs.getD 3 0)), (nar .char (cs.getD 4 0)), (nar .char (cs.getD 5 0))] : List Int32) := own_mkStr rfl (own_cut_lat hlat 6) E28q gc28 gv28 ga28
  obtain ⟨fs, hr, hrun, hended, hend⟩ := X28.leaveW hS0 (Nat.zero_le _) (v := some (.ref b1)) (fun h => by rw [Bd.returns] at h; cases h)
  refine ⟨_, _, pre0 _ ?_, hrun, hended, _, _, rfl, ?_, ?_, hend.1, hend.2.1, hend.2.2.1, hend.2.2.2.mono (by decide) (by decide)⟩
  · show Steps p.tables e below (s₁.setTop (mkF m 0 #[.val (.ref a1), .val (.int p2)] [])) _
    refine XS.iloadN X0.here hx rfl (hb hby own_d_method_4_code_0) rfl ?_
    show Steps p.tables e below (s₁.setTop (mkF m 1 #[.val (.ref a1), .val (.int p2)] [(.int p2)])) _
    refine XS.ifYes X0.here hx rfl (pc0 := 1) (pc' := 15) rfl (hb hby own_d_method_4_code_1) rfl ((if0 _ _).trans (feq hc1).2) (by decide) (by decide) ?_
    refine XS.iloadN X0.here hx rfl (hb hby own_d_method_4_code_15) rfl ?_
    refine XS.iconst X0.here hx rfl (hb hby own_d_method_4_code_16) ?_
    show Steps p.tables e below (s₁.setTop (mkF m 17 #[.val (.ref a1), .val (.int p2)] [(.int (1 : Int32)), (.int p2)])) _
    refine XS.icmpYes X0.here hx rfl (pc0 := 17) (pc' := 37) rfl (hb hby own_d_method_4_code_17) rfl (feq hc17).2 (by decide) (by decide) ?_
    refine XS.iloadN X0.here hx rfl (hb hby own_d_method_4_code_37) rfl ?_
    refine XS.iconst X0.here hx rfl (hb hby own_d_method_4_code_38) ?_
    show Steps p.tables e below (s₁.setTop (mkF m 39 #[.val (.ref a1), .val (.int p2)] [(.int (2 : Int32)), (.int p2)])) _
    refine XS.icmpYes X0.here hx rfl (pc0 := 39) (pc' := 65) rfl (hb hby own_d_method_4_code_39) rfl (feq hc39).2 (by decide) (by decide) ?_
    refine XS.iloadN X0.here hx rfl (hb hby own_d_method_4_code_65) rfl ?_
    refine XS.iconst X0.here hx rfl (hb hby own_d_method_4_code_66) ?_
    show Steps p.tables e below (s₁.setTop (mkF m 67 #[.val (.ref a1), .val (.int p2)] [(.int (3 : Int32)), (.int p2)])) _
    refine XS.icmpYes X0.here hx rfl (pc0 := 67) (pc' := 99) rfl (hb hby own_d_method_4_code_67) rfl (feq hc67).2 (by decide) (by decide) ?_
    refine XS.iloadN X0.here hx rfl (hb hby own_d_method_4_code_99) rfl ?_
    refine XS.iconst X0.here hx rfl (hb hby own_d_method_4_code_100) ?_
    show Steps p.tables e below (s₁.setTop (mkF m 101 #[.val (.ref a1), .val (.int p2)] [(.int (4 : Int32)), (.int p2)])) _
    refine XS.icmpYes X0.here hx rfl (pc0 := 101) (pc' := 139) rfl (hb hby own_d_method_4_code_101) rfl (feq hc101).2 (by decide) (by decide) ?_
    refine XS.iloadN X0.here hx rfl (hb hby own_d_method_4_code_139) rfl ?_
    refine XS.iconst X0.here hx rfl (hb hby own_d_method_4_code_140) ?_
    show Steps p.tables e below (s₁.setTop (mkF m 141 #[.val (.ref a1), .val (.int p2)] [(.int (5 : Int32)), (.int p2)])) _
    refine XS.icmpYes X0.here hx rfl (pc0 := 141) (pc' := 185) rfl (hb hby own_d_method_4_code_141) rfl (feq hc141).2 (by decide) (by decide) ?_
    refine XS.iloadN X0.here hx rfl (hb hby own_d_method_4_code_185) rfl ?_
    refine XS.bipush X0.here hx rfl (hb hby own_d_method_4_code_186) ?_
    show Steps p.tables e below (s₁.setTop (mkF m 188 #[.val (.ref a1), .val (.int p2)] [(.int (6 : Int32)), (.int p2)])) _
    refine XS.icmpNo X0.here hx rfl (hb hby own_d_method_4_code_188) rfl (teq hc188).2 ?_
    show Steps p.tables e below (s₁.setTop (mkF m 191 #[.val (.ref a1), .val (.int p2)] [])) _
    refine st1 _ ?_
    refine XS.dup X1.here hx rfl (hb hby own_d_method_4_code_194) rfl rfl ?_
    refine XS.bipush X1.here hx rfl (hb hby own_d_method_4_code_195) ?_
    show Steps p.tables e below (T1.setTop (mkF m 197 #[.val (.ref a1), .val (.int p2)] [(.int (6 : Int32)), (.ref b1), (.ref b1)])) _
    refine st2 _ ?_
    refine XS.dup X2.here hx rfl (hb hby own_d_method_4_code_199) rfl rfl ?_
    refine XS.iconst X2.here hx rfl (hb hby own_d_method_4_code_200) ?_
    show Steps p.tables e below (T2.setTop (mkF m 201 #[.val (.ref a1), .val (.int p2)] [(.int (0 : Int32)), (.ref b2), (.ref b2), (.ref b1), (.ref b1)])) _
    refine XS.aloadN X2.here hx rfl (hb hby own_d_method_4_code_201) rfl rfl ?_
    refine XS.iconst X2.here hx rfl (hb hby own_d_method_4_code_202) ?_
    show Steps p.tables e below (T2.setTop (mkF m 203 #[.val (.ref a1), .val (.int p2)] [(.int (0 : Int32)), (.ref a1), (.int (0 : Int32)), (.ref b2), (.ref b2), (.ref b1), (.ref b1)])) _
    refine X2.caload hx (j := (0 : Int32)) (v := (.int (cs.getD 0 0))) (by rw [e2]; exact Ar4.1) (State.isArrayOf_alike hZ.alike Ar4.2.1) Ar4.2.2 hin4 hat4 (g := (mkF m 203 #[.val (.ref a1), .val (.int p2)] [(.int (0 : Int32)), (.ref a1), (.int (0 : Int32)), (.ref b2), (.ref b2), (.ref b1), (.ref b1)])) rfl rfl (hb hby own_d_method_4_code_203) _ ?_
    show Steps p.tables e below (T2.setTop (mkF m 204 #[.val (.ref a1), .val (.int p2)] [(.int (cs.getD 0 0)), (.int (0 : Int32)), (.ref b2), (.ref b2), (.ref b1), (.ref b1)])) _
    refine st6 _ ?_
    refine XS.dup X6.here hx rfl (hb hby own_d_method_4_code_205) rfl rfl ?_
    refine XS.iconst X6.here hx rfl (hb hby own_d_method_4_code_206) ?_
    show Steps p.tables e below (T6.setTop (mkF m 207 #[.val (.ref a1), .val (.int p2)] [(.int (1 : Int32)), (.ref b2), (.ref b2), (.ref b1), (.ref b1)])) _
    refine XS.aloadN X6.here hx rfl (hb hby own_d_method_4_code_207) rfl rfl ?_
    refine XS.iconst X6.here hx rfl (hb hby own_d_method_4_code_208) ?_
    show Steps p.tables e below (T6.setTop (mkF m 209 #[.val (.ref a1), .val (.int p2)] [(.int (1 : Int32)), (.ref a1), (.int (1 : Int32)), (.ref b2), (.ref b2), (.ref b1), (.ref b1)])) _
    refine X6.caload hx (j := (1 : Int32)) (v := (.int (cs.getD 1 0))) (by rw [e6]; exact Ar9.1) (State.isArrayOf_alike hZ.alike Ar9.2.1) Ar9.2.2 hin9 hat9 (g := (mkF m 209 #[.val (.ref a1), .val (.int p2)] [(.int (1 : Int32)), (.ref a1), (.int (1 : Int32)), (.ref b2), (.ref b2), (.ref b1), (.ref b1)])) rfl rfl (hb hby own_d_method_4_code_209) _ ?_
    show Steps p.tables e below (T6.setTop (mkF m 210 #[.val (.ref a1), .val (.int p2)] [(.int (cs.getD 1 0)), (.int (1 : Int32)), (.ref b2), (.ref b2), (.ref b1), (.ref b1)])) _
    refine st11 _ ?_
    refine XS.dup X11.here hx rfl (hb hby own_d_method_4_code_211) rfl rfl ?_
    refine XS.iconst X11.here hx rfl (hb hby own_d_method_4_code_212) ?_
    show Steps p.tables e below (T11.setTop (mkF m 213 #[.val (.ref a1), .val (.int p2)] [(.int (2 : Int32)), (.ref b2), (.ref b2), (.ref b1), (.ref b1)])) _
    refine XS.aloadN X11.here hx rfl (hb hby own_d_method_4_code_213) rfl rfl ?_
    refine XS.iconst X11.here hx rfl (hb hby own_d_method_4_code_214) ?_
    show Steps p.tables e below (T11.setTop (mkF m 215 #[.val (.ref a1), .val (.int p2)] [(.int (2 : Int32)), (.ref a1), (.int (2 : Int32)), (.ref b2), (.ref b2), (.ref b1), (.ref b1)])) _
    refine X11.caload hx (j := (2 : Int32)) (v := (.int (cs.getD 2 0))) (by rw [e11]; exact Ar13.1) (State.isArrayOf_alike hZ.alike Ar13.2.1) Ar13.2.2 hin13 hat13 (g := (mkF m 215 #[.val (.ref a1), .val (.int p2)] [(.int (2 : Int32)), (.ref a1), (.int (2 : Int32)), (.ref b2), (.ref b2), (.ref b1), (.ref b1)])) rfl rfl (hb hby own_d_method_4_code_215) _ ?_
    show Steps p.tables e below (T11.setTop (mkF m 216 #[.val (.ref a1), .val (.int p2)] [(.int (cs.getD 2 0)), (.int (2 : Int32)), (.ref b2), (.ref b2), (.ref b1), (.ref b1)])) _
    refine st15 _ ?_
    refine XS.dup X15.here hx rfl (hb hby own_d_method_4_code_217) rfl rfl ?_
    refine XS.iconst X15.here hx rfl (hb hby own_d_method_4_code_218) ?_
    show Steps p.tables e below (T15.setTop (mkF m 219 #[.val (.ref a1), .val (.int p2)] [(.int (3 : Int32)), (.ref b2), (.ref b2), (.ref b1), (.ref b1)])) _
    refine XS.aloadN X15.here hx rfl (hb hby own_d_method_4_code_219) rfl rfl ?_
    refine XS.iconst X15.here hx rfl (hb hby own_d_method_4_code_220) ?_
    show Steps p.tables e below (T15.setTop (mkF m 221 #[.val (.ref a1), .val (.int p2)] [(.int (3 : Int32)), (.ref a1), (.int (3 : Int32)), (.ref b2), (.ref b2), (.ref b1), (.ref b1)])) _
    refine X15.caload hx (j := (3 : Int32)) (v := (.int (cs.getD 3 0))) (by rw [e15]; exact Ar17.1) (State.isArrayOf_alike hZ.alike Ar17.2.1) Ar17.2.2 hin17 hat17 (g := (mkF m 221 #[.val (.ref a1), .val (.int p2)] [(.int (3 : Int32)), (.ref a1), (.int (3 : Int32)), (.ref b2), (.ref b2), (.ref b1), (.ref b1)])) rfl rfl (hb hby own_d_method_4_code_221) _ ?_
    show Steps p.tables e below (T15.setTop (mkF m 222 #[.val (.ref a1), .val (.int p2)] [(.int (cs.getD 3 0)), (.int (3 : Int32)), (.ref b2), (.ref b2), (.ref b1), (.ref b1)])) _
    refine st19 _ ?_
    refine XS.dup X19.here hx rfl (hb hby own_d_method_4_code_223) rfl rfl ?_
    refine XS.iconst X19.here hx rfl (hb hby own_d_method_4_code_224) ?_
    show Steps p.tables e below (T19.setTop (mkF m 225 #[.val (.ref a1), .val (.int p2)] [(.int (4 : Int32)), (.ref b2), (.ref b2), (.ref b1), (.ref b1)])) _
    refine XS.aloadN X19.here hx rfl (hb hby own_d_method_4_code_225) rfl rfl ?_
    refine XS.iconst X19.here hx rfl (hb hby own_d_method_4_code_226) ?_
    show Steps p.tables e below (T19.setTop (mkF m 227 #[.val (.ref a1), .val (.int p2)] [(.int (4 : Int32)), (.ref a1), (.int (4 : Int32)), (.ref b2), (.ref b2), (.ref b1), (.ref b1)])) _
    refine X19.caload hx (j := (4 : Int32)) (v := (.int (cs.getD 4 0))) (by rw [e19]; exact Ar21.1) (State.isArrayOf_alike hZ.alike Ar21.2.1) Ar21.2.2 hin21 hat21 (g := (mkF m 227 #[.val (.ref a1), .val (.int p2)] [(.int (4 : Int32)), (.ref a1), (.int (4 : Int32)), (.ref b2), (.ref b2), (.ref b1), (.ref b1)])) rfl rfl (hb hby own_d_method_4_code_227) _ ?_
    show Steps p.tables e below (T19.setTop (mkF m 228 #[.val (.ref a1), .val (.int p2)] [(.int (cs.getD 4 0)), (.int (4 : Int32)), (.ref b2), (.ref b2), (.ref b1), (.ref b1)])) _
    refine st23 _ ?_
    refine XS.dup X23.here hx rfl (hb hby own_d_method_4_code_229) rfl rfl ?_
    refine XS.iconst X23.here hx rfl (hb hby own_d_method_4_code_230) ?_
    show Steps p.tables e below (T23.setTop (mkF m 231 #[.val (.ref a1), .val (.int p2)] [(.int (5 : Int32)), (.ref b2), (.ref b2), (.ref b1), (.ref b1)])) _
    refine XS.aloadN X23.here hx rfl (hb hby own_d_method_4_code_231) rfl rfl ?_
    refine XS.iconst X23.here hx rfl (hb hby own_d_method_4_code_232) ?_
    show Steps p.tables e below (T23.setTop (mkF m 233 #[.val (.ref a1), .val (.int p2)] [(.int (5 : Int32)), (.ref a1), (.int (5 : Int32)), (.ref b2), (.ref b2), (.ref b1), (.ref b1)])) _
    refine X23.caload hx (j := (5 : Int32)) (v := (.int (cs.getD 5 0))) (by rw [e23]; exact Ar25.1) (State.isArrayOf_alike hZ.alike Ar25.2.1) Ar25.2.2 hin25 hat25 (g := (mkF m 233 #[.val (.ref a1), .val (.int p2)] [(.int (5 : Int32)), (.ref a1), (.int (5 : Int32)), (.ref b2), (.ref b2), (.ref b1), (.ref b1)])) rfl rfl (hb hby own_d_method_4_code_233) _ ?_
    show Steps p.tables e below (T23.setTop (mkF m 234 #[.val (.ref a1), .val (.int p2)] [(.int (cs.getD 5 0)), (.int (5 : Int32)), (.ref b2), (.ref b2), (.ref b1), (.ref b1)])) _
    refine st27 _ ?_
    show Steps p.tables e below (T27.setTop (mkF m 235 #[.val (.ref a1), .val (.int p2)] [(.ref b2), (.ref b1), (.ref b1)])) _
    refine st28.trans ?_
    show Steps p.tables e below (T28.setTop (mkF m 238 #[.val (.ref a1), .val (.int p2)] [(.ref b1)])) _
    jvm_step X28.here [X28.here.top, hx, (hb hby own_d_method_4_code_238), X28.method', Bd.returns, Value.isRef, FieldType.isReference]
    first | (intro acts; rw [hr _ acts rfl rfl rfl]) | rw [hr _ _ rfl rfl rfl]
    exact Steps.refl _
  · show QS Z (own_cut cs 6) h0 n0 _ T28.heap _
    exact ⟨b1, rfl, N28a, K9, SV28⟩
  · show CHr Z own_EL s.vm s.heap T28.vm T28.heap
    rw [hh]
    exact CH9.trans (CHv.at X28 hZ hEL CH9.1)
theorem own_d_method_4_code_239 : decode method_4_code 239 = .ok (.iload_n 1, 1) := by decide +kernel
theorem own_d_method_4_code_240 : decode method_4_code 240 = .ok (.bipush 7, 2) := by decide +kernel
theorem own_d_method_4_code_242 : decode method_4_code 242 = .ok (.if_icmp .ne 59, 3) := by decide +kernel
theorem own_d_method_4_code_245 : decode method_4_code 245 = .ok (.new 12, 3) := by decide +kernel
theorem own_d_method_4_code_248 : decode method_4_code 248 = .ok (.dup, 1) := by decide +kernel
theorem own_d_method_4_code_249 : decode method_4_code 249 = .ok (.bipush 7, 2) := by decide +kernel
theorem own_d_method_4_code_251 : decode method_4_code 251 = .ok (.newarray .char, 2) := by decide +kernel
theorem own_d_method_4_code_253 : decode method_4_code 253 = .ok (.dup, 1) := by decide +kernel
theorem own_d_method_4_code_254 : decode method_4_code 254 = .ok (.iconst 0, 1) := by decide +kernel
theorem own_d_method_4_code_255 : decode method_4_code 255 = .ok (.aload_n 0, 1) := by decide +kernel
theorem own_d_method_4_code_256 : decode method_4_code 256 = .ok (.iconst 0, 1) := by decide +kernel
theorem own_d_method_4_code_257 : decode method_4_code 257 = .ok (.caload, 1) := by decide +kernel
theorem own_d_method_4_code_258 : decode method_4_code 258 = .ok (.castore, 1) := by decide +kernel
theorem own_d_method_4_code_259 : decode method_4_code 259 = .ok (.dup, 1) := by decide +kernel
theorem own_d_method_4_code_260 : decode method_4_code 260 = .ok (.iconst 1, 1) := by decide +kernel
theorem own_d_method_4_code_261 : decode method_4_code 261 = .ok (.aload_n 0, 1) := by decide +kernel
theorem own_d_method_4_code_262 : decode method_4_code 262 = .ok (.iconst 1, 1) := by decide +kernel
theorem own_d_method_4_code_263 : decode method_4_code 263 = .ok (.caload, 1) := by decide +kernel
theorem own_d_method_4_code_264 : decode method_4_code 264 = .ok (.castore, 1) := by decide +kernel
theorem own_d_method_4_code_265 : decode method_4_code 265 = .ok (.dup, 1) := by decide +kernel
theorem own_d_method_4_code_266 : decode method_4_code 266 = .ok (.iconst 2, 1) := by decide +kernel
theorem own_d_method_4_code_267 : decode method_4_code 267 = .ok (.aload_n 0, 1) := by decide +kernel
theorem own_d_method_4_code_268 : decode method_4_code 268 = .ok (.iconst 2, 1) := by decide +kernel
theorem own_d_method_4_code_269 : decode method_4_code 269 = .ok (.caload, 1) := by decide +kernel
theorem own_d_method_4_code_270 : decode method_4_code 270 = .ok (.castore, 1) := by decide +kernel
theorem own_d_method_4_code_271 : decode method_4_code 271 = .ok (.dup, 1) := by decide +kernel
theorem own_d_method_4_code_272 : decode method_4_code 272 = .ok (.iconst 3, 1) := by decide +kernel
theorem own_d_method_4_code_273 : decode method_4_code 273 = .ok (.aload_n 0, 1) := by decide +kernel
theorem own_d_method_4_code_274 : decode method_4_code 274 = .ok (.iconst 3, 1) := by decide +kernel
theorem own_d_method_4_code_275 : decode method_4_code 275 = .ok (.caload, 1) := by decide +kernel
theorem own_d_method_4_code_276 : decode method_4_code 276 = .ok (.castore, 1) := by decide +kernel
theorem own_d_method_4_code_277 : decode method_4_code 277 = .ok (.dup, 1) := by decide +kernel
theorem own_d_method_4_code_278 : decode method_4_code 278 = .ok (.iconst 4, 1) := by decide +kernel
theorem own_d_method_4_code_279 : decode method_4_code 279 = .ok (.aload_n 0, 1) := by decide +kernel
theorem own_d_method_4_code_280 : decode method_4_code 280 = .ok (.iconst 4, 1) := by decide +kernel
theorem own_d_method_4_code_281 : decode method_4_code 281 = .ok (.caload, 1) := by decide +kernel
theorem own_d_method_4_code_282 : decode method_4_code 282 = .ok (.castore, 1) := by decide +kernel
theorem own_d_method_4_code_283 : decode method_4_code 283 = .ok (.dup, 1) := by decide +kernel
theorem own_d_method_4_code_284 : decode method_4_code 284 = .ok (.iconst 5, 1) := by decide +kernel
theorem own_d_method_4_code_285 : decode method_4_code 285 = .ok (.aload_n 0, 1) := by decide +kernel
theorem own_d_method_4_code_286 : decode method_4_code 286 = .ok (.iconst 5, 1) := by decide +kernel
theorem own_d_method_4_code_287 : decode method_4_code 287 = .ok (.caload, 1) := by decide +kernel
theorem own_d_method_4_code_288 : decode method_4_code 288 = .ok (.castore, 1) := by decide +kernel
theorem own_d_method_4_code_289 : decode method_4_code 289 = .ok (.dup, 1) := by decide +kernel
theorem own_d_method_4_code_290 : decode method_4_code 290 = .ok (.bipush 6, 2) := by decide +kernel
theorem own_d_method_4_code_292 : decode method_4_code 292 = .ok (.aload_n 0, 1) := by decide +kernel
theorem own_d_method_4_code_293 : decode method_4_code 293 = .ok (.bipush 6, 2) := by decide +kernel
theorem own_d_method_4_code_295 : decode method_4_code 295 = .ok (.caload, 1) := by decide +kernel
theorem own_d_method_4_code_296 : decode method_4_code 296 = .ok (.castore, 1) := by decide +kernel
theorem own_d_method_4_code_297 : decode method_4_code 297 = .ok (.invokespecial 45, 3) := by decide +kernel
theorem own_d_method_4_code_300 : decode method_4_code 300 = .ok (.areturn, 1) := by decide +kernel
set_option maxRecDepth 65536 in
set_option maxHeartbeats 40000000 in
theorem rc7 (l : Launch) (Z : State) (a0 : Array Value) (hw : ∀ d ∈ tables_1, d.before a0 Z = true) (ws : List Jvm.Cond) (hEL : EW Z a0 own_EL) (a1 : Addr) (p2 : Int32) (cs : List Int32) (kc : ClassId) (G1 : Int32) (G3 : Value) (h0 : Heap) (n0 : Nat) (Z0 : n0 ≤ h0.size) (O2 : Sta Z Z.heap "java/lang/String" "COMPACT_STRINGS" "Z" (.int G1)) (P5 : ¬ (G1 = (0 : Int32))) (O4 : Sta Z Z.heap "jdk/internal/util/Preconditions" "SIOOBE_FORMATTER" "Ljava/util/function/BiFunction;" G3) (rG3 : G3.isRef = true) (O0 : Old Z n0 h0) (V_a1 : Arv Z h0 a1 kc .char (9 : Int32) (cs.map Value.int) (.int (0 : Int32))) (hlat : ∀ c ∈ cs, Lat c) (hc1 : ¬ (p2 = (0 : Int32))) (hc17 : ¬ (p2 = (1 : Int32))) (hc39 : ¬ (p2 = (2 : Int32))) (hc67 : ¬ (p2 = (3 : Int32))) (hc101 : ¬ (p2 = (4 : Int32))) (hc141 : ¬ (p2 = (5 : Int32))) (hc188 : ¬ (p2 = (6 : Int32))) (hc242 : p2 = (7 : Int32)) :
    MetFree l (⟨"com/example/restate/restate/TargetIsAttachedPinLaw", "cut", "([CI)Ljava/lang/String;"⟩ : MethodName) (head1 (Jvm.Cond.code (⟨"com/example/restate/restate/TargetIsAttachedPinLaw", "cut", "([CI)Ljava/lang/String;"⟩ : MethodName) method_4_code 2 (some (.object "java/lang/String")) :: ws) ({ frames := 4, cells := 4, slots := 22, locals := 66 } : Room)) (fun a U => a = #[(.ref a1), (.int p2)] ∧ Z.Warmed39 U.vm ∧ U.heap = h0 ∧ CHv Z own_EL U.vm h0) (fun _ _ _ _ _ => True) (fun _ U o U' => ∃ vr_ Lr_, o = .returned vr_ ∧ QS Z (own_cut cs 7) h0 n0 vr_ U'.heap Lr_ ∧ CHr Z own_EL U.vm U.heap U'.vm U'.heap ∧ ReturnedEndW U o U' Lr_ 4 22) := by
  refine MetFree.of_bodySF (plainFor_of_name own_pn_com_example_restate_restate_TargetIsAttachedPinLaw) hisR ?_
  intro p e s m args below meth c s₁ Bd hml0 hP hK
  obtain ⟨rfl, hZ, hh, hCH0⟩ := hP
  have hx := Bd.exec
  have hby := Bd.bytes
  have hml : c.maxLocals = 2 := hml0
  have hown : s.vm.findClass "com/example/restate/restate/TargetIsAttachedPinLaw" = some m.cls := findClass_of_methodNamed Bd.named
  have hnm := (name_of_methodNamed Bd.named Bd.method).1
  have X0 : Stand p l e ({ frames := 4, cells := 4, slots := 22, locals := 66 } : Room) (s.setVm s.vm) m #[(.ref a1), (.int p2)] below meth c s₁ [] 0 0 := Stand.of_body Bd
  have e0 : s₁.heap = h0 := by rw [← hh, Bd.state]; rfl
  have N0 := Fr.nil n0
  have CH0 : CHr Z own_EL s.vm h0 s.vm h0 := CHr.refl hCH0
  have hS0 : s.Since s.vm 0 := State.WarmedH.since (State.WarmedH.refl s) 0
  have pre0 : ∀ t, Steps p.tables e below (s₁.setTop (mkF m 0 #[.val (.ref a1), .val (.int p2)] [])) t → Steps p.tables e below (s₁.setTop (entryFrame m #[(.ref a1), (.int p2)] 2)) t := fun t k => castTop (own_ef_method_4_code_xx m a1 p2) k
  obtain ⟨T1, h1, X1, e1, E1, A1, D1, -, st1⟩ := newO X0 hx hZ hown (hw _ (List.mem_of_getElem? (i := 52) rfl)) (hw _ (List.mem_of_getElem? (i := 2) rfl)) (hw _ (List.mem_of_getElem? (i := 1) rfl)) e0 (g := (mkF m 245 #[.val (.ref a1), .val (.int p2)] [])) rfl (hb hby own_d_method_4_code_245) (by decide) (by decide)
  obtain ⟨b1, g1⟩ : ∃ z, z = h0.size := ⟨_, rfl⟩
  rw [← g1] at A1 D1 st1
  have sz_b1 : h0.size ≤ b1 := Nat.le_trans (Keep.refl h0 []).1 (Nat.le_of_eq g1.symm)
  have g_b1 : n0 ≤ b1 := Nat.le_trans Z0 sz_b1
  have CH1 : CHr Z own_EL s.vm h0 s.vm h1 := CH0.trans (CHr.ext E1 CH0.1)
  have K1 : Keep h0 h1 [] := (Keep.refl h0 []).ext E1
  have F_value_b1 : Fld Z h1 b1 "java/lang/String" "value" "[B" .null := D1 (Or.inr (hw _ (List.mem_of_getElem? (i := 4) rfl))) (ty := (.array .byte)) (by decide)
  have F_coder_b1 : Fld Z h1 b1 "java/lang/String" "coder" "B" (.int (0 : Int32)) := D1 (Or.inr (hw _ (List.mem_of_getElem? (i := 5) rfl))) (ty := .byte) (by decide)
  have Sf1 : Safe Z own_EL s.vm h1 b1 := Safe.ext E1 CH0.1 (Safe.new (Nat.le_of_eq g1.symm))
  obtain ⟨T2, h2, ka2, X2, e2, E2, A2, st2⟩ := newP X1 hx hZ (hw _ (List.mem_of_getElem? (i := 22) rfl)) e1 (g := (mkF m 251 #[.val (.ref a1), .val (.int p2)] [(.int (7 : Int32)), (.ref b1), (.ref b1)])) rfl (hb hby own_d_method_4_code_251) rfl (by decide) (cap := 7) (by decide) (by decide) (by decide) (by decide)
  obtain ⟨b2, g2⟩ : ∃ z, z = h1.size := ⟨_, rfl⟩
  rw [← g2] at A2 st2
  have sz_b2 : h0.size ≤ b2 := Nat.le_trans K1.1 (Nat.le_of_eq g2.symm)
  have g_b2 : n0 ≤ b2 := Nat.le_trans Z0 sz_b2
  have CH2 : CHr Z own_EL s.vm h0 s.vm h2 := CH1.trans (CHr.ext E2 CH1.1)
  have K2 : Keep h0 h2 [] := K1.ext E2
  have V_b2 : Arv Z h2 b2 ka2 .char (7 : Int32) [(.int (0 : Int32)), (.int (0 : Int32)), (.int (0 : Int32)), (.int (0 : Int32)), (.int (0 : Int32)), (.int (0 : Int32)), (.int (0 : Int32))] (.int (0 : Int32)) := (Arv.new A2 (by decide)).pad (pad_rep [] (.int (0 : Int32)) 7)
  have f3 : Arv Z h2 a1 kc .char (9 : Int32) (cs.map Value.int) (.int (0 : Int32)) := ((V_a1.ext E1).ext E2)
  obtain ⟨cl4, Ar4, q4, S4, N_4, H_4, G4⟩ := id f3
  have hin4 : ¬ ((0 : Int32) < 0 ∨ cl4.slots.size ≤ ((0 : Int32)).toNatClampNeg) := inb_of S4 ⟨by decide, by decide⟩
  have hat4 : cl4.slots[((0 : Int32)).toNatClampNeg]? = some (.int (cs.getD 0 0)) := H_4.at hin4 (own_getD cs 0)
  obtain ⟨cl5, Ar5, q5, S5, N_5, H_5, G5⟩ := id V_b2
  obtain ⟨T6, h6, X6, e6, W6, st6⟩ := stC X2 hx hZ e2 Ar5 (j := (0 : Int32)) (inb_of S5 ⟨by decide, by decide⟩) (g := (mkF m 258 #[.val (.ref a1), .val (.int p2)] [(.int (cs.getD 0 0)), (.int (0 : Int32)), (.ref b2), (.ref b2), (.ref b1), (.ref b1)])) rfl rfl (hb hby own_d_method_4_code_258)
  have V6_b2 : Arv Z h6 b2 ka2 .char (7 : Int32) [(.int (nar .char (cs.getD 0 0))), (.int (0 : Int32)), (.int (0 : Int32)), (.int (0 : Int32)), (.int (0 : Int32)), (.int (0 : Int32)), (.int (0 : Int32))] (.int (0 : Int32)) := Arv.set Ar5 q5 S5 N_5 H_5 G5 (fits_nar_char _) W6 0 rfl (Nat.le_of_ble_eq_true rfl)
  have Nf6 := Fr.snoc X6 N0 g_b2
  have CH3 : CHr Z own_EL s.vm h0 s.vm h6 := CH2.trans (CHr.wr W6 (own_safeV (hZ : Z.Warmed39 s.vm).alike V_b2 (by decide)) CH2.1)
  have K3 : Keep h0 h6 [] := K2.wr W6 (Or.inr sz_b2)
  have f7 : Arv Z h1 a1 kc .char (9 : Int32) (cs.map Value.int) (.int (0 : Int32)) := (V_a1.ext E1)
  have f8 : Arv Z h6 a1 kc .char (9 : Int32) (cs.map Value.int) (.int (0 : Int32)) := (f3.other W6 (Nat.ne_of_lt (Nat.lt_of_lt_of_le f7.lt (Nat.le_of_eq g2.symm))))
  obtain ⟨cl9, Ar9, q9, S9, N_9, H_9, G9⟩ := id f8
  have hin9 : ¬ ((1 : Int32) < 0 ∨ cl9.slots.size ≤ ((1 : Int32)).toNatClampNeg) := inb_of S9 ⟨by decide, by decide⟩
  have hat9 : cl9.slots[((1 : Int32)).toNatClampNeg]? = some (.int (cs.getD 1 0)) := H_9.at hin9 (own_getD cs 1)
  obtain ⟨cl10, Ar10, q10, S10, N_10, H_10, G10⟩ := id V6_b2
  obtain ⟨T11, h11, X11, e11, W11, st11⟩ := stC X6 hx hZ e6 Ar10 (j := (1 : Int32)) (inb_of S10 ⟨by decide, by decide⟩) (g := (mkF m 264 #[.val (.ref a1), .val (.int p2)] [(.int (cs.getD 1 0)), (.int (1 : Int32)), (.ref b2), (.ref b2), (.ref b1), (.ref b1)])) rfl rfl (hb hby own_d_method_4_code_264)
  have V11_b2 : Arv Z h11 b2 ka2 .char (7 : Int32) [(.int (nar .char (cs.getD 0 0))), (.int (nar .char (cs.getD 1 0))), (.int (0 : Int32)), (.int (0 : Int32)), (.int (0 : Int32)), (.int (0 : Int32)), (.int (0 : Int32))] (.int (0 : Int32)) := Arv.set Ar10 q10 S10 N_10 H_10 G10 (fits_nar_char _) W11 1 rfl (Nat.le_of_ble_eq_true rfl)
  have Nf11 := Fr.snoc X11 Nf6 g_b2
  have CH4 : CHr Z own_EL s.vm h0 s.vm h11 := CH3.trans (CHr.wr W11 (own_safeV (hZ : Z.Warmed39 s.vm).alike V6_b2 (by decide)) CH3.1)
  have K4 : Keep h0 h11 [] := K3.wr W11 (Or.inr sz_b2)
  have f12 : Arv Z h11 a1 kc .char (9 : Int32) (cs.map Value.int) (.int (0 : Int32)) := (f8.other W11 (Nat.ne_of_lt (Nat.lt_of_lt_of_le f7.lt (Nat.le_of_eq g2.symm))))
  obtain ⟨cl13, Ar13, q13, S13, N_13, H_13, G13⟩ := id f12
  have hin13 : ¬ ((2 : Int32) < 0 ∨ cl13.slots.size ≤ ((2 : Int32)).toNatClampNeg) := inb_of S13 ⟨by decide, by decide⟩
  have hat13 : cl13.slots[((2 : Int32)).toNatClampNeg]? = some (.int (cs.getD 2 0)) := H_13.at hin13 (own_getD cs 2)
  obtain ⟨cl14, Ar14, q14, S14, N_14, H_14, G14⟩ := id V11_b2
  obtain ⟨T15, h15, X15, e15, W15, st15⟩ := stC X11 hx hZ e11 Ar14 (j := (2 : Int32)) (inb_of S14 ⟨by decide, by decide⟩) (g := (mkF m 270 #[.val (.ref a1), .val (.int p2)] [(.int (cs.getD 2 0)), (.int (2 : Int32)), (.ref b2), (.ref b2), (.ref b1), (.ref b1)])) rfl rfl (hb hby own_d_method_4_code_270)
  have V15_b2 : Arv Z h15 b2 ka2 .char (7 : Int32) [(.int (nar .char (cs.getD 0 0))), (.int (nar .char (cs.getD 1 0))), (.int (nar .char (cs.getD 2 0))), (.int (0 : Int32)), (.int (0 : Int32)), (.int (0 : Int32)), (.int (0 : Int32))] (.int (0 : Int32)) := Arv.set Ar14 q14 S14 N_14 H_14 G14 (fits_nar_char _) W15 2 rfl (Nat.le_of_ble_eq_true rfl)
  have Nf15 := Fr.snoc X15 Nf11 g_b2
  have CH5 : CHr Z own_EL s.vm h0 s.vm h15 := CH4.trans (CHr.wr W15 (own_safeV (hZ : Z.Warmed39 s.vm).alike V11_b2 (by decide)) CH4.1)
  have K5 : Keep h0 h15 [] := K4.wr W15 (Or.inr sz_b2)
  have f16 : Arv Z h15 a1 kc .char (9 : Int32) (cs.map Value.int) (.int (0 : Int32)) := (f12.other W15 (Nat.ne_of_lt (Nat.lt_of_lt_of_le f7.lt (Nat.le_of_eq g2.symm))))
  obtain ⟨cl17, Ar17, q17, S17, N_17, H_17, G17⟩ := id f16
  have hin17 : ¬ ((3 : Int32) < 0 ∨ cl17.slots.size ≤ ((3 : Int32)).toNatClampNeg) := inb_of S17 ⟨by decide, by decide⟩
  have hat17 : cl17.slots[((3 : Int32)).toNatClampNeg]? = some (.int (cs.getD 3 0)) := H_17.at hin17 (own_getD cs 3)
  obtain ⟨cl18, Ar18, q18, S18, N_18, H_18, G18⟩ := id V15_b2
  obtain ⟨T19, h19, X19, e19, W19, st19⟩ := stC X15 hx hZ e15 Ar18 (j := (3 : Int32)) (inb_of S18 ⟨by decide, by decide⟩) (g := (mkF m 276 #[.val (.ref a1), .val (.int p2)] [(.int (cs.getD 3 0)), (.int (3 : Int32)), (.ref b2), (.ref b2), (.ref b1), (.ref b1)])) rfl rfl (hb hby own_d_method_4_code_276)
  have V19_b2 : Arv Z h19 b2 ka2 .char (7 : Int32) [(.int (nar .char (cs.getD 0 0))), (.int (nar .char (cs.getD 1 0))), (.int (nar .char (cs.getD 2 0))), (.int (nar .char (cs.getD 3 0))), (.int (0 : Int32)), (.int (0 : Int32)), (.int (0 : Int32))] (.int (0 : Int32)) := Arv.set Ar18 q18 S18 N_18 H_18 G18 (fits_nar_char _) W19 3 rfl (Nat.le_of_ble_eq_true rfl)
  have Nf19 := Fr.snoc X19 Nf15 g_b2
  have CH6 : CHr Z own_EL s.vm h0 s.vm h19 := CH5.trans (CHr.wr W19 (own_safeV (hZ : Z.Warmed39 s.vm).alike V15_b2 (by decide)) CH5.1)
  have K6 : Keep h0 h19 [] := K5.wr W19 (Or.inr sz_b2)
  have f20 : Arv Z h19 a1 kc .char (9 : Int32) (cs.map Value.int) (.int (0 : Int32)) := (f16.other W19 (Nat.ne_of_lt (Nat.lt_of_lt_of_le f7.lt (Nat.le_of_eq g2.symm))))
  obtain ⟨cl21, Ar21, q21, S21, N_21, H_21, G21⟩ := id f20
  have hin21 : ¬ ((4 : Int32) < 0 ∨ cl21.slots.size ≤ ((4 : Int32)).toNatClampNeg) := inb_of S21 ⟨by decide, by decide⟩
  have hat21 : cl21.slots[((4 : Int32)).toNatClampNeg]? = some (.int (cs.getD 4 0)) := H_21.at hin21 (own_getD cs 4)
  obtain ⟨cl22, Ar22, q22, S22, N_22, H_22, G22⟩ := id V19_b2
  obtain ⟨T23, h23, X23, e23, W23, st23⟩ := stC X19 hx hZ e19 Ar22 (j := (4 : Int32)) (inb_of S22 ⟨by decide, by decide⟩) (g := (mkF m 282 #[.val (.ref a1), .val (.int p2)] [(.int (cs.getD 4 0)), (.int (4 : Int32)), (.ref b2), (.ref b2), (.ref b1), (.ref b1)])) rfl rfl (hb hby own_d_method_4_code_282)
  have V23_b2 : Arv Z h23 b2 ka2 .char (7 : Int32) [(.int (nar .char (cs.getD 0 0))), (.int (nar .char (cs.getD 1 0))), (.int (nar .char (cs.getD 2 0))), (.int (nar .char (cs.getD 3 0))), (.int (nar .char (cs.getD 4 0))), (.int (0 : Int32)), (.int (0 : Int32))] (.int (0 : Int32)) := Arv.set Ar22 q22 S22 N_22 H_22 G22 (fits_nar_char _) W23 4 rfl (Nat.le_of_ble_eq_true rfl)
  have Nf23 := Fr.snoc X23 Nf19 g_b2
  have CH7 : CHr Z own_EL s.vm h0 s.vm h23 := CH6.trans (CHr.wr W23 (own_safeV (hZ : Z.Warmed39 s.vm).alike V19_b2 (by decide)) CH6.1)
  have K7 : Keep h0 h23 [] := K6.wr W23 (Or.inr sz_b2)
  have f24 : Arv Z h23 a1 kc .char (9 : Int32) (cs.map Value.int) (.int (0 : Int32)) := (f20.other W23 (Nat.ne_of_lt (Nat.lt_of_lt_of_le f7.lt (Nat.le_of_eq g2.symm))))
  obtain ⟨cl25, Ar25, q25, S25, N_25, H_25, G25⟩ := id f24
  have hin25 : ¬ ((5 : Int32) < 0 ∨ cl25.slots.size ≤ ((5 : Int32)).toNatClampNeg) := inb_of S25 ⟨by decide, by decide⟩
  have hat25 : cl25.slots[((5 : Int32)).toNatClampNeg]? = some (.int (cs.getD 5 0)) := H_25.at hin25 (own_getD cs 5)
  obtain ⟨cl26, Ar26, q26, S26, N_26, H_26, G26⟩ := id V23_b2
  obtain ⟨T27, h27, X27, e27, W27, st27⟩ := stC X23 hx hZ e23 Ar26 (j := (5 : Int32)) (inb_of S26 ⟨by decide, by decide⟩) (g := (mkF m 288 #[.val (.ref a1), .val (.int p2)] [(.int (cs.getD 5 0)), (.int (5 : Int32)), (.ref b2), (.ref b2), (.ref b1), (.ref b1)])) rfl rfl (hb hby own_d_method_4_code_288)
  have V27_b2 : Arv Z h27 b2 ka2 .char (7 : Int32) [(.int (nar .char (cs.getD 0 0))), (.int (nar .char (cs.getD 1 0))), (.int (nar .char (cs.getD 2 0))), (.int (nar .char (cs.getD 3 0))), (.int (nar .char (cs.getD 4 0))), (.int (nar .char (cs.getD 5 0))), (.int (0 : Int32))] (.int (0 : Int32)) := Arv.set Ar26 q26 S26 N_26 H_26 G26 (fits_nar_char _) W27 5 rfl (Nat.le_of_ble_eq_true rfl)
  have Nf27 := Fr.snoc X27 Nf23 g_b2
  have CH8 : CHr Z own_EL s.vm h0 s.vm h27 := CH7.trans (CHr.wr W27 (own_safeV (hZ : Z.Warmed39 s.vm).alike V23_b2 (by decide)) CH7.1)
  have K8 : Keep h0 h27 [] := K7.wr W27 (Or.inr sz_b2)
  have f28 : Arv Z h27 a1 kc .char (9 : Int32) (cs.map Value.int) (.int (0 : Int32)) := (f24.other W27 (Nat.ne_of_lt (Nat.lt_of_lt_of_le f7.lt (Nat.le_of_eq g2.symm))))
  obtain ⟨cl29, Ar29, q29, S29, N_29, H_29, G29⟩ := id f28
  have hin29 : ¬ ((6 : Int32) < 0 ∨ cl29.slots.size ≤ ((6 : Int32)).toNatClampNeg) := inb_of S29 ⟨by decide, by decide⟩
  have hat29 : cl29.slots[((6 : Int32)).toNatClampNeg]? = some (.int (cs.getD 6 0)) := H_29.at hin29 (own_getD cs 6)
  obtain ⟨cl30, Ar30, q30, S30, N_30, H_30, G30⟩ := id V27_b2
  obtain ⟨T31, h31, X31, e31, W31, st31⟩ := stC X27 hx hZ e27 Ar30 (j := (6 : Int32)) (inb_of S30 ⟨by decide, by decide⟩) (g := (mkF m 296 #[.val (.ref a1), .val (.int p2)] [(.int (cs.getD 6 0)), (.int (6 : Int32)), (.ref b2), (.ref b2), (.ref b1), (.ref b1)])) rfl rfl (hb hby own_d_method_4_code_296)
  have V31_b2 : Arv Z h31 b2 ka2 .char (7 : Int32) [(.int (nar .char (cs.getD 0 0))), (.int (nar .char (cs.getD 1 0))), (.int (nar .char (cs.getD 2 0))), (.int (nar .char (cs.getD 3 0))), (.int (nar .char (cs.getD 4 0))), (.int (nar .char (cs.getD 5 0))), (.int (nar .char (cs.getD 6 0)))] (.int (0 : Int32)) := Arv.set Ar30 q30 S30 N_30 H_30 G30 (fits_nar_char _) W31 6 rfl (Nat.le_of_ble_eq_true rfl)
  have Nf31 := Fr.snoc X31 Nf27 g_b2
  have CH9 : CHr Z own_EL s.vm h0 s.vm h31 := CH8.trans (CHr.wr W31 (own_safeV (hZ : Z.Warmed39 s.vm).alike V27_b2 (by decide)) CH8.1)
  have K9 : Keep h0 h31 [] := K8.wr W31 (Or.inr sz_b2)
  have f33 : Exa Z h31 b1 "java/lang/String" := ((((((((A1.ext E2).wr W6).wr W11).wr W15).wr W19).wr W23).wr W27).wr W31)
  have f34 : Fld Z h31 b1 "java/lang/String" "value" "[B" .null := ((((((((F_value_b1.ext E2).other W6 (Or.inl (Nat.ne_of_lt (Nat.lt_of_lt_of_le A1.lt (Nat.le_of_eq g2.symm))))).other W11 (Or.inl (Nat.ne_of_lt (Nat.lt_of_lt_of_le A1.lt (Nat.le_of_eq g2.symm))))).other W15 (Or.inl (Nat.ne_of_lt (Nat.lt_of_lt_of_le A1.lt (Nat.le_of_eq g2.symm))))).other W19 (Or.inl (Nat.ne_of_lt (Nat.lt_of_lt_of_le A1.lt (Nat.le_of_eq g2.symm))))).other W23 (Or.inl (Nat.ne_of_lt (Nat.lt_of_lt_of_le A1.lt (Nat.le_of_eq g2.symm))))).other W27 (Or.inl (Nat.ne_of_lt (Nat.lt_of_lt_of_le A1.lt (Nat.le_of_eq g2.symm))))).other W31 (Or.inl (Nat.ne_of_lt (Nat.lt_of_lt_of_le A1.lt (Nat.le_of_eq g2.symm)))))
  have f35 : Fld Z h31 b1 "java/lang/String" "coder" "B" (.int (0 : Int32)) := ((((((((F_coder_b1.ext E2).other W6 (Or.inl (Nat.ne_of_lt (Nat.lt_of_lt_of_le A1.lt (Nat.le_of_eq g2.symm))))).other W11 (Or.inl (Nat.ne_of_lt (Nat.lt_of_lt_of_le A1.lt (Nat.le_of_eq g2.symm))))).other W15 (Or.inl (Nat.ne_of_lt (Nat.lt_of_lt_of_le A1.lt (Nat.le_of_eq g2.symm))))).other W19 (Or.inl (Nat.ne_of_lt (Nat.lt_of_lt_of_le A1.lt (Nat.le_of_eq g2.symm))))).other W23 (Or.inl (Nat.ne_of_lt (Nat.lt_of_lt_of_le A1.lt (Nat.le_of_eq g2.symm))))).other W27 (Or.inl (Nat.ne_of_lt (Nat.lt_of_lt_of_le A1.lt (Nat.le_of_eq g2.symm))))).other W31 (Or.inl (Nat.ne_of_lt (Nat.lt_of_lt_of_le A1.lt (Nat.le_of_eq g2.symm)))))
  have f36 : Old Z n0 h31 := (((((((((O0.ext E1).ext E2).wr W6 g_b2).wr W11 g_b2).wr W15 g_b2).wr W19 g_b2).wr W23 g_b2).wr W27 g_b2).wr W31 g_b2)
  obtain ⟨_, _, ⟨T32, L32, k32, n32⟩, -, X32, ⟨Lc32, hQ32, l32, y32, z32⟩, st32⟩ := X31.specialBack hx (y := (⟨"java/lang/String", "<init>", "([C)V"⟩ : MethodName)) rfl hown (mvT hZ (hw _ (List.mem_of_getElem? (i := 53) rfl))) (mvT hZ (hw _ (List.mem_of_getElem? (i := 54) rfl))) (mvT hZ (hw _ (List.mem_of_getElem? (i := 55) rfl))) (by decide) (StrChars.Road.backV (W := 1) hZ (own_hws hw) (kI := 4) (hw _ (List.mem_of_getElem? (i := 2) rfl)) (cs := ([(nar .char (cs.getD 0 0)), (nar .char (cs.getD 1 0)), (nar .char (cs.getD 2 0)), (nar .char (cs.getD 3 0)), (nar .char (cs.getD 4 0)), (nar .char (cs.getD 5 0)), (nar .char (cs.getD 6 0))] : List Int32)) (bs := (([(nar .char (cs.getD 0 0)), (nar .char (cs.getD 1 0)), (nar .char (cs.getD 2 0)), (nar .char (cs.getD 3 0)), (nar .char (cs.getD 4 0)), (nar .char (cs.getD 5 0)), (nar .char (cs.getD 6 0))] : List Int32)).map (fun c => c.toInt8.toInt32)) (n := 7) g_b1 (Nat.le_trans Z0 K9.1) f33 f34 f35 (V31_b2 : Arv Z h31 b2 ka2 .char (Int32.ofNat 7) (([(nar .char (cs.getD 0 0)), (nar .char (cs.getD 1 0)), (nar .char (cs.getD 2 0)), (nar .char (cs.getD 3 0)), (nar .char (cs.getD 4 0)), (nar .char (cs.getD 5 0)), (nar .char (cs.getD 6 0))] : List Int32).map Value.int) _) (O2.ext f36.2) P5 rfl rfl (by decide) (by decide) (own_cut_lat hlat 7) rfl (by decide) (by decide)) (g := (mkF m 297 #[.val (.ref a1), .val (.int p2)] [(.ref b2), (.ref b1), (.ref b1)])) rfl (by rw [hml]; rfl) (Steps.refl _) (a := b1) (argsL := [(.ref b2)]) (rest := [(.ref b1)]) (lenOf own_pd___C_V rfl) rfl (by show 2 * 0 + _ ≤ _; exact Nat.le_of_eq rfl) (hb hby own_d_method_4_code_297) (fun _ _ => ⟨rfl, e31, (by decide : 2 + 1 ≤ _), (by decide : 11 + 7 ≤ _)⟩)
  dsimp only [Pt.U, Pt.locs, Pt.cells, Pt.slots] at X32 l32 y32 z32 st32 hQ32
  rw [l32] at X32
  clear l32; subst y32 z32
  obtain ⟨rfl, N32q, K32q, E32q, gc32, t32, kb32, -, -, -, gv32, ga32⟩ := hQ32
  have N32a := Fr.app Nf31 N32q
  have f37 : Safe Z own_EL s.vm h31 b1 := (Safe.wr W31 (own_safeV (hZ : Z.Warmed39 s.vm).alike V27_b2 (by decide)) CH8.1 (Safe.wr W27 (own_safeV (hZ : Z.Warmed39 s.vm).alike V23_b2 (by decide)) CH7.1 (Safe.wr W23 (own_safeV (hZ : Z.Warmed39 s.vm).alike V19_b2 (by decide)) CH6.1 (Safe.wr W19 (own_safeV (hZ : Z.Warmed39 s.vm).alike V15_b2 (by decide)) CH5.1 (Safe.wr W15 (own_safeV (hZ : Z.Warmed39 s.vm).alike V11_b2 (by decide)) CH4.1 (Safe.wr W11 (own_safeV (hZ : Z.Warmed39 s.vm).alike V6_b2 (by decide)) CH3.1 (Safe.wr W6 (own_safeV (hZ : Z.Warmed39 s.vm).alike V_b2 (by decide)) CH2.1 (Safe.ext E2 CH1.1 Sf1))))))))
  have CH10 : CHr Z own_EL s.vm h0 s.vm T32.heap := CH9.trans (CHr.keep K32q (allS f37 all0) CH9.1)
  have K10 : Keep h0 T32.heap [] := K9.trans K32q (allS (Or.inr sz_b1) all0)
  have SV32 : StrV Z T32.heap b1 ([(nar .char (cs.getD 0 0)), (nar .char (cs.getD 1 0)), (nar .char (cs.getD 2 0)), (nar .char (cs.getD 3 0)), (nar .char (cs.getD 4 0)), (nar .char (cs.getD 5 0)), (nar .char (cs.getD 6 0))] : List Int32) := own_mkStr rfl (own_cut_lat hlat 7) E32q gc32 gv32 ga32
  obtain ⟨fs, hr, hrun, hended, hend⟩ := X32.leaveW hS0 (Nat.zero_le _) (v := some (.ref b1)) (fun h => by rw [Bd.returns] at h; cases h)
  refine ⟨_, _, pre0 _ ?_, hrun, hended, _, _, rfl, ?_, ?_, hend.1, hend.2.1, hend.2.2.1, hend.2.2.2.mono (by decide) (by decide)⟩
  · show Steps p.tables e below (s₁.setTop (mkF m 0 #[.val (.ref a1), .val (.int p2)] [])) _
    refine XS.iloadN X0.here hx rfl (hb hby own_d_method_4_code_0) rfl ?_
    show Steps p.tables e below (s₁.setTop (mkF m 1 #[.val (.ref a1), .val (.int p2)] [(.int p2)])) _
    refine XS.ifYes X0.here hx rfl (pc0 := 1) (pc' := 15) rfl (hb hby own_d_method_4_code_1) rfl ((if0 _ _).trans (feq hc1).2) (by decide) (by decide) ?_
    refine XS.iloadN X0.here hx rfl (hb hby own_d_method_4_code_15) rfl ?_
    refine XS.iconst X0.here hx rfl (hb hby own_d_method_4_code_16) ?_
    show Steps p.tables e below (s₁.setTop (mkF m 17 #[.val (.ref a1), .val (.int p2)] [(.int (1 : Int32)), (.int p2)])) _
    refine XS.icmpYes X0.here hx rfl (pc0 := 17) (pc' := 37) rfl (hb hby own_d_method_4_code_17) rfl (feq hc17).2 (by decide) (by decide) ?_
    refine XS.iloadN X0.here hx rfl (hb hby own_d_method_4_code_37) rfl ?_
    refine XS.iconst X0.here hx rfl (hb hby own_d_method_4_code_38) ?_
    show Steps p.tables e below (s₁.setTop (mkF m 39 #[.val (.ref a1), .val (.int p2)] [(.int (2 : Int32)), (.int p2)])) _
    refine XS.icmpYes X0.here hx rfl (pc0 := 39) (pc' := 65) rfl (hb hby own_d_method_4_code_39) rfl (feq hc39).2 (by decide) (by decide) ?_
    refine XS.iloadN X0.here hx rfl (hb hby own_d_method_4_code_65) rfl ?_
    refine XS.iconst X0.here hx rfl (hb hby own_d_method_4_code_66) ?_
    show Steps p.tables e below (s₁.setTop (mkF m 67 #[.val (.ref a1), .val (.int p2)] [(.int (3 : Int32)), (.int p2)])) _
    refine XS.icmpYes X0.here hx rfl (pc0 := 67) (pc' := 99) rfl (hb hby own_d_method_4_code_67) rfl (feq hc67).2 (by decide) (by decide) ?_
    refine XS.iloadN X0.here hx rfl (hb hby own_d_method_4_code_99) rfl ?_
    refine XS.iconst X0.here hx rfl (hb hby own_d_method_4_code_100) ?_
    show Steps p.tables e below (s₁.setTop (mkF m 101 #[.val (.ref a1), .val (.int p2)] [(.int (4 : Int32)), (.int p2)])) _
    refine XS.icmpYes X0.here hx rfl (pc0 := 101) (pc' := 139) rfl (hb hby own_d_method_4_code_101) rfl (feq hc101).2 (by decide) (by decide) ?_
    refine XS.iloadN X0.here hx rfl (hb hby own_d_method_4_code_139) rfl ?_
    refine XS.iconst X0.here hx rfl (hb hby own_d_method_4_code_140) ?_
    show Steps p.tables e below (s₁.setTop (mkF m 141 #[.val (.ref a1), .val (.int p2)] [(.int (5 : Int32)), (.int p2)])) _
    refine XS.icmpYes X0.here hx rfl (pc0 := 141) (pc' := 185) rfl (hb hby own_d_method_4_code_141) rfl (feq hc141).2 (by decide) (by decide) ?_
    refine XS.iloadN X0.here hx rfl (hb hby own_d_method_4_code_185) rfl ?_
    refine XS.bipush X0.here hx rfl (hb hby own_d_method_4_code_186) ?_
    show Steps p.tables e below (s₁.setTop (mkF m 188 #[.val (.ref a1), .val (.int p2)] [(.int (6 : Int32)), (.int p2)])) _
    refine XS.icmpYes X0.here hx rfl (pc0 := 188) (pc' := 239) rfl (hb hby own_d_method_4_code_188) rfl (feq hc188).2 (by decide) (by decide) ?_
    refine XS.iloadN X0.here hx rfl (hb hby own_d_method_4_code_239) rfl ?_
    refine XS.bipush X0.here hx rfl (hb hby own_d_method_4_code_240) ?_
    show Steps p.tables e below (s₁.setTop (mkF m 242 #[.val (.ref a1), .val (.int p2)] [(.int (7 : Int32)), (.int p2)])) _
    refine XS.icmpNo X0.here hx rfl (hb hby own_d_method_4_code_242) rfl (teq hc242).2 ?_
    show Steps p.tables e below (s₁.setTop (mkF m 245 #[.val (.ref a1), .val (.int p2)] [])) _
    refine st1 _ ?_
    refine XS.dup X1.here hx rfl (hb hby own_d_method_4_code_248) rfl rfl ?_
    refine XS.bipush X1.here hx rfl (hb hby own_d_method_4_code_249) ?_
    show Steps p.tables e below (T1.setTop (mkF m 251 #[.val (.ref a1), .val (.int p2)] [(.int (7 : Int32)), (.ref b1), (.ref b1)])) _
    refine st2 _ ?_
    refine XS.dup X2.here hx rfl (hb hby own_d_method_4_code_253) rfl rfl ?_
    refine XS.iconst X2.here hx rfl (hb hby own_d_method_4_code_254) ?_
    show Steps p.tables e below (T2.setTop (mkF m 255 #[.val (.ref a1), .val (.int p2)] [(.int (0 : Int32)), (.ref b2), (.ref b2), (.ref b1), (.ref b1)])) _
    refine XS.aloadN X2.here hx rfl (hb hby own_d_method_4_code_255) rfl rfl ?_
    refine XS.iconst X2.here hx rfl (hb hby own_d_method_4_code_256) ?_
    show Steps p.tables e below (T2.setTop (mkF m 257 #[.val (.ref a1), .val (.int p2)] [(.int (0 : Int32)), (.ref a1), (.int (0 : Int32)), (.ref b2), (.ref b2), (.ref b1), (.ref b1)])) _
    refine X2.caload hx (j := (0 : Int32)) (v := (.int (cs.getD 0 0))) (by rw [e2]; exact Ar4.1) (State.isArrayOf_alike hZ.alike Ar4.2.1) Ar4.2.2 hin4 hat4 (g := (mkF m 257 #[.val (.ref a1), .val (.int p2)] [(.int (0 : Int32)), (.ref a1), (.int (0 : Int32)), (.ref b2), (.ref b2), (.ref b1), (.ref b1)])) rfl rfl (hb hby own_d_method_4_code_257) _ ?_
    show Steps p.tables e below (T2.setTop (mkF m 258 #[.val (.ref a1), .val (.int p2)] [(.int (cs.getD 0 0)), (.int (0 : Int32)), (.ref b2), (.ref b2), (.ref b1), (.ref b1)])) _
    refine st6 _ ?_
    refine XS.dup X6.here hx rfl (hb hby own_d_method_4_code_259) rfl rfl ?_
    refine XS.iconst X6.here hx rfl (hb hby own_d_method_4_code_260) ?_
    show Steps p.tables e below (T6.setTop (mkF m 261 #[.val (.ref a1), .val (.int p2)] [(.int (1 : Int32)), (.ref b2), (.ref b2), (.ref b1), (.ref b1)])) _
    refine XS.aloadN X6.here hx rfl (hb hby own_d_method_4_code_261) rfl rfl ?_
    refine XS.iconst X6.here hx rfl (hb hby own_d_method_4_code_262) ?_
    show Steps p.tables e below (T6.setTop (mkF m 263 #[.val (.ref a1), .val (.int p2)] [(.int (1 : Int32)), (.ref a1), (.int (1 : Int32)), (.ref b2), (.ref b2), (.ref b1), (.ref b1)])) _
    refine X6.caload hx (j := (1 : Int32)) (v := (.int (cs.getD 1 0))) (by rw [e6]; exact Ar9.1) (State.isArrayOf_alike hZ.alike Ar9.2.1) Ar9.2.2 hin9 hat9 (g := (mkF m 263 #[.val (.ref a1), .val (.int p2)] [(.int (1 : Int32)), (.ref a1), (.int (1 : Int32)), (.ref b2), (.ref b2), (.ref b1), (.ref b1)])) rfl rfl (hb hby own_d_method_4_code_263) _ ?_
    show Steps p.tables e below (T6.setTop (mkF m 264 #[.val (.ref a1), .val (.int p2)] [(.int (cs.getD 1 0)), (.int (1 : Int32)), (.ref b2), (.ref b2), (.ref b1), (.ref b1)])) _
    refine st11 _ ?_
    refine XS.dup X11.here hx rfl (hb hby own_d_method_4_code_265) rfl rfl ?_
    refine XS.iconst X11.here hx rfl (hb hby own_d_method_4_code_266) ?_
    show Steps p.tables e below (T11.setTop (mkF m 267 #[.val (.ref a1), .val (.int p2)] [(.int (2 : Int32)), (.ref b2), (.ref b2), (.ref b1), (.ref b1)])) _
    refine XS.aloadN X11.here hx rfl (hb hby own_d_method_4_code_267) rfl rfl ?_
    refine XS.iconst X11.here hx rfl (hb hby own_d_method_4_code_268) ?_
    show Steps p.tables e below (T11.setTop (mkF m 269 #[.val (.ref a1), .val (.int p2)] [(.int (2 : Int32)), (.ref a1), (.int (2 : Int32)), (.ref b2), (.ref b2), (.ref b1), (.ref b1)])) _
    refine X11.caload hx (j := (2 : Int32)) (v := (.int (cs.getD 2 0))) (by rw [e11]; exact Ar13.1) (State.isArrayOf_alike hZ.alike Ar13.2.1) Ar13.2.2 hin13 hat13 (g := (mkF m 269 #[.val (.ref a1), .val (.int p2)] [(.int (2 : Int32)), (.ref a1), (.int (2 : Int32)), (.ref b2), (.ref b2), (.ref b1), (.ref b1)])) rfl rfl (hb hby own_d_method_4_code_269) _ ?_
    show Steps p.tables e below (T11.setTop (mkF m 270 #[.val (.ref a1), .val (.int p2)] [(.int (cs.getD 2 0)), (.int (2 : Int32)), (.ref b2), (.ref b2), (.ref b1), (.ref b1)])) _
    refine st15 _ ?_
    refine XS.dup X15.here hx rfl (hb hby own_d_method_4_code_271) rfl rfl ?_
    refine XS.iconst X15.here hx rfl (hb hby own_d_method_4_code_272) ?_
    show Steps p.tables e below (T15.setTop (mkF m 273 #[.val (.ref a1), .val (.int p2)] [(.int (3 : Int32)), (.ref b2), (.ref b2), (.ref b1), (.ref b1)])) _
    refine XS.aloadN X15.here hx rfl (hb hby own_d_method_4_code_273) rfl rfl ?_
    refine XS.iconst X15.here hx rfl (hb hby own_d_method_4_code_274) ?_
    show Steps p.tables e below (T15.setTop (mkF m 275 #[.val (.ref a1), .val (.int p2)] [(.int (3 : Int32)), (.ref a1), (.int (3 : Int32)), (.ref b2), (.ref b2), (.ref b1), (.ref b1)])) _
    refine X15.caload hx (j := (3 : Int32)) (v := (.int (cs.getD 3 0))) (by rw [e15]; exact Ar17.1) (State.isArrayOf_alike hZ.alike Ar17.2.1) Ar17.2.2 hin17 hat17 (g := (mkF m 275 #[.val (.ref a1), .val (.int p2)] [(.int (3 : Int32)), (.ref a1), (.int (3 : Int32)), (.ref b2), (.ref b2), (.ref b1), (.ref b1)])) rfl rfl (hb hby own_d_method_4_code_275) _ ?_
    show Steps p.tables e below (T15.setTop (mkF m 276 #[.val (.ref a1), .val (.int p2)] [(.int (cs.getD 3 0)), (.int (3 : Int32)), (.ref b2), (.ref b2), (.ref b1), (.ref b1)])) _
    refine st19 _ ?_
    refine XS.dup X19.here hx rfl (hb hby own_d_method_4_code_277) rfl rfl ?_
    refine XS.iconst X19.here hx rfl (hb hby own_d_method_4_code_278) ?_
    show Steps p.tables e below (T19.setTop (mkF m 279 #[.val (.ref a1), .val (.int p2)] [(.int (4 : Int32)), (.ref b2), (.ref b2), (.ref b1), (.ref b1)])) _
    refine XS.aloadN X19.here hx rfl (hb hby own_d_method_4_code_279) rfl rfl ?_
    refine XS.iconst X19.here hx rfl (hb hby own_d_method_4_code_280) ?_
    show Steps p.tables e below (T19.setTop (mkF m 281 #[.val (.ref a1), .val (.int p2)] [(.int (4 : Int32)), (.ref a1), (.int (4 : Int32)), (.ref b2), (.ref b2), (.ref b1), (.ref b1)])) _
    refine X19.caload hx (j := (4 : Int32)) (v := (.int (cs.getD 4 0))) (by rw [e19]; exact Ar21.1) (State.isArrayOf_alike hZ.alike Ar21.2.1) Ar21.2.2 hin21 hat21 (g := (mkF m 281 #[.val (.ref a1), .val (.int p2)] [(.int (4 : Int32)), (.ref a1), (.int (4 : Int32)), (.ref b2), (.ref b2), (.ref b1), (.ref b1)])) rfl rfl (hb hby own_d_method_4_code_281) _ ?_
    show Steps p.tables e below (T19.setTop (mkF m 282 #[.val (.ref a1), .val (.int p2)] [(.int (cs.getD 4 0)), (.int (4 : Int32)), (.ref b2), (.ref b2), (.ref b1), (.ref b1)])) _
    refine st23 _ ?_
    refine XS.dup X23.here hx rfl (hb hby own_d_method_4_code_283) rfl rfl ?_
    refine XS.iconst X23.here hx rfl (hb hby own_d_method_4_code_284) ?_
    show Steps p.tables e below (T23.setTop (mkF m 285 #[.val (.ref a1), .val (.int p2)] [(.int (5 : Int32)), (.ref b2), (.ref b2), (.ref b1), (.ref b1)])) _
    refine XS.aloadN X23.here hx rfl (hb hby own_d_method_4_code_285) rfl rfl ?_
    refine XS.iconst X23.here hx rfl (hb hby own_d_method_4_code_286) ?_
    show Steps p.tables e below (T23.setTop (mkF m 287 #[.val (.ref a1), .val (.int p2)] [(.int (5 : Int32)), (.ref a1), (.int (5 : Int32)), (.ref b2), (.ref b2), (.ref b1), (.ref b1)])) _
    refine X23.caload hx (j := (5 : Int32)) (v := (.int (cs.getD 5 0))) (by rw [e23]; exact Ar25.1) (State.isArrayOf_alike hZ.alike Ar25.2.1) Ar25.2.2 hin25 hat25 (g := (mkF m 287 #[.val (.ref a1), .val (.int p2)] [(.int (5 : Int32)), (.ref a1), (.int (5 : Int32)), (.ref b2), (.ref b2), (.ref b1), (.ref b1)])) rfl rfl (hb hby own_d_method_4_code_287) _ ?_
    show Steps p.tables e below (T23.setTop (mkF m 288 #[.val (.ref a1), .val (.int p2)] [(.int (cs.getD 5 0)), (.int (5 : Int32)), (.ref b2), (.ref b2), (.ref b1), (.ref b1)])) _
    refine st27 _ ?_
    refine XS.dup X27.here hx rfl (hb hby own_d_method_4_code_289) rfl rfl ?_
    refine XS.bipush X27.here hx rfl (hb hby own_d_method_4_code_290) ?_
    show Steps p.tables e below (T27.setTop (mkF m 292 #[.val (.ref a1), .val (.int p2)] [(.int (6 : Int32)), (.ref b2), (.ref b2), (.ref b1), (.ref b1)])) _
    refine XS.aloadN X27.here hx rfl (hb hby own_d_method_4_code_292) rfl rfl ?_
    refine XS.bipush X27.here hx rfl (hb hby own_d_method_4_code_293) ?_
    show Steps p.tables e below (T27.setTop (mkF m 295 #[.val (.ref a1), .val (.int p2)] [(.int (6 : Int32)), (.ref a1), (.int (6 : Int32)), (.ref b2), (.ref b2), (.ref b1), (.ref b1)])) _
    refine X27.caload hx (j := (6 : Int32)) (v := (.int (cs.getD 6 0))) (by rw [e27]; exact Ar29.1) (State.isArrayOf_alike hZ.alike Ar29.2.1) Ar29.2.2 hin29 hat29 (g := (mkF m 295 #[.val (.ref a1), .val (.int p2)] [(.int (6 : Int32)), (.ref a1), (.int (6 : Int32)), (.ref b2), (.ref b2), (.ref b1), (.ref b1)])) rfl rfl (hb hby own_d_method_4_code_295) _ ?_
    show Steps p.tables e below (T27.setTop (mkF m 296 #[.val (.ref a1), .val (.int p2)] [(.int (cs.getD 6 0)), (.int (6 : Int32)), (.ref b2), (.ref b2), (.ref b1), (.ref b1)])) _
    refine st31 _ ?_
    show Steps p.tables e below (T31.setTop (mkF m 297 #[.val (.ref a1), .val (.int p2)] [(.ref b2), (.ref b1), (.ref b1)])) _
    refine st32.trans ?_
    show Steps p.tables e below (T32.setTop (mkF m 300 #[.val (.ref a1), .val (.int p2)] [(.ref b1)])) _
    jvm_step X32.here [X32.here.top, hx, (hb hby own_d_method_4_code_300), X32.method', Bd.returns, Value.isRef, FieldType.isReference]
    first | (intro acts; rw [hr _ acts rfl rfl rfl]) | rw [hr _ _ rfl rfl rfl]
    exact Steps.refl _
  · show QS Z (own_cut cs 7) h0 n0 _ T32.heap _
    exact ⟨b1, rfl, N32a, K10, SV32⟩
  · show CHr Z own_EL s.vm s.heap T32.vm T32.heap
    rw [hh]
    exact CH10.trans (CHv.at X32 hZ hEL CH10.1)
theorem own_d_method_4_code_301 : decode method_4_code 301 = .ok (.iload_n 1, 1) := by decide +kernel
theorem own_d_method_4_code_302 : decode method_4_code 302 = .ok (.bipush 8, 2) := by decide +kernel
theorem own_d_method_4_code_304 : decode method_4_code 304 = .ok (.if_icmp .ne 67, 3) := by decide +kernel
theorem own_d_method_4_code_307 : decode method_4_code 307 = .ok (.new 12, 3) := by decide +kernel
theorem own_d_method_4_code_310 : decode method_4_code 310 = .ok (.dup, 1) := by decide +kernel
theorem own_d_method_4_code_311 : decode method_4_code 311 = .ok (.bipush 8, 2) := by decide +kernel
theorem own_d_method_4_code_313 : decode method_4_code 313 = .ok (.newarray .char, 2) := by decide +kernel
theorem own_d_method_4_code_315 : decode method_4_code 315 = .ok (.dup, 1) := by decide +kernel
theorem own_d_method_4_code_316 : decode method_4_code 316 = .ok (.iconst 0, 1) := by decide +kernel
theorem own_d_method_4_code_317 : decode method_4_code 317 = .ok (.aload_n 0, 1) := by decide +kernel
theorem own_d_method_4_code_318 : decode method_4_code 318 = .ok (.iconst 0, 1) := by decide +kernel
theorem own_d_method_4_code_319 : decode method_4_code 319 = .ok (.caload, 1) := by decide +kernel
theorem own_d_method_4_code_320 : decode method_4_code 320 = .ok (.castore, 1) := by decide +kernel
theorem own_d_method_4_code_321 : decode method_4_code 321 = .ok (.dup, 1) := by decide +kernel
theorem own_d_method_4_code_322 : decode method_4_code 322 = .ok (.iconst 1, 1) := by decide +kernel
theorem own_d_method_4_code_323 : decode method_4_code 323 = .ok (.aload_n 0, 1) := by decide +kernel
theorem own_d_method_4_code_324 : decode method_4_code 324 = .ok (.iconst 1, 1) := by decide +kernel
theorem own_d_method_4_code_325 : decode method_4_code 325 = .ok (.caload, 1) := by decide +kernel
theorem own_d_method_4_code_326 : decode method_4_code 326 = .ok (.castore, 1) := by decide +kernel
theorem own_d_method_4_code_327 : decode method_4_code 327 = .ok (.dup, 1) := by decide +kernel
theorem own_d_method_4_code_328 : decode method_4_code 328 = .ok (.iconst 2, 1) := by decide +kernel
theorem own_d_method_4_code_329 : decode method_4_code 329 = .ok (.aload_n 0, 1) := by decide +kernel
theorem own_d_method_4_code_330 : decode method_4_code 330 = .ok (.iconst 2, 1) := by decide +kernel
theorem own_d_method_4_code_331 : decode method_4_code 331 = .ok (.caload, 1) := by decide +kernel
theorem own_d_method_4_code_332 : decode method_4_code 332 = .ok (.castore, 1) := by decide +kernel
theorem own_d_method_4_code_333 : decode method_4_code 333 = .ok (.dup, 1) := by decide +kernel
theorem own_d_method_4_code_334 : decode method_4_code 334 = .ok (.iconst 3, 1) := by decide +kernel
theorem own_d_method_4_code_335 : decode method_4_code 335 = .ok (.aload_n 0, 1) := by decide +kernel
theorem own_d_method_4_code_336 : decode method_4_code 336 = .ok (.iconst 3, 1) := by decide +kernel
theorem own_d_method_4_code_337 : decode method_4_code 337 = .ok (.caload, 1) := by decide +kernel
theorem own_d_method_4_code_338 : decode method_4_code 338 = .ok (.castore, 1) := by decide +kernel
theorem own_d_method_4_code_339 : decode method_4_code 339 = .ok (.dup, 1) := by decide +kernel
theorem own_d_method_4_code_340 : decode method_4_code 340 = .ok (.iconst 4, 1) := by decide +kernel
theorem own_d_method_4_code_341 : decode method_4_code 341 = .ok (.aload_n 0, 1) := by decide +kernel
theorem own_d_method_4_code_342 : decode method_4_code 342 = .ok (.iconst 4, 1) := by decide +kernel
theorem own_d_method_4_code_343 : decode method_4_code 343 = .ok (.caload, 1) := by decide +kernel
theorem own_d_method_4_code_344 : decode method_4_code 344 = .ok (.castore, 1) := by decide +kernel
theorem own_d_method_4_code_345 : decode method_4_code 345 = .ok (.dup, 1) := by decide +kernel
theorem own_d_method_4_code_346 : decode method_4_code 346 = .ok (.iconst 5, 1) := by decide +kernel
theorem own_d_method_4_code_347 : decode method_4_code 347 = .ok (.aload_n 0, 1) := by decide +kernel
theorem own_d_method_4_code_348 : decode method_4_code 348 = .ok (.iconst 5, 1) := by decide +kernel
theorem own_d_method_4_code_349 : decode method_4_code 349 = .ok (.caload, 1) := by decide +kernel
theorem own_d_method_4_code_350 : decode method_4_code 350 = .ok (.castore, 1) := by decide +kernel
theorem own_d_method_4_code_351 : decode method_4_code 351 = .ok (.dup, 1) := by decide +kernel
theorem own_d_method_4_code_352 : decode method_4_code 352 = .ok (.bipush 6, 2) := by decide +kernel
theorem own_d_method_4_code_354 : decode method_4_code 354 = .ok (.aload_n 0, 1) := by decide +kernel
theorem own_d_method_4_code_355 : decode method_4_code 355 = .ok (.bipush 6, 2) := by decide +kernel
theorem own_d_method_4_code_357 : decode method_4_code 357 = .ok (.caload, 1) := by decide +kernel
theorem own_d_method_4_code_358 : decode method_4_code 358 = .ok (.castore, 1) := by decide +kernel
theorem own_d_method_4_code_359 : decode method_4_code 359 = .ok (.dup, 1) := by decide +kernel
theorem own_d_method_4_code_360 : decode method_4_code 360 = .ok (.bipush 7, 2) := by decide +kernel
theorem own_d_method_4_code_362 : decode method_4_code 362 = .ok (.aload_n 0, 1) := by decide +kernel
theorem own_d_method_4_code_363 : decode method_4_code 363 = .ok (.bipush 7, 2) := by decide +kernel
theorem own_d_method_4_code_365 : decode method_4_code 365 = .ok (.caload, 1) := by decide +kernel
theorem own_d_method_4_code_366 : decode method_4_code 366 = .ok (.castore, 1) := by decide +kernel
theorem own_d_method_4_code_367 : decode method_4_code 367 = .ok (.invokespecial 45, 3) := by decide +kernel
theorem own_d_method_4_code_370 : decode method_4_code 370 = .ok (.areturn, 1) := by decide +kernel
set_option maxRecDepth 65536 in
set_option maxHeartbeats 40000000 in
theorem rc8 (l : Launch) (Z : State) (a0 : Array Value) (hw : ∀ d ∈ tables_1, d.before a0 Z = true) (ws : List Jvm.Cond) (hEL : EW Z a0 own_EL) (a1 : Addr) (p2 : Int32) (cs : List Int32) (kc : ClassId) (G1 : Int32) (G3 : Value) (h0 : Heap) (n0 : Nat) (Z0 : n0 ≤ h0.size) (O2 : Sta Z Z.heap "java/lang/String" "COMPACT_STRINGS" "Z" (.int G1)) (P5 : ¬ (G1 = (0 : Int32))) (O4 : Sta Z Z.heap "jdk/internal/util/Preconditions" "SIOOBE_FORMATTER" "Ljava/util/function/BiFunction;" G3) (rG3 : G3.isRef = true) (O0 : Old Z n0 h0) (V_a1 : Arv Z h0 a1 kc .char (9 : Int32) (cs.map Value.int) (.int (0 : Int32))) (hlat : ∀ c ∈ cs, Lat c) (hc1 : ¬ (p2 = (0 : Int32))) (hc17 : ¬ (p2 = (1 : Int32))) (hc39 : ¬ (p2 = (2 : Int32))) (hc67 : ¬ (p2 = (3 : Int32))) (hc101 : ¬ (p2 = (4 : Int32))) (hc141 : ¬ (p2 = (5 : Int32))) (hc188 : ¬ (p2 = (6 : Int32))) (hc242 : ¬ (p2 = (7 : Int32))) (hc304 : p2 = (8 : Int32)) :
    MetFree l (⟨"com/example/restate/restate/TargetIsAttachedPinLaw", "cut", "([CI)Ljava/lang/String;"⟩ : MethodName) (head1 (Jvm.Cond.code (⟨"com/example/restate/restate/TargetIsAttachedPinLaw", "cut", "([CI)Ljava/lang/String;"⟩ : MethodName) method_4_code 2 (some (.object "java/lang/String")) :: ws) ({ frames := 4, cells := 4, slots := 22, locals := 66 } : Room)) (fun a U => a = #[(.ref a1), (.int p2)] ∧ Z.Warmed39 U.vm ∧ U.heap = h0 ∧ CHv Z own_EL U.vm h0) (fun _ _ _ _ _ => True) (fun _ U o U' => ∃ vr_ Lr_, o = .returned vr_ ∧ QS Z (own_cut cs 8) h0 n0 vr_ U'.heap Lr_ ∧ CHr Z own_EL U.vm U.heap U'.vm U'.heap ∧ ReturnedEndW U o U' Lr_ 4 22) := by
  refine MetFree.of_bodySF (plainFor_of_name own_pn_com_example_restate_restate_TargetIsAttachedPinLaw) hisR ?_
  intro p e s m args below meth c s₁ Bd hml0 hP hK
  obtain ⟨rfl, hZ, hh, hCH0⟩ := hP
  have hx := Bd.exec
  have hby := Bd.bytes
  have hml : c.maxLocals = 2 := hml0
  have hown : s.vm.findClass "com/example/restate/restate/TargetIsAttachedPinLaw" = some m.cls := findClass_of_methodNamed Bd.named
  have hnm := (name_of_methodNamed Bd.named Bd.method).1
  have X0 : Stand p l e ({ frames := 4, cells := 4, slots := 22, locals := 66 } : Room) (s.setVm s.vm) m #[(.ref a1), (.int p2)] below meth c s₁ [] 0 0 := Stand.of_body Bd
  have e0 : s₁.heap = h0 := by rw [← hh, Bd.state]; rfl
  have N0 := Fr.nil n0
  have CH0 : CHr Z own_EL s.vm h0 s.vm h0 := CHr.refl hCH0
  have hS0 : s.Since s.vm 0 := State.WarmedH.since (State.WarmedH.refl s) 0
  have pre0 : ∀ t, Steps p.tables e below (s₁.setTop (mkF m 0 #[.val (.ref a1), .val (.int p2)] [])) t → Steps p.tables e below (s₁.setTop (entryFrame m #[(.ref a1), (.int p2)] 2)) t := fun t k => castTop (own_ef_method_4_code_xx m a1 p2) k
  obtain ⟨T1, h1, X1, e1, E1, A1, D1, -, st1⟩ := newO X0 hx hZ hown (hw _ (List.mem_of_getElem? (i := 52) rfl)) (hw _ (List.mem_of_getElem? (i := 2) rfl)) (hw _ (List.mem_of_getElem? (i := 1) rfl)) e0 (g := (mkF m 307 #[.val (.ref a1), .val (.int p2)] [])) rfl (hb hby own_d_method_4_code_307) (by decide) (by decide)
  obtain ⟨b1, g1⟩ : ∃ z, z = h0.size := ⟨_, rfl⟩
  rw [← g1] at A1 D1 st1
  have sz_b1 : h0.size ≤ b1 := Nat.le_trans (Keep.refl h0 []).1 (Nat.le_of_eq g1.symm)
  have g_b1 : n0 ≤ b1 := Nat.le_trans Z0 sz_b1
  have CH1 : CHr Z own_EL s.vm h0 s.vm h1 := CH0.trans (CHr.ext E1 CH0.1)
  have K1 : Keep h0 h1 [] := (Keep.refl h0 []).ext E1
  have F_value_b1 : Fld Z h1 b1 "java/lang/String" "value" "[B" .null := D1 (Or.inr (hw _ (List.mem_of_getElem? (i := 4) rfl))) (ty := (.array .byte)) (by decide)
  have F_coder_b1 : Fld Z h1 b1 "java/lang/String" "coder" "B" (.int (0 : Int32)) := D1 (Or.inr (hw _ (List.mem_of_getElem? (i := 5) rfl))) (ty := .byte) (by decide)
  have Sf1 : Safe Z own_EL s.vm h1 b1 := Safe.ext E1 CH0.1 (Safe.new (Nat.le_of_eq g1.symm))
  obtain ⟨T2, h2, ka2, X2, e2, E2, A2, st2⟩ := newP X1 hx hZ (hw _ (List.mem_of_getElem? (i := 22) rfl)) e1 (g := (mkF m 313 #[.val (.ref a1), .val (.int p2)] [(.int (8 : Int32)), (.ref b1), (.ref b1)])) rfl (hb hby own_d_method_4_code_313) rfl (by decide) (cap := 8) (by decide) (by decide) (by decide) (by decide)
  obtain ⟨b2, g2⟩ : ∃ z, z = h1.size := ⟨_, rfl⟩
  rw [← g2] at A2 st2
  have sz_b2 : h0.size ≤ b2 := Nat.le_trans K1.1 (Nat.le_of_eq g2.symm)
  have g_b2 : n0 ≤ b2 := Nat.le_trans Z0 sz_b2
  have CH2 : CHr Z own_EL s.vm h0 s.vm h2 := CH1.trans (CHr.ext E2 CH1.1)
  have K2 : Keep h0 h2 [] := K1.ext E2
  have V_b2 : Arv Z h2 b2 ka2 .char (8 : Int32) [(.int (0 : Int32)), (.int (0 : Int32)), (.int (0 : Int32)), (.int (0 : Int32)), (.int (0 : Int32)), (.int (0 : Int32)), (.int (0 : Int32)), (.int (0 : Int32))] (.int (0 : Int32)) := (Arv.new A2 (by decide)).pad (pad_rep [] (.int (0 : Int32)) 8)
  have f3 : Arv Z h2 a1 kc .char (9 : Int32) (cs.map Value.int) (.int (0 : Int32)) := ((V_a1.ext E1).ext E2)
  obtain ⟨cl4, Ar4, q4, S4, N_4, H_4, G4⟩ := id f3
  have hin4 : ¬ ((0 : Int32) < 0 ∨ cl4.slots.size ≤ ((0 : Int32)).toNatClampNeg) := inb_of S4 ⟨by decide, by decide⟩
  have hat4 : cl4.slots[((0 : Int32)).toNatClampNeg]? = some (.int (cs.getD 0 0)) := H_4.at hin4 (own_getD cs 0)
  obtain ⟨cl5, Ar5, q5, S5, N_5, H_5, G5⟩ := id V_b2
  obtain ⟨T6, h6, X6, e6, W6, st6⟩ := stC X2 hx hZ e2 Ar5 (j := (0 : Int32)) (inb_of S5 ⟨by decide, by decide⟩) (g := (mkF m 320 #[.val (.ref a1), .val (.int p2)] [(.int (cs.getD 0 0)), (.int (0 : Int32)), (.ref b2), (.ref b2), (.ref b1), (.ref b1)])) rfl rfl (hb hby own_d_method_4_code_320)
  have V6_b2 : Arv Z h6 b2 ka2 .char (8 : Int32) [(.int (nar .char (cs.getD 0 0))), (.int (0 : Int32)), (.int (0 : Int32)), (.int (0 : Int32)), (.int (0 : Int32)), (.int (0 : Int32)), (.int (0 : Int32)), (.int (0 : Int32))] (.int (0 : Int32)) := Arv.set Ar5 q5 S5 N_5 H_5 G5 (fits_nar_char _) W6 0 rfl (Nat.le_of_ble_eq_true rfl)
  have Nf6 := Fr.snoc X6 N0 g_b2
  have CH3 : CHr Z own_EL s.vm h0 s.vm h6 := CH2.trans (CHr.wr W6 (own_safeV (hZ : Z.Warmed39 s.vm).alike V_b2 (by decide)) CH2.1)
  have K3 : Keep h0 h6 [] := K2.wr W6 (Or.inr sz_b2)
  have f7 : Arv Z h1 a1 kc .char (9 : Int32) (cs.map Value.int) (.int (0 : Int32)) := (V_a1.ext E1)
  have f8 : Arv Z h6 a1 kc .char (9 : Int32) (cs.map Value.int) (.int (0 : Int32)) := (f3.other W6 (Nat.ne_of_lt (Nat.lt_of_lt_of_le f7.lt (Nat.le_of_eq g2.symm))))
  obtain ⟨cl9, Ar9, q9, S9, N_9, H_9, G9⟩ := id f8
  have hin9 : ¬ ((1 : Int32) < 0 ∨ cl9.slots.size ≤ ((1 : Int32)).toNatClampNeg) := inb_of S9 ⟨by decide, by decide⟩
  have hat9 : cl9.slots[((1 : Int32)).toNatClampNeg]? = some (.int (cs.getD 1 0)) := H_9.at hin9 (own_getD cs 1)
  obtain ⟨cl10, Ar10, q10, S10, N_10, H_10, G10⟩ := id V6_b2
  obtain ⟨T11, h11, X11, e11, W11, st11⟩ := stC X6 hx hZ e6 Ar10 (j := (1 : Int32)) (inb_of S10 ⟨by decide, by decide⟩) (g := (mkF m 326 #[.val (.ref a1), .val (.int p2)] [(.int (cs.getD 1 0)), (.int (1 : Int32)), (.ref b2), (.ref b2), (.ref b1), (.ref b1)])) rfl rfl (hb hby own_d_method_4_code_326)
  have V11_b2 : Arv Z h11 b2 ka2 .char (8 : Int32) [(.int (nar .char (cs.getD 0 0))), (.int (nar .char (cs.getD 1 0))), (.int (0 : Int32)), (.int (0 : Int32)), (.int (0 : Int32)), (.int (0 : Int32)), (.int (0 : Int32)), (.int (0 : Int32))] (.int (0 : Int32)) := Arv.set Ar10 q10 S10 N_10 H_10 G10 (fits_nar_char _) W11 1 rfl (Nat.le_of_ble_eq_true rfl)
  have Nf11 := Fr.snoc X11 Nf6 g_b2
  have CH4 : CHr Z own_EL s.vm h0 s.vm h11 := CH3.trans (CHr.wr W11 (own_safeV (hZ : Z.Warmed39 s.vm).alike V6_b2 (by decide)) CH3.1)
  have K4 : Keep h0 h11 [] := K3.wr W11 (Or.inr sz_b2)
  have f12 : Arv Z h11 a1 kc .char (9 : Int32) (cs.map Value.int) (.int (0 : Int32)) := (f8.other W11 (Nat.ne_of_lt (Nat.lt_of_lt_of_le f7.lt (Nat.le_of_eq g2.symm))))
  obtain ⟨cl13, Ar13, q13, S13, N_13, H_13, G13⟩ := id f12
  have hin13 : ¬ ((2 : Int32) < 0 ∨ cl13.slots.size ≤ ((2 : Int32)).toNatClampNeg) := inb_of S13 ⟨by decide, by decide⟩
  have hat13 : cl13.slots[((2 : Int32)).toNatClampNeg]? = some (.int (cs.getD 2 0)) := H_13.at hin13 (own_getD cs 2)
  obtain ⟨cl14, Ar14, q14, S14, N_14, H_14, G14⟩ := id V11_b2
  obtain ⟨T15, h15, X15, e15, W15, st15⟩ := stC X11 hx hZ e11 Ar14 (j := (2 : Int32)) (inb_of S14 ⟨by decide, by decide⟩) (g := (mkF m 332 #[.val (.ref a1), .val (.int p2)] [(.int (cs.getD 2 0)), (.int (2 : Int32)), (.ref b2), (.ref b2), (.ref b1), (.ref b1)])) rfl rfl (hb hby own_d_method_4_code_332)
  have V15_b2 : Arv Z h15 b2 ka2 .char (8 : Int32) [(.int (nar .char (cs.getD 0 0))), (.int (nar .char (cs.getD 1 0))), (.int (nar .char (cs.getD 2 0))), (.int (0 : Int32)), (.int (0 : Int32)), (.int (0 : Int32)), (.int (0 : Int32)), (.int (0 : Int32))] (.int (0 : Int32)) := Arv.set Ar14 q14 S14 N_14 H_14 G14 (fits_nar_char _) W15 2 rfl (Nat.le_of_ble_eq_true rfl)
  have Nf15 := Fr.snoc X15 Nf11 g_b2
  have CH5 : CHr Z own_EL s.vm h0 s.vm h15 := CH4.trans (CHr.wr W15 (own_safeV (hZ : Z.Warmed39 s.vm).alike V11_b2 (by decide)) CH4.1)
  have K5 : Keep h0 h15 [] := K4.wr W15 (Or.inr sz_b2)
  have f16 : Arv Z h15 a1 kc .char (9 : Int32) (cs.map Value.int) (.int (0 : Int32)) := (f12.other W15 (Nat.ne_of_lt (Nat.lt_of_lt_of_le f7.lt (Nat.le_of_eq g2.symm))))
  obtain ⟨cl17, Ar17, q17, S17, N_17, H_17, G17⟩ := id f16
  have hin17 : ¬ ((3 : Int32) < 0 ∨ cl17.slots.size ≤ ((3 : Int32)).toNatClampNeg) := inb_of S17 ⟨by decide, by decide⟩
  have hat17 : cl17.slots[((3 : Int32)).toNatClampNeg]? = some (.int (cs.getD 3 0)) := H_17.at hin17 (own_getD cs 3)
  obtain ⟨cl18, Ar18, q18, S18, N_18, H_18, G18⟩ := id V15_b2
  obtain ⟨T19, h19, X19, e19, W19, st19⟩ := stC X15 hx hZ e15 Ar18 (j := (3 : Int32)) (inb_of S18 ⟨by decide, by decide⟩) (g := (mkF m 338 #[.val (.ref a1), .val (.int p2)] [(.int (cs.getD 3 0)), (.int (3 : Int32)), (.ref b2), (.ref b2), (.ref b1), (.ref b1)])) rfl rfl (hb hby own_d_method_4_code_338)
  have V19_b2 : Arv Z h19 b2 ka2 .char (8 : Int32) [(.int (nar .char (cs.getD 0 0))), (.int (nar .char (cs.getD 1 0))), (.int (nar .char (cs.getD 2 0))), (.int (nar .char (cs.getD 3 0))), (.int (0 : Int32)), (.int (0 : Int32)), (.int (0 : Int32)), (.int (0 : Int32))] (.int (0 : Int32)) := Arv.set Ar18 q18 S18 N_18 H_18 G18 (fits_nar_char _) W19 3 rfl (Nat.le_of_ble_eq_true rfl)
  have Nf19 := Fr.snoc X19 Nf15 g_b2
  have CH6 : CHr Z own_EL s.vm h0 s.vm h19 := CH5.trans (CHr.wr W19 (own_safeV (hZ : Z.Warmed39 s.vm).alike V15_b2 (by decide)) CH5.1)
  have K6 : Keep h0 h19 [] := K5.wr W19 (Or.inr sz_b2)
  have f20 : Arv Z h19 a1 kc .char (9 : Int32) (cs.map Value.int) (.int (0 : Int32)) := (f16.other W19 (Nat.ne_of_lt (Nat.lt_of_lt_of_le f7.lt (Nat.le_of_eq g2.symm))))
  obtain ⟨cl21, Ar21, q21, S21, N_21, H_21, G21⟩ := id f20
  have hin21 : ¬ ((4 : Int32) < 0 ∨ cl21.slots.size ≤ ((4 : Int32)).toNatClampNeg) := inb_of S21 ⟨by decide, by decide⟩
  have hat21 : cl21.slots[((4 : Int32)).toNatClampNeg]? = some (.int (cs.getD 4 0)) := H_21.at hin21 (own_getD cs 4)
  obtain ⟨cl22, Ar22, q22, S22, N_22, H_22, G22⟩ := id V19_b2
  obtain ⟨T23, h23, X23, e23, W23, st23⟩ := stC X19 hx hZ e19 Ar22 (j := (4 : Int32)) (inb_of S22 ⟨by decide, by decide⟩) (g := (mkF m 344 #[.val (.ref a1), .val (.int p2)] [(.int (cs.getD 4 0)), (.int (4 : Int32)), (.ref b2), (.ref b2), (.ref b1), (.ref b1)])) rfl rfl (hb hby own_d_method_4_code_344)
  have V23_b2 : Arv Z h23 b2 ka2 .char (8 : Int32) [(.int (nar .char (cs.getD 0 0))), (.int (nar .char (cs.getD 1 0))), (.int (nar .char (cs.getD 2 0))), (.int (nar .char (cs.getD 3 0))), (.int (nar .char (cs.getD 4 0))), (.int (0 : Int32)), (.int (0 : Int32)), (.int (0 : Int32))] (.int (0 : Int32)) := Arv.set Ar22 q22 S22 N_22 H_22 G22 (fits_nar_char _) W23 4 rfl (Nat.le_of_ble_eq_true rfl)
  have Nf23 := Fr.snoc X23 Nf19 g_b2
  have CH7 : CHr Z own_EL s.vm h0 s.vm h23 := CH6.trans (CHr.wr W23 (own_safeV (hZ : Z.Warmed39 s.vm).alike V19_b2 (by decide)) CH6.1)
  have K7 : Keep h0 h23 [] := K6.wr W23 (Or.inr sz_b2)
  have f24 : Arv Z h23 a1 kc .char (9 : Int32) (cs.map Value.int) (.int (0 : Int32)) := (f20.other W23 (Nat.ne_of_lt (Nat.lt_of_lt_of_le f7.lt (Nat.le_of_eq g2.symm))))
  obtain ⟨cl25, Ar25, q25, S25, N_25, H_25, G25⟩ := id f24
  have hin25 : ¬ ((5 : Int32) < 0 ∨ cl25.slots.size ≤ ((5 : Int32)).toNatClampNeg) := inb_of S25 ⟨by decide, by decide⟩
  have hat25 : cl25.slots[((5 : Int32)).toNatClampNeg]? = some (.int (cs.getD 5 0)) := H_25.at hin25 (own_getD cs 5)
  obtain ⟨cl26, Ar26, q26, S26, N_26, H_26, G26⟩ := id V23_b2
  obtain ⟨T27, h27, X27, e27, W27, st27⟩ := stC X23 hx hZ e23 Ar26 (j := (5 : Int32)) (inb_of S26 ⟨by decide, by decide⟩) (g := (mkF m 350 #[.val (.ref a1), .val (.int p2)] [(.int (cs.getD 5 0)), (.int (5 : Int32)), (.ref b2), (.ref b2), (.ref b1), (.ref b1)])) rfl rfl (hb hby own_d_method_4_code_350)
  have V27_b2 : Arv Z h27 b2 ka2 .char (8 : Int32) [(.int (nar .char (cs.getD 0 0))), (.int (nar .char (cs.getD 1 0))), (.int (nar .char (cs.getD 2 0))), (.int (nar .char (cs.getD 3 0))), (.int (nar .char (cs.getD 4 0))), (.int (nar .char (cs.getD 5 0))), (.int (0 : Int32)), (.int (0 : Int32))] (.int (0 : Int32)) := Arv.set Ar26 q26 S26 N_26 H_26 G26 (fits_nar_char _) W27 5 rfl (Nat.le_of_ble_eq_true rfl)
  have Nf27 := Fr.snoc X27 Nf23 g_b2
  have CH8 : CHr Z own_EL s.vm h0 s.vm h27 := CH7.trans (CHr.wr W27 (own_safeV (hZ : Z.Warmed39 s.vm).alike V23_b2 (by decide)) CH7.1)
  have K8 : Keep h0 h27 [] := K7.wr W27 (Or.inr sz_b2)
  have f28 : Arv Z h27 a1 kc .char (9 : Int32) (cs.map Value.int) (.int (0 : Int32)) := (f24.other W27 (Nat.ne_of_lt (Nat.lt_of_lt_of_le f7.lt (Nat.le_of_eq g2.symm))))
  obtain ⟨cl29, Ar29, q29, S29, N_29, H_29, G29⟩ := id f28
  have hin29 : ¬ ((6 : Int32) < 0 ∨ cl29.slots.size ≤ ((6 : Int32)).toNatClampNeg) := inb_of S29 ⟨by decide, by decide⟩
  have hat29 : cl29.slots[((6 : Int32)).toNatClampNeg]? = some (.int (cs.getD 6 0)) := H_29.at hin29 (own_getD cs 6)
  obtain ⟨cl30, Ar30, q30, S30, N_30, H_30, G30⟩ := id V27_b2
  obtain ⟨T31, h31, X31, e31, W31, st31⟩ := stC X27 hx hZ e27 Ar30 (j := (6 : Int32)) (inb_of S30 ⟨by decide, by decide⟩) (g := (mkF m 358 #[.val (.ref a1), .val (.int p2)] [(.int (cs.getD 6 0)), (.int (6 : Int32)), (.ref b2), (.ref b2), (.ref b1), (.ref b1)])) rfl rfl (hb hby own_d_method_4_code_358)
  have V31_b2 : Arv Z h31 b2 ka2 .char (8 : Int32) [(.int (nar .char (cs.getD 0 0))), (.int (nar .char (cs.getD 1 0))), (.int (nar .char (cs.getD 2 0))), (.int (nar .char (cs.getD 3 0))), (.int (nar .char (cs.getD 4 0))), (.int (nar .char (cs.getD 5 0))), (.int (nar .char (cs.getD 6 0))), (.int (0 : Int32))] (.int (0 : Int32)) := Arv.set Ar30 q30 S30 N_30 H_30 G30 (fits_nar_char _) W31 6 rfl (Nat.le_of_ble_eq_true rfl)
  have Nf31 := Fr.snoc X31 Nf27 g_b2
  have CH9 : CHr Z own_EL s.vm h0 s.vm h31 := CH8.trans (CHr.wr W31 (own_safeV (hZ : Z.Warmed39 s.vm).alike V27_b2 (by decide)) CH8.1)
  have K9 : Keep h0 h31 [] := K8.wr W31 (Or.inr sz_b2)
  have f32 : Arv Z h31 a1 kc .char (9 : Int32) (cs.map Value.int) (.int (0 : Int32)) := (f28.other W31 (Nat.ne_of_lt (Nat.lt_of_lt_of_le f7.lt (Nat.le_of_eq g2.symm))))
  obtain ⟨cl33, Ar33, q33, S33, N_33, H_33, G33⟩ := id f32
  have hin33 : ¬ ((7 : Int32) < 0 ∨ cl33.slots.size ≤ ((7 : Int32)).toNatClampNeg) := inb_of S33 ⟨by decide, by decide⟩
  have hat33 : cl33.slots[((7 : Int32)).toNatClampNeg]? = some (.int (cs.getD 7 0)) := H_33.at hin33 (own_getD cs 7)
  obtain ⟨cl34, Ar34, q34, S34, N_34, H_34, G34⟩ := id V31_b2
  obtain ⟨T35, h35, X35, e35, W35, st35⟩ := stC X31 hx hZ e31 Ar34 (j := (7 : Int32)) (inb_of S34 ⟨by decide, by decide⟩) (g := (mkF m 366 #[.val (.ref a1), .val (.int p2)] [(.int (cs.getD 7 0)), (.int (7 : Int32)), (.ref b2), (.ref b2), (.ref b1), (.ref b1)])) rfl rfl (hb hby own_d_method_4_code_366)
  have V35_b2 : Arv Z h35 b2 ka2 .char (8 : Int32) [(.int (nar .char (cs.getD 0 0))), (.int (nar .char (cs.getD 1 0))), (.int (nar .char (cs.getD 2 0))), (.int (nar .char (cs.getD 3 0))), (.int (nar .char (cs.getD 4 0))), (.int (nar .char (cs.getD 5 0))), (.int (nar .char (cs.getD 6 0))), (.int (nar .char (cs.getD 7 0)))] (.int (0 : Int32)) := Arv.set Ar34 q34 S34 N_34 H_34 G34 (fits_nar_char _) W35 7 rfl (Nat.le_of_ble_eq_true rfl)
  have Nf35 := Fr.snoc X35 Nf31 g_b2
  have CH10 : CHr Z own_EL s.vm h0 s.vm h35 := CH9.trans (CHr.wr W35 (own_safeV (hZ : Z.Warmed39 s.vm).alike V31_b2 (by decide)) CH9.1)
  have K10 : Keep h0 h35 [] := K9.wr W35 (Or.inr sz_b2)
  have f37 : Exa Z h35 b1 "java/lang/String" := (((((((((A1.ext E2).wr W6).wr W11).wr W15).wr W19).wr W23).wr W27).wr W31).wr W35)
  have f38 : Fld Z h35 b1 "java/lang/String" "value" "[B" .null := (((((((((F_value_b1.ext E2).other W6 (Or.inl (Nat.ne_of_lt (Nat.lt_of_lt_of_le A1.lt (Nat.le_of_eq g2.symm))))).other W11 (Or.inl (Nat.ne_of_lt (Nat.lt_of_lt_of_le A1.lt (Nat.le_of_eq g2.symm))))).other W15 (Or.inl (Nat.ne_of_lt (Nat.lt_of_lt_of_le A1.lt (Nat.le_of_eq g2.symm))))).other W19 (Or.inl (Nat.ne_of_lt (Nat.lt_of_lt_of_le A1.lt (Nat.le_of_eq g2.symm))))).other W23 (Or.inl (Nat.ne_of_lt (Nat.lt_of_lt_of_le A1.lt (Nat.le_of_eq g2.symm))))).other W27 (Or.inl (Nat.ne_of_lt (Nat.lt_of_lt_of_le A1.lt (Nat.le_of_eq g2.symm))))).other W31 (Or.inl (Nat.ne_of_lt (Nat.lt_of_lt_of_le A1.lt (Nat.le_of_eq g2.symm))))).other W35 (Or.inl (Nat.ne_of_lt (Nat.lt_of_lt_of_le A1.lt (Nat.le_of_eq g2.symm)))))
  have f39 : Fld Z h35 b1 "java/lang/String" "coder" "B" (.int (0 : Int32)) := (((((((((F_coder_b1.ext E2).other W6 (Or.inl (Nat.ne_of_lt (Nat.lt_of_lt_of_le A1.lt (Nat.le_of_eq g2.symm))))).other W11 (Or.inl (Nat.ne_of_lt (Nat.lt_of_lt_of_le A1.lt (Nat.le_of_eq g2.symm))))).other W15 (Or.inl (Nat.ne_of_lt (Nat.lt_of_lt_of_le A1.lt (Nat.le_of_eq g2.symm))))).other W19 (Or.inl (Nat.ne_of_lt (Nat.lt_of_lt_of_le A1.lt (Nat.le_of_eq g2.symm))))).other W23 (Or.inl (Nat.ne_of_lt (Nat.lt_of_lt_of_le A1.lt (Nat.le_of_eq g2.symm))))).other W27 (Or.inl (Nat.ne_of_lt (Nat.lt_of_lt_of_le A1.lt (Nat.le_of_eq g2.symm))))).other W31 (Or.inl (Nat.ne_of_lt (Nat.lt_of_lt_of_le A1.lt (Nat.le_of_eq g2.symm))))).other W35 (Or.inl (Nat.ne_of_lt (Nat.lt_of_lt_of_le A1.lt (Nat.le_of_eq g2.symm)))))
  have f40 : Old Z n0 h35 := ((((((((((O0.ext E1).ext E2).wr W6 g_b2).wr W11 g_b2).wr W15 g_b2).wr W19 g_b2).wr W23 g_b2).wr W27 g_b2).wr W31 g_b2).wr W35 g_b2)
  obtain ⟨_, _, ⟨T36, L36, k36, n36⟩, -, X36, ⟨Lc36, hQ36, l36, y36, z36⟩, st36⟩ := X35.specialBack hx (y := (⟨"java/lang/String", "<init>", "([C)V"⟩ : MethodName)) rfl hown (mvT hZ (hw _ (List.mem_of_getElem? (i := 53) rfl))) (mvT hZ (hw _ (List.mem_of_getElem? (i := 54) rfl))) (mvT hZ (hw _ (List.mem_of_getElem? (i := 55) rfl))) (by decide) (StrChars.Road.backV (W := 1) hZ (own_hws hw) (kI := 4) (hw _ (List.mem_of_getElem? (i := 2) rfl)) (cs := ([(nar .char (cs.getD 0 0)), (nar .char (cs.getD 1 0)), (nar .char (cs.getD 2 0)), (nar .char (cs.getD 3 0)), (nar .char (cs.getD 4 0)), (nar .char (cs.getD 5 0)), (nar .char (cs.getD 6 0)), (nar .char (cs.getD 7 0))] : List Int32)) (bs := (([(nar .char (cs.getD 0 0)), (nar .char (cs.getD 1 0)), (nar .char (cs.getD 2 0)), (nar .char (cs.getD 3 0)), (nar .char (cs.getD 4 0)), (nar .char (cs.getD 5 0)), (nar .char (cs.getD 6 0)), (nar .char (cs.getD 7 0))] : List Int32)).map (fun c => c.toInt8.toInt32)) (n := 8) g_b1 (Nat.le_trans Z0 K10.1) f37 f38 f39 (V35_b2 : Arv Z h35 b2 ka2 .char (Int32.ofNat 8) (([(nar .char (cs.getD 0 0)), (nar .char (cs.getD 1 0)), (nar .char (cs.getD 2 0)), (nar .char (cs.getD 3 0)), (nar .char (cs.getD 4 0)), (nar .char (cs.getD 5 0)), (nar .char (cs.getD 6 0)), (nar .char (cs.getD 7 0))] : List Int32).map Value.int) _) (O2.ext f40.2) P5 rfl rfl (by decide) (by decide) (own_cut_lat hlat 8) rfl (by decide) (by decide)) (g := (mkF m 367 #[.val (.ref a1), .val (.int p2)] [(.ref b2), (.ref b1), (.ref b1)])) rfl (by rw [hml]; rfl) (Steps.refl _) (a := b1) (argsL := [(.ref b2)]) (rest := [(.ref b1)]) (lenOf own_pd___C_V rfl) rfl (by show 2 * 0 + _ ≤ _; exact Nat.le_of_eq rfl) (hb hby own_d_method_4_code_367) (fun _ _ => ⟨rfl, e35, (by decide : 2 + 1 ≤ _), (by decide : 12 + 8 ≤ _)⟩)
  dsimp only [Pt.U, Pt.locs, Pt.cells, Pt.slots] at X36 l36 y36 z36 st36 hQ36
  rw [l36] at X36
  clear l36; subst y36 z36
  obtain ⟨rfl, N36q, K36q, E36q, gc36, t36, kb36, -, -, -, gv36, ga36⟩ := hQ36
  have N36a := Fr.app Nf35 N36q
  have f41 : Safe Z own_EL s.vm h35 b1 := (Safe.wr W35 (own_safeV (hZ : Z.Warmed39 s.vm).alike V31_b2 (by decide)) CH9.1 (Safe.wr W31 (own_safeV (hZ : Z.Warmed39 s.vm).alike V27_b2 (by decide)) CH8.1 (Safe.wr W27 (own_safeV (hZ : Z.Warmed39 s.vm).alike V23_b2 (by decide)) CH7.1 (Safe.wr W23 (own_safeV (hZ : Z.Warmed39 s.vm).alike V19_b2 (by decide)) CH6.1 (Safe.wr W19 (own_safeV (hZ : Z.Warmed39 s.vm).alike V15_b2 (by decide)) CH5.1 (Safe.wr W15 (own_safeV (hZ : Z.Warmed39 s.vm).alike V11_b2 (by decide)) CH4.1 (Safe.wr W11 (own_safeV (hZ : Z.Warmed39 s.vm).alike V6_b2 (by decide)) CH3.1 (Safe.wr W6 (own_safeV (hZ : Z.Warmed39 s.vm).alike V_b2 (by decide)) CH2.1 (Safe.ext E2 CH1.1 Sf1)))))))))
  have CH11 : CHr Z own_EL s.vm h0 s.vm T36.heap := CH10.trans (CHr.keep K36q (allS f41 all0) CH10.1)
  have K11 : Keep h0 T36.heap [] := K10.trans K36q (allS (Or.inr sz_b1) all0)
  have SV36 : StrV Z T36.heap b1 ([(nar .char (cs.getD 0 0)), (nar .char (cs.getD 1 0)), (nar .char (cs.getD 2 0)), (nar .char (cs.getD 3 0)), (nar .char (cs.getD 4 0)), (nar .char (cs.getD 5 0)), (nar .char (cs.getD 6 0)), (nar .char (cs.getD 7 0))] : List Int32) := own_mkStr rfl (own_cut_lat hlat 8) E36q gc36 gv36 ga36
  obtain ⟨fs, hr, hrun, hended, hend⟩ := X36.leaveW hS0 (Nat.zero_le _) (v := some (.ref b1)) (fun h => by rw [Bd.returns] at h; cases h)
  refine ⟨_, _, pre0 _ ?_, hrun, hended, _, _, rfl, ?_, ?_, hend.1, hend.2.1, hend.2.2.1, hend.2.2.2.mono (by decide) (by decide)⟩
  · show Steps p.tables e below (s₁.setTop (mkF m 0 #[.val (.ref a1), .val (.int p2)] [])) _
    refine XS.iloadN X0.here hx rfl (hb hby own_d_method_4_code_0) rfl ?_
    show Steps p.tables e below (s₁.setTop (mkF m 1 #[.val (.ref a1), .val (.int p2)] [(.int p2)])) _
    refine XS.ifYes X0.here hx rfl (pc0 := 1) (pc' := 15) rfl (hb hby own_d_method_4_code_1) rfl ((if0 _ _).trans (feq hc1).2) (by decide) (by decide) ?_
    refine XS.iloadN X0.here hx rfl (hb hby own_d_method_4_code_15) rfl ?_
    refine XS.iconst X0.here hx rfl (hb hby own_d_method_4_code_16) ?_
    show Steps p.tables e below (s₁.setTop (mkF m 17 #[.val (.ref a1), .val (.int p2)] [(.int (1 : Int32)), (.int p2)])) _
    refine XS.icmpYes X0.here hx rfl (pc0 := 17) (pc' := 37) rfl (hb hby own_d_method_4_code_17) rfl (feq hc17).2 (by decide) (by decide) ?_
    refine XS.iloadN X0.here hx rfl (hb hby own_d_method_4_code_37) rfl ?_
    refine XS.iconst X0.here hx rfl (hb hby own_d_method_4_code_38) ?_
    show Steps p.tables e below (s₁.setTop (mkF m 39 #[.val (.ref a1), .val (.int p2)] [(.int (2 : Int32)), (.int p2)])) _
    refine XS.icmpYes X0.here hx rfl (pc0 := 39) (pc' := 65) rfl (hb hby own_d_method_4_code_39) rfl (feq hc39).2 (by decide) (by decide) ?_
    refine XS.iloadN X0.here hx rfl (hb hby own_d_method_4_code_65) rfl ?_
    refine XS.iconst X0.here hx rfl (hb hby own_d_method_4_code_66) ?_
    show Steps p.tables e below (s₁.setTop (mkF m 67 #[.val (.ref a1), .val (.int p2)] [(.int (3 : Int32)), (.int p2)])) _
    refine XS.icmpYes X0.here hx rfl (pc0 := 67) (pc' := 99) rfl (hb hby own_d_method_4_code_67) rfl (feq hc67).2 (by decide) (by decide) ?_
    refine XS.iloadN X0.here hx rfl (hb hby own_d_method_4_code_99) rfl ?_
    refine XS.iconst X0.here hx rfl (hb hby own_d_method_4_code_100) ?_
    show Steps p.tables e below (s₁.setTop (mkF m 101 #[.val (.ref a1), .val (.int p2)] [(.int (4 : Int32)), (.int p2)])) _
    refine XS.icmpYes X0.here hx rfl (pc0 := 101) (pc' := 139) rfl (hb hby own_d_method_4_code_101) rfl (feq hc101).2 (by decide) (by decide) ?_
    refine XS.iloadN X0.here hx rfl (hb hby own_d_method_4_code_139) rfl ?_
    refine XS.iconst X0.here hx rfl (hb hby own_d_method_4_code_140) ?_
    show Steps p.tables e below (s₁.setTop (mkF m 141 #[.val (.ref a1), .val (.int p2)] [(.int (5 : Int32)), (.int p2)])) _
    refine XS.icmpYes X0.here hx rfl (pc0 := 141) (pc' := 185) rfl (hb hby own_d_method_4_code_141) rfl (feq hc141).2 (by decide) (by decide) ?_
    refine XS.iloadN X0.here hx rfl (hb hby own_d_method_4_code_185) rfl ?_
    refine XS.bipush X0.here hx rfl (hb hby own_d_method_4_code_186) ?_
    show Steps p.tables e below (s₁.setTop (mkF m 188 #[.val (.ref a1), .val (.int p2)] [(.int (6 : Int32)), (.int p2)])) _
    refine XS.icmpYes X0.here hx rfl (pc0 := 188) (pc' := 239) rfl (hb hby own_d_method_4_code_188) rfl (feq hc188).2 (by decide) (by decide) ?_
    refine XS.iloadN X0.here hx rfl (hb hby own_d_method_4_code_239) rfl ?_
    refine XS.bipush X0.here hx rfl (hb hby own_d_method_4_code_240) ?_
    show Steps p.tables e below (s₁.setTop (mkF m 242 #[.val (.ref a1), .val (.int p2)] [(.int (7 : Int32)), (.int p2)])) _
    refine XS.icmpYes X0.here hx rfl (pc0 := 242) (pc' := 301) rfl (hb hby own_d_method_4_code_242) rfl (feq hc242).2 (by decide) (by decide) ?_
    refine XS.iloadN X0.here hx rfl (hb hby own_d_method_4_code_301) rfl ?_
    refine XS.bipush X0.here hx rfl (hb hby own_d_method_4_code_302) ?_
    show Steps p.tables e below (s₁.setTop (mkF m 304 #[.val (.ref a1), .val (.int p2)] [(.int (8 : Int32)), (.int p2)])) _
    refine XS.icmpNo X0.here hx rfl (hb hby own_d_method_4_code_304) rfl (teq hc304).2 ?_
    show Steps p.tables e below (s₁.setTop (mkF m 307 #[.val (.ref a1), .val (.int p2)] [])) _
    refine st1 _ ?_
    refine XS.dup X1.here hx rfl (hb hby own_d_method_4_code_310) rfl rfl ?_
    refine XS.bipush X1.here hx rfl (hb hby own_d_method_4_code_311) ?_
    show Steps p.tables e below (T1.setTop (mkF m 313 #[.val (.ref a1), .val (.int p2)] [(.int (8 : Int32)), (.ref b1), (.ref b1)])) _
    refine st2 _ ?_
    refine XS.dup X2.here hx rfl (hb hby own_d_method_4_code_315) rfl rfl ?_
    refine XS.iconst X2.here hx rfl (hb hby own_d_method_4_code_316) ?_
    show Steps p.tables e below (T2.setTop (mkF m 317 #[.val (.ref a1), .val (.int p2)] [(.int (0 : Int32)), (.ref b2), (.ref b2), (.ref b1), (.ref b1)])) _
    refine XS.aloadN X2.here hx rfl (hb hby own_d_method_4_code_317) rfl rfl ?_
    refine XS.iconst X2.here hx rfl (hb hby own_d_method_4_code_318) ?_
    show Steps p.tables e below (T2.setTop (mkF m 319 #[.val (.ref a1), .val (.int p2)] [(.int (0 : Int32)), (.ref a1), (.int (0 : Int32)), (.ref b2), (.ref b2), (.ref b1), (.ref b1)])) _
    refine X2.caload hx (j := (0 : Int32)) (v := (.int (cs.getD 0 0))) (by rw [e2]; exact Ar4.1) (State.isArrayOf_alike hZ.alike Ar4.2.1) Ar4.2.2 hin4 hat4 (g := (mkF m 319 #[.val (.ref a1), .val (.int p2)] [(.int (0 : Int32)), (.ref a1), (.int (0 : Int32)), (.ref b2), (.ref b2), (.ref b1), (.ref b1)])) rfl rfl (hb hby own_d_method_4_code_319) _ ?_
    show Steps p.tables e below (T2.setTop (mkF m 320 #[.val (.ref a1), .val (.int p2)] [(.int (cs.getD 0 0)), (.int (0 : Int32)), (.ref b2), (.ref b2), (.ref b1), (.ref b1)])) _
    refine st6 _ ?_
    refine XS.dup X6.here hx rfl (hb hby own_d_method_4_code_321) rfl rfl ?_
    refine XS.iconst X6.here hx rfl (hb hby own_d_method_4_code_322) ?_
    show Steps p.tables e below (T6.setTop (mkF m 323 #[.val (.ref a1), .val (.int p2)] [(.int (1 : Int32)), (.ref b2), (.ref b2), (.ref b1), (.ref b1)])) _
    refine XS.aloadN X6.here hx rfl (hb hby own_d_method_4_code_323) rfl rfl ?_
    refine XS.iconst X6.here hx rfl (hb hby own_d_method_4_code_324) ?_
    show Steps p.tables e below (T6.setTop (mkF m 325 #[.val (.ref a1), .val (.int p2)] [(.int (1 : Int32)), (.ref a1), (.int (1 : Int32)), (.ref b2), (.ref b2), (.ref b1), (.ref b1)])) _
    refine X6.caload hx (j := (1 : Int32)) (v := (.int (cs.getD 1 0))) (by rw [e6]; exact Ar9.1) (State.isArrayOf_alike hZ.alike Ar9.2.1) Ar9.2.2 hin9 hat9 (g := (mkF m 325 #[.val (.ref a1), .val (.int p2)] [(.int (1 : Int32)), (.ref a1), (.int (1 : Int32)), (.ref b2), (.ref b2), (.ref b1), (.ref b1)])) rfl rfl (hb hby own_d_method_4_code_325) _ ?_
    show Steps p.tables e below (T6.setTop (mkF m 326 #[.val (.ref a1), .val (.int p2)] [(.int (cs.getD 1 0)), (.int (1 : Int32)), (.ref b2), (.ref b2), (.ref b1), (.ref b1)])) _
    refine st11 _ ?_
    refine XS.dup X11.here hx rfl (hb hby own_d_method_4_code_327) rfl rfl ?_
    refine XS.iconst X11.here hx rfl (hb hby own_d_method_4_code_328) ?_
    show Steps p.tables e below (T11.setTop (mkF m 329 #[.val (.ref a1), .val (.int p2)] [(.int (2 : Int32)), (.ref b2), (.ref b2), (.ref b1), (.ref b1)])) _
    refine XS.aloadN X11.here hx rfl (hb hby own_d_method_4_code_329) rfl rfl ?_
    refine XS.iconst X11.here hx rfl (hb hby own_d_method_4_code_330) ?_
    show Steps p.tables e below (T11.setTop (mkF m 331 #[.val (.ref a1), .val (.int p2)] [(.int (2 : Int32)), (.ref a1), (.int (2 : Int32)), (.ref b2), (.ref b2), (.ref b1), (.ref b1)])) _
    refine X11.caload hx (j := (2 : Int32)) (v := (.int (cs.getD 2 0))) (by rw [e11]; exact Ar13.1) (State.isArrayOf_alike hZ.alike Ar13.2.1) Ar13.2.2 hin13 hat13 (g := (mkF m 331 #[.val (.ref a1), .val (.int p2)] [(.int (2 : Int32)), (.ref a1), (.int (2 : Int32)), (.ref b2), (.ref b2), (.ref b1), (.ref b1)])) rfl rfl (hb hby own_d_method_4_code_331) _ ?_
    show Steps p.tables e below (T11.setTop (mkF m 332 #[.val (.ref a1), .val (.int p2)] [(.int (cs.getD 2 0)), (.int (2 : Int32)), (.ref b2), (.ref b2), (.ref b1), (.ref b1)])) _
    refine st15 _ ?_
    refine XS.dup X15.here hx rfl (hb hby own_d_method_4_code_333) rfl rfl ?_
    refine XS.iconst X15.here hx rfl (hb hby own_d_method_4_code_334) ?_
    show Steps p.tables e below (T15.setTop (mkF m 335 #[.val (.ref a1), .val (.int p2)] [(.int (3 : Int32)), (.ref b2), (.ref b2), (.ref b1), (.ref b1)])) _
    refine XS.aloadN X15.here hx rfl (hb hby own_d_method_4_code_335) rfl rfl ?_
    refine XS.iconst X15.here hx rfl (hb hby own_d_method_4_code_336) ?_
    show Steps p.tables e below (T15.setTop (mkF m 337 #[.val (.ref a1), .val (.int p2)] [(.int (3 : Int32)), (.ref a1), (.int (3 : Int32)), (.ref b2), (.ref b2), (.ref b1), (.ref b1)])) _
    refine X15.caload hx (j := (3 : Int32)) (v := (.int (cs.getD 3 0))) (by rw [e15]; exact Ar17.1) (State.isArrayOf_alike hZ.alike Ar17.2.1) Ar17.2.2 hin17 hat17 (g := (mkF m 337 #[.val (.ref a1), .val (.int p2)] [(.int (3 : Int32)), (.ref a1), (.int (3 : Int32)), (.ref b2), (.ref b2), (.ref b1), (.ref b1)])) rfl rfl (hb hby own_d_method_4_code_337) _ ?_
    show Steps p.tables e below (T15.setTop (mkF m 338 #[.val (.ref a1), .val (.int p2)] [(.int (cs.getD 3 0)), (.int (3 : Int32)), (.ref b2), (.ref b2), (.ref b1), (.ref b1)])) _
    refine st19 _ ?_
    refine XS.dup X19.here hx rfl (hb hby own_d_method_4_code_339) rfl rfl ?_
    refine XS.iconst X19.here hx rfl (hb hby own_d_method_4_code_340) ?_
    show Steps p.tables e below (T19.setTop (mkF m 341 #[.val (.ref a1), .val (.int p2)] [(.int (4 : Int32)), (.ref b2), (.ref b2), (.ref b1), (.ref b1)])) _
    refine XS.aloadN X19.here hx rfl (hb hby own_d_method_4_code_341) rfl rfl ?_
    refine XS.iconst X19.here hx rfl (hb hby own_d_method_4_code_342) ?_
    show Steps p.tables e below (T19.setTop (mkF m 343 #[.val (.ref a1), .val (.int p2)] [(.int (4 : Int32)), (.ref a1), (.int (4 : Int32)), (.ref b2), (.ref b2), (.ref b1), (.ref b1)])) _
    refine X19.caload hx (j := (4 : Int32)) (v := (.int (cs.getD 4 0))) (by rw [e19]; exact Ar21.1) (State.isArrayOf_alike hZ.alike Ar21.2.1) Ar21.2.2 hin21 hat21 (g := (mkF m 343 #[.val (.ref a1), .val (.int p2)] [(.int (4 : Int32)), (.ref a1), (.int (4 : Int32)), (.ref b2), (.ref b2), (.ref b1), (.ref b1)])) rfl rfl (hb hby own_d_method_4_code_343) _ ?_
    show Steps p.tables e below (T19.setTop (mkF m 344 #[.val (.ref a1), .val (.int p2)] [(.int (cs.getD 4 0)), (.int (4 : Int32)), (.ref b2), (.ref b2), (.ref b1), (.ref b1)])) _
    refine st23 _ ?_
    refine XS.dup X23.here hx rfl (hb hby own_d_method_4_code_345) rfl rfl ?_
    refine XS.iconst X23.here hx rfl (hb hby own_d_method_4_code_346) ?_
    show Steps p.tables e below (T23.setTop (mkF m 347 #[.val (.ref a1), .val (.int p2)] [(.int (5 : Int32)), (.ref b2), (.ref b2), (.ref b1), (.ref b1)])) _
    refine XS.aloadN X23.here hx rfl (hb hby own_d_method_4_code_347) rfl rfl ?_
    refine XS.iconst X23.here hx rfl (hb hby own_d_method_4_code_348) ?_
    show Steps p.tables e below (T23.setTop (mkF m 349 #[.val (.ref a1), .val (.int p2)] [(.int (5 : Int32)), (.ref a1), (.int (5 : Int32)), (.ref b2), (.ref b2), (.ref b1), (.ref b1)])) _
    refine X23.caload hx (j := (5 : Int32)) (v := (.int (cs.getD 5 0))) (by rw [e23]; exact Ar25.1) (State.isArrayOf_alike hZ.alike Ar25.2.1) Ar25.2.2 hin25 hat25 (g := (mkF m 349 #[.val (.ref a1), .val (.int p2)] [(.int (5 : Int32)), (.ref a1), (.int (5 : Int32)), (.ref b2), (.ref b2), (.ref b1), (.ref b1)])) rfl rfl (hb hby own_d_method_4_code_349) _ ?_
    show Steps p.tables e below (T23.setTop (mkF m 350 #[.val (.ref a1), .val (.int p2)] [(.int (cs.getD 5 0)), (.int (5 : Int32)), (.ref b2), (.ref b2), (.ref b1), (.ref b1)])) _
    refine st27 _ ?_
    refine XS.dup X27.here hx rfl (hb hby own_d_method_4_code_351) rfl rfl ?_
    refine XS.bipush X27.here hx rfl (hb hby own_d_method_4_code_352) ?_
    show Steps p.tables e below (T27.setTop (mkF m 354 #[.val (.ref a1), .val (.int p2)] [(.int (6 : Int32)), (.ref b2), (.ref b2), (.ref b1), (.ref b1)])) _
    refine XS.aloadN X27.here hx rfl (hb hby own_d_method_4_code_354) rfl rfl ?_
    refine XS.bipush X27.here hx rfl (hb hby own_d_method_4_code_355) ?_
    show Steps p.tables e below (T27.setTop (mkF m 357 #[.val (.ref a1), .val (.int p2)] [(.int (6 : Int32)), (.ref a1), (.int (6 : Int32)), (.ref b2), (.ref b2), (.ref b1), (.ref b1)])) _
    refine X27.caload hx (j := (6 : Int32)) (v := (.int (cs.getD 6 0))) (by rw [e27]; exact Ar29.1) (State.isArrayOf_alike hZ.alike Ar29.2.1) Ar29.2.2 hin29 hat29 (g := (mkF m 357 #[.val (.ref a1), .val (.int p2)] [(.int (6 : Int32)), (.ref a1), (.int (6 : Int32)), (.ref b2), (.ref b2), (.ref b1), (.ref b1)])) rfl rfl (hb hby own_d_method_4_code_357) _ ?_
    show Steps p.tables e below (T27.setTop (mkF m 358 #[.val (.ref a1), .val (.int p2)] [(.int (cs.getD 6 0)), (.int (6 : Int32)), (.ref b2), (.ref b2), (.ref b1), (.ref b1)])) _
    refine st31 _ ?_
    refine XS.dup X31.here hx rfl (hb hby own_d_method_4_code_359) rfl rfl ?_
    refine XS.bipush X31.here hx rfl (hb hby own_d_method_4_code_360) ?_
    show Steps p.tables e below (T31.setTop (mkF m 362 #[.val (.ref a1), .val (.int p2)] [(.int (7 : Int32)), (.ref b2), (.ref b2), (.ref b1), (.ref b1)])) _
    refine XS.aloadN X31.here hx rfl (hb hby own_d_method_4_code_362) rfl rfl ?_
    refine XS.bipush X31.here hx rfl (hb hby own_d_method_4_code_363) ?_
    show Steps p.tables e below (T31.setTop (mkF m 365 #[.val (.ref a1), .val (.int p2)] [(.int (7 : Int32)), (.ref a1), (.int (7 : Int32)), (.ref b2), (.ref b2), (.ref b1), (.ref b1)])) _
    refine X31.caload hx (j := (7 : Int32)) (v := (.int (cs.getD 7 0))) (by rw [e31]; exact Ar33.1) (State.isArrayOf_alike hZ.alike Ar33.2.1) Ar33.2.2 hin33 hat33 (g := (mkF m 365 #[.val (.ref a1), .val (.int p2)] [(.int (7 : Int32)), (.ref a1), (.int (7 : Int32)), (.ref b2), (.ref b2), (.ref b1), (.ref b1)])) rfl rfl (hb hby own_d_method_4_code_365) _ ?_
    show Steps p.tables e below (T31.setTop (mkF m 366 #[.val (.ref a1), .val (.int p2)] [(.int (cs.getD 7 0)), (.int (7 : Int32)), (.ref b2), (.ref b2), (.ref b1), (.ref b1)])) _
    refine st35 _ ?_
    show Steps p.tables e below (T35.setTop (mkF m 367 #[.val (.ref a1), .val (.int p2)] [(.ref b2), (.ref b1), (.ref b1)])) _
    refine st36.trans ?_
    show Steps p.tables e below (T36.setTop (mkF m 370 #[.val (.ref a1), .val (.int p2)] [(.ref b1)])) _
    jvm_step X36.here [X36.here.top, hx, (hb hby own_d_method_4_code_370), X36.method', Bd.returns, Value.isRef, FieldType.isReference]
    first | (intro acts; rw [hr _ acts rfl rfl rfl]) | rw [hr _ _ rfl rfl rfl]
    exact Steps.refl _
  · show QS Z (own_cut cs 8) h0 n0 _ T36.heap _
    exact ⟨b1, rfl, N36a, K11, SV36⟩
  · show CHr Z own_EL s.vm s.heap T36.vm T36.heap
    rw [hh]
    exact CH11.trans (CHv.at X36 hZ hEL CH11.1)
theorem own_d_method_4_code_371 : decode method_4_code 371 = .ok (.new 12, 3) := by decide +kernel
theorem own_d_method_4_code_374 : decode method_4_code 374 = .ok (.dup, 1) := by decide +kernel
theorem own_d_method_4_code_375 : decode method_4_code 375 = .ok (.bipush 9, 2) := by decide +kernel
theorem own_d_method_4_code_377 : decode method_4_code 377 = .ok (.newarray .char, 2) := by decide +kernel
theorem own_d_method_4_code_379 : decode method_4_code 379 = .ok (.dup, 1) := by decide +kernel
theorem own_d_method_4_code_380 : decode method_4_code 380 = .ok (.iconst 0, 1) := by decide +kernel
theorem own_d_method_4_code_381 : decode method_4_code 381 = .ok (.aload_n 0, 1) := by decide +kernel
theorem own_d_method_4_code_382 : decode method_4_code 382 = .ok (.iconst 0, 1) := by decide +kernel
theorem own_d_method_4_code_383 : decode method_4_code 383 = .ok (.caload, 1) := by decide +kernel
theorem own_d_method_4_code_384 : decode method_4_code 384 = .ok (.castore, 1) := by decide +kernel
theorem own_d_method_4_code_385 : decode method_4_code 385 = .ok (.dup, 1) := by decide +kernel
theorem own_d_method_4_code_386 : decode method_4_code 386 = .ok (.iconst 1, 1) := by decide +kernel
theorem own_d_method_4_code_387 : decode method_4_code 387 = .ok (.aload_n 0, 1) := by decide +kernel
theorem own_d_method_4_code_388 : decode method_4_code 388 = .ok (.iconst 1, 1) := by decide +kernel
theorem own_d_method_4_code_389 : decode method_4_code 389 = .ok (.caload, 1) := by decide +kernel
theorem own_d_method_4_code_390 : decode method_4_code 390 = .ok (.castore, 1) := by decide +kernel
theorem own_d_method_4_code_391 : decode method_4_code 391 = .ok (.dup, 1) := by decide +kernel
theorem own_d_method_4_code_392 : decode method_4_code 392 = .ok (.iconst 2, 1) := by decide +kernel
theorem own_d_method_4_code_393 : decode method_4_code 393 = .ok (.aload_n 0, 1) := by decide +kernel
theorem own_d_method_4_code_394 : decode method_4_code 394 = .ok (.iconst 2, 1) := by decide +kernel
theorem own_d_method_4_code_395 : decode method_4_code 395 = .ok (.caload, 1) := by decide +kernel
theorem own_d_method_4_code_396 : decode method_4_code 396 = .ok (.castore, 1) := by decide +kernel
theorem own_d_method_4_code_397 : decode method_4_code 397 = .ok (.dup, 1) := by decide +kernel
theorem own_d_method_4_code_398 : decode method_4_code 398 = .ok (.iconst 3, 1) := by decide +kernel
theorem own_d_method_4_code_399 : decode method_4_code 399 = .ok (.aload_n 0, 1) := by decide +kernel
theorem own_d_method_4_code_400 : decode method_4_code 400 = .ok (.iconst 3, 1) := by decide +kernel
theorem own_d_method_4_code_401 : decode method_4_code 401 = .ok (.caload, 1) := by decide +kernel
theorem own_d_method_4_code_402 : decode method_4_code 402 = .ok (.castore, 1) := by decide +kernel
theorem own_d_method_4_code_403 : decode method_4_code 403 = .ok (.dup, 1) := by decide +kernel
theorem own_d_method_4_code_404 : decode method_4_code 404 = .ok (.iconst 4, 1) := by decide +kernel
theorem own_d_method_4_code_405 : decode method_4_code 405 = .ok (.aload_n 0, 1) := by decide +kernel
theorem own_d_method_4_code_406 : decode method_4_code 406 = .ok (.iconst 4, 1) := by decide +kernel
theorem own_d_method_4_code_407 : decode method_4_code 407 = .ok (.caload, 1) := by decide +kernel
theorem own_d_method_4_code_408 : decode method_4_code 408 = .ok (.castore, 1) := by decide +kernel
theorem own_d_method_4_code_409 : decode method_4_code 409 = .ok (.dup, 1) := by decide +kernel
theorem own_d_method_4_code_410 : decode method_4_code 410 = .ok (.iconst 5, 1) := by decide +kernel
theorem own_d_method_4_code_411 : decode method_4_code 411 = .ok (.aload_n 0, 1) := by decide +kernel
theorem own_d_method_4_code_412 : decode method_4_code 412 = .ok (.iconst 5, 1) := by decide +kernel
theorem own_d_method_4_code_413 : decode method_4_code 413 = .ok (.caload, 1) := by decide +kernel
theorem own_d_method_4_code_414 : decode method_4_code 414 = .ok (.castore, 1) := by decide +kernel
theorem own_d_method_4_code_415 : decode method_4_code 415 = .ok (.dup, 1) := by decide +kernel
theorem own_d_method_4_code_416 : decode method_4_code 416 = .ok (.bipush 6, 2) := by decide +kernel
theorem own_d_method_4_code_418 : decode method_4_code 418 = .ok (.aload_n 0, 1) := by decide +kernel
theorem own_d_method_4_code_419 : decode method_4_code 419 = .ok (.bipush 6, 2) := by decide +kernel
theorem own_d_method_4_code_421 : decode method_4_code 421 = .ok (.caload, 1) := by decide +kernel
theorem own_d_method_4_code_422 : decode method_4_code 422 = .ok (.castore, 1) := by decide +kernel
theorem own_d_method_4_code_423 : decode method_4_code 423 = .ok (.dup, 1) := by decide +kernel
theorem own_d_method_4_code_424 : decode method_4_code 424 = .ok (.bipush 7, 2) := by decide +kernel
theorem own_d_method_4_code_426 : decode method_4_code 426 = .ok (.aload_n 0, 1) := by decide +kernel
theorem own_d_method_4_code_427 : decode method_4_code 427 = .ok (.bipush 7, 2) := by decide +kernel
theorem own_d_method_4_code_429 : decode method_4_code 429 = .ok (.caload, 1) := by decide +kernel
theorem own_d_method_4_code_430 : decode method_4_code 430 = .ok (.castore, 1) := by decide +kernel
theorem own_d_method_4_code_431 : decode method_4_code 431 = .ok (.dup, 1) := by decide +kernel
theorem own_d_method_4_code_432 : decode method_4_code 432 = .ok (.bipush 8, 2) := by decide +kernel
theorem own_d_method_4_code_434 : decode method_4_code 434 = .ok (.aload_n 0, 1) := by decide +kernel
theorem own_d_method_4_code_435 : decode method_4_code 435 = .ok (.bipush 8, 2) := by decide +kernel
theorem own_d_method_4_code_437 : decode method_4_code 437 = .ok (.caload, 1) := by decide +kernel
theorem own_d_method_4_code_438 : decode method_4_code 438 = .ok (.castore, 1) := by decide +kernel
theorem own_d_method_4_code_439 : decode method_4_code 439 = .ok (.invokespecial 45, 3) := by decide +kernel
theorem own_d_method_4_code_442 : decode method_4_code 442 = .ok (.areturn, 1) := by decide +kernel
set_option maxRecDepth 65536 in
set_option maxHeartbeats 40000000 in
theorem rc9 (l : Launch) (Z : State) (a0 : Array Value) (hw : ∀ d ∈ tables_1, d.before a0 Z = true) (ws : List Jvm.Cond) (hEL : EW Z a0 own_EL) (a1 : Addr) (p2 : Int32) (cs : List Int32) (kc : ClassId) (G1 : Int32) (G3 : Value) (h0 : Heap) (n0 : Nat) (Z0 : n0 ≤ h0.size) (O2 : Sta Z Z.heap "java/lang/String" "COMPACT_STRINGS" "Z" (.int G1)) (P5 : ¬ (G1 = (0 : Int32))) (O4 : Sta Z Z.heap "jdk/internal/util/Preconditions" "SIOOBE_FORMATTER" "Ljava/util/function/BiFunction;" G3) (rG3 : G3.isRef = true) (O0 : Old Z n0 h0) (V_a1 : Arv Z h0 a1 kc .char (9 : Int32) (cs.map Value.int) (.int (0 : Int32))) (hlat : ∀ c ∈ cs, Lat c) (hc1 : ¬ (p2 = (0 : Int32))) (hc17 : ¬ (p2 = (1 : Int32))) (hc39 : ¬ (p2 = (2 : Int32))) (hc67 : ¬ (p2 = (3 : Int32))) (hc101 : ¬ (p2 = (4 : Int32))) (hc141 : ¬ (p2 = (5 : Int32))) (hc188 : ¬ (p2 = (6 : Int32))) (hc242 : ¬ (p2 = (7 : Int32))) (hc304 : ¬ (p2 = (8 : Int32))) :
    MetFree l (⟨"com/example/restate/restate/TargetIsAttachedPinLaw", "cut", "([CI)Ljava/lang/String;"⟩ : MethodName) (head1 (Jvm.Cond.code (⟨"com/example/restate/restate/TargetIsAttachedPinLaw", "cut", "([CI)Ljava/lang/String;"⟩ : MethodName) method_4_code 2 (some (.object "java/lang/String")) :: ws) ({ frames := 4, cells := 4, slots := 22, locals := 66 } : Room)) (fun a U => a = #[(.ref a1), (.int p2)] ∧ Z.Warmed39 U.vm ∧ U.heap = h0 ∧ CHv Z own_EL U.vm h0) (fun _ _ _ _ _ => True) (fun _ U o U' => ∃ vr_ Lr_, o = .returned vr_ ∧ QS Z (own_cut cs 9) h0 n0 vr_ U'.heap Lr_ ∧ CHr Z own_EL U.vm U.heap U'.vm U'.heap ∧ ReturnedEndW U o U' Lr_ 4 22) := by
  refine MetFree.of_bodySF (plainFor_of_name own_pn_com_example_restate_restate_TargetIsAttachedPinLaw) hisR ?_
  intro p e s m args below meth c s₁ Bd hml0 hP hK
  obtain ⟨rfl, hZ, hh, hCH0⟩ := hP
  have hx := Bd.exec
  have hby := Bd.bytes
  have hml : c.maxLocals = 2 := hml0
  have hown : s.vm.findClass "com/example/restate/restate/TargetIsAttachedPinLaw" = some m.cls := findClass_of_methodNamed Bd.named
  have hnm := (name_of_methodNamed Bd.named Bd.method).1
  have X0 : Stand p l e ({ frames := 4, cells := 4, slots := 22, locals := 66 } : Room) (s.setVm s.vm) m #[(.ref a1), (.int p2)] below meth c s₁ [] 0 0 := Stand.of_body Bd
  have e0 : s₁.heap = h0 := by rw [← hh, Bd.state]; rfl
  have N0 := Fr.nil n0
  have CH0 : CHr Z own_EL s.vm h0 s.vm h0 := CHr.refl hCH0
  have hS0 : s.Since s.vm 0 := State.WarmedH.since (State.WarmedH.refl s) 0
  have pre0 : ∀ t, Steps p.tables e below (s₁.setTop (mkF m 0 #[.val (.ref a1), .val (.int p2)] [])) t → Steps p.tables e below (s₁.setTop (entryFrame m #[(.ref a1), (.int p2)] 2)) t := fun t k => castTop (own_ef_method_4_code_xx m a1 p2) k
  obtain ⟨T1, h1, X1, e1, E1, A1, D1, -, st1⟩ := newO X0 hx hZ hown (hw _ (List.mem_of_getElem? (i := 52) rfl)) (hw _ (List.mem_of_getElem? (i := 2) rfl)) (hw _ (List.mem_of_getElem? (i := 1) rfl)) e0 (g := (mkF m 371 #[.val (.ref a1), .val (.int p2)] [])) rfl (hb hby own_d_method_4_code_371) (by decide) (by decide)
  obtain ⟨b1, g1⟩ : ∃ z, z = h0.size := ⟨_, rfl⟩
  rw [← g1] at A1 D1 st1
  have sz_b1 : h0.size ≤ b1 := Nat.le_trans (Keep.refl h0 []).1 (Nat.le_of_eq g1.symm)
  have g_b1 : n0 ≤ b1 := Nat.le_trans Z0 sz_b1
  have CH1 : CHr Z own_EL s.vm h0 s.vm h1 := CH0.trans (CHr.ext E1 CH0.1)
  have K1 : Keep h0 h1 [] := (Keep.refl h0 []).ext E1
  have F_value_b1 : Fld Z h1 b1 "java/lang/String" "value" "[B" .null := D1 (Or.inr (hw _ (List.mem_of_getElem? (i := 4) rfl))) (ty := (.array .byte)) (by decide)
  have F_coder_b1 : Fld Z h1 b1 "java/lang/String" "coder" "B" (.int (0 : Int32)) := D1 (Or.inr (hw _ (List.mem_of_getElem? (i := 5) rfl))) (ty := .byte) (by decide)
  have Sf1 : Safe Z own_EL s.vm h1 b1 := Safe.ext E1 CH0.1 (Safe.new (Nat.le_of_eq g1.symm))
  obtain ⟨T2, h2, ka2, X2, e2, E2, A2, st2⟩ := newP X1 hx hZ (hw _ (List.mem_of_getElem? (i := 22) rfl)) e1 (g := (mkF m 377 #[.val (.ref a1), .val (.int p2)] [(.int (9 : Int32)), (.ref b1), (.ref b1)])) rfl (hb hby own_d_method_4_code_377) rfl (by decide) (cap := 9) (by decide) (by decide) (by decide) (by decide)
  obtain ⟨b2, g2⟩ : ∃ z, z = h1.size := ⟨_, rfl⟩
  rw [← g2] at A2 st2
  have sz_b2 : h0.size ≤ b2 := Nat.le_trans K1.1 (Nat.le_of_eq g2.symm)
  have g_b2 : n0 ≤ b2 := Nat.le_trans Z0 sz_b2
  have CH2 : CHr Z own_EL s.vm h0 s.vm h2 := CH1.trans (CHr.ext E2 CH1.1)
  have K2 : Keep h0 h2 [] := K1.ext E2
  have V_b2 : Arv Z h2 b2 ka2 .char (9 : Int32) [(.int (0 : Int32)), (.int (0 : Int32)), (.int (0 : Int32)), (.int (0 : Int32)), (.int (0 : Int32)), (.int (0 : Int32)), (.int (0 : Int32)), (.int (0 : Int32)), (.int (0 : Int32))] (.int (0 : Int32)) := (Arv.new A2 (by decide)).pad (pad_rep [] (.int (0 : Int32)) 9)
  have f3 : Arv Z h2 a1 kc .char (9 : Int32) (cs.map Value.int) (.int (0 : Int32)) := ((V_a1.ext E1).ext E2)
  obtain ⟨cl4, Ar4, q4, S4, N_4, H_4, G4⟩ := id f3
  have hin4 : ¬ ((0 : Int32) < 0 ∨ cl4.slots.size ≤ ((0 : Int32)).toNatClampNeg) := inb_of S4 ⟨by decide, by decide⟩
  have hat4 : cl4.slots[((0 : Int32)).toNatClampNeg]? = some (.int (cs.getD 0 0)) := H_4.at hin4 (own_getD cs 0)
  obtain ⟨cl5, Ar5, q5, S5, N_5, H_5, G5⟩ := id V_b2
  obtain ⟨T6, h6, X6, e6, W6, st6⟩ := stC X2 hx hZ e2 Ar5 (j := (0 : Int32)) (inb_of S5 ⟨by decide, by decide⟩) (g := (mkF m 384 #[.val (.ref a1), .val (.int p2)] [(.int (cs.getD 0 0)), (.int (0 : Int32)), (.ref b2), (.ref b2), (.ref b1), (.ref b1)])) rfl rfl (hb hby own_d_method_4_code_384)
  have V6_b2 : Arv Z h6 b2 ka2 .char (9 : Int32) [(.int (nar .char (cs.getD 0 0))), (.int (0 : Int32)), (.int (0 : Int32)), (.int (0 : Int32)), (.int (0 : Int32)), (.int (0 : Int32)), (.int (0 : Int32)), (.int (0 : Int32)), (.int (0 : Int32))] (.int (0 : Int32)) := Arv.set Ar5 q5 S5 N_5 H_5 G5 (fits_nar_char _) W6 0 rfl (Nat.le_of_ble_eq_true rfl)
  have Nf6 := Fr.snoc X6 N0 g_b2
  have CH3 : CHr Z own_EL s.vm h0 s.vm h6 := CH2.trans (CHr.wr W6 (own_safeV (hZ : Z.Warmed39 s.vm).alike V_b2 (by decide)) CH2.1)
  have K3 : Keep h0 h6 [] := K2.wr W6 (Or.inr sz_b2)
  have f7 : Arv Z h1 a1 kc .char (9 : Int32) (cs.map Value.int) (.int (0 : Int32)) := (V_a1.ext E1)
  have f8 : Arv Z h6 a1 kc .char (9 : Int32) (cs.map Value.int) (.int (0 : Int32)) := (f3.other W6 (Nat.ne_of_lt (Nat.lt_of_lt_of_le f7.lt (Nat.le_of_eq g2.symm))))
  obtain ⟨cl9, Ar9, q9, S9, N_9, H_9, G9⟩ := id f8
  have hin9 : ¬ ((1 : Int32) < 0 ∨ cl9.slots.size ≤ ((1 : Int32)).toNatClampNeg) := inb_of S9 ⟨by decide, by decide⟩
  have hat9 : cl9.slots[((1 : Int32)).toNatClampNeg]? = some (.int (cs.getD 1 0)) := H_9.at hin9 (own_getD cs 1)
  obtain ⟨cl10, Ar10, q10, S10, N_10, H_10, G10⟩ := id V6_b2
  obtain ⟨T11, h11, X11, e11, W11, st11⟩ := stC X6 hx hZ e6 Ar10 (j := (1 : Int32)) (inb_of S10 ⟨by decide, by decide⟩) (g := (mkF m 390 #[.val (.ref a1), .val (.int p2)] [(.int (cs.getD 1 0)), (.int (1 : Int32)), (.ref b2), (.ref b2), (.ref b1), (.ref b1)])) rfl rfl (hb hby own_d_method_4_code_390)
  have V11_b2 : Arv Z h11 b2 ka2 .char (9 : Int32) [(.int (nar .char (cs.getD 0 0))), (.int (nar .char (cs.getD 1 0))), (.int (0 : Int32)), (.int (0 : Int32)), (.int (0 : Int32)), (.int (0 : Int32)), (.int (0 : Int32)), (.int (0 : Int32)), (.int (0 : Int32))] (.int (0 : Int32)) := Arv.set Ar10 q10 S10 N_10 H_10 G10 (fits_nar_char _) W11 1 rfl (Nat.le_of_ble_eq_true rfl)
  have Nf11 := Fr.snoc X11 Nf6 g_b2
  have CH4 : CHr Z own_EL s.vm h0 s.vm h11 := CH3.trans (CHr.wr W11 (own_safeV (hZ : Z.Warmed39 s.vm).alike V6_b2 (by decide)) CH3.1)
  have K4 : Keep h0 h11 [] := K3.wr W11 (Or.inr sz_b2)
  have f12 : Arv Z h11 a1 kc .char (9 : Int32) (cs.map Value.int) (.int (0 : Int32)) := (f8.other W11 (Nat.ne_of_lt (Nat.lt_of_lt_of_le f7.lt (Nat.le_of_eq g2.symm))))
  obtain ⟨cl13, Ar13, q13, S13, N_13, H_13, G13⟩ := id f12
  have hin13 : ¬ ((2 : Int32) < 0 ∨ cl13.slots.size ≤ ((2 : Int32)).toNatClampNeg) := inb_of S13 ⟨by decide, by decide⟩
  have hat13 : cl13.slots[((2 : Int32)).toNatClampNeg]? = some (.int (cs.getD 2 0)) := H_13.at hin13 (own_getD cs 2)
  obtain ⟨cl14, Ar14, q14, S14, N_14, H_14, G14⟩ := id V11_b2
  obtain ⟨T15, h15, X15, e15, W15, st15⟩ := stC X11 hx hZ e11 Ar14 (j := (2 : Int32)) (inb_of S14 ⟨by decide, by decide⟩) (g := (mkF m 396 #[.val (.ref a1), .val (.int p2)] [(.int (cs.getD 2 0)), (.int (2 : Int32)), (.ref b2), (.ref b2), (.ref b1), (.ref b1)])) rfl rfl (hb hby own_d_method_4_code_396)
  have V15_b2 : Arv Z h15 b2 ka2 .char (9 : Int32) [(.int (nar .char (cs.getD 0 0))), (.int (nar .char (cs.getD 1 0))), (.int (nar .char (cs.getD 2 0))), (.int (0 : Int32)), (.int (0 : Int32)), (.int (0 : Int32)), (.int (0 : Int32)), (.int (0 : Int32)), (.int (0 : Int32))] (.int (0 : Int32)) := Arv.set Ar14 q14 S14 N_14 H_14 G14 (fits_nar_char _) W15 2 rfl (Nat.le_of_ble_eq_true rfl)
  have Nf15 := Fr.snoc X15 Nf11 g_b2
  have CH5 : CHr Z own_EL s.vm h0 s.vm h15 := CH4.trans (CHr.wr W15 (own_safeV (hZ : Z.Warmed39 s.vm).alike V11_b2 (by decide)) CH4.1)
  have K5 : Keep h0 h15 [] := K4.wr W15 (Or.inr sz_b2)
  have f16 : Arv Z h15 a1 kc .char (9 : Int32) (cs.map Value.int) (.int (0 : Int32)) := (f12.other W15 (Nat.ne_of_lt (Nat.lt_of_lt_of_le f7.lt (Nat.le_of_eq g2.symm))))
  obtain ⟨cl17, Ar17, q17, S17, N_17, H_17, G17⟩ := id f16
  have hin17 : ¬ ((3 : Int32) < 0 ∨ cl17.slots.size ≤ ((3 : Int32)).toNatClampNeg) := inb_of S17 ⟨by decide, by decide⟩
  have hat17 : cl17.slots[((3 : Int32)).toNatClampNeg]? = some (.int (cs.getD 3 0)) := H_17.at hin17 (own_getD cs 3)
  obtain ⟨cl18, Ar18, q18, S18, N_18, H_18, G18⟩ := id V15_b2
  obtain ⟨T19, h19, X19, e19, W19, st19⟩ := stC X15 hx hZ e15 Ar18 (j := (3 : Int32)) (inb_of S18 ⟨by decide, by decide⟩) (g := (mkF m 402 #[.val (.ref a1), .val (.int p2)] [(.int (cs.getD 3 0)), (.int (3 : Int32)), (.ref b2), (.ref b2), (.ref b1), (.ref b1)])) rfl rfl (hb hby own_d_method_4_code_402)
  have V19_b2 : Arv Z h19 b2 ka2 .char (9 : Int32) [(.int (nar .char (cs.getD 0 0))), (.int (nar .char (cs.getD 1 0))), (.int (nar .char (cs.getD 2 0))), (.int (nar .char (cs.getD 3 0))), (.int (0 : Int32)), (.int (0 : Int32)), (.int (0 : Int32)), (.int (0 : Int32)), (.int (0 : Int32))] (.int (0 : Int32)) := Arv.set Ar18 q18 S18 N_18 H_18 G18 (fits_nar_char _) W19 3 rfl (Nat.le_of_ble_eq_true rfl)
  have Nf19 := Fr.snoc X19 Nf15 g_b2
  have CH6 : CHr Z own_EL s.vm h0 s.vm h19 := CH5.trans (CHr.wr W19 (own_safeV (hZ : Z.Warmed39 s.vm).alike V15_b2 (by decide)) CH5.1)
  have K6 : Keep h0 h19 [] := K5.wr W19 (Or.inr sz_b2)
  have f20 : Arv Z h19 a1 kc .char (9 : Int32) (cs.map Value.int) (.int (0 : Int32)) := (f16.other W19 (Nat.ne_of_lt (Nat.lt_of_lt_of_le f7.lt (Nat.le_of_eq g2.symm))))
  obtain ⟨cl21, Ar21, q21, S21, N_21, H_21, G21⟩ := id f20
  have hin21 : ¬ ((4 : Int32) < 0 ∨ cl21.slots.size ≤ ((4 : Int32)).toNatClampNeg) := inb_of S21 ⟨by decide, by decide⟩
  have hat21 : cl21.slots[((4 : Int32)).toNatClampNeg]? = some (.int (cs.getD 4 0)) := H_21.at hin21 (own_getD cs 4)
  obtain ⟨cl22, Ar22, q22, S22, N_22, H_22, G22⟩ := id V19_b2
  obtain ⟨T23, h23, X23, e23, W23, st23⟩ := stC X19 hx hZ e19 Ar22 (j := (4 : Int32)) (inb_of S22 ⟨by decide, by decide⟩) (g := (mkF m 408 #[.val (.ref a1), .val (.int p2)] [(.int (cs.getD 4 0)), (.int (4 : Int32)), (.ref b2), (.ref b2), (.ref b1), (.ref b1)])) rfl rfl (hb hby own_d_method_4_code_408)
  have V23_b2 : Arv Z h23 b2 ka2 .char (9 : Int32) [(.int (nar .char (cs.getD 0 0))), (.int (nar .char (cs.getD 1 0))), (.int (nar .char (cs.getD 2 0))), (.int (nar .char (cs.getD 3 0))), (.int (nar .char (cs.getD 4 0))), (.int (0 : Int32)), (.int (0 : Int32)), (.int (0 : Int32)), (.int (0 : Int32))] (.int (0 : Int32)) := Arv.set Ar22 q22 S22 N_22 H_22 G22 (fits_nar_char _) W23 4 rfl (Nat.le_of_ble_eq_true rfl)
  have Nf23 := Fr.snoc X23 Nf19 g_b2
  have CH7 : CHr Z own_EL s.vm h0 s.vm h23 := CH6.trans (CHr.wr W23 (own_safeV (hZ : Z.Warmed39 s.vm).alike V19_b2 (by decide)) CH6.1)
  have K7 : Keep h0 h23 [] := K6.wr W23 (Or.inr sz_b2)
  have f24 : Arv Z h23 a1 kc .char (9 : Int32) (cs.map Value.int) (.int (0 : Int32)) := (f20.other W23 (Nat.ne_of_lt (Nat.lt_of_lt_of_le f7.lt (Nat.le_of_eq g2.symm))))
  obtain ⟨cl25, Ar25, q25, S25, N_25, H_25, G25⟩ := id f24
  have hin25 : ¬ ((5 : Int32) < 0 ∨ cl25.slots.size ≤ ((5 : Int32)).toNatClampNeg) := inb_of S25 ⟨by decide, by decide⟩
  have hat25 : cl25.slots[((5 : Int32)).toNatClampNeg]? = some (.int (cs.getD 5 0)) := H_25.at hin25 (own_getD cs 5)
  obtain ⟨cl26, Ar26, q26, S26, N_26, H_26, G26⟩ := id V23_b2
  obtain ⟨T27, h27, X27, e27, W27, st27⟩ := stC X23 hx hZ e23 Ar26 (j := (5 : Int32)) (inb_of S26 ⟨by decide, by decide⟩) (g := (mkF m 414 #[.val (.ref a1), .val (.int p2)] [(.int (cs.getD 5 0)), (.int (5 : Int32)), (.ref b2), (.ref b2), (.ref b1), (.ref b1)])) rfl rfl (hb hby own_d_method_4_code_414)
  have V27_b2 : Arv Z h27 b2 ka2 .char (9 : Int32) [(.int (nar .char (cs.getD 0 0))), (.int (nar .char (cs.getD 1 0))), (.int (nar .char (cs.getD 2 0))), (.int (nar .char (cs.getD 3 0))), (.int (nar .char (cs.getD 4 0))), (.int (nar .char (cs.getD 5 0))), (.int (0 : Int32)), (.int (0 : Int32)), (.int (0 : Int32))] (.int (0 : Int32)) := Arv.set Ar26 q26 S26 N_26 H_26 G26 (fits_nar_char _) W27 5 rfl (Nat.le_of_ble_eq_true rfl)
  have Nf27 := Fr.snoc X27 Nf23 g_b2
  have CH8 : CHr Z own_EL s.vm h0 s.vm h27 := CH7.trans (CHr.wr W27 (own_safeV (hZ : Z.Warmed39 s.vm).alike V23_b2 (by decide)) CH7.1)
  have K8 : Keep h0 h27 [] := K7.wr W27 (Or.inr sz_b2)
  have f28 : Arv Z h27 a1 kc .char (9 : Int32) (cs.map Value.int) (.int (0 : Int32)) := (f24.other W27 (Nat.ne_of_lt (Nat.lt_of_lt_of_le f7.lt (Nat.le_of_eq g2.symm))))
  obtain ⟨cl29, Ar29, q29, S29, N_29, H_29, G29⟩ := id f28
  have hin29 : ¬ ((6 : Int32) < 0 ∨ cl29.slots.size ≤ ((6 : Int32)).toNatClampNeg) := inb_of S29 ⟨by decide, by decide⟩
  have hat29 : cl29.slots[((6 : Int32)).toNatClampNeg]? = some (.int (cs.getD 6 0)) := H_29.at hin29 (own_getD cs 6)
  obtain ⟨cl30, Ar30, q30, S30, N_30, H_30, G30⟩ := id V27_b2
  obtain ⟨T31, h31, X31, e31, W31, st31⟩ := stC X27 hx hZ e27 Ar30 (j := (6 : Int32)) (inb_of S30 ⟨by decide, by decide⟩) (g := (mkF m 422 #[.val (.ref a1), .val (.int p2)] [(.int (cs.getD 6 0)), (.int (6 : Int32)), (.ref b2), (.ref b2), (.ref b1), (.ref b1)])) rfl rfl (hb hby own_d_method_4_code_422)
  have V31_b2 : Arv Z h31 b2 ka2 .char (9 : Int32) [(.int (nar .char (cs.getD 0 0))), (.int (nar .char (cs.getD 1 0))), (.int (nar .char (cs.getD 2 0))), (.int (nar .char (cs.getD 3 0))), (.int (nar .char (cs.getD 4 0))), (.int (nar .char (cs.getD 5 0))), (.int (nar .char (cs.getD 6 0))), (.int (0 : Int32)), (.int (0 : Int32))] (.int (0 : Int32)) := Arv.set Ar30 q30 S30 N_30 H_30 G30 (fits_nar_char _) W31 6 rfl (Nat.le_of_ble_eq_true rfl)
  have Nf31 := Fr.snoc X31 Nf27 g_b2
  have CH9 : CHr Z own_EL s.vm h0 s.vm h31 := CH8.trans (CHr.wr W31 (own_safeV (hZ : Z.Warmed39 s.vm).alike V27_b2 (by decide)) CH8.1)
  have K9 : Keep h0 h31 [] := K8.wr W31 (Or.inr sz_b2)
  have f32 : Arv Z h31 a1 kc .char (9 : Int32) (cs.map Value.int) (.int (0 : Int32)) := (f28.other W31 (Nat.ne_of_lt (Nat.lt_of_lt_of_le f7.lt (Nat.le_of_eq g2.symm))))
  obtain ⟨cl33, Ar33, q33, S33, N_33, H_33, G33⟩ := id f32
  have hin33 : ¬ ((7 : Int32) < 0 ∨ cl33.slots.size ≤ ((7 : Int32)).toNatClampNeg) := inb_of S33 ⟨by decide, by decide⟩
  have hat33 : cl33.slots[((7 : Int32)).toNatClampNeg]? = some (.int (cs.getD 7 0)) := H_33.at hin33 (own_getD cs 7)
  obtain ⟨cl34, Ar34, q34, S34, N_34, H_34, G34⟩ := id V31_b2
  obtain ⟨T35, h35, X35, e35, W35, st35⟩ := stC X31 hx hZ e31 Ar34 (j := (7 : Int32)) (inb_of S34 ⟨by decide, by decide⟩) (g := (mkF m 430 #[.val (.ref a1), .val (.int p2)] [(.int (cs.getD 7 0)), (.int (7 : Int32)), (.ref b2), (.ref b2), (.ref b1), (.ref b1)])) rfl rfl (hb hby own_d_method_4_code_430)
  have V35_b2 : Arv Z h35 b2 ka2 .char (9 : Int32) [(.int (nar .char (cs.getD 0 0))), (.int (nar .char (cs.getD 1 0))), (.int (nar .char (cs.getD 2 0))), (.int (nar .char (cs.getD 3 0))), (.int (nar .char (cs.getD 4 0))), (.int (nar .char (cs.getD 5 0))), (.int (nar .char (cs.getD 6 0))), (.int (nar .char (cs.getD 7 0))), (.int (0 : Int32))] (.int (0 : Int32)) := Arv.set Ar34 q34 S34 N_34 H_34 G34 (fits_nar_char _) W35 7 rfl (Nat.le_of_ble_eq_true rfl)
  have Nf35 := Fr.snoc X35 Nf31 g_b2
  have CH10 : CHr Z own_EL s.vm h0 s.vm h35 := CH9.trans (CHr.wr W35 (own_safeV (hZ : Z.Warmed39 s.vm).alike V31_b2 (by decide)) CH9.1)
  have K10 : Keep h0 h35 [] := K9.wr W35 (Or.inr sz_b2)
  have f36 : Arv Z h35 a1 kc .char (9 : Int32) (cs.map Value.int) (.int (0 : Int32)) := (f32.other W35 (Nat.ne_of_lt (Nat.lt_of_lt_of_le f7.lt (Nat.le_of_eq g2.symm))))
  obtain ⟨cl37, Ar37, q37, S37, N_37, H_37, G37⟩ := id f36
  have hin37 : ¬ ((8 : Int32) < 0 ∨ cl37.slots.size ≤ ((8 : Int32)).toNatClampNeg) := inb_of S37 ⟨by decide, by decide⟩
  have hat37 : cl37.slots[((8 : Int32)).toNatClampNeg]? = some (.int (cs.getD 8 0)) := H_37.at hin37 (own_getD cs 8)
  obtain ⟨cl38, Ar38, q38, S38, N_38, H_38, G38⟩ := id V35_b2
  obtain ⟨T39, h39, X39, e39, W39, st39⟩ := stC X35 hx hZ e35 Ar38 (j := (8 : Int32)) (inb_of S38 ⟨by decide, by decide⟩) (g := (mkF m 438 #[.val (.ref a1), .val (.int p2)] [(.int (cs.getD 8 0)), (.int (8 : Int32)), (.ref b2), (.ref b2), (.ref b1), (.ref b1)])) rfl rfl (hb hby own_d_method_4_code_438)
  have V39_b2 : Arv Z h39 b2 ka2 .char (9 : Int32) [(.int (nar .char (cs.getD 0 0))), (.int (nar .char (cs.getD 1 0))), (.int (nar .char (cs.getD 2 0))), (.int (nar .char (cs.getD 3 0))), (.int (nar .char (cs.getD 4 0))), (.int (nar .char (cs.getD 5 0))), (.int (nar .char (cs.getD 6 0))), (.int (nar .char (cs.getD 7 0))), (.int (nar .char (cs.getD 8 0)))] (.int (0 : Int32)) := Arv.set Ar38 q38 S38 N_38 H_38 G38 (fits_nar_char _) W39 8 rfl (Nat.le_of_ble_eq_true rfl)
  have Nf39 := Fr.snoc X39 Nf35 g_b2
  have CH11 : CHr Z own_EL s.vm h0 s.vm h39 := CH10.trans (CHr.wr W39 (own_safeV (hZ : Z.Warmed39 s.vm).alike V35_b2 (by decide)) CH10.1)
  have K11 : Keep h0 h39 [] := K10.wr W39 (Or.inr sz_b2)
  have f41 : Exa Z h39 b1 "java/lang/String" := ((((((((((A1.ext E2).wr W6).wr W11).wr W15).wr W19).wr W23).wr W27).wr W31).wr W35).wr W39)
  have f42 : Fld Z h39 b1 "java/lang/String" "value" "[B" .null := ((((((((((F_value_b1.ext E2).other W6 (Or.inl (Nat.ne_of_lt (Nat.lt_of_lt_of_le A1.lt (Nat.le_of_eq g2.symm))))).other W11 (Or.inl (Nat.ne_of_lt (Nat.lt_of_lt_of_le A1.lt (Nat.le_of_eq g2.symm))))).other W15 (Or.inl (Nat.ne_of_lt (Nat.lt_of_lt_of_le A1.lt (Nat.le_of_eq g2.symm))))).other W19 (Or.inl (Nat.ne_of_lt (Nat.lt_of_lt_of_le A1.lt (Nat.le_of_eq g2.symm))))).other W23 (Or.inl (Nat.ne_of_lt (Nat.lt_of_lt_of_le A1.lt (Nat.le_of_eq g2.symm))))).other W27 (Or.inl (Nat.ne_of_lt (Nat.lt_of_lt_of_le A1.lt (Nat.le_of_eq g2.symm))))).other W31 (Or.inl (Nat.ne_of_lt (Nat.lt_of_lt_of_le A1.lt (Nat.le_of_eq g2.symm))))).other W35 (Or.inl (Nat.ne_of_lt (Nat.lt_of_lt_of_le A1.lt (Nat.le_of_eq g2.symm))))).other W39 (Or.inl (Nat.ne_of_lt (Nat.lt_of_lt_of_le A1.lt (Nat.le_of_eq g2.symm)))))
  have f43 : Fld Z h39 b1 "java/lang/String" "coder" "B" (.int (0 : Int32)) := ((((((((((F_coder_b1.ext E2).other W6 (Or.inl (Nat.ne_of_lt (Nat.lt_of_lt_of_le A1.lt (Nat.le_of_eq g2.symm))))).other W11 (Or.inl (Nat.ne_of_lt (Nat.lt_of_lt_of_le A1.lt (Nat.le_of_eq g2.symm))))).other W15 (Or.inl (Nat.ne_of_lt (Nat.lt_of_lt_of_le A1.lt (Nat.le_of_eq g2.symm))))).other W19 (Or.inl (Nat.ne_of_lt (Nat.lt_of_lt_of_le A1.lt (Nat.le_of_eq g2.symm))))).other W23 (Or.inl (Nat.ne_of_lt (Nat.lt_of_lt_of_le A1.lt (Nat.le_of_eq g2.symm))))).other W27 (Or.inl (Nat.ne_of_lt (Nat.lt_of_lt_of_le A1.lt (Nat.le_of_eq g2.symm))))).other W31 (Or.inl (Nat.ne_of_lt (Nat.lt_of_lt_of_le A1.lt (Nat.le_of_eq g2.symm))))).other W35 (Or.inl (Nat.ne_of_lt (Nat.lt_of_lt_of_le A1.lt (Nat.le_of_eq g2.symm))))).other W39 (Or.inl (Nat.ne_of_lt (Nat.lt_of_lt_of_le A1.lt (Nat.le_of_eq g2.symm)))))
  have f44 : Old Z n0 h39 := (((((((((((O0.ext E1).ext E2).wr W6 g_b2).wr W11 g_b2).wr W15 g_b2).wr W19 g_b2).wr W23 g_b2).wr W27 g_b2).wr W31 g_b2).wr W35 g_b2).wr W39 g_b2)
  obtain ⟨_, _, ⟨T40, L40, k40, n40⟩, -, X40, ⟨Lc40, hQ40, l40, y40, z40⟩, st40⟩ := X39.specialBack hx (y := (⟨"java/lang/String", "<init>", "([C)V"⟩ : MethodName)) rfl hown (mvT hZ (hw _ (List.mem_of_getElem? (i := 53) rfl))) (mvT hZ (hw _ (List.mem_of_getElem? (i := 54) rfl))) (mvT hZ (hw _ (List.mem_of_getElem? (i := 55) rfl))) (by decide) (StrChars.Road.backV (W := 1) hZ (own_hws hw) (kI := 4) (hw _ (List.mem_of_getElem? (i := 2) rfl)) (cs := ([(nar .char (cs.getD 0 0)), (nar .char (cs.getD 1 0)), (nar .char (cs.getD 2 0)), (nar .char (cs.getD 3 0)), (nar .char (cs.getD 4 0)), (nar .char (cs.getD 5 0)), (nar .char (cs.getD 6 0)), (nar .char (cs.getD 7 0)), (nar .char (cs.getD 8 0))] : List Int32)) (bs := (([(nar .char (cs.getD 0 0)), (nar .char (cs.getD 1 0)), (nar .char (cs.getD 2 0)), (nar .char (cs.getD 3 0)), (nar .char (cs.getD 4 0)), (nar .char (cs.getD 5 0)), (nar .char (cs.getD 6 0)), (nar .char (cs.getD 7 0)), (nar .char (cs.getD 8 0))] : List Int32)).map (fun c => c.toInt8.toInt32)) (n := 9) g_b1 (Nat.le_trans Z0 K11.1) f41 f42 f43 (V39_b2 : Arv Z h39 b2 ka2 .char (Int32.ofNat 9) (([(nar .char (cs.getD 0 0)), (nar .char (cs.getD 1 0)), (nar .char (cs.getD 2 0)), (nar .char (cs.getD 3 0)), (nar .char (cs.getD 4 0)), (nar .char (cs.getD 5 0)), (nar .char (cs.getD 6 0)), (nar .char (cs.getD 7 0)), (nar .char (cs.getD 8 0))] : List Int32).map Value.int) _) (O2.ext f44.2) P5 rfl rfl (by decide) (by decide) (own_cut_lat hlat 9) rfl (by decide) (by decide)) (g := (mkF m 439 #[.val (.ref a1), .val (.int p2)] [(.ref b2), (.ref b1), (.ref b1)])) rfl (by rw [hml]; rfl) (Steps.refl _) (a := b1) (argsL := [(.ref b2)]) (rest := [(.ref b1)]) (lenOf own_pd___C_V rfl) rfl (by show 2 * 0 + _ ≤ _; exact Nat.le_of_eq rfl) (hb hby own_d_method_4_code_439) (fun _ _ => ⟨rfl, e39, (by decide : 2 + 1 ≤ _), (by decide : 13 + 9 ≤ _)⟩)
  dsimp only [Pt.U, Pt.locs, Pt.cells, Pt.slots] at X40 l40 y40 z40 st40 hQ40
  rw [l40] at X40
  clear l40; subst y40 z40
  obtain ⟨rfl, N40q, K40q, E40q, gc40, t40, kb40, -, -, -, gv40, ga40⟩ := hQ40
  have N40a := Fr.app Nf39 N40q
  have f45 : Safe Z own_EL s.vm h39 b1 := (Safe.wr W39 (own_safeV (hZ : Z.Warmed39 s.vm).alike V35_b2 (by decide)) CH10.1 (Safe.wr W35 (own_safeV (hZ : Z.Warmed39 s.vm).alike V31_b2 (by decide)) CH9.1 (Safe.wr W31 (own_safeV (hZ : Z.Warmed39 s.vm).alike V27_b2 (by decide)) CH8.1 (Safe.wr W27 (own_safeV (hZ : Z.Warmed39 s.vm).alike V23_b2 (by decide)) CH7.1 (Safe.wr W23 (own_safeV (hZ : Z.Warmed39 s.vm).alike V19_b2 (by decide)) CH6.1 (Safe.wr W19 (own_safeV (hZ : Z.Warmed39 s.vm).alike V15_b2 (by decide)) CH5.1 (Safe.wr W15 (own_safeV (hZ : Z.Warmed39 s.vm).alike V11_b2 (by decide)) CH4.1 (Safe.wr W11 (own_safeV (hZ : Z.Warmed39 s.vm).alike V6_b2 (by decide)) CH3.1 (Safe.wr W6 (own_safeV (hZ : Z.Warmed39 s.vm).alike V_b2 (by decide)) CH2.1 (Safe.ext E2 CH1.1 Sf1))))))))))
  have CH12 : CHr Z own_EL s.vm h0 s.vm T40.heap := CH11.trans (CHr.keep K40q (allS f45 all0) CH11.1)
  have K12 : Keep h0 T40.heap [] := K11.trans K40q (allS (Or.inr sz_b1) all0)
  have SV40 : StrV Z T40.heap b1 ([(nar .char (cs.getD 0 0)), (nar .char (cs.getD 1 0)), (nar .char (cs.getD 2 0)), (nar .char (cs.getD 3 0)), (nar .char (cs.getD 4 0)), (nar .char (cs.getD 5 0)), (nar .char (cs.getD 6 0)), (nar .char (cs.getD 7 0)), (nar .char (cs.getD 8 0))] : List Int32) := own_mkStr rfl (own_cut_lat hlat 9) E40q gc40 gv40 ga40
  obtain ⟨fs, hr, hrun, hended, hend⟩ := X40.leaveW hS0 (Nat.zero_le _) (v := some (.ref b1)) (fun h => by rw [Bd.returns] at h; cases h)
  refine ⟨_, _, pre0 _ ?_, hrun, hended, _, _, rfl, ?_, ?_, hend.1, hend.2.1, hend.2.2.1, hend.2.2.2.mono (by decide) (by decide)⟩
  · show Steps p.tables e below (s₁.setTop (mkF m 0 #[.val (.ref a1), .val (.int p2)] [])) _
    refine XS.iloadN X0.here hx rfl (hb hby own_d_method_4_code_0) rfl ?_
    show Steps p.tables e below (s₁.setTop (mkF m 1 #[.val (.ref a1), .val (.int p2)] [(.int p2)])) _
    refine XS.ifYes X0.here hx rfl (pc0 := 1) (pc' := 15) rfl (hb hby own_d_method_4_code_1) rfl ((if0 _ _).trans (feq hc1).2) (by decide) (by decide) ?_
    refine XS.iloadN X0.here hx rfl (hb hby own_d_method_4_code_15) rfl ?_
    refine XS.iconst X0.here hx rfl (hb hby own_d_method_4_code_16) ?_
    show Steps p.tables e below (s₁.setTop (mkF m 17 #[.val (.ref a1), .val (.int p2)] [(.int (1 : Int32)), (.int p2)])) _
    refine XS.icmpYes X0.here hx rfl (pc0 := 17) (pc' := 37) rfl (hb hby own_d_method_4_code_17) rfl (feq hc17).2 (by decide) (by decide) ?_
    refine XS.iloadN X0.here hx rfl (hb hby own_d_method_4_code_37) rfl ?_
    refine XS.iconst X0.here hx rfl (hb hby own_d_method_4_code_38) ?_
    show Steps p.tables e below (s₁.setTop (mkF m 39 #[.val (.ref a1), .val (.int p2)] [(.int (2 : Int32)), (.int p2)])) _
    refine XS.icmpYes X0.here hx rfl (pc0 := 39) (pc' := 65) rfl (hb hby own_d_method_4_code_39) rfl (feq hc39).2 (by decide) (by decide) ?_
    refine XS.iloadN X0.here hx rfl (hb hby own_d_method_4_code_65) rfl ?_
    refine XS.iconst X0.here hx rfl (hb hby own_d_method_4_code_66) ?_
    show Steps p.tables e below (s₁.setTop (mkF m 67 #[.val (.ref a1), .val (.int p2)] [(.int (3 : Int32)), (.int p2)])) _
    refine XS.icmpYes X0.here hx rfl (pc0 := 67) (pc' := 99) rfl (hb hby own_d_method_4_code_67) rfl (feq hc67).2 (by decide) (by decide) ?_
    refine XS.iloadN X0.here hx rfl (hb hby own_d_method_4_code_99) rfl ?_
    refine XS.iconst X0.here hx rfl (hb hby own_d_method_4_code_100) ?_
    show Steps p.tables e below (s₁.setTop (mkF m 101 #[.val (.ref a1), .val (.int p2)] [(.int (4 : Int32)), (.int p2)])) _
    refine XS.icmpYes X0.here hx rfl (pc0 := 101) (pc' := 139) rfl (hb hby own_d_method_4_code_101) rfl (feq hc101).2 (by decide) (by decide) ?_
    refine XS.iloadN X0.here hx rfl (hb hby own_d_method_4_code_139) rfl ?_
    refine XS.iconst X0.here hx rfl (hb hby own_d_method_4_code_140) ?_
    show Steps p.tables e below (s₁.setTop (mkF m 141 #[.val (.ref a1), .val (.int p2)] [(.int (5 : Int32)), (.int p2)])) _
    refine XS.icmpYes X0.here hx rfl (pc0 := 141) (pc' := 185) rfl (hb hby own_d_method_4_code_141) rfl (feq hc141).2 (by decide) (by decide) ?_
    refine XS.iloadN X0.here hx rfl (hb hby own_d_method_4_code_185) rfl ?_
    refine XS.bipush X0.here hx rfl (hb hby own_d_method_4_code_186) ?_
    show Steps p.tables e below (s₁.setTop (mkF m 188 #[.val (.ref a1), .val (.int p2)] [(.int (6 : Int32)), (.int p2)])) _
    refine XS.icmpYes X0.here hx rfl (pc0 := 188) (pc' := 239) rfl (hb hby own_d_method_4_code_188) rfl (feq hc188).2 (by decide) (by decide) ?_
    refine XS.iloadN X0.here hx rfl (hb hby own_d_method_4_code_239) rfl ?_
    refine XS.bipush X0.here hx rfl (hb hby own_d_method_4_code_240) ?_
    show Steps p.tables e below (s₁.setTop (mkF m 242 #[.val (.ref a1), .val (.int p2)] [(.int (7 : Int32)), (.int p2)])) _
    refine XS.icmpYes X0.here hx rfl (pc0 := 242) (pc' := 301) rfl (hb hby own_d_method_4_code_242) rfl (feq hc242).2 (by decide) (by decide) ?_
    refine XS.iloadN X0.here hx rfl (hb hby own_d_method_4_code_301) rfl ?_
    refine XS.bipush X0.here hx rfl (hb hby own_d_method_4_code_302) ?_
    show Steps p.tables e below (s₁.setTop (mkF m 304 #[.val (.ref a1), .val (.int p2)] [(.int (8 : Int32)), (.int p2)])) _
    refine XS.icmpYes X0.here hx rfl (pc0 := 304) (pc' := 371) rfl (hb hby own_d_method_4_code_304) rfl (feq hc304).2 (by decide) (by decide) ?_
    show Steps p.tables e below (s₁.setTop (mkF m 371 #[.val (.ref a1), .val (.int p2)] [])) _
    refine st1 _ ?_
    refine XS.dup X1.here hx rfl (hb hby own_d_method_4_code_374) rfl rfl ?_
    refine XS.bipush X1.here hx rfl (hb hby own_d_method_4_code_375) ?_
    show Steps p.tables e below (T1.setTop (mkF m 377 #[.val (.ref a1), .val (.int p2)] [(.int (9 : Int32)), (.ref b1), (.ref b1)])) _
    refine st2 _ ?_
    refine XS.dup X2.here hx rfl (hb hby own_d_method_4_code_379) rfl rfl ?_
    refine XS.iconst X2.here hx rfl (hb hby own_d_method_4_code_380) ?_
    show Steps p.tables e below (T2.setTop (mkF m 381 #[.val (.ref a1), .val (.int p2)] [(.int (0 : Int32)), (.ref b2), (.ref b2), (.ref b1), (.ref b1)])) _
    refine XS.aloadN X2.here hx rfl (hb hby own_d_method_4_code_381) rfl rfl ?_
    refine XS.iconst X2.here hx rfl (hb hby own_d_method_4_code_382) ?_
    show Steps p.tables e below (T2.setTop (mkF m 383 #[.val (.ref a1), .val (.int p2)] [(.int (0 : Int32)), (.ref a1), (.int (0 : Int32)), (.ref b2), (.ref b2), (.ref b1), (.ref b1)])) _
    refine X2.caload hx (j := (0 : Int32)) (v := (.int (cs.getD 0 0))) (by rw [e2]; exact Ar4.1) (State.isArrayOf_alike hZ.alike Ar4.2.1) Ar4.2.2 hin4 hat4 (g := (mkF m 383 #[.val (.ref a1), .val (.int p2)] [(.int (0 : Int32)), (.ref a1), (.int (0 : Int32)), (.ref b2), (.ref b2), (.ref b1), (.ref b1)])) rfl rfl (hb hby own_d_method_4_code_383) _ ?_
    show Steps p.tables e below (T2.setTop (mkF m 384 #[.val (.ref a1), .val (.int p2)] [(.int (cs.getD 0 0)), (.int (0 : Int32)), (.ref b2), (.ref b2), (.ref b1), (.ref b1)])) _
    refine st6 _ ?_
    refine XS.dup X6.here hx rfl (hb hby own_d_method_4_code_385) rfl rfl ?_
    refine XS.iconst X6.here hx rfl (hb hby own_d_method_4_code_386) ?_
    show Steps p.tables e below (T6.setTop (mkF m 387 #[.val (.ref a1), .val (.int p2)] [(.int (1 : Int32)), (.ref b2), (.ref b2), (.ref b1), (.ref b1)])) _
    refine XS.aloadN X6.here hx rfl (hb hby own_d_method_4_code_387) rfl rfl ?_
    refine XS.iconst X6.here hx rfl (hb hby own_d_method_4_code_388) ?_
    show Steps p.tables e below (T6.setTop (mkF m 389 #[.val (.ref a1), .val (.int p2)] [(.int (1 : Int32)), (.ref a1), (.int (1 : Int32)), (.ref b2), (.ref b2), (.ref b1), (.ref b1)])) _
    refine X6.caload hx (j := (1 : Int32)) (v := (.int (cs.getD 1 0))) (by rw [e6]; exact Ar9.1) (State.isArrayOf_alike hZ.alike Ar9.2.1) Ar9.2.2 hin9 hat9 (g := (mkF m 389 #[.val (.ref a1), .val (.int p2)] [(.int (1 : Int32)), (.ref a1), (.int (1 : Int32)), (.ref b2), (.ref b2), (.ref b1), (.ref b1)])) rfl rfl (hb hby own_d_method_4_code_389) _ ?_
    show Steps p.tables e below (T6.setTop (mkF m 390 #[.val (.ref a1), .val (.int p2)] [(.int (cs.getD 1 0)), (.int (1 : Int32)), (.ref b2), (.ref b2), (.ref b1), (.ref b1)])) _
    refine st11 _ ?_
    refine XS.dup X11.here hx rfl (hb hby own_d_method_4_code_391) rfl rfl ?_
    refine XS.iconst X11.here hx rfl (hb hby own_d_method_4_code_392) ?_
    show Steps p.tables e below (T11.setTop (mkF m 393 #[.val (.ref a1), .val (.int p2)] [(.int (2 : Int32)), (.ref b2), (.ref b2), (.ref b1), (.ref b1)])) _
    refine XS.aloadN X11.here hx rfl (hb hby own_d_method_4_code_393) rfl rfl ?_
    refine XS.iconst X11.here hx rfl (hb hby own_d_method_4_code_394) ?_
    show Steps p.tables e below (T11.setTop (mkF m 395 #[.val (.ref a1), .val (.int p2)] [(.int (2 : Int32)), (.ref a1), (.int (2 : Int32)), (.ref b2), (.ref b2), (.ref b1), (.ref b1)])) _
    refine X11.caload hx (j := (2 : Int32)) (v := (.int (cs.getD 2 0))) (by rw [e11]; exact Ar13.1) (State.isArrayOf_alike hZ.alike Ar13.2.1) Ar13.2.2 hin13 hat13 (g := (mkF m 395 #[.val (.ref a1), .val (.int p2)] [(.int (2 : Int32)), (.ref a1), (.int (2 : Int32)), (.ref b2), (.ref b2), (.ref b1), (.ref b1)])) rfl rfl (hb hby own_d_method_4_code_395) _ ?_
    show Steps p.tables e below (T11.setTop (mkF m 396 #[.val (.ref a1), .val (.int p2)] [(.int (cs.getD 2 0)), (.int (2 : Int32)), (.ref b2), (.ref b2), (.ref b1), (.ref b1)])) _
    refine st15 _ ?_
    refine XS.dup X15.here hx rfl (hb hby own_d_method_4_code_397) rfl rfl ?_
    refine XS.iconst X15.here hx rfl (hb hby own_d_method_4_code_398) ?_
    show Steps p.tables e below (T15.setTop (mkF m 399 #[.val (.ref a1), .val (.int p2)] [(.int (3 : Int32)), (.ref b2), (.ref b2), (.ref b1), (.ref b1)])) _
    refine XS.aloadN X15.here hx rfl (hb hby own_d_method_4_code_399) rfl rfl ?_
    refine XS.iconst X15.here hx rfl (hb hby own_d_method_4_code_400) ?_
    show Steps p.tables e below (T15.setTop (mkF m 401 #[.val (.ref a1), .val (.int p2)] [(.int (3 : Int32)), (.ref a1), (.int (3 : Int32)), (.ref b2), (.ref b2), (.ref b1), (.ref b1)])) _
    refine X15.caload hx (j := (3 : Int32)) (v := (.int (cs.getD 3 0))) (by rw [e15]; exact Ar17.1) (State.isArrayOf_alike hZ.alike Ar17.2.1) Ar17.2.2 hin17 hat17 (g := (mkF m 401 #[.val (.ref a1), .val (.int p2)] [(.int (3 : Int32)), (.ref a1), (.int (3 : Int32)), (.ref b2), (.ref b2), (.ref b1), (.ref b1)])) rfl rfl (hb hby own_d_method_4_code_401) _ ?_
    show Steps p.tables e below (T15.setTop (mkF m 402 #[.val (.ref a1), .val (.int p2)] [(.int (cs.getD 3 0)), (.int (3 : Int32)), (.ref b2), (.ref b2), (.ref b1), (.ref b1)])) _
    refine st19 _ ?_
    refine XS.dup X19.here hx rfl (hb hby own_d_method_4_code_403) rfl rfl ?_
    refine XS.iconst X19.here hx rfl (hb hby own_d_method_4_code_404) ?_
    show Steps p.tables e below (T19.setTop (mkF m 405 #[.val (.ref a1), .val (.int p2)] [(.int (4 : Int32)), (.ref b2), (.ref b2), (.ref b1), (.ref b1)])) _
    refine XS.aloadN X19.here hx rfl (hb hby own_d_method_4_code_405) rfl rfl ?_
    refine XS.iconst X19.here hx rfl (hb hby own_d_method_4_code_406) ?_
    show Steps p.tables e below (T19.setTop (mkF m 407 #[.val (.ref a1), .val (.int p2)] [(.int (4 : Int32)), (.ref a1), (.int (4 : Int32)), (.ref b2), (.ref b2), (.ref b1), (.ref b1)])) _
    refine X19.caload hx (j := (4 : Int32)) (v := (.int (cs.getD 4 0))) (by rw [e19]; exact Ar21.1) (State.isArrayOf_alike hZ.alike Ar21.2.1) Ar21.2.2 hin21 hat21 (g := (mkF m 407 #[.val (.ref a1), .val (.int p2)] [(.int (4 : Int32)), (.ref a1), (.int (4 : Int32)), (.ref b2), (.ref b2), (.ref b1), (.ref b1)])) rfl rfl (hb hby own_d_method_4_code_407) _ ?_
    show Steps p.tables e below (T19.setTop (mkF m 408 #[.val (.ref a1), .val (.int p2)] [(.int (cs.getD 4 0)), (.int (4 : Int32)), (.ref b2), (.ref b2), (.ref b1), (.ref b1)])) _
    refine st23 _ ?_
    refine XS.dup X23.here hx rfl (hb hby own_d_method_4_code_409) rfl rfl ?_
    refine XS.iconst X23.here hx rfl (hb hby own_d_method_4_code_410) ?_
    show Steps p.tables e below (T23.setTop (mkF m 411 #[.val (.ref a1), .val (.int p2)] [(.int (5 : Int32)), (.ref b2), (.ref b2), (.ref b1), (.ref b1)])) _
    refine XS.aloadN X23.here hx rfl (hb hby own_d_method_4_code_411) rfl rfl ?_
    refine XS.iconst X23.here hx rfl (hb hby own_d_method_4_code_412) ?_
    show Steps p.tables e below (T23.setTop (mkF m 413 #[.val (.ref a1), .val (.int p2)] [(.int (5 : Int32)), (.ref a1), (.int (5 : Int32)), (.ref b2), (.ref b2), (.ref b1), (.ref b1)])) _
    refine X23.caload hx (j := (5 : Int32)) (v := (.int (cs.getD 5 0))) (by rw [e23]; exact Ar25.1) (State.isArrayOf_alike hZ.alike Ar25.2.1) Ar25.2.2 hin25 hat25 (g := (mkF m 413 #[.val (.ref a1), .val (.int p2)] [(.int (5 : Int32)), (.ref a1), (.int (5 : Int32)), (.ref b2), (.ref b2), (.ref b1), (.ref b1)])) rfl rfl (hb hby own_d_method_4_code_413) _ ?_
    show Steps p.tables e below (T23.setTop (mkF m 414 #[.val (.ref a1), .val (.int p2)] [(.int (cs.getD 5 0)), (.int (5 : Int32)), (.ref b2), (.ref b2), (.ref b1), (.ref b1)])) _
    refine st27 _ ?_
    refine XS.dup X27.here hx rfl (hb hby own_d_method_4_code_415) rfl rfl ?_
    refine XS.bipush X27.here hx rfl (hb hby own_d_method_4_code_416) ?_
    show Steps p.tables e below (T27.setTop (mkF m 418 #[.val (.ref a1), .val (.int p2)] [(.int (6 : Int32)), (.ref b2), (.ref b2), (.ref b1), (.ref b1)])) _
    refine XS.aloadN X27.here hx rfl (hb hby own_d_method_4_code_418) rfl rfl ?_
    refine XS.bipush X27.here hx rfl (hb hby own_d_method_4_code_419) ?_
    show Steps p.tables e below (T27.setTop (mkF m 421 #[.val (.ref a1), .val (.int p2)] [(.int (6 : Int32)), (.ref a1), (.int (6 : Int32)), (.ref b2), (.ref b2), (.ref b1), (.ref b1)])) _
    refine X27.caload hx (j := (6 : Int32)) (v := (.int (cs.getD 6 0))) (by rw [e27]; exact Ar29.1) (State.isArrayOf_alike hZ.alike Ar29.2.1) Ar29.2.2 hin29 hat29 (g := (mkF m 421 #[.val (.ref a1), .val (.int p2)] [(.int (6 : Int32)), (.ref a1), (.int (6 : Int32)), (.ref b2), (.ref b2), (.ref b1), (.ref b1)])) rfl rfl (hb hby own_d_method_4_code_421) _ ?_
    show Steps p.tables e below (T27.setTop (mkF m 422 #[.val (.ref a1), .val (.int p2)] [(.int (cs.getD 6 0)), (.int (6 : Int32)), (.ref b2), (.ref b2), (.ref b1), (.ref b1)])) _
    refine st31 _ ?_
    refine XS.dup X31.here hx rfl (hb hby own_d_method_4_code_423) rfl rfl ?_
    refine XS.bipush X31.here hx rfl (hb hby own_d_method_4_code_424) ?_
    show Steps p.tables e below (T31.setTop (mkF m 426 #[.val (.ref a1), .val (.int p2)] [(.int (7 : Int32)), (.ref b2), (.ref b2), (.ref b1), (.ref b1)])) _
    refine XS.aloadN X31.here hx rfl (hb hby own_d_method_4_code_426) rfl rfl ?_
    refine XS.bipush X31.here hx rfl (hb hby own_d_method_4_code_427) ?_
    show Steps p.tables e below (T31.setTop (mkF m 429 #[.val (.ref a1), .val (.int p2)] [(.int (7 : Int32)), (.ref a1), (.int (7 : Int32)), (.ref b2), (.ref b2), (.ref b1), (.ref b1)])) _
    refine X31.caload hx (j := (7 : Int32)) (v := (.int (cs.getD 7 0))) (by rw [e31]; exact Ar33.1) (State.isArrayOf_alike hZ.alike Ar33.2.1) Ar33.2.2 hin33 hat33 (g := (mkF m 429 #[.val (.ref a1), .val (.int p2)] [(.int (7 : Int32)), (.ref a1), (.int (7 : Int32)), (.ref b2), (.ref b2), (.ref b1), (.ref b1)])) rfl rfl (hb hby own_d_method_4_code_429) _ ?_
    show Steps p.tables e below (T31.setTop (mkF m 430 #[.val (.ref a1), .val (.int p2)] [(.int (cs.getD 7 0)), (.int (7 : Int32)), (.ref b2), (.ref b2), (.ref b1), (.ref b1)])) _
    refine st35 _ ?_
    refine XS.dup X35.here hx rfl (hb hby own_d_method_4_code_431) rfl rfl ?_
    refine XS.bipush X35.here hx rfl (hb hby own_d_method_4_code_432) ?_
    show Steps p.tables e below (T35.setTop (mkF m 434 #[.val (.ref a1), .val (.int p2)] [(.int (8 : Int32)), (.ref b2), (.ref b2), (.ref b1), (.ref b1)])) _
    refine XS.aloadN X35.here hx rfl (hb hby own_d_method_4_code_434) rfl rfl ?_
    refine XS.bipush X35.here hx rfl (hb hby own_d_method_4_code_435) ?_
    show Steps p.tables e below (T35.setTop (mkF m 437 #[.val (.ref a1), .val (.int p2)] [(.int (8 : Int32)), (.ref a1), (.int (8 : Int32)), (.ref b2), (.ref b2), (.ref b1), (.ref b1)])) _
    refine X35.caload hx (j := (8 : Int32)) (v := (.int (cs.getD 8 0))) (by rw [e35]; exact Ar37.1) (State.isArrayOf_alike hZ.alike Ar37.2.1) Ar37.2.2 hin37 hat37 (g := (mkF m 437 #[.val (.ref a1), .val (.int p2)] [(.int (8 : Int32)), (.ref a1), (.int (8 : Int32)), (.ref b2), (.ref b2), (.ref b1), (.ref b1)])) rfl rfl (hb hby own_d_method_4_code_437) _ ?_
    show Steps p.tables e below (T35.setTop (mkF m 438 #[.val (.ref a1), .val (.int p2)] [(.int (cs.getD 8 0)), (.int (8 : Int32)), (.ref b2), (.ref b2), (.ref b1), (.ref b1)])) _
    refine st39 _ ?_
    show Steps p.tables e below (T39.setTop (mkF m 439 #[.val (.ref a1), .val (.int p2)] [(.ref b2), (.ref b1), (.ref b1)])) _
    refine st40.trans ?_
    show Steps p.tables e below (T40.setTop (mkF m 442 #[.val (.ref a1), .val (.int p2)] [(.ref b1)])) _
    jvm_step X40.here [X40.here.top, hx, (hb hby own_d_method_4_code_442), X40.method', Bd.returns, Value.isRef, FieldType.isReference]
    first | (intro acts; rw [hr _ acts rfl rfl rfl]) | rw [hr _ _ rfl rfl rfl]
    exact Steps.refl _
  · show QS Z (own_cut cs 9) h0 n0 _ T40.heap _
    exact ⟨b1, rfl, N40a, K12, SV40⟩
  · show CHr Z own_EL s.vm s.heap T40.vm T40.heap
    rw [hh]
    exact CH12.trans (CHv.at X40 hZ hEL CH12.1)
def R9 (x : Int32) : Prop := x = 0 ∨ x = 1 ∨ x = 2 ∨ x = 3 ∨ x = 4 ∨ x = 5 ∨ x = 6 ∨ x = 7 ∨ x = 8 ∨ x = 9
theorem rmC (l : Launch) (Z : State) (a0 : Array Value) (hw : ∀ d ∈ tables_1, d.before a0 Z = true) (ws : List Jvm.Cond) (hEL : EW Z a0 own_EL) (a1 : Addr) (p2 : Int32) (cs : List Int32) (kc : ClassId) (G1 : Int32) (G3 : Value) (h0 : Heap) (n0 : Nat) (Z0 : n0 ≤ h0.size) (O2 : Sta Z Z.heap "java/lang/String" "COMPACT_STRINGS" "Z" (.int G1)) (P5 : ¬ (G1 = (0 : Int32))) (O4 : Sta Z Z.heap "jdk/internal/util/Preconditions" "SIOOBE_FORMATTER" "Ljava/util/function/BiFunction;" G3) (rG3 : G3.isRef = true) (O0 : Old Z n0 h0) (V_a1 : Arv Z h0 a1 kc .char (9 : Int32) (cs.map Value.int) (.int (0 : Int32))) (hlat : ∀ c ∈ cs, Lat c) (hr : R9 p2) :
    MetFree l (⟨"com/example/restate/restate/TargetIsAttachedPinLaw", "cut", "([CI)Ljava/lang/String;"⟩ : MethodName) (head1 (Jvm.Cond.code (⟨"com/example/restate/restate/TargetIsAttachedPinLaw", "cut", "([CI)Ljava/lang/String;"⟩ : MethodName) method_4_code 2 (some (.object "java/lang/String")) :: ws) ({ frames := 4, cells := 4, slots := 22, locals := 66 } : Room)) (fun a U => a = #[(.ref a1), (.int p2)] ∧ Z.Warmed39 U.vm ∧ U.heap = h0 ∧ CHv Z own_EL U.vm h0) (fun _ _ _ _ _ => True) (fun _ U o U' => ∃ v L, o = .returned v ∧ QS Z (own_cut cs p2.toNatClampNeg) h0 n0 v U'.heap L ∧ CHr Z own_EL U.vm U.heap U'.vm U'.heap ∧ ReturnedEndW U o U' L 4 22) := by
  rcases hr with rfl | rfl | rfl | rfl | rfl | rfl | rfl | rfl | rfl | rfl
  · exact rc0 l Z a0 hw ws hEL a1 0 cs kc G1 G3 h0 n0 Z0 O2 P5 O4 rG3 O0 V_a1 hlat rfl
  · exact rc1 l Z a0 hw ws hEL a1 1 cs kc G1 G3 h0 n0 Z0 O2 P5 O4 rG3 O0 V_a1 hlat (by decide) rfl
  · exact rc2 l Z a0 hw ws hEL a1 2 cs kc G1 G3 h0 n0 Z0 O2 P5 O4 rG3 O0 V_a1 hlat (by decide) (by decide) rfl
  · exact rc3 l Z a0 hw ws hEL a1 3 cs kc G1 G3 h0 n0 Z0 O2 P5 O4 rG3 O0 V_a1 hlat (by decide) (by decide) (by decide) rfl
  · exact rc4 l Z a0 hw ws hEL a1 4 cs kc G1 G3 h0 n0 Z0 O2 P5 O4 rG3 O0 V_a1 hlat (by decide) (by decide) (by decide) (by decide) rfl
  · exact rc5 l Z a0 hw ws hEL a1 5 cs kc G1 G3 h0 n0 Z0 O2 P5 O4 rG3 O0 V_a1 hlat (by decide) (by decide) (by decide) (by decide) (by decide) rfl
  · exact rc6 l Z a0 hw ws hEL a1 6 cs kc G1 G3 h0 n0 Z0 O2 P5 O4 rG3 O0 V_a1 hlat (by decide) (by decide) (by decide) (by decide) (by decide) (by decide) rfl
  · exact rc7 l Z a0 hw ws hEL a1 7 cs kc G1 G3 h0 n0 Z0 O2 P5 O4 rG3 O0 V_a1 hlat (by decide) (by decide) (by decide) (by decide) (by decide) (by decide) (by decide) rfl
  · exact rc8 l Z a0 hw ws hEL a1 8 cs kc G1 G3 h0 n0 Z0 O2 P5 O4 rG3 O0 V_a1 hlat (by decide) (by decide) (by decide) (by decide) (by decide) (by decide) (by decide) (by decide) rfl
  · exact rc9 l Z a0 hw ws hEL a1 9 cs kc G1 G3 h0 n0 Z0 O2 P5 O4 rG3 O0 V_a1 hlat (by decide) (by decide) (by decide) (by decide) (by decide) (by decide) (by decide) (by decide) (by decide)
theorem own_d_jdk_43_method_3_code_0 : decode jdk_43_method_3_code 0 = .ok (.iload_n 0, 1) := by decide +kernel
theorem own_d_jdk_43_method_3_code_1 : decode jdk_43_method_3_code 1 = .ok (.sipush 255, 3) := by decide +kernel
theorem own_d_jdk_43_method_3_code_4 : decode jdk_43_method_3_code 4 = .ok (.if_icmp .gt 7, 3) := by decide +kernel
theorem own_d_jdk_43_method_3_code_7 : decode jdk_43_method_3_code 7 = .ok (.iconst 1, 1) := by decide +kernel
theorem own_d_jdk_43_method_3_code_8 : decode jdk_43_method_3_code 8 = .ok (.goto 4, 3) := by decide +kernel
theorem own_d_jdk_43_method_3_code_12 : decode jdk_43_method_3_code 12 = .ok (.ireturn, 1) := by decide +kernel
theorem own_pn_java_lang_StringLatin1 : plainName "java/lang/StringLatin1" = true := by first | (simp [plainName, overriddenIn]; done) | decide +kernel
theorem own_ef_jdk_43_method_3_code_x (m : MethodId) (x0 : Int32) : entryFrame m #[(.int x0)] 1 = mkF m 0 #[.val (.int x0)] [] := by first | (simp [entryFrame, mkF, argsToLocals, Value.category]; done) | rfl
set_option maxRecDepth 65536 in
set_option maxHeartbeats 40000000 in
theorem rmCan (l : Launch) (Z : State) (a0 : Array Value) (hw : ∀ d ∈ tables_1, d.before a0 Z = true) (ws : List Jvm.Cond) (p1 : Int32) (h0 : Heap) (n0 : Nat) (Z0 : n0 ≤ h0.size) (hl : ¬ (255 : Int32) < p1) :
    MetFree l (⟨"java/lang/StringLatin1", "canEncode", "(C)Z"⟩ : MethodName) (head1 (Jvm.Cond.code (⟨"java/lang/StringLatin1", "canEncode", "(C)Z"⟩ : MethodName) jdk_43_method_3_code 1 (some .boolean) :: ws) ({ frames := 0, cells := 0, slots := 0, locals := 0 } : Room)) (fun a U => a = #[(.int p1)] ∧ Z.Warmed39 U.vm ∧ U.heap = h0) (fun _ _ _ _ _ => True) (fun _ U o U' => ∃ vr_ Lr_, o = .returned vr_ ∧ QB 1 h0 n0 vr_ U'.heap Lr_ ∧ FrameEnd U o U' Lr_ 0 0) := by
  refine MetFree.of_bodySF (plainFor_of_name own_pn_java_lang_StringLatin1) hisR ?_
  intro p e s m args below meth c s₁ Bd hml0 hP hK
  obtain ⟨rfl, hZ, hh⟩ := hP
  have hx := Bd.exec
  have hby := Bd.bytes
  have hml : c.maxLocals = 1 := hml0
  have hown : s.vm.findClass "java/lang/StringLatin1" = some m.cls := findClass_of_methodNamed Bd.named
  have hnm := (name_of_methodNamed Bd.named Bd.method).1
  have X0 : Stand p l e ({ frames := 0, cells := 0, slots := 0, locals := 0 } : Room) s m #[(.int p1)] below meth c s₁ [] 0 0 := Stand.of_body Bd
  have e0 : s₁.heap = h0 := by rw [← hh, Bd.state]; rfl
  have N0 := Fr.nil n0
  have pre0 : ∀ t, Steps p.tables e below (s₁.setTop (mkF m 0 #[.val (.int p1)] [])) t → Steps p.tables e below (s₁.setTop (entryFrame m #[(.int p1)] 1)) t := fun t k => castTop (own_ef_jdk_43_method_3_code_x m p1) k
  obtain ⟨fs, hr, hrun, hended, hW, hsame⟩ := X0.leave (v := some (.int (1 : Int32))) (fun h => by rw [Bd.returns] at h; cases h)
  refine ⟨_, _, pre0 _ ?_, hrun, hended, _, _, rfl, ?_, ⟨_, rfl⟩, hW, hsame.mono (by decide) (by decide)⟩
  · show Steps p.tables e below (s₁.setTop (mkF m 0 #[.val (.int p1)] [])) _
    refine XS.iloadN X0.here hx rfl (hb hby own_d_jdk_43_method_3_code_0) rfl ?_
    refine XS.sipush X0.here hx rfl (hb hby own_d_jdk_43_method_3_code_1) ?_
    show Steps p.tables e below (s₁.setTop (mkF m 4 #[.val (.int p1)] [(.int (255 : Int32)), (.int p1)])) _
    refine XS.icmpNo X0.here hx rfl (hb hby own_d_jdk_43_method_3_code_4) rfl (flt (hl : ¬ ((255 : Int32) < p1))).2.2.1 ?_
    refine XS.iconst X0.here hx rfl (hb hby own_d_jdk_43_method_3_code_7) ?_
    refine XS.goto X0.here hx rfl (pc0 := 8) (pc' := 12) rfl (hb hby own_d_jdk_43_method_3_code_8) (by decide) (by decide) ?_
    show Steps p.tables e below (s₁.setTop (mkF m 12 #[.val (.int p1)] [(.int (1 : Int32))])) _
    exact retN X0 hx (t := .boolean) Bd.returns (by simp) (hb hby own_d_jdk_43_method_3_code_12) hr
  · show QB 1 h0 n0 _ s₁.heap _
    rw [e0]
    exact ⟨rfl, N0, rfl⟩
def QA (Z : State) (h0 : Heap) (n0 : Nat) (v : Option Value) (h : Heap) (L : List Loc) : Prop := ∃ (b : Addr) (k : ClassId) (vs : List Value), v = some (.ref b) ∧ Fr n0 L ∧ Keep h0 h [] ∧ Arv Z h b k .byte (1 : Int32) vs (.int (0 : Int32))
def QI (h0 : Heap) (a1 : Addr) (n0 : Nat) (v : Option Value) (h : Heap) (L : List Loc) : Prop := v = none ∧ Fr n0 L ∧ Keep h0 h [a1]
def QV1 (h0 : Heap) (n0 : Nat) (v : Option Value) (h : Heap) (L : List Loc) : Prop := ∃ b : Addr, v = some (.ref b) ∧ Fr n0 L ∧ Keep h0 h []
theorem own_d_jdk_43_method_46_code_0 : decode jdk_43_method_46_code 0 = .ok (.iconst 1, 1) := by decide +kernel
theorem own_d_jdk_43_method_46_code_1 : decode jdk_43_method_46_code 1 = .ok (.newarray .byte, 2) := by decide +kernel
theorem own_d_jdk_43_method_46_code_3 : decode jdk_43_method_46_code 3 = .ok (.dup, 1) := by decide +kernel
theorem own_d_jdk_43_method_46_code_4 : decode jdk_43_method_46_code 4 = .ok (.iconst 0, 1) := by decide +kernel
theorem own_d_jdk_43_method_46_code_5 : decode jdk_43_method_46_code 5 = .ok (.iload_n 0, 1) := by decide +kernel
theorem own_d_jdk_43_method_46_code_6 : decode jdk_43_method_46_code 6 = .ok (.i2b, 1) := by decide +kernel
theorem own_d_jdk_43_method_46_code_7 : decode jdk_43_method_46_code 7 = .ok (.bastore, 1) := by decide +kernel
theorem own_d_jdk_43_method_46_code_8 : decode jdk_43_method_46_code 8 = .ok (.areturn, 1) := by decide +kernel
theorem own_ef_jdk_43_method_46_code_x (m : MethodId) (x0 : Int32) : entryFrame m #[(.int x0)] 1 = mkF m 0 #[.val (.int x0)] [] := by first | (simp [entryFrame, mkF, argsToLocals, Value.category]; done) | rfl
set_option maxRecDepth 65536 in
set_option maxHeartbeats 40000000 in
theorem rmTob (l : Launch) (Z : State) (a0 : Array Value) (hw : ∀ d ∈ tables_1, d.before a0 Z = true) (ws : List Jvm.Cond) (p1 : Int32) (h0 : Heap) (n0 : Nat) (Z0 : n0 ≤ h0.size)  :
    MetFree l (⟨"java/lang/StringLatin1", "toBytes", "(C)[B"⟩ : MethodName) (head1 (Jvm.Cond.code (⟨"java/lang/StringLatin1", "toBytes", "(C)[B"⟩ : MethodName) jdk_43_method_46_code 1 (some (.array .byte)) :: ws) ({ frames := 0, cells := 1, slots := 1, locals := 0 } : Room)) (fun a U => a = #[(.int p1)] ∧ Z.Warmed39 U.vm ∧ U.heap = h0) (fun _ _ _ _ _ => True) (fun _ U o U' => ∃ vr_ Lr_, o = .returned vr_ ∧ QA Z h0 n0 vr_ U'.heap Lr_ ∧ FrameEnd U o U' Lr_ 1 1) := by
  refine MetFree.of_bodySF (plainFor_of_name own_pn_java_lang_StringLatin1) hisR ?_
  intro p e s m args below meth c s₁ Bd hml0 hP hK
  obtain ⟨rfl, hZ, hh⟩ := hP
  have hx := Bd.exec
  have hby := Bd.bytes
  have hml : c.maxLocals = 1 := hml0
  have hown : s.vm.findClass "java/lang/StringLatin1" = some m.cls := findClass_of_methodNamed Bd.named
  have hnm := (name_of_methodNamed Bd.named Bd.method).1
  have X0 : Stand p l e ({ frames := 0, cells := 1, slots := 1, locals := 0 } : Room) s m #[(.int p1)] below meth c s₁ [] 0 0 := Stand.of_body Bd
  have e0 : s₁.heap = h0 := by rw [← hh, Bd.state]; rfl
  have N0 := Fr.nil n0
  have pre0 : ∀ t, Steps p.tables e below (s₁.setTop (mkF m 0 #[.val (.int p1)] [])) t → Steps p.tables e below (s₁.setTop (entryFrame m #[(.int p1)] 1)) t := fun t k => castTop (own_ef_jdk_43_method_46_code_x m p1) k
  obtain ⟨T1, h1, ka1, X1, e1, E1, A1, st1⟩ := newP X0 hx hZ (hw _ (List.mem_of_getElem? (i := 3) rfl)) e0 (g := (mkF m 1 #[.val (.int p1)] [(.int (1 : Int32))])) rfl (hb hby own_d_jdk_43_method_46_code_1) rfl (by decide) (cap := 1) (by decide) (by decide) (by decide) (by decide)
  obtain ⟨b1, g1⟩ : ∃ z, z = h0.size := ⟨_, rfl⟩
  rw [← g1] at A1 st1
  have sz_b1 : h0.size ≤ b1 := Nat.le_trans (Keep.refl h0 []).1 (Nat.le_of_eq g1.symm)
  have g_b1 : n0 ≤ b1 := Nat.le_trans Z0 sz_b1
  have K1 : Keep h0 h1 [] := (Keep.refl h0 []).ext E1
  have V_b1 : Arv Z h1 b1 ka1 .byte (1 : Int32) [(.int (0 : Int32))] (.int (0 : Int32)) := (Arv.new A1 (by decide)).pad (pad_rep [] (.int (0 : Int32)) 1)
  obtain ⟨cl2, Ar2, q2, S2, N_2, H_2, G2⟩ := id V_b1
  obtain ⟨T3, h3, X3, e3, W3, st3⟩ := stB X1 hx hZ e1 Ar2 (j := (0 : Int32)) (inb_of S2 ⟨by decide, by decide⟩) (g := (mkF m 7 #[.val (.int p1)] [(.int (p1.toInt8.toInt32)), (.int (0 : Int32)), (.ref b1), (.ref b1)])) rfl rfl (hb hby own_d_jdk_43_method_46_code_7)
  have V3_b1 : Arv Z h3 b1 ka1 .byte (1 : Int32) [(.int (nar .byte (p1.toInt8.toInt32)))] (.int (0 : Int32)) := Arv.set Ar2 q2 S2 N_2 H_2 G2 (fits_nar_byte _) W3 0 rfl (Nat.le_of_ble_eq_true rfl)
  have Nf3 := Fr.snoc X3 N0 g_b1
  have K2 : Keep h0 h3 [] := K1.wr W3 (Or.inr sz_b1)
  obtain ⟨fs, hr, hrun, hended, hW, hsame⟩ := X3.leave (v := some (.ref b1)) (fun h => by rw [Bd.returns] at h; cases h)
  refine ⟨_, _, pre0 _ ?_, hrun, hended, _, _, rfl, ?_, ⟨_, rfl⟩, hW, hsame.mono (by decide) (by decide)⟩
  · show Steps p.tables e below (s₁.setTop (mkF m 0 #[.val (.int p1)] [])) _
    refine XS.iconst X0.here hx rfl (hb hby own_d_jdk_43_method_46_code_0) ?_
    show Steps p.tables e below (s₁.setTop (mkF m 1 #[.val (.int p1)] [(.int (1 : Int32))])) _
    refine st1 _ ?_
    refine XS.dup X1.here hx rfl (hb hby own_d_jdk_43_method_46_code_3) rfl rfl ?_
    refine XS.iconst X1.here hx rfl (hb hby own_d_jdk_43_method_46_code_4) ?_
    show Steps p.tables e below (T1.setTop (mkF m 5 #[.val (.int p1)] [(.int (0 : Int32)), (.ref b1), (.ref b1)])) _
    refine XS.iloadN X1.here hx rfl (hb hby own_d_jdk_43_method_46_code_5) rfl ?_
    refine XS.i2b X1.here hx rfl (hb hby own_d_jdk_43_method_46_code_6) rfl ?_
    show Steps p.tables e below (T1.setTop (mkF m 7 #[.val (.int p1)] [(.int (p1.toInt8.toInt32)), (.int (0 : Int32)), (.ref b1), (.ref b1)])) _
    refine st3 _ ?_
    show Steps p.tables e below (T3.setTop (mkF m 8 #[.val (.int p1)] [(.ref b1)])) _
    jvm_step X3.here [X3.here.top, hx, (hb hby own_d_jdk_43_method_46_code_8), X3.method', Bd.returns, Value.isRef, FieldType.isReference]
    first | (intro acts; rw [hr _ acts rfl rfl rfl]) | rw [hr _ _ rfl rfl rfl]
    exact Steps.refl _
  · show QA Z h0 n0 _ T3.heap _
    rw [e3]
    exact ⟨b1, ka1, _, rfl, Nf3, K2, V3_b1⟩
theorem own_d_jdk_42_method_151_code_0 : decode jdk_42_method_151_code 0 = .ok (.aload_n 0, 1) := by decide +kernel
theorem own_d_jdk_42_method_151_code_1 : decode jdk_42_method_151_code 1 = .ok (.invokespecial 1, 3) := by decide +kernel
theorem own_d_jdk_42_method_151_code_4 : decode jdk_42_method_151_code 4 = .ok (.aload_n 0, 1) := by decide +kernel
theorem own_d_jdk_42_method_151_code_5 : decode jdk_42_method_151_code 5 = .ok (.aload_n 1, 1) := by decide +kernel
theorem own_d_jdk_42_method_151_code_6 : decode jdk_42_method_151_code 6 = .ok (.putfield 9, 3) := by decide +kernel
theorem own_d_jdk_42_method_151_code_9 : decode jdk_42_method_151_code 9 = .ok (.aload_n 0, 1) := by decide +kernel
theorem own_d_jdk_42_method_151_code_10 : decode jdk_42_method_151_code 10 = .ok (.iload_n 2, 1) := by decide +kernel
theorem own_d_jdk_42_method_151_code_11 : decode jdk_42_method_151_code 11 = .ok (.putfield 15, 3) := by decide +kernel
theorem own_d_jdk_42_method_151_code_14 : decode jdk_42_method_151_code 14 = .ok (.return_, 1) := by decide +kernel
theorem own_ef_jdk_42_method_151_code_xxx (m : MethodId) (x0 : Addr) (x1 : Addr) (x2 : Int32) : entryFrame m #[(.ref x0), (.ref x1), (.int x2)] 3 = mkF m 0 #[.val (.ref x0), .val (.ref x1), .val (.int x2)] [] := by first | (simp [entryFrame, mkF, argsToLocals, Value.category]; done) | rfl
set_option maxRecDepth 65536 in
set_option maxHeartbeats 40000000 in
theorem rmIb (l : Launch) (Z : State) (a0 : Array Value) (hw : ∀ d ∈ tables_1, d.before a0 Z = true) (ws : List Jvm.Cond) (a1 a2 : Addr) (uv uc : Value) (h0 : Heap) (n0 : Nat) (Z0 : n0 ≤ h0.size) (E_a1 : Exa Z h0 a1 "java/lang/String") (F_value_a1 : Fld Z h0 a1 "java/lang/String" "value" "[B" uv) (F_coder_a1 : Fld Z h0 a1 "java/lang/String" "coder" "B" uc) (g_a1 : n0 ≤ a1) :
    MetFree l (⟨"java/lang/String", "<init>", "([BB)V"⟩ : MethodName) (head1 (Jvm.Cond.code (⟨"java/lang/String", "<init>", "([BB)V"⟩ : MethodName) jdk_42_method_151_code 3 none :: ws) ({ frames := 1, cells := 0, slots := 0, locals := 12 } : Room)) (fun a U => a = #[(.ref a1), (.ref a2), (.int (0 : Int32))] ∧ Z.Warmed39 U.vm ∧ U.heap = h0) (fun _ _ _ _ _ => True) (fun _ U o U' => ∃ vr_ Lr_, o = .returned vr_ ∧ QI h0 a1 n0 vr_ U'.heap Lr_ ∧ FrameEnd U o U' Lr_ 0 0) := by
  refine MetFree.of_bodySF (plainFor_of_name own_pn_java_lang_String) hisR ?_
  intro p e s m args below meth c s₁ Bd hml0 hP hK
  obtain ⟨rfl, hZ, hh⟩ := hP
  have hx := Bd.exec
  have hby := Bd.bytes
  have hml : c.maxLocals = 3 := hml0
  have hown : s.vm.findClass "java/lang/String" = some m.cls := findClass_of_methodNamed Bd.named
  have hnm := (name_of_methodNamed Bd.named Bd.method).1
  have X0 : Stand p l e ({ frames := 1, cells := 0, slots := 0, locals := 12 } : Room) s m #[(.ref a1), (.ref a2), (.int (0 : Int32))] below meth c s₁ [] 0 0 := Stand.of_body Bd
  have e0 : s₁.heap = h0 := by rw [← hh, Bd.state]; rfl
  have N0 := Fr.nil n0
  have pre0 : ∀ t, Steps p.tables e below (s₁.setTop (mkF m 0 #[.val (.ref a1), .val (.ref a2), .val (.int (0 : Int32))] [])) t → Steps p.tables e below (s₁.setTop (entryFrame m #[(.ref a1), (.ref a2), (.int (0 : Int32))] 3)) t := fun t k => castTop (own_ef_jdk_42_method_151_code_xxx m a1 a2 (0 : Int32)) k
  obtain ⟨T1, X1, e1, st1⟩ := initO X0 hx hZ hown (hw _ (List.mem_of_getElem? (i := 60) rfl)) (hw _ (List.mem_of_getElem? (i := 61) rfl)) (hw _ (List.mem_of_getElem? (i := 62) rfl)) e0 (g := (mkF m 1 #[.val (.ref a1), .val (.ref a2), .val (.int (0 : Int32))] [(.ref a1)])) rfl (by rw [hml]; rfl) rfl (hb hby own_d_jdk_42_method_151_code_1) (by decide) (W := 0) (by show 2 * 0 + _ ≤ _; exact Nat.le_of_eq rfl) (by decide)
  obtain ⟨T2, h2, X2, e2, W2, st2⟩ := putF X1 hx hZ hown (host := "") (Or.inl (hw _ (List.mem_of_getElem? (i := 13) rfl))) Via.refl e1 F_value_a1 E_a1 (Or.inr ⟨(hw _ (List.mem_of_getElem? (i := 4) rfl)), rfl, hnm⟩) (hw _ (List.mem_of_getElem? (i := 2) rfl)) (ty := (.array .byte)) (by decide) rfl rfl (g := (mkF m 6 #[.val (.ref a1), .val (.ref a2), .val (.int (0 : Int32))] [(.ref a2), (.ref a1)])) rfl rfl (hb hby own_d_jdk_42_method_151_code_6)
  have Fw2 := F_value_a1.same W2
  have Nf2 := Fr.snoc X2 N0 g_a1
  have K1 : Keep h0 h2 [a1] := (Keep.refl h0 [a1]).wr W2 (Or.inl (List.mem_of_getElem? (i := 0) rfl))
  have f3 : Fld Z h2 a1 "java/lang/String" "coder" "B" uc := (F_coder_a1.other W2 (Or.inr (slot_ne (Or.inr (hw _ (List.mem_of_getElem? (i := 5) rfl))) (Or.inr (hw _ (List.mem_of_getElem? (i := 4) rfl))) (by decide) (t := .byte) (t' := (.array .byte)) (by decide) (by decide))))
  have f4 : Exa Z h2 a1 "java/lang/String" := (E_a1.wr W2)
  obtain ⟨T5, h5, X5, e5, W5, st5⟩ := putFN X2 hx hZ hown (hw _ (List.mem_of_getElem? (i := 20) rfl)) Via.refl e2 f3 f4 (Or.inr ⟨(hw _ (List.mem_of_getElem? (i := 5) rfl)), rfl, hnm⟩) (hw _ (List.mem_of_getElem? (i := 2) rfl)) (ty := .byte) (v' := (.int (0 : Int32))) (by decide) rfl rfl (g := (mkF m 11 #[.val (.ref a1), .val (.ref a2), .val (.int (0 : Int32))] [(.int (0 : Int32)), (.ref a1)])) rfl rfl (hb hby own_d_jdk_42_method_151_code_11)
  have Fw5 := f3.same W5
  have Nf5 := Fr.snoc X5 Nf2 g_a1
  have K2 : Keep h0 h5 [a1] := K1.wr W5 (Or.inl (List.mem_of_getElem? (i := 0) rfl))
  obtain ⟨fs, hr, hrun, hended, hW, hsame⟩ := X5.leave (v := none) (fun _ => rfl)
  refine ⟨_, _, pre0 _ ?_, hrun, hended, _, _, rfl, ?_, ⟨_, rfl⟩, hW, hsame.mono (by decide) (by decide)⟩
  · show Steps p.tables e below (s₁.setTop (mkF m 0 #[.val (.ref a1), .val (.ref a2), .val (.int (0 : Int32))] [])) _
    refine XS.aloadN X0.here hx rfl (hb hby own_d_jdk_42_method_151_code_0) rfl rfl ?_
    show Steps p.tables e below (s₁.setTop (mkF m 1 #[.val (.ref a1), .val (.ref a2), .val (.int (0 : Int32))] [(.ref a1)])) _
    refine st1 _ ?_
    refine XS.aloadN X1.here hx rfl (hb hby own_d_jdk_42_method_151_code_4) rfl rfl ?_
    refine XS.aloadN X1.here hx rfl (hb hby own_d_jdk_42_method_151_code_5) rfl rfl ?_
    show Steps p.tables e below (T1.setTop (mkF m 6 #[.val (.ref a1), .val (.ref a2), .val (.int (0 : Int32))] [(.ref a2), (.ref a1)])) _
    refine st2 _ ?_
    refine XS.aloadN X2.here hx rfl (hb hby own_d_jdk_42_method_151_code_9) rfl rfl ?_
    refine XS.iloadN X2.here hx rfl (hb hby own_d_jdk_42_method_151_code_10) rfl ?_
    show Steps p.tables e below (T2.setTop (mkF m 11 #[.val (.ref a1), .val (.ref a2), .val (.int (0 : Int32))] [(.int (0 : Int32)), (.ref a1)])) _
    refine st5 _ ?_
    show Steps p.tables e below (T5.setTop (mkF m 14 #[.val (.ref a1), .val (.ref a2), .val (.int (0 : Int32))] [])) _
    exact X5.returnOut hx Bd.returns (hb hby own_d_jdk_42_method_151_code_14) hr
  · show QI h0 a1 n0 _ T5.heap _
    rw [e5]
    exact ⟨rfl, Nf5, K2⟩
theorem own_d_jdk_42_method_139_code_0 : decode jdk_42_method_139_code 0 = .ok (.getstatic 38, 3) := by decide +kernel
theorem own_d_jdk_42_method_139_code_3 : decode jdk_42_method_139_code 3 = .ok (.ifCond .eq 23, 3) := by decide +kernel
theorem own_d_jdk_42_method_139_code_6 : decode jdk_42_method_139_code 6 = .ok (.iload_n 0, 1) := by decide +kernel
theorem own_d_jdk_42_method_139_code_7 : decode jdk_42_method_139_code 7 = .ok (.invokestatic 1015, 3) := by decide +kernel
theorem own_d_jdk_42_method_139_code_10 : decode jdk_42_method_139_code 10 = .ok (.ifCond .eq 16, 3) := by decide +kernel
theorem own_d_jdk_42_method_139_code_13 : decode jdk_42_method_139_code 13 = .ok (.new 10, 3) := by decide +kernel
theorem own_d_jdk_42_method_139_code_16 : decode jdk_42_method_139_code 16 = .ok (.dup, 1) := by decide +kernel
theorem own_d_jdk_42_method_139_code_17 : decode jdk_42_method_139_code 17 = .ok (.iload_n 0, 1) := by decide +kernel
theorem own_d_jdk_42_method_139_code_18 : decode jdk_42_method_139_code 18 = .ok (.invokestatic 1018, 3) := by decide +kernel
theorem own_d_jdk_42_method_139_code_21 : decode jdk_42_method_139_code 21 = .ok (.iconst 0, 1) := by decide +kernel
theorem own_d_jdk_42_method_139_code_22 : decode jdk_42_method_139_code 22 = .ok (.invokespecial 209, 3) := by decide +kernel
theorem own_d_jdk_42_method_139_code_25 : decode jdk_42_method_139_code 25 = .ok (.areturn, 1) := by decide +kernel
theorem own_pd__C_Z : parseMethodDescriptor "(C)Z" = some ⟨[.char], some .boolean⟩ := by decide +kernel
theorem own_pd__C__B : parseMethodDescriptor "(C)[B" = some ⟨[.char], some (.array .byte)⟩ := by decide +kernel
theorem own_pd___BB_V : parseMethodDescriptor "([BB)V" = some ⟨[(.array .byte), .byte], none⟩ := by decide +kernel
theorem own_ef_jdk_42_method_139_code_x (m : MethodId) (x0 : Int32) : entryFrame m #[(.int x0)] 1 = mkF m 0 #[.val (.int x0)] [] := by first | (simp [entryFrame, mkF, argsToLocals, Value.category]; done) | rfl
set_option maxRecDepth 65536 in
set_option maxHeartbeats 40000000 in
theorem rmV (l : Launch) (Z : State) (a0 : Array Value) (hw : ∀ d ∈ tables_1, d.before a0 Z = true) (ws : List Jvm.Cond) (p1 : Int32) (G1 : Int32) (G3 : Value) (h0 : Heap) (n0 : Nat) (Z0 : n0 ≤ h0.size) (O2 : Sta Z Z.heap "java/lang/String" "COMPACT_STRINGS" "Z" (.int G1)) (P5 : ¬ (G1 = (0 : Int32))) (O4 : Sta Z Z.heap "jdk/internal/util/Preconditions" "SIOOBE_FORMATTER" "Ljava/util/function/BiFunction;" G3) (rG3 : G3.isRef = true) (O0 : Old Z n0 h0) (hl : ¬ (255 : Int32) < p1) :
    MetFree l (⟨"java/lang/String", "valueOf", "(C)Ljava/lang/String;"⟩ : MethodName) (head1 (Jvm.Cond.code (⟨"java/lang/String", "valueOf", "(C)Ljava/lang/String;"⟩ : MethodName) jdk_42_method_139_code 1 (some (.object "java/lang/String")) :: ws) ({ frames := 2, cells := 2, slots := 5, locals := 40 } : Room)) (fun a U => a = #[(.int p1)] ∧ Z.Warmed39 U.vm ∧ U.heap = h0) (fun _ _ _ _ _ => True) (fun _ U o U' => ∃ vr_ Lr_, o = .returned vr_ ∧ QV1 h0 n0 vr_ U'.heap Lr_ ∧ FrameEnd U o U' Lr_ 2 5) := by
  refine MetFree.of_bodySF (plainFor_of_name own_pn_java_lang_String) hisR ?_
  intro p e s m args below meth c s₁ Bd hml0 hP hK
  obtain ⟨rfl, hZ, hh⟩ := hP
  have hx := Bd.exec
  have hby := Bd.bytes
  have hml : c.maxLocals = 1 := hml0
  have hown : s.vm.findClass "java/lang/String" = some m.cls := findClass_of_methodNamed Bd.named
  have hnm := (name_of_methodNamed Bd.named Bd.method).1
  have X0 : Stand p l e ({ frames := 2, cells := 2, slots := 5, locals := 40 } : Room) s m #[(.int p1)] below meth c s₁ [] 0 0 := Stand.of_body Bd
  have e0 : s₁.heap = h0 := by rw [← hh, Bd.state]; rfl
  have N0 := Fr.nil n0
  have pre0 : ∀ t, Steps p.tables e below (s₁.setTop (mkF m 0 #[.val (.int p1)] [])) t → Steps p.tables e below (s₁.setTop (entryFrame m #[(.int p1)] 1)) t := fun t k => castTop (own_ef_jdk_42_method_139_code_x m p1) k
  obtain ⟨T1, X1, e1, st1⟩ := getS2 X0 hx hZ hown (host := "") (Or.inl (hw _ (List.mem_of_getElem? (i := 19) rfl))) Via.refl e0 (O2.ext O0.2) (g := (mkF m 0 #[.val (.int p1)] [])) rfl (hb hby own_d_jdk_42_method_139_code_0)
  obtain ⟨_, _, ⟨T2, L2, k2, n2⟩, -, X2, ⟨Lc2, hQ2, l2, y2, z2⟩, st2⟩ := Jvm.LawKit.callS X1 hx (y := (⟨"java/lang/StringLatin1", "canEncode", "(C)Z"⟩ : MethodName)) hown (mvT hZ (hw _ (List.mem_of_getElem? (i := 109) rfl))) (mvT hZ (hw _ (List.mem_of_getElem? (i := 110) rfl))) (mvT hZ (hw _ (List.mem_of_getElem? (i := 39) rfl))) (mvT hZ (hw _ (List.mem_of_getElem? (i := 111) rfl))) (by decide) (backOf (W := 0) (rmCan l Z a0 hw [] p1 h0 n0 (Nat.le_trans Z0 (Keep.refl h0 []).1) hl) hZ (hw _ (List.mem_of_getElem? (i := 111) rfl)) (hw _ (List.mem_of_getElem? (i := 39) rfl)) (by decide) (by decide)) (g := (mkF m 7 #[.val (.int p1)] [(.int p1)])) rfl (by rw [hml]; rfl) (argsL := [(.int p1)]) (rest := []) (lenOf own_pd__C_Z rfl) rfl (by show 2 * 0 + _ ≤ _; exact Nat.le_of_eq rfl) (hb hby own_d_jdk_42_method_139_code_7) (fun _ _ => ⟨rfl, e1, (by decide : 0 + 0 ≤ _), (by decide : 0 + 0 ≤ _)⟩)
  dsimp only [Pt.U, Pt.locs, Pt.cells, Pt.slots] at X2 l2 y2 z2 st2 hQ2
  rw [l2] at X2
  clear l2; subst y2 z2
  obtain ⟨rfl, N2q, e2q⟩ := hQ2
  have N2a := Fr.app N0 N2q
  obtain ⟨T3, h3, X3, e3, E3, A3, D3, -, st3⟩ := newO X2 hx hZ hown (hw _ (List.mem_of_getElem? (i := 100) rfl)) (hw _ (List.mem_of_getElem? (i := 2) rfl)) (hw _ (List.mem_of_getElem? (i := 1) rfl)) e2q (g := (mkF m 13 #[.val (.int p1)] [])) rfl (hb hby own_d_jdk_42_method_139_code_13) (by decide) (by decide)
  obtain ⟨b3, g3⟩ : ∃ z, z = h0.size := ⟨_, rfl⟩
  rw [← g3] at A3 D3 st3
  have sz_b3 : h0.size ≤ b3 := Nat.le_trans (Keep.refl h0 []).1 (Nat.le_of_eq g3.symm)
  have g_b3 : n0 ≤ b3 := Nat.le_trans Z0 sz_b3
  have K1 : Keep h0 h3 [] := (Keep.refl h0 []).ext E3
  have F_value_b3 : Fld Z h3 b3 "java/lang/String" "value" "[B" .null := D3 (Or.inr (hw _ (List.mem_of_getElem? (i := 4) rfl))) (ty := (.array .byte)) (by decide)
  have F_coder_b3 : Fld Z h3 b3 "java/lang/String" "coder" "B" (.int (0 : Int32)) := D3 (Or.inr (hw _ (List.mem_of_getElem? (i := 5) rfl))) (ty := .byte) (by decide)
  obtain ⟨_, _, ⟨T4, L4, k4, n4⟩, -, X4, ⟨Lc4, hQ4, l4, y4, z4⟩, st4⟩ := Jvm.LawKit.callS X3 hx (y := (⟨"java/lang/StringLatin1", "toBytes", "(C)[B"⟩ : MethodName)) hown (mvT hZ (hw _ (List.mem_of_getElem? (i := 112) rfl))) (mvT hZ (hw _ (List.mem_of_getElem? (i := 113) rfl))) (mvT hZ (hw _ (List.mem_of_getElem? (i := 39) rfl))) (mvT hZ (hw _ (List.mem_of_getElem? (i := 114) rfl))) (by decide) (backOf (W := 2) (rmTob l Z a0 hw [] p1 h3 n0 (Nat.le_trans Z0 K1.1)) hZ (hw _ (List.mem_of_getElem? (i := 114) rfl)) (hw _ (List.mem_of_getElem? (i := 39) rfl)) (by decide) (by decide)) (g := (mkF m 18 #[.val (.int p1)] [(.int p1), (.ref b3), (.ref b3)])) rfl (by rw [hml]; rfl) (argsL := [(.int p1)]) (rest := [(.ref b3), (.ref b3)]) (lenOf own_pd__C__B rfl) rfl (by show 2 * 0 + _ ≤ _; exact Nat.le_of_eq rfl) (hb hby own_d_jdk_42_method_139_code_18) (fun _ _ => ⟨rfl, e3, (by decide : 1 + 1 ≤ _), (by decide : 4 + 1 ≤ _)⟩)
  dsimp only [Pt.U, Pt.locs, Pt.cells, Pt.slots] at X4 l4 y4 z4 st4 hQ4
  rw [l4] at X4
  clear l4; subst y4 z4
  obtain ⟨r4, kb4, vs4, rfl, N4q, K4q, A4⟩ := hQ4
  have N4a := Fr.app N2a N4q
  have K2 : Keep h0 T4.heap [] := K1.trans K4q all0
  have f6 : Exa Z T4.heap b3 "java/lang/String" := (A3.keep K4q)
  have f7 : Fld Z T4.heap b3 "java/lang/String" "value" "[B" .null := (F_value_b3.keep K4q nin0)
  have f8 : Fld Z T4.heap b3 "java/lang/String" "coder" "B" (.int (0 : Int32)) := (F_coder_b3.keep K4q nin0)
  obtain ⟨_, _, ⟨T5, L5, k5, n5⟩, -, X5, ⟨Lc5, hQ5, l5, y5, z5⟩, st5⟩ := X4.specialBack hx (y := (⟨"java/lang/String", "<init>", "([BB)V"⟩ : MethodName)) rfl hown (mvT hZ (hw _ (List.mem_of_getElem? (i := 115) rfl))) (mvT hZ (hw _ (List.mem_of_getElem? (i := 116) rfl))) (mvT hZ (hw _ (List.mem_of_getElem? (i := 117) rfl))) (by decide) (backOf (W := 1) (rmIb l Z a0 hw [] b3 r4 .null (.int (0 : Int32)) T4.heap n0 (Nat.le_trans Z0 K2.1) f6 f7 f8 g_b3) hZ (hw _ (List.mem_of_getElem? (i := 117) rfl)) (hw _ (List.mem_of_getElem? (i := 1) rfl)) (by decide) (by decide)) (g := (mkF m 22 #[.val (.int p1)] [(.int (0 : Int32)), (.ref r4), (.ref b3), (.ref b3)])) rfl (by rw [hml]; rfl) (Steps.refl _) (a := b3) (argsL := [(.ref r4), (.int (0 : Int32))]) (rest := [(.ref b3)]) (lenOf own_pd___BB_V rfl) rfl (by show 2 * 0 + _ ≤ _; exact Nat.le_of_eq rfl) (hb hby own_d_jdk_42_method_139_code_22) (fun _ _ => ⟨rfl, rfl, (by decide : 2 + 0 ≤ _), (by decide : 5 + 0 ≤ _)⟩)
  dsimp only [Pt.U, Pt.locs, Pt.cells, Pt.slots] at X5 l5 y5 z5 st5 hQ5
  rw [l5] at X5
  clear l5; subst y5 z5
  obtain ⟨rfl, N5q, K5q⟩ := hQ5
  have N5a := Fr.app N4a N5q
  have K3 : Keep h0 T5.heap [] := K2.trans K5q (allS (Or.inr sz_b3) all0)
  obtain ⟨fs, hr, hrun, hended, hW, hsame⟩ := X5.leave (v := some (.ref b3)) (fun h => by rw [Bd.returns] at h; cases h)
  refine ⟨_, _, pre0 _ ?_, hrun, hended, _, _, rfl, ?_, ⟨_, rfl⟩, hW, hsame.mono (by decide) (by decide)⟩
  · show Steps p.tables e below (s₁.setTop (mkF m 0 #[.val (.int p1)] [])) _
    refine st1 _ ?_
    show Steps p.tables e below (T1.setTop (mkF m 3 #[.val (.int p1)] [(.int G1)])) _
    refine XS.ifNo X1.here hx rfl (hb hby own_d_jdk_42_method_139_code_3) rfl ((if0 _ _).trans (feq (P5 : ¬ (G1 = (0 : Int32)))).1) ?_
    refine XS.iloadN X1.here hx rfl (hb hby own_d_jdk_42_method_139_code_6) rfl ?_
    show Steps p.tables e below (T1.setTop (mkF m 7 #[.val (.int p1)] [(.int p1)])) _
    refine st2 _ ?_
    show Steps p.tables e below (T2.setTop (mkF m 10 #[.val (.int p1)] [(.int (1 : Int32))])) _
    refine XS.ifNo X2.here hx rfl (hb hby own_d_jdk_42_method_139_code_10) rfl ((if0 _ _).trans (feq (by decide : ¬ ((1 : Int32) = (0 : Int32)))).1) ?_
    show Steps p.tables e below (T2.setTop (mkF m 13 #[.val (.int p1)] [])) _
    refine st3 _ ?_
    refine XS.dup X3.here hx rfl (hb hby own_d_jdk_42_method_139_code_16) rfl rfl ?_
    refine XS.iloadN X3.here hx rfl (hb hby own_d_jdk_42_method_139_code_17) rfl ?_
    show Steps p.tables e below (T3.setTop (mkF m 18 #[.val (.int p1)] [(.int p1), (.ref b3), (.ref b3)])) _
    refine st4 _ ?_
    refine XS.iconst X4.here hx rfl (hb hby own_d_jdk_42_method_139_code_21) ?_
    show Steps p.tables e below (T4.setTop (mkF m 22 #[.val (.int p1)] [(.int (0 : Int32)), (.ref r4), (.ref b3), (.ref b3)])) _
    refine st5.trans ?_
    show Steps p.tables e below (T5.setTop (mkF m 25 #[.val (.int p1)] [(.ref b3)])) _
    jvm_step X5.here [X5.here.top, hx, (hb hby own_d_jdk_42_method_139_code_25), X5.method', Bd.returns, Value.isRef, FieldType.isReference]
    first | (intro acts; rw [hr _ acts rfl rfl rfl]) | rw [hr _ _ rfl rfl rfl]
    exact Steps.refl _
  · show QV1 h0 n0 _ T5.heap _
    exact ⟨b3, rfl, N5a, K3⟩
theorem own_d_jdk_30_method_1_code_0 : decode jdk_30_method_1_code 0 = .ok (.aload_n 0, 1) := by decide +kernel
theorem own_d_jdk_30_method_1_code_1 : decode jdk_30_method_1_code 1 = .ok (.invokespecial 1, 3) := by decide +kernel
theorem own_d_jdk_30_method_1_code_4 : decode jdk_30_method_1_code 4 = .ok (.return_, 1) := by decide +kernel
theorem own_pn_java_lang_Record : plainName "java/lang/Record" = true := by first | (simp [plainName, overriddenIn]; done) | decide +kernel
theorem own_ef_jdk_30_method_1_code_x (m : MethodId) (x0 : Addr) : entryFrame m #[(.ref x0)] 1 = mkF m 0 #[.val (.ref x0)] [] := by first | (simp [entryFrame, mkF, argsToLocals, Value.category]; done) | rfl
set_option maxRecDepth 65536 in
set_option maxHeartbeats 40000000 in
theorem rmR (l : Launch) (Z : State) (a0 : Array Value) (hw : ∀ d ∈ tables_1, d.before a0 Z = true) (ws : List Jvm.Cond) (a1 : Addr) (h0 : Heap) (n0 : Nat) (Z0 : n0 ≤ h0.size)  :
    MetFree l (⟨"java/lang/Record", "<init>", "()V"⟩ : MethodName) (head1 (Jvm.Cond.code (⟨"java/lang/Record", "<init>", "()V"⟩ : MethodName) jdk_30_method_1_code 1 none :: ws) ({ frames := 1, cells := 0, slots := 0, locals := 12 } : Room)) (fun a U => a = #[(.ref a1)] ∧ Z.Warmed39 U.vm ∧ U.heap = h0) (fun _ _ _ _ _ => True) (fun _ U o U' => ∃ vr_ Lr_, o = .returned vr_ ∧ QR h0 n0 vr_ U'.heap Lr_ ∧ FrameEnd U o U' Lr_ 0 0) := by
  refine MetFree.of_bodySF (plainFor_of_name own_pn_java_lang_Record) hisR ?_
  intro p e s m args below meth c s₁ Bd hml0 hP hK
  obtain ⟨rfl, hZ, hh⟩ := hP
  have hx := Bd.exec
  have hby := Bd.bytes
  have hml : c.maxLocals = 1 := hml0
  have hown : s.vm.findClass "java/lang/Record" = some m.cls := findClass_of_methodNamed Bd.named
  have hnm := (name_of_methodNamed Bd.named Bd.method).1
  have X0 : Stand p l e ({ frames := 1, cells := 0, slots := 0, locals := 12 } : Room) s m #[(.ref a1)] below meth c s₁ [] 0 0 := Stand.of_body Bd
  have e0 : s₁.heap = h0 := by rw [← hh, Bd.state]; rfl
  have N0 := Fr.nil n0
  have pre0 : ∀ t, Steps p.tables e below (s₁.setTop (mkF m 0 #[.val (.ref a1)] [])) t → Steps p.tables e below (s₁.setTop (entryFrame m #[(.ref a1)] 1)) t := fun t k => castTop (own_ef_jdk_30_method_1_code_x m a1) k
  obtain ⟨T1, X1, e1, st1⟩ := initO X0 hx hZ hown (hw _ (List.mem_of_getElem? (i := 84) rfl)) (hw _ (List.mem_of_getElem? (i := 61) rfl)) (hw _ (List.mem_of_getElem? (i := 62) rfl)) e0 (g := (mkF m 1 #[.val (.ref a1)] [(.ref a1)])) rfl (by rw [hml]; rfl) rfl (hb hby own_d_jdk_30_method_1_code_1) (by decide) (W := 0) (by show 2 * 0 + _ ≤ _; exact Nat.le_of_eq rfl) (by decide)
  obtain ⟨fs, hr, hrun, hended, hW, hsame⟩ := X1.leave (v := none) (fun _ => rfl)
  refine ⟨_, _, pre0 _ ?_, hrun, hended, _, _, rfl, ?_, ⟨_, rfl⟩, hW, hsame.mono (by decide) (by decide)⟩
  · show Steps p.tables e below (s₁.setTop (mkF m 0 #[.val (.ref a1)] [])) _
    refine XS.aloadN X0.here hx rfl (hb hby own_d_jdk_30_method_1_code_0) rfl rfl ?_
    show Steps p.tables e below (s₁.setTop (mkF m 1 #[.val (.ref a1)] [(.ref a1)])) _
    refine st1 _ ?_
    show Steps p.tables e below (T1.setTop (mkF m 4 #[.val (.ref a1)] [])) _
    exact X1.returnOut hx Bd.returns (hb hby own_d_jdk_30_method_1_code_4) hr
  · show QR h0 n0 _ T1.heap _
    rw [e1]
    exact ⟨rfl, N0, rfl⟩
def QP (Z : State) (a1 a2 : Addr) (h0 : Heap) (n0 : Nat) (v : Option Value) (h : Heap) (L : List Loc) : Prop := v = none ∧ Fr n0 L ∧ Keep h0 h [a1] ∧ Fld Z h a1 "com/example/restate/restate/Operation$Target" "type" "Ljava/lang/String;" (.ref a2)
theorem own_d_prog_30_method_1_code_0 : decode prog_30_method_1_code 0 = .ok (.aload_n 0, 1) := by decide +kernel
theorem own_d_prog_30_method_1_code_1 : decode prog_30_method_1_code 1 = .ok (.invokespecial 1, 3) := by decide +kernel
theorem own_d_prog_30_method_1_code_4 : decode prog_30_method_1_code 4 = .ok (.aload_n 0, 1) := by decide +kernel
theorem own_d_prog_30_method_1_code_5 : decode prog_30_method_1_code 5 = .ok (.aload_n 1, 1) := by decide +kernel
theorem own_d_prog_30_method_1_code_6 : decode prog_30_method_1_code 6 = .ok (.putfield 7, 3) := by decide +kernel
theorem own_d_prog_30_method_1_code_9 : decode prog_30_method_1_code 9 = .ok (.aload_n 0, 1) := by decide +kernel
theorem own_d_prog_30_method_1_code_10 : decode prog_30_method_1_code 10 = .ok (.aload_n 2, 1) := by decide +kernel
theorem own_d_prog_30_method_1_code_11 : decode prog_30_method_1_code 11 = .ok (.putfield 13, 3) := by decide +kernel
theorem own_d_prog_30_method_1_code_14 : decode prog_30_method_1_code 14 = .ok (.return_, 1) := by decide +kernel
theorem own_pd___V : parseMethodDescriptor "()V" = some ⟨[], none⟩ := by decide +kernel
theorem own_pn_com_example_restate_restate_Operation_Target : plainName "com/example/restate/restate/Operation$Target" = true := by first | (simp [plainName, overriddenIn]; done) | decide +kernel
theorem own_ef_prog_30_method_1_code_xxn (m : MethodId) (x0 : Addr) (x1 : Addr) : entryFrame m #[(.ref x0), (.ref x1), .null] 3 = mkF m 0 #[.val (.ref x0), .val (.ref x1), .val .null] [] := by first | (simp [entryFrame, mkF, argsToLocals, Value.category]; done) | rfl
set_option maxRecDepth 65536 in
set_option maxHeartbeats 40000000 in
theorem rpN (l : Launch) (Z : State) (a0 : Array Value) (hw : ∀ d ∈ tables_1, d.before a0 Z = true) (ws : List Jvm.Cond) (a1 a2 : Addr) (h0 : Heap) (n0 : Nat) (Z0 : n0 ≤ h0.size) (E_a1 : Exa Z h0 a1 "com/example/restate/restate/Operation$Target") (F_type_a1 : Fld Z h0 a1 "com/example/restate/restate/Operation$Target" "type" "Ljava/lang/String;" .null) (F_name_a1 : Fld Z h0 a1 "com/example/restate/restate/Operation$Target" "name" "Ljava/lang/String;" .null) (g_a1 : n0 ≤ a1) :
    MetFree l (⟨"com/example/restate/restate/Operation$Target", "<init>", "(Ljava/lang/String;Ljava/lang/String;)V"⟩ : MethodName) (head1 (Jvm.Cond.code (⟨"com/example/restate/restate/Operation$Target", "<init>", "(Ljava/lang/String;Ljava/lang/String;)V"⟩ : MethodName) prog_30_method_1_code 3 none :: ws) ({ frames := 2, cells := 0, slots := 0, locals := 24 } : Room)) (fun a U => a = #[(.ref a1), (.ref a2), .null] ∧ Z.Warmed39 U.vm ∧ U.heap = h0) (fun _ _ _ _ _ => True) (fun _ U o U' => ∃ vr_ Lr_, o = .returned vr_ ∧ QP Z a1 a2 h0 n0 vr_ U'.heap Lr_ ∧ FrameEnd U o U' Lr_ 0 0) := by
  refine MetFree.of_bodySF (plainFor_of_name own_pn_com_example_restate_restate_Operation_Target) hisR ?_
  intro p e s m args below meth c s₁ Bd hml0 hP hK
  obtain ⟨rfl, hZ, hh⟩ := hP
  have hx := Bd.exec
  have hby := Bd.bytes
  have hml : c.maxLocals = 3 := hml0
  have hown : s.vm.findClass "com/example/restate/restate/Operation$Target" = some m.cls := findClass_of_methodNamed Bd.named
  have hnm := (name_of_methodNamed Bd.named Bd.method).1
  have X0 : Stand p l e ({ frames := 2, cells := 0, slots := 0, locals := 24 } : Room) s m #[(.ref a1), (.ref a2), .null] below meth c s₁ [] 0 0 := Stand.of_body Bd
  have e0 : s₁.heap = h0 := by rw [← hh, Bd.state]; rfl
  have N0 := Fr.nil n0
  have pre0 : ∀ t, Steps p.tables e below (s₁.setTop (mkF m 0 #[.val (.ref a1), .val (.ref a2), .val .null] [])) t → Steps p.tables e below (s₁.setTop (entryFrame m #[(.ref a1), (.ref a2), .null] 3)) t := fun t k => castTop (own_ef_prog_30_method_1_code_xxn m a1 a2) k
  obtain ⟨_, _, ⟨T1, L1, k1, n1⟩, -, X1, ⟨Lc1, hQ1, l1, y1, z1⟩, st1⟩ := X0.specialBack hx (y := (⟨"java/lang/Record", "<init>", "()V"⟩ : MethodName)) rfl hown (mvT hZ (hw _ (List.mem_of_getElem? (i := 79) rfl))) (mvT hZ (hw _ (List.mem_of_getElem? (i := 80) rfl))) (mvT hZ (hw _ (List.mem_of_getElem? (i := 83) rfl))) (by decide) (backOf (W := 0) (rmR l Z a0 hw [] a1 h0 n0 (Nat.le_trans Z0 (Keep.refl h0 [a1]).1)) hZ (hw _ (List.mem_of_getElem? (i := 83) rfl)) (hw _ (List.mem_of_getElem? (i := 82) rfl)) (by decide) (by decide)) (g := (mkF m 1 #[.val (.ref a1), .val (.ref a2), .val .null] [(.ref a1)])) rfl (by rw [hml]; rfl) (Steps.refl _) (a := a1) (argsL := []) (rest := []) (lenOf own_pd___V rfl) rfl (by show 2 * 0 + _ ≤ _; exact Nat.le_of_eq rfl) (hb hby own_d_prog_30_method_1_code_1) (fun _ _ => ⟨rfl, e0, (by decide : 0 + 0 ≤ _), (by decide : 0 + 0 ≤ _)⟩)
  dsimp only [Pt.U, Pt.locs, Pt.cells, Pt.slots] at X1 l1 y1 z1 st1 hQ1
  rw [l1] at X1
  clear l1; subst y1 z1
  obtain ⟨rfl, N1q, e1q⟩ := hQ1
  have N1a := Fr.app N0 N1q
  obtain ⟨T2, h2, X2, e2, W2, st2⟩ := putF X1 hx hZ hown (host := "") (Or.inl (hw _ (List.mem_of_getElem? (i := 85) rfl))) Via.refl e1q F_type_a1 E_a1 (Or.inr ⟨(hw _ (List.mem_of_getElem? (i := 86) rfl)), rfl, hnm⟩) (hw _ (List.mem_of_getElem? (i := 74) rfl)) (ty := (.object "java/lang/String")) (by decide) rfl rfl (g := (mkF m 6 #[.val (.ref a1), .val (.ref a2), .val .null] [(.ref a2), (.ref a1)])) rfl rfl (hb hby own_d_prog_30_method_1_code_6)
  have Fw2 := F_type_a1.same W2
  have Nf2 := Fr.snoc X2 N1a g_a1
  have K1 : Keep h0 h2 [a1] := (Keep.refl h0 [a1]).wr W2 (Or.inl (List.mem_of_getElem? (i := 0) rfl))
  have f3 : Fld Z h2 a1 "com/example/restate/restate/Operation$Target" "name" "Ljava/lang/String;" .null := (F_name_a1.other W2 (Or.inr (slot_ne (Or.inr (hw _ (List.mem_of_getElem? (i := 88) rfl))) (Or.inr (hw _ (List.mem_of_getElem? (i := 86) rfl))) (by decide) (t := (.object "java/lang/String")) (t' := (.object "java/lang/String")) (by decide) (by decide))))
  have f4 : Exa Z h2 a1 "com/example/restate/restate/Operation$Target" := (E_a1.wr W2)
  obtain ⟨T5, h5, X5, e5, W5, st5⟩ := putF X2 hx hZ hown (host := "") (Or.inl (hw _ (List.mem_of_getElem? (i := 87) rfl))) Via.refl e2 f3 f4 (Or.inr ⟨(hw _ (List.mem_of_getElem? (i := 88) rfl)), rfl, hnm⟩) (hw _ (List.mem_of_getElem? (i := 74) rfl)) (ty := (.object "java/lang/String")) (by decide) rfl rfl (g := (mkF m 11 #[.val (.ref a1), .val (.ref a2), .val .null] [.null, (.ref a1)])) rfl rfl (hb hby own_d_prog_30_method_1_code_11)
  have Fw5 := f3.same W5
  have Nf5 := Fr.snoc X5 Nf2 g_a1
  have K2 : Keep h0 h5 [a1] := K1.wr W5 (Or.inl (List.mem_of_getElem? (i := 0) rfl))
  have f6 : Fld Z h5 a1 "com/example/restate/restate/Operation$Target" "type" "Ljava/lang/String;" (.ref a2) := (Fw2.other W5 (Or.inr (slot_ne (Or.inr (hw _ (List.mem_of_getElem? (i := 86) rfl))) (Or.inr (hw _ (List.mem_of_getElem? (i := 88) rfl))) (by decide) (t := (.object "java/lang/String")) (t' := (.object "java/lang/String")) (by decide) (by decide))))
  obtain ⟨fs, hr, hrun, hended, hW, hsame⟩ := X5.leave (v := none) (fun _ => rfl)
  refine ⟨_, _, pre0 _ ?_, hrun, hended, _, _, rfl, ?_, ⟨_, rfl⟩, hW, hsame.mono (by decide) (by decide)⟩
  · show Steps p.tables e below (s₁.setTop (mkF m 0 #[.val (.ref a1), .val (.ref a2), .val .null] [])) _
    refine XS.aloadN X0.here hx rfl (hb hby own_d_prog_30_method_1_code_0) rfl rfl ?_
    show Steps p.tables e below (s₁.setTop (mkF m 1 #[.val (.ref a1), .val (.ref a2), .val .null] [(.ref a1)])) _
    refine st1.trans ?_
    refine XS.aloadN X1.here hx rfl (hb hby own_d_prog_30_method_1_code_4) rfl rfl ?_
    refine XS.aloadN X1.here hx rfl (hb hby own_d_prog_30_method_1_code_5) rfl rfl ?_
    show Steps p.tables e below (T1.setTop (mkF m 6 #[.val (.ref a1), .val (.ref a2), .val .null] [(.ref a2), (.ref a1)])) _
    refine st2 _ ?_
    refine XS.aloadN X2.here hx rfl (hb hby own_d_prog_30_method_1_code_9) rfl rfl ?_
    refine XS.aloadN X2.here hx rfl (hb hby own_d_prog_30_method_1_code_10) rfl rfl ?_
    show Steps p.tables e below (T2.setTop (mkF m 11 #[.val (.ref a1), .val (.ref a2), .val .null] [.null, (.ref a1)])) _
    refine st5 _ ?_
    show Steps p.tables e below (T5.setTop (mkF m 14 #[.val (.ref a1), .val (.ref a2), .val .null] [])) _
    exact X5.returnOut hx Bd.returns (hb hby own_d_prog_30_method_1_code_14) hr
  · show QP Z a1 a2 h0 n0 _ T5.heap _
    rw [e5]
    exact ⟨rfl, Nf5, K2, f6⟩
theorem own_ef_prog_30_method_1_code_xxx (m : MethodId) (x0 : Addr) (x1 : Addr) (x2 : Addr) : entryFrame m #[(.ref x0), (.ref x1), (.ref x2)] 3 = mkF m 0 #[.val (.ref x0), .val (.ref x1), .val (.ref x2)] [] := by first | (simp [entryFrame, mkF, argsToLocals, Value.category]; done) | rfl
set_option maxRecDepth 65536 in
set_option maxHeartbeats 40000000 in
theorem rpS (l : Launch) (Z : State) (a0 : Array Value) (hw : ∀ d ∈ tables_1, d.before a0 Z = true) (ws : List Jvm.Cond) (a1 a2 a3 : Addr) (h0 : Heap) (n0 : Nat) (Z0 : n0 ≤ h0.size) (E_a1 : Exa Z h0 a1 "com/example/restate/restate/Operation$Target") (F_type_a1 : Fld Z h0 a1 "com/example/restate/restate/Operation$Target" "type" "Ljava/lang/String;" .null) (F_name_a1 : Fld Z h0 a1 "com/example/restate/restate/Operation$Target" "name" "Ljava/lang/String;" .null) (g_a1 : n0 ≤ a1) :
    MetFree l (⟨"com/example/restate/restate/Operation$Target", "<init>", "(Ljava/lang/String;Ljava/lang/String;)V"⟩ : MethodName) (head1 (Jvm.Cond.code (⟨"com/example/restate/restate/Operation$Target", "<init>", "(Ljava/lang/String;Ljava/lang/String;)V"⟩ : MethodName) prog_30_method_1_code 3 none :: ws) ({ frames := 2, cells := 0, slots := 0, locals := 24 } : Room)) (fun a U => a = #[(.ref a1), (.ref a2), (.ref a3)] ∧ Z.Warmed39 U.vm ∧ U.heap = h0) (fun _ _ _ _ _ => True) (fun _ U o U' => ∃ vr_ Lr_, o = .returned vr_ ∧ QP Z a1 a2 h0 n0 vr_ U'.heap Lr_ ∧ FrameEnd U o U' Lr_ 0 0) := by
  refine MetFree.of_bodySF (plainFor_of_name own_pn_com_example_restate_restate_Operation_Target) hisR ?_
  intro p e s m args below meth c s₁ Bd hml0 hP hK
  obtain ⟨rfl, hZ, hh⟩ := hP
  have hx := Bd.exec
  have hby := Bd.bytes
  have hml : c.maxLocals = 3 := hml0
  have hown : s.vm.findClass "com/example/restate/restate/Operation$Target" = some m.cls := findClass_of_methodNamed Bd.named
  have hnm := (name_of_methodNamed Bd.named Bd.method).1
  have X0 : Stand p l e ({ frames := 2, cells := 0, slots := 0, locals := 24 } : Room) s m #[(.ref a1), (.ref a2), (.ref a3)] below meth c s₁ [] 0 0 := Stand.of_body Bd
  have e0 : s₁.heap = h0 := by rw [← hh, Bd.state]; rfl
  have N0 := Fr.nil n0
  have pre0 : ∀ t, Steps p.tables e below (s₁.setTop (mkF m 0 #[.val (.ref a1), .val (.ref a2), .val (.ref a3)] [])) t → Steps p.tables e below (s₁.setTop (entryFrame m #[(.ref a1), (.ref a2), (.ref a3)] 3)) t := fun t k => castTop (own_ef_prog_30_method_1_code_xxx m a1 a2 a3) k
  obtain ⟨_, _, ⟨T1, L1, k1, n1⟩, -, X1, ⟨Lc1, hQ1, l1, y1, z1⟩, st1⟩ := X0.specialBack hx (y := (⟨"java/lang/Record", "<init>", "()V"⟩ : MethodName)) rfl hown (mvT hZ (hw _ (List.mem_of_getElem? (i := 79) rfl))) (mvT hZ (hw _ (List.mem_of_getElem? (i := 80) rfl))) (mvT hZ (hw _ (List.mem_of_getElem? (i := 83) rfl))) (by decide) (backOf (W := 0) (rmR l Z a0 hw [] a1 h0 n0 (Nat.le_trans Z0 (Keep.refl h0 [a1]).1)) hZ (hw _ (List.mem_of_getElem? (i := 83) rfl)) (hw _ (List.mem_of_getElem? (i := 82) rfl)) (by decide) (by decide)) (g := (mkF m 1 #[.val (.ref a1), .val (.ref a2), .val (.ref a3)] [(.ref a1)])) rfl (by rw [hml]; rfl) (Steps.refl _) (a := a1) (argsL := []) (rest := []) (lenOf own_pd___V rfl) rfl (by show 2 * 0 + _ ≤ _; exact Nat.le_of_eq rfl) (hb hby own_d_prog_30_method_1_code_1) (fun _ _ => ⟨rfl, e0, (by decide : 0 + 0 ≤ _), (by decide : 0 + 0 ≤ _)⟩)
  dsimp only [Pt.U, Pt.locs, Pt.cells, Pt.slots] at X1 l1 y1 z1 st1 hQ1
  rw [l1] at X1
  clear l1; subst y1 z1
  obtain ⟨rfl, N1q, e1q⟩ := hQ1
  have N1a := Fr.app N0 N1q
  obtain ⟨T2, h2, X2, e2, W2, st2⟩ := putF X1 hx hZ hown (host := "") (Or.inl (hw _ (List.mem_of_getElem? (i := 85) rfl))) Via.refl e1q F_type_a1 E_a1 (Or.inr ⟨(hw _ (List.mem_of_getElem? (i := 86) rfl)), rfl, hnm⟩) (hw _ (List.mem_of_getElem? (i := 74) rfl)) (ty := (.object "java/lang/String")) (by decide) rfl rfl (g := (mkF m 6 #[.val (.ref a1), .val (.ref a2), .val (.ref a3)] [(.ref a2), (.ref a1)])) rfl rfl (hb hby own_d_prog_30_method_1_code_6)
  have Fw2 := F_type_a1.same W2
  have Nf2 := Fr.snoc X2 N1a g_a1
  have K1 : Keep h0 h2 [a1] := (Keep.refl h0 [a1]).wr W2 (Or.inl (List.mem_of_getElem? (i := 0) rfl))
  have f3 : Fld Z h2 a1 "com/example/restate/restate/Operation$Target" "name" "Ljava/lang/String;" .null := (F_name_a1.other W2 (Or.inr (slot_ne (Or.inr (hw _ (List.mem_of_getElem? (i := 88) rfl))) (Or.inr (hw _ (List.mem_of_getElem? (i := 86) rfl))) (by decide) (t := (.object "java/lang/String")) (t' := (.object "java/lang/String")) (by decide) (by decide))))
  have f4 : Exa Z h2 a1 "com/example/restate/restate/Operation$Target" := (E_a1.wr W2)
  obtain ⟨T5, h5, X5, e5, W5, st5⟩ := putF X2 hx hZ hown (host := "") (Or.inl (hw _ (List.mem_of_getElem? (i := 87) rfl))) Via.refl e2 f3 f4 (Or.inr ⟨(hw _ (List.mem_of_getElem? (i := 88) rfl)), rfl, hnm⟩) (hw _ (List.mem_of_getElem? (i := 74) rfl)) (ty := (.object "java/lang/String")) (by decide) rfl rfl (g := (mkF m 11 #[.val (.ref a1), .val (.ref a2), .val (.ref a3)] [(.ref a3), (.ref a1)])) rfl rfl (hb hby own_d_prog_30_method_1_code_11)
  have Fw5 := f3.same W5
  have Nf5 := Fr.snoc X5 Nf2 g_a1
  have K2 : Keep h0 h5 [a1] := K1.wr W5 (Or.inl (List.mem_of_getElem? (i := 0) rfl))
  have f6 : Fld Z h5 a1 "com/example/restate/restate/Operation$Target" "type" "Ljava/lang/String;" (.ref a2) := (Fw2.other W5 (Or.inr (slot_ne (Or.inr (hw _ (List.mem_of_getElem? (i := 86) rfl))) (Or.inr (hw _ (List.mem_of_getElem? (i := 88) rfl))) (by decide) (t := (.object "java/lang/String")) (t' := (.object "java/lang/String")) (by decide) (by decide))))
  obtain ⟨fs, hr, hrun, hended, hW, hsame⟩ := X5.leave (v := none) (fun _ => rfl)
  refine ⟨_, _, pre0 _ ?_, hrun, hended, _, _, rfl, ?_, ⟨_, rfl⟩, hW, hsame.mono (by decide) (by decide)⟩
  · show Steps p.tables e below (s₁.setTop (mkF m 0 #[.val (.ref a1), .val (.ref a2), .val (.ref a3)] [])) _
    refine XS.aloadN X0.here hx rfl (hb hby own_d_prog_30_method_1_code_0) rfl rfl ?_
    show Steps p.tables e below (s₁.setTop (mkF m 1 #[.val (.ref a1), .val (.ref a2), .val (.ref a3)] [(.ref a1)])) _
    refine st1.trans ?_
    refine XS.aloadN X1.here hx rfl (hb hby own_d_prog_30_method_1_code_4) rfl rfl ?_
    refine XS.aloadN X1.here hx rfl (hb hby own_d_prog_30_method_1_code_5) rfl rfl ?_
    show Steps p.tables e below (T1.setTop (mkF m 6 #[.val (.ref a1), .val (.ref a2), .val (.ref a3)] [(.ref a2), (.ref a1)])) _
    refine st2 _ ?_
    refine XS.aloadN X2.here hx rfl (hb hby own_d_prog_30_method_1_code_9) rfl rfl ?_
    refine XS.aloadN X2.here hx rfl (hb hby own_d_prog_30_method_1_code_10) rfl rfl ?_
    show Steps p.tables e below (T2.setTop (mkF m 11 #[.val (.ref a1), .val (.ref a2), .val (.ref a3)] [(.ref a3), (.ref a1)])) _
    refine st5 _ ?_
    show Steps p.tables e below (T5.setTop (mkF m 14 #[.val (.ref a1), .val (.ref a2), .val (.ref a3)] [])) _
    exact X5.returnOut hx Bd.returns (hb hby own_d_prog_30_method_1_code_14) hr
  · show QP Z a1 a2 h0 n0 _ T5.heap _
    rw [e5]
    exact ⟨rfl, Nf5, K2, f6⟩
def own_EX : List Int32 := ([101, 120, 104, 105, 98, 105, 116] : List Int32)
def own_SC : List Int32 := ([115, 99, 104, 101, 100, 117, 108, 101] : List Int32)
theorem own_EX_lat : ∀ c ∈ own_EX, ¬ c < 0 ∧ ¬ (255 : Int32) < c := by decide
theorem own_SC_lat : ∀ c ∈ own_SC, ¬ c < 0 ∧ ¬ (255 : Int32) < c := by decide
def own_att (ts : List Int32) : Int32 := if ts = own_EX then 1 else if ts = own_SC then 1 else 0
theorem own_monoE {l : Launch} {R : Room} {p : Program} {e : Env} {below : List Frame} {s : State} {args : Array Value} {y : MethodName} {len W : Nat} {P : Pt → Array Value → Prop} {h : Heap} {cs ds : List Int32} (B : Back l R p e below s args y len W P (fun A _ v B => ∃ L, (((v = some (.int 1) ∧ cs = ds) ∨ (v = some (.int 0) ∧ ¬ cs = ds)) ∧ L = [] ∧ B.U.heap = h) ∧ B.locs = A.locs ++ L ∧ B.cells = A.cells + 0 ∧ B.slots = A.slots + 0)) (q : cs = ds) :
    Back l R p e below s args y len W P (fun A _ v B => ∃ L, (v = some (.int (1 : Int32)) ∧ L = [] ∧ B.U.heap = h) ∧ B.locs = A.locs ++ L ∧ B.cells = A.cells + 0 ∧ B.slots = A.slots + 0) :=
  Back.mono B (fun _ _ hp => hp) (fun _ _ _ _ _ ⟨L, ⟨hv, h2, h3⟩, h4⟩ => ⟨L, ⟨hv.elim (fun z => z.1) (fun z => absurd q z.2), h2, h3⟩, h4⟩)
theorem own_monoN {l : Launch} {R : Room} {p : Program} {e : Env} {below : List Frame} {s : State} {args : Array Value} {y : MethodName} {len W : Nat} {P : Pt → Array Value → Prop} {h : Heap} {cs ds : List Int32} (B : Back l R p e below s args y len W P (fun A _ v B => ∃ L, (((v = some (.int 1) ∧ cs = ds) ∨ (v = some (.int 0) ∧ ¬ cs = ds)) ∧ L = [] ∧ B.U.heap = h) ∧ B.locs = A.locs ++ L ∧ B.cells = A.cells + 0 ∧ B.slots = A.slots + 0)) (q : ¬ cs = ds) :
    Back l R p e below s args y len W P (fun A _ v B => ∃ L, (v = some (.int (0 : Int32)) ∧ L = [] ∧ B.U.heap = h) ∧ B.locs = A.locs ++ L ∧ B.cells = A.cells + 0 ∧ B.slots = A.slots + 0) :=
  Back.mono B (fun _ _ hp => hp) (fun _ _ _ _ _ ⟨L, ⟨hv, h2, h3⟩, h4⟩ => ⟨L, ⟨hv.elim (fun z => absurd z.2 q) (fun z => z.1), h2, h3⟩, h4⟩)
def QK (b : Int32) (h0 : Heap) (n0 : Nat) (v : Option Value) (h : Heap) (L : List Loc) : Prop := v = some (.int b) ∧ Fr n0 L ∧ Keep h0 h []
theorem own_d_prog_30_method_6_code_0 : decode prog_30_method_6_code 0 = .ok (.aload_n 0, 1) := by decide +kernel
theorem own_d_prog_30_method_6_code_1 : decode prog_30_method_6_code 1 = .ok (.getfield 7, 3) := by decide +kernel
theorem own_d_prog_30_method_6_code_4 : decode prog_30_method_6_code 4 = .ok (.ldc 55, 2) := by decide +kernel
theorem own_d_prog_30_method_6_code_6 : decode prog_30_method_6_code 6 = .ok (.invokevirtual 57, 3) := by decide +kernel
theorem own_d_prog_30_method_6_code_9 : decode prog_30_method_6_code 9 = .ok (.ifCond .ne 15, 3) := by decide +kernel
theorem own_d_prog_30_method_6_code_24 : decode prog_30_method_6_code 24 = .ok (.iconst 1, 1) := by decide +kernel
theorem own_d_prog_30_method_6_code_25 : decode prog_30_method_6_code 25 = .ok (.goto 4, 3) := by decide +kernel
theorem own_d_prog_30_method_6_code_29 : decode prog_30_method_6_code 29 = .ok (.ireturn, 1) := by decide +kernel
theorem own_lit_exhibit : (∀ c ∈ ("exhibit" : String).toList, c.toNat < 256) ∧ ("exhibit" : String).toList.map (fun c => Value.int (Jvm.Lit.byteI c.toNat.toUInt16)) = [.int (101 : Int32), .int (120 : Int32), .int (104 : Int32), .int (105 : Int32), .int (98 : Int32), .int (105 : Int32), .int (116 : Int32)] := by decide +kernel
theorem own_pd__Ljava_lang_Object__Z : parseMethodDescriptor "(Ljava/lang/Object;)Z" = some ⟨[(.object "java/lang/Object")], some .boolean⟩ := by decide +kernel
theorem own_ef_prog_30_method_6_code_x (m : MethodId) (x0 : Addr) : entryFrame m #[(.ref x0)] 1 = mkF m 0 #[.val (.ref x0)] [] := by first | (simp [entryFrame, mkF, argsToLocals, Value.category]; done) | rfl
set_option maxRecDepth 65536 in
set_option maxHeartbeats 40000000 in
theorem ri1 (l : Launch) (Z : State) (a0 : Array Value) (hw : ∀ d ∈ tables_1, d.before a0 Z = true) (ws : List Jvm.Cond) (hEL : EW Z a0 own_EL) (a1 a2 : Addr) (ts : List Int32) (G1 : Int32) (G3 : Value) (h0 : Heap) (n0 : Nat) (Z0 : n0 ≤ h0.size) (O2 : Sta Z Z.heap "java/lang/String" "COMPACT_STRINGS" "Z" (.int G1)) (P5 : ¬ (G1 = (0 : Int32))) (O4 : Sta Z Z.heap "jdk/internal/util/Preconditions" "SIOOBE_FORMATTER" "Ljava/util/function/BiFunction;" G3) (rG3 : G3.isRef = true) (O0 : Old Z n0 h0) (E_a1 : Exa Z h0 a1 "com/example/restate/restate/Operation$Target") (F_type_a1 : Fld Z h0 a1 "com/example/restate/restate/Operation$Target" "type" "Ljava/lang/String;" (.ref a2)) (S_a2 : StrV Z h0 a2 ts) (hlen4 : ts.length ≤ 4000) (hq1 : ts = own_EX) :
    MetFree l (⟨"com/example/restate/restate/Operation$Target", "isAttached", "()Z"⟩ : MethodName) (head1 (Jvm.Cond.code (⟨"com/example/restate/restate/Operation$Target", "isAttached", "()Z"⟩ : MethodName) prog_30_method_6_code 1 (some .boolean) :: ws) ({ frames := 3, cells := 4, slots := 68, locals := 42 } : Room)) (fun a U => a = #[(.ref a1)] ∧ Z.Warmed39 U.vm ∧ U.heap = h0 ∧ CHv Z own_EL U.vm h0) (fun _ _ _ _ _ => True) (fun _ U o U' => ∃ vr_ Lr_, o = .returned vr_ ∧ QK 1 h0 n0 vr_ U'.heap Lr_ ∧ CHr Z own_EL U.vm U.heap U'.vm U'.heap ∧ ReturnedEndW U o U' Lr_ 4 68) := by
  refine MetFree.of_bodySF (plainFor_of_name own_pn_com_example_restate_restate_Operation_Target) hisR ?_
  intro p e s m args below meth c s₁ Bd hml0 hP hK
  obtain ⟨rfl, hZ, hh, hCH0⟩ := hP
  have hx := Bd.exec
  have hby := Bd.bytes
  have hml : c.maxLocals = 1 := hml0
  have hown : s.vm.findClass "com/example/restate/restate/Operation$Target" = some m.cls := findClass_of_methodNamed Bd.named
  have hnm := (name_of_methodNamed Bd.named Bd.method).1
  have X0 : Stand p l e ({ frames := 3, cells := 4, slots := 68, locals := 42 } : Room) (s.setVm s.vm) m #[(.ref a1)] below meth c s₁ [] 0 0 := Stand.of_body Bd
  have e0 : s₁.heap = h0 := by rw [← hh, Bd.state]; rfl
  have N0 := Fr.nil n0
  have CH0 : CHr Z own_EL s.vm h0 s.vm h0 := CHr.refl hCH0
  have hS0 : s.Since s.vm 0 := State.WarmedH.since (State.WarmedH.refl s) 0
  have pre0 : ∀ t, Steps p.tables e below (s₁.setTop (mkF m 0 #[.val (.ref a1)] [])) t → Steps p.tables e below (s₁.setTop (entryFrame m #[(.ref a1)] 1)) t := fun t k => castTop (own_ef_prog_30_method_6_code_x m a1) k
  obtain ⟨T1, X1, e1, st1⟩ := getF X0 hx hZ hown (host := "") (Or.inl (hw _ (List.mem_of_getElem? (i := 85) rfl))) Via.refl e0 F_type_a1 (g := (mkF m 1 #[.val (.ref a1)] [(.ref a1)])) rfl rfl (hb hby own_d_prog_30_method_6_code_1)
  obtain ⟨lit2, T2, h2, kl2, lba2, kk2, X2, e2, E2, hS2, hk2, hZ2, hown2, Ea2, Fc2, Fv2, V2, la2, lb2, C2, Lt2, sf2, st2⟩ := ldcCH X1 hx hZ hown (hw _ (List.mem_of_getElem? (i := 94) rfl)) (own_wS hw) e1 hS0 (Nat.zero_le _) hEL (by decide : ("com/example/restate/restate/Operation$Target", 55) ∈ own_EL) CH0.1 (vs := [.int (101 : Int32), .int (120 : Int32), .int (104 : Int32), .int (105 : Int32), .int (98 : Int32), .int (105 : Int32), .int (116 : Int32)]) (z := (7 : Int32)) own_lit_exhibit (by decide) (by decide) (g := (mkF m 4 #[.val (.ref a1)] [(.ref a2)])) rfl (hb hby own_d_prog_30_method_6_code_4) (n := 28) (by decide) (by decide) (by decide) (by decide)
  have CH1 : CHr Z own_EL s.vm h0 T2.vm h2 := CH0.trans C2
  have K1 : Keep h0 h2 [] := (Keep.refl h0 []).ext E2
  have SL2 : StrV Z h2 lit2 own_EX := ⟨lba2, kk2, _, _, Ea2, Fv2, Fc2, V2, StrChars.Road.codOf (cs := own_EX) (n := 7) rfl (fun c hc => (own_EX_lat c hc).2), own_up _ own_EX_lat⟩
  have f4 : StrV Z h2 a2 ts := (S_a2.keep0 ((Keep.refl h0 []).ext E2))
  obtain ⟨sb5, sk5, sN5, sv5, sE5, sV5, sC5, sA5, sc5, su5⟩ := id f4
  obtain ⟨sb6, sk6, sN6, sv6, sE6, sV6, sC6, sA6, sc6, su6⟩ := id SL2
  have f7 : Old Z n0 h2 := (O0.ext E2)
  obtain ⟨cq3, kq3, q3a, q3b, q3c⟩ := isOf hZ2 e2 f4.exa
  obtain ⟨_, _, ⟨T3, L3, k3, n3⟩, -, X3, ⟨Lc3, hQ3, l3, y3, z3⟩, st3⟩ := X2.virtualBack hx (y := (⟨"java/lang/String", "equals", "(Ljava/lang/Object;)Z"⟩ : MethodName)) (z := (⟨"java/lang/String", "equals", "(Ljava/lang/Object;)Z"⟩ : MethodName)) hown2 (mvT hZ2 (hw _ (List.mem_of_getElem? (i := 95) rfl))) (mvT hZ2 (hw _ (List.mem_of_getElem? (i := 96) rfl))) (notFace_of_selects (args := #[]) (mvT hZ2 (hw _ (List.mem_of_getElem? (i := 98) rfl)))) (mvT hZ2 (hw _ (List.mem_of_getElem? (i := 98) rfl))) (mvT hZ2 (hw _ (List.mem_of_getElem? (i := 97) rfl))) (by decide) (own_monoE (StrChars.Road.eqW (W := 0) hZ2 (own_heq hw) (kI := 4) (hw _ (List.mem_of_getElem? (i := 2) rfl)) sE5 sV5 sC5 sA5 sc5 su5 hlen4 sE6 sV6 sC6 sA6 sc6 su6 (by decide) (O2.ext f7.2) P5 (by decide) (by decide)) hq1) q3a q3c (g := (mkF m 6 #[.val (.ref a1)] [(.ref lit2), (.ref a2)])) rfl (by rw [hml]; rfl) (Steps.refl _) (argsL := [(.ref lit2)]) (rest := []) (lenOf own_pd__Ljava_lang_Object__Z rfl) rfl (by show 2 * 0 + _ ≤ _; exact Nat.le_of_eq rfl) (hb hby own_d_prog_30_method_6_code_6) (fun _ _ => ⟨rfl, e2, (by decide : 2 + 0 ≤ _), (by decide : 32 + 0 ≤ _)⟩)
  dsimp only [Pt.U, Pt.locs, Pt.cells, Pt.slots] at X3 l3 y3 z3 st3 hQ3
  rw [l3] at X3
  clear l3; subst y3 z3
  obtain ⟨rfl, rfl, e3q⟩ := hQ3
  have N3a := Fr.app N0 (Fr.nil n0)
  obtain ⟨fs, hr, hrun, hended, hend⟩ := X3.leaveW hS2 (by rw [e3q]; exact hk2) (v := some (.int (1 : Int32))) (fun h => by rw [Bd.returns] at h; cases h)
  refine ⟨_, _, pre0 _ ?_, hrun, hended, _, _, rfl, ?_, ?_, hend.1, hend.2.1, hend.2.2.1, hend.2.2.2.mono (by decide) (by decide)⟩
  · show Steps p.tables e below (s₁.setTop (mkF m 0 #[.val (.ref a1)] [])) _
    refine XS.aloadN X0.here hx rfl (hb hby own_d_prog_30_method_6_code_0) rfl rfl ?_
    show Steps p.tables e below (s₁.setTop (mkF m 1 #[.val (.ref a1)] [(.ref a1)])) _
    refine st1 _ ?_
    show Steps p.tables e below (T1.setTop (mkF m 4 #[.val (.ref a1)] [(.ref a2)])) _
    refine st2 _ ?_
    show Steps p.tables e below (T2.setTop (mkF m 6 #[.val (.ref a1)] [(.ref lit2), (.ref a2)])) _
    refine st3.trans ?_
    show Steps p.tables e below (T3.setTop (mkF m 9 #[.val (.ref a1)] [(.int (1 : Int32))])) _
    refine XS.ifYes X3.here hx rfl (pc0 := 9) (pc' := 24) rfl (hb hby own_d_prog_30_method_6_code_9) rfl ((if0 _ _).trans (feq (by decide : ¬ ((1 : Int32) = (0 : Int32)))).2) (by decide) (by decide) ?_
    refine XS.iconst X3.here hx rfl (hb hby own_d_prog_30_method_6_code_24) ?_
    refine XS.goto X3.here hx rfl (pc0 := 25) (pc' := 29) rfl (hb hby own_d_prog_30_method_6_code_25) (by decide) (by decide) ?_
    show Steps p.tables e below (T3.setTop (mkF m 29 #[.val (.ref a1)] [(.int (1 : Int32))])) _
    exact retN X3 hx (t := .boolean) Bd.returns (by simp) (hb hby own_d_prog_30_method_6_code_29) hr
  · show QK 1 h0 n0 _ T3.heap _
    rw [e3q]
    exact ⟨rfl, N3a, K1⟩
  · show CHr Z own_EL s.vm s.heap T3.vm T3.heap
    rw [hh, e3q]
    exact CH1.trans (CHv.at X3 hZ2 hEL CH1.1)
theorem own_d_prog_30_method_6_code_12 : decode prog_30_method_6_code 12 = .ok (.aload_n 0, 1) := by decide +kernel
theorem own_d_prog_30_method_6_code_13 : decode prog_30_method_6_code 13 = .ok (.getfield 7, 3) := by decide +kernel
theorem own_d_prog_30_method_6_code_16 : decode prog_30_method_6_code 16 = .ok (.ldc 61, 2) := by decide +kernel
theorem own_d_prog_30_method_6_code_18 : decode prog_30_method_6_code 18 = .ok (.invokevirtual 57, 3) := by decide +kernel
theorem own_d_prog_30_method_6_code_21 : decode prog_30_method_6_code 21 = .ok (.ifCond .eq 7, 3) := by decide +kernel
theorem own_lit_schedule : (∀ c ∈ ("schedule" : String).toList, c.toNat < 256) ∧ ("schedule" : String).toList.map (fun c => Value.int (Jvm.Lit.byteI c.toNat.toUInt16)) = [.int (115 : Int32), .int (99 : Int32), .int (104 : Int32), .int (101 : Int32), .int (100 : Int32), .int (117 : Int32), .int (108 : Int32), .int (101 : Int32)] := by decide +kernel
set_option maxRecDepth 65536 in
set_option maxHeartbeats 40000000 in
theorem ri2 (l : Launch) (Z : State) (a0 : Array Value) (hw : ∀ d ∈ tables_1, d.before a0 Z = true) (ws : List Jvm.Cond) (hEL : EW Z a0 own_EL) (a1 a2 : Addr) (ts : List Int32) (G1 : Int32) (G3 : Value) (h0 : Heap) (n0 : Nat) (Z0 : n0 ≤ h0.size) (O2 : Sta Z Z.heap "java/lang/String" "COMPACT_STRINGS" "Z" (.int G1)) (P5 : ¬ (G1 = (0 : Int32))) (O4 : Sta Z Z.heap "jdk/internal/util/Preconditions" "SIOOBE_FORMATTER" "Ljava/util/function/BiFunction;" G3) (rG3 : G3.isRef = true) (O0 : Old Z n0 h0) (E_a1 : Exa Z h0 a1 "com/example/restate/restate/Operation$Target") (F_type_a1 : Fld Z h0 a1 "com/example/restate/restate/Operation$Target" "type" "Ljava/lang/String;" (.ref a2)) (S_a2 : StrV Z h0 a2 ts) (hlen4 : ts.length ≤ 4000) (hq1 : ¬ ts = own_EX) (hq2 : ts = own_SC) :
    MetFree l (⟨"com/example/restate/restate/Operation$Target", "isAttached", "()Z"⟩ : MethodName) (head1 (Jvm.Cond.code (⟨"com/example/restate/restate/Operation$Target", "isAttached", "()Z"⟩ : MethodName) prog_30_method_6_code 1 (some .boolean) :: ws) ({ frames := 3, cells := 4, slots := 68, locals := 42 } : Room)) (fun a U => a = #[(.ref a1)] ∧ Z.Warmed39 U.vm ∧ U.heap = h0 ∧ CHv Z own_EL U.vm h0) (fun _ _ _ _ _ => True) (fun _ U o U' => ∃ vr_ Lr_, o = .returned vr_ ∧ QK 1 h0 n0 vr_ U'.heap Lr_ ∧ CHr Z own_EL U.vm U.heap U'.vm U'.heap ∧ ReturnedEndW U o U' Lr_ 4 68) := by
  refine MetFree.of_bodySF (plainFor_of_name own_pn_com_example_restate_restate_Operation_Target) hisR ?_
  intro p e s m args below meth c s₁ Bd hml0 hP hK
  obtain ⟨rfl, hZ, hh, hCH0⟩ := hP
  have hx := Bd.exec
  have hby := Bd.bytes
  have hml : c.maxLocals = 1 := hml0
  have hown : s.vm.findClass "com/example/restate/restate/Operation$Target" = some m.cls := findClass_of_methodNamed Bd.named
  have hnm := (name_of_methodNamed Bd.named Bd.method).1
  have X0 : Stand p l e ({ frames := 3, cells := 4, slots := 68, locals := 42 } : Room) (s.setVm s.vm) m #[(.ref a1)] below meth c s₁ [] 0 0 := Stand.of_body Bd
  have e0 : s₁.heap = h0 := by rw [← hh, Bd.state]; rfl
  have N0 := Fr.nil n0
  have CH0 : CHr Z own_EL s.vm h0 s.vm h0 := CHr.refl hCH0
  have hS0 : s.Since s.vm 0 := State.WarmedH.since (State.WarmedH.refl s) 0
  have pre0 : ∀ t, Steps p.tables e below (s₁.setTop (mkF m 0 #[.val (.ref a1)] [])) t → Steps p.tables e below (s₁.setTop (entryFrame m #[(.ref a1)] 1)) t := fun t k => castTop (own_ef_prog_30_method_6_code_x m a1) k
  obtain ⟨T1, X1, e1, st1⟩ := getF X0 hx hZ hown (host := "") (Or.inl (hw _ (List.mem_of_getElem? (i := 85) rfl))) Via.refl e0 F_type_a1 (g := (mkF m 1 #[.val (.ref a1)] [(.ref a1)])) rfl rfl (hb hby own_d_prog_30_method_6_code_1)
  obtain ⟨lit2, T2, h2, kl2, lba2, kk2, X2, e2, E2, hS2, hk2, hZ2, hown2, Ea2, Fc2, Fv2, V2, la2, lb2, C2, Lt2, sf2, st2⟩ := ldcCH X1 hx hZ hown (hw _ (List.mem_of_getElem? (i := 94) rfl)) (own_wS hw) e1 hS0 (Nat.zero_le _) hEL (by decide : ("com/example/restate/restate/Operation$Target", 55) ∈ own_EL) CH0.1 (vs := [.int (101 : Int32), .int (120 : Int32), .int (104 : Int32), .int (105 : Int32), .int (98 : Int32), .int (105 : Int32), .int (116 : Int32)]) (z := (7 : Int32)) own_lit_exhibit (by decide) (by decide) (g := (mkF m 4 #[.val (.ref a1)] [(.ref a2)])) rfl (hb hby own_d_prog_30_method_6_code_4) (n := 28) (by decide) (by decide) (by decide) (by decide)
  have CH1 : CHr Z own_EL s.vm h0 T2.vm h2 := CH0.trans C2
  have K1 : Keep h0 h2 [] := (Keep.refl h0 []).ext E2
  have SL2 : StrV Z h2 lit2 own_EX := ⟨lba2, kk2, _, _, Ea2, Fv2, Fc2, V2, StrChars.Road.codOf (cs := own_EX) (n := 7) rfl (fun c hc => (own_EX_lat c hc).2), own_up _ own_EX_lat⟩
  have f4 : StrV Z h2 a2 ts := (S_a2.keep0 ((Keep.refl h0 []).ext E2))
  obtain ⟨sb5, sk5, sN5, sv5, sE5, sV5, sC5, sA5, sc5, su5⟩ := id f4
  obtain ⟨sb6, sk6, sN6, sv6, sE6, sV6, sC6, sA6, sc6, su6⟩ := id SL2
  have f7 : Old Z n0 h2 := (O0.ext E2)
  obtain ⟨cq3, kq3, q3a, q3b, q3c⟩ := isOf hZ2 e2 f4.exa
  obtain ⟨_, _, ⟨T3, L3, k3, n3⟩, -, X3, ⟨Lc3, hQ3, l3, y3, z3⟩, st3⟩ := X2.virtualBack hx (y := (⟨"java/lang/String", "equals", "(Ljava/lang/Object;)Z"⟩ : MethodName)) (z := (⟨"java/lang/String", "equals", "(Ljava/lang/Object;)Z"⟩ : MethodName)) hown2 (mvT hZ2 (hw _ (List.mem_of_getElem? (i := 95) rfl))) (mvT hZ2 (hw _ (List.mem_of_getElem? (i := 96) rfl))) (notFace_of_selects (args := #[]) (mvT hZ2 (hw _ (List.mem_of_getElem? (i := 98) rfl)))) (mvT hZ2 (hw _ (List.mem_of_getElem? (i := 98) rfl))) (mvT hZ2 (hw _ (List.mem_of_getElem? (i := 97) rfl))) (by decide) (own_monoN (StrChars.Road.eqW (W := 0) hZ2 (own_heq hw) (kI := 4) (hw _ (List.mem_of_getElem? (i := 2) rfl)) sE5 sV5 sC5 sA5 sc5 su5 hlen4 sE6 sV6 sC6 sA6 sc6 su6 (by decide) (O2.ext f7.2) P5 (by decide) (by decide)) hq1) q3a q3c (g := (mkF m 6 #[.val (.ref a1)] [(.ref lit2), (.ref a2)])) rfl (by rw [hml]; rfl) (Steps.refl _) (argsL := [(.ref lit2)]) (rest := []) (lenOf own_pd__Ljava_lang_Object__Z rfl) rfl (by show 2 * 0 + _ ≤ _; exact Nat.le_of_eq rfl) (hb hby own_d_prog_30_method_6_code_6) (fun _ _ => ⟨rfl, e2, (by decide : 2 + 0 ≤ _), (by decide : 32 + 0 ≤ _)⟩)
  dsimp only [Pt.U, Pt.locs, Pt.cells, Pt.slots] at X3 l3 y3 z3 st3 hQ3
  rw [l3] at X3
  clear l3; subst y3 z3
  obtain ⟨rfl, rfl, e3q⟩ := hQ3
  have N3a := Fr.app N0 (Fr.nil n0)
  have f8 : Fld Z h2 a1 "com/example/restate/restate/Operation$Target" "type" "Ljava/lang/String;" (.ref a2) := (F_type_a1.ext E2)
  obtain ⟨T9, X9, e9, st9⟩ := getF X3 hx hZ2 hown2 (host := "") (Or.inl (hw _ (List.mem_of_getElem? (i := 85) rfl))) Via.refl e3q f8 (g := (mkF m 13 #[.val (.ref a1)] [(.ref a1)])) rfl rfl (hb hby own_d_prog_30_method_6_code_13)
  obtain ⟨lit10, T10, h10, kl10, lba10, kk10, X10, e10, E10, hS10, hk10, hZ10, hown10, Ea10, Fc10, Fv10, V10, la10, lb10, C10, Lt10, sf10, st10⟩ := ldcCH X9 hx hZ2 hown2 (hw _ (List.mem_of_getElem? (i := 104) rfl)) (own_wS hw) e9 hS2 hk2 hEL (by decide : ("com/example/restate/restate/Operation$Target", 61) ∈ own_EL) CH1.1 (vs := [.int (115 : Int32), .int (99 : Int32), .int (104 : Int32), .int (101 : Int32), .int (100 : Int32), .int (117 : Int32), .int (108 : Int32), .int (101 : Int32)]) (z := (8 : Int32)) own_lit_schedule (by decide) (by decide) (g := (mkF m 16 #[.val (.ref a1)] [(.ref a2)])) rfl (hb hby own_d_prog_30_method_6_code_16) (n := 32) (by decide) (by decide) (by decide) (by decide)
  have CH2 : CHr Z own_EL s.vm h0 T10.vm h10 := CH1.trans C10
  have K2 : Keep h0 h10 [] := K1.ext E10
  have SL10 : StrV Z h10 lit10 own_SC := ⟨lba10, kk10, _, _, Ea10, Fv10, Fc10, V10, StrChars.Road.codOf (cs := own_SC) (n := 8) rfl (fun c hc => (own_SC_lat c hc).2), own_up _ own_SC_lat⟩
  have f12 : StrV Z h10 a2 ts := (f4.keep0 ((Keep.refl h2 []).ext E10))
  obtain ⟨sb13, sk13, sN13, sv13, sE13, sV13, sC13, sA13, sc13, su13⟩ := id f12
  obtain ⟨sb14, sk14, sN14, sv14, sE14, sV14, sC14, sA14, sc14, su14⟩ := id SL10
  have f15 : Old Z n0 h10 := (f7.ext E10)
  obtain ⟨cq11, kq11, q11a, q11b, q11c⟩ := isOf hZ10 e10 f12.exa
  obtain ⟨_, _, ⟨T11, L11, k11, n11⟩, -, X11, ⟨Lc11, hQ11, l11, y11, z11⟩, st11⟩ := X10.virtualBack hx (y := (⟨"java/lang/String", "equals", "(Ljava/lang/Object;)Z"⟩ : MethodName)) (z := (⟨"java/lang/String", "equals", "(Ljava/lang/Object;)Z"⟩ : MethodName)) hown10 (mvT hZ10 (hw _ (List.mem_of_getElem? (i := 95) rfl))) (mvT hZ10 (hw _ (List.mem_of_getElem? (i := 96) rfl))) (notFace_of_selects (args := #[]) (mvT hZ10 (hw _ (List.mem_of_getElem? (i := 98) rfl)))) (mvT hZ10 (hw _ (List.mem_of_getElem? (i := 98) rfl))) (mvT hZ10 (hw _ (List.mem_of_getElem? (i := 97) rfl))) (by decide) (own_monoE (StrChars.Road.eqW (W := 0) hZ10 (own_heq hw) (kI := 4) (hw _ (List.mem_of_getElem? (i := 2) rfl)) sE13 sV13 sC13 sA13 sc13 su13 hlen4 sE14 sV14 sC14 sA14 sc14 su14 (by decide) (O2.ext f15.2) P5 (by decide) (by decide)) hq2) q11a q11c (g := (mkF m 18 #[.val (.ref a1)] [(.ref lit10), (.ref a2)])) rfl (by rw [hml]; rfl) (Steps.refl _) (argsL := [(.ref lit10)]) (rest := []) (lenOf own_pd__Ljava_lang_Object__Z rfl) rfl (by show 2 * 0 + _ ≤ _; exact Nat.le_of_eq rfl) (hb hby own_d_prog_30_method_6_code_18) (fun _ _ => ⟨rfl, e10, (by decide : 4 + 0 ≤ _), (by decide : 68 + 0 ≤ _)⟩)
  dsimp only [Pt.U, Pt.locs, Pt.cells, Pt.slots] at X11 l11 y11 z11 st11 hQ11
  rw [l11] at X11
  clear l11; subst y11 z11
  obtain ⟨rfl, rfl, e11q⟩ := hQ11
  have N11a := Fr.app N3a (Fr.nil n0)
  obtain ⟨fs, hr, hrun, hended, hend⟩ := X11.leaveW hS10 (by rw [e11q]; exact hk10) (v := some (.int (1 : Int32))) (fun h => by rw [Bd.returns] at h; cases h)
  refine ⟨_, _, pre0 _ ?_, hrun, hended, _, _, rfl, ?_, ?_, hend.1, hend.2.1, hend.2.2.1, hend.2.2.2.mono (by decide) (by decide)⟩
  · show Steps p.tables e below (s₁.setTop (mkF m 0 #[.val (.ref a1)] [])) _
    refine XS.aloadN X0.here hx rfl (hb hby own_d_prog_30_method_6_code_0) rfl rfl ?_
    show Steps p.tables e below (s₁.setTop (mkF m 1 #[.val (.ref a1)] [(.ref a1)])) _
    refine st1 _ ?_
    show Steps p.tables e below (T1.setTop (mkF m 4 #[.val (.ref a1)] [(.ref a2)])) _
    refine st2 _ ?_
    show Steps p.tables e below (T2.setTop (mkF m 6 #[.val (.ref a1)] [(.ref lit2), (.ref a2)])) _
    refine st3.trans ?_
    show Steps p.tables e below (T3.setTop (mkF m 9 #[.val (.ref a1)] [(.int (0 : Int32))])) _
    refine XS.ifNo X3.here hx rfl (hb hby own_d_prog_30_method_6_code_9) rfl ((if0 _ _).trans (teq (by decide : (0 : Int32) = (0 : Int32))).2) ?_
    refine XS.aloadN X3.here hx rfl (hb hby own_d_prog_30_method_6_code_12) rfl rfl ?_
    show Steps p.tables e below (T3.setTop (mkF m 13 #[.val (.ref a1)] [(.ref a1)])) _
    refine st9 _ ?_
    show Steps p.tables e below (T9.setTop (mkF m 16 #[.val (.ref a1)] [(.ref a2)])) _
    refine st10 _ ?_
    show Steps p.tables e below (T10.setTop (mkF m 18 #[.val (.ref a1)] [(.ref lit10), (.ref a2)])) _
    refine st11.trans ?_
    show Steps p.tables e below (T11.setTop (mkF m 21 #[.val (.ref a1)] [(.int (1 : Int32))])) _
    refine XS.ifNo X11.here hx rfl (hb hby own_d_prog_30_method_6_code_21) rfl ((if0 _ _).trans (feq (by decide : ¬ ((1 : Int32) = (0 : Int32)))).1) ?_
    refine XS.iconst X11.here hx rfl (hb hby own_d_prog_30_method_6_code_24) ?_
    refine XS.goto X11.here hx rfl (pc0 := 25) (pc' := 29) rfl (hb hby own_d_prog_30_method_6_code_25) (by decide) (by decide) ?_
    show Steps p.tables e below (T11.setTop (mkF m 29 #[.val (.ref a1)] [(.int (1 : Int32))])) _
    exact retN X11 hx (t := .boolean) Bd.returns (by simp) (hb hby own_d_prog_30_method_6_code_29) hr
  · show QK 1 h0 n0 _ T11.heap _
    rw [e11q]
    exact ⟨rfl, N11a, K2⟩
  · show CHr Z own_EL s.vm s.heap T11.vm T11.heap
    rw [hh, e11q]
    exact CH2.trans (CHv.at X11 hZ10 hEL CH2.1)
theorem own_d_prog_30_method_6_code_28 : decode prog_30_method_6_code 28 = .ok (.iconst 0, 1) := by decide +kernel
set_option maxRecDepth 65536 in
set_option maxHeartbeats 40000000 in
theorem ri3 (l : Launch) (Z : State) (a0 : Array Value) (hw : ∀ d ∈ tables_1, d.before a0 Z = true) (ws : List Jvm.Cond) (hEL : EW Z a0 own_EL) (a1 a2 : Addr) (ts : List Int32) (G1 : Int32) (G3 : Value) (h0 : Heap) (n0 : Nat) (Z0 : n0 ≤ h0.size) (O2 : Sta Z Z.heap "java/lang/String" "COMPACT_STRINGS" "Z" (.int G1)) (P5 : ¬ (G1 = (0 : Int32))) (O4 : Sta Z Z.heap "jdk/internal/util/Preconditions" "SIOOBE_FORMATTER" "Ljava/util/function/BiFunction;" G3) (rG3 : G3.isRef = true) (O0 : Old Z n0 h0) (E_a1 : Exa Z h0 a1 "com/example/restate/restate/Operation$Target") (F_type_a1 : Fld Z h0 a1 "com/example/restate/restate/Operation$Target" "type" "Ljava/lang/String;" (.ref a2)) (S_a2 : StrV Z h0 a2 ts) (hlen4 : ts.length ≤ 4000) (hq1 : ¬ ts = own_EX) (hq2 : ¬ ts = own_SC) :
    MetFree l (⟨"com/example/restate/restate/Operation$Target", "isAttached", "()Z"⟩ : MethodName) (head1 (Jvm.Cond.code (⟨"com/example/restate/restate/Operation$Target", "isAttached", "()Z"⟩ : MethodName) prog_30_method_6_code 1 (some .boolean) :: ws) ({ frames := 3, cells := 4, slots := 68, locals := 42 } : Room)) (fun a U => a = #[(.ref a1)] ∧ Z.Warmed39 U.vm ∧ U.heap = h0 ∧ CHv Z own_EL U.vm h0) (fun _ _ _ _ _ => True) (fun _ U o U' => ∃ vr_ Lr_, o = .returned vr_ ∧ QK 0 h0 n0 vr_ U'.heap Lr_ ∧ CHr Z own_EL U.vm U.heap U'.vm U'.heap ∧ ReturnedEndW U o U' Lr_ 4 68) := by
  refine MetFree.of_bodySF (plainFor_of_name own_pn_com_example_restate_restate_Operation_Target) hisR ?_
  intro p e s m args below meth c s₁ Bd hml0 hP hK
  obtain ⟨rfl, hZ, hh, hCH0⟩ := hP
  have hx := Bd.exec
  have hby := Bd.bytes
  have hml : c.maxLocals = 1 := hml0
  have hown : s.vm.findClass "com/example/restate/restate/Operation$Target" = some m.cls := findClass_of_methodNamed Bd.named
  have hnm := (name_of_methodNamed Bd.named Bd.method).1
  have X0 : Stand p l e ({ frames := 3, cells := 4, slots := 68, locals := 42 } : Room) (s.setVm s.vm) m #[(.ref a1)] below meth c s₁ [] 0 0 := Stand.of_body Bd
  have e0 : s₁.heap = h0 := by rw [← hh, Bd.state]; rfl
  have N0 := Fr.nil n0
  have CH0 : CHr Z own_EL s.vm h0 s.vm h0 := CHr.refl hCH0
  have hS0 : s.Since s.vm 0 := State.WarmedH.since (State.WarmedH.refl s) 0
  have pre0 : ∀ t, Steps p.tables e below (s₁.setTop (mkF m 0 #[.val (.ref a1)] [])) t → Steps p.tables e below (s₁.setTop (entryFrame m #[(.ref a1)] 1)) t := fun t k => castTop (own_ef_prog_30_method_6_code_x m a1) k
  obtain ⟨T1, X1, e1, st1⟩ := getF X0 hx hZ hown (host := "") (Or.inl (hw _ (List.mem_of_getElem? (i := 85) rfl))) Via.refl e0 F_type_a1 (g := (mkF m 1 #[.val (.ref a1)] [(.ref a1)])) rfl rfl (hb hby own_d_prog_30_method_6_code_1)
  obtain ⟨lit2, T2, h2, kl2, lba2, kk2, X2, e2, E2, hS2, hk2, hZ2, hown2, Ea2, Fc2, Fv2, V2, la2, lb2, C2, Lt2, sf2, st2⟩ := ldcCH X1 hx hZ hown (hw _ (List.mem_of_getElem? (i := 94) rfl)) (own_wS hw) e1 hS0 (Nat.zero_le _) hEL (by decide : ("com/example/restate/restate/Operation$Target", 55) ∈ own_EL) CH0.1 (vs := [.int (101 : Int32), .int (120 : Int32), .int (104 : Int32), .int (105 : Int32), .int (98 : Int32), .int (105 : Int32), .int (116 : Int32)]) (z := (7 : Int32)) own_lit_exhibit (by decide) (by decide) (g := (mkF m 4 #[.val (.ref a1)] [(.ref a2)])) rfl (hb hby own_d_prog_30_method_6_code_4) (n := 28) (by decide) (by decide) (by decide) (by decide)
  have CH1 : CHr Z own_EL s.vm h0 T2.vm h2 := CH0.trans C2
  have K1 : Keep h0 h2 [] := (Keep.refl h0 []).ext E2
  have SL2 : StrV Z h2 lit2 own_EX := ⟨lba2, kk2, _, _, Ea2, Fv2, Fc2, V2, StrChars.Road.codOf (cs := own_EX) (n := 7) rfl (fun c hc => (own_EX_lat c hc).2), own_up _ own_EX_lat⟩
  have f4 : StrV Z h2 a2 ts := (S_a2.keep0 ((Keep.refl h0 []).ext E2))
  obtain ⟨sb5, sk5, sN5, sv5, sE5, sV5, sC5, sA5, sc5, su5⟩ := id f4
  obtain ⟨sb6, sk6, sN6, sv6, sE6, sV6, sC6, sA6, sc6, su6⟩ := id SL2
  have f7 : Old Z n0 h2 := (O0.ext E2)
  obtain ⟨cq3, kq3, q3a, q3b, q3c⟩ := isOf hZ2 e2 f4.exa
  obtain ⟨_, _, ⟨T3, L3, k3, n3⟩, -, X3, ⟨Lc3, hQ3, l3, y3, z3⟩, st3⟩ := X2.virtualBack hx (y := (⟨"java/lang/String", "equals", "(Ljava/lang/Object;)Z"⟩ : MethodName)) (z := (⟨"java/lang/String", "equals", "(Ljava/lang/Object;)Z"⟩ : MethodName)) hown2 (mvT hZ2 (hw _ (List.mem_of_getElem? (i := 95) rfl))) (mvT hZ2 (hw _ (List.mem_of_getElem? (i := 96) rfl))) (notFace_of_selects (args := #[]) (mvT hZ2 (hw _ (List.mem_of_getElem? (i := 98) rfl)))) (mvT hZ2 (hw _ (List.mem_of_getElem? (i := 98) rfl))) (mvT hZ2 (hw _ (List.mem_of_getElem? (i := 97) rfl))) (by decide) (own_monoN (StrChars.Road.eqW (W := 0) hZ2 (own_heq hw) (kI := 4) (hw _ (List.mem_of_getElem? (i := 2) rfl)) sE5 sV5 sC5 sA5 sc5 su5 hlen4 sE6 sV6 sC6 sA6 sc6 su6 (by decide) (O2.ext f7.2) P5 (by decide) (by decide)) hq1) q3a q3c (g := (mkF m 6 #[.val (.ref a1)] [(.ref lit2), (.ref a2)])) rfl (by rw [hml]; rfl) (Steps.refl _) (argsL := [(.ref lit2)]) (rest := []) (lenOf own_pd__Ljava_lang_Object__Z rfl) rfl (by show 2 * 0 + _ ≤ _; exact Nat.le_of_eq rfl) (hb hby own_d_prog_30_method_6_code_6) (fun _ _ => ⟨rfl, e2, (by decide : 2 + 0 ≤ _), (by decide : 32 + 0 ≤ _)⟩)
  dsimp only [Pt.U, Pt.locs, Pt.cells, Pt.slots] at X3 l3 y3 z3 st3 hQ3
  rw [l3] at X3
  clear l3; subst y3 z3
  obtain ⟨rfl, rfl, e3q⟩ := hQ3
  have N3a := Fr.app N0 (Fr.nil n0)
  have f8 : Fld Z h2 a1 "com/example/restate/restate/Operation$Target" "type" "Ljava/lang/String;" (.ref a2) := (F_type_a1.ext E2)
  obtain ⟨T9, X9, e9, st9⟩ := getF X3 hx hZ2 hown2 (host := "") (Or.inl (hw _ (List.mem_of_getElem? (i := 85) rfl))) Via.refl e3q f8 (g := (mkF m 13 #[.val (.ref a1)] [(.ref a1)])) rfl rfl (hb hby own_d_prog_30_method_6_code_13)
  obtain ⟨lit10, T10, h10, kl10, lba10, kk10, X10, e10, E10, hS10, hk10, hZ10, hown10, Ea10, Fc10, Fv10, V10, la10, lb10, C10, Lt10, sf10, st10⟩ := ldcCH X9 hx hZ2 hown2 (hw _ (List.mem_of_getElem? (i := 104) rfl)) (own_wS hw) e9 hS2 hk2 hEL (by decide : ("com/example/restate/restate/Operation$Target", 61) ∈ own_EL) CH1.1 (vs := [.int (115 : Int32), .int (99 : Int32), .int (104 : Int32), .int (101 : Int32), .int (100 : Int32), .int (117 : Int32), .int (108 : Int32), .int (101 : Int32)]) (z := (8 : Int32)) own_lit_schedule (by decide) (by decide) (g := (mkF m 16 #[.val (.ref a1)] [(.ref a2)])) rfl (hb hby own_d_prog_30_method_6_code_16) (n := 32) (by decide) (by decide) (by decide) (by decide)
  have CH2 : CHr Z own_EL s.vm h0 T10.vm h10 := CH1.trans C10
  have K2 : Keep h0 h10 [] := K1.ext E10
  have SL10 : StrV Z h10 lit10 own_SC := ⟨lba10, kk10, _, _, Ea10, Fv10, Fc10, V10, StrChars.Road.codOf (cs := own_SC) (n := 8) rfl (fun c hc => (own_SC_lat c hc).2), own_up _ own_SC_lat⟩
  have f12 : StrV Z h10 a2 ts := (f4.keep0 ((Keep.refl h2 []).ext E10))
  obtain ⟨sb13, sk13, sN13, sv13, sE13, sV13, sC13, sA13, sc13, su13⟩ := id f12
  obtain ⟨sb14, sk14, sN14, sv14, sE14, sV14, sC14, sA14, sc14, su14⟩ := id SL10
  have f15 : Old Z n0 h10 := (f7.ext E10)
  obtain ⟨cq11, kq11, q11a, q11b, q11c⟩ := isOf hZ10 e10 f12.exa
  obtain ⟨_, _, ⟨T11, L11, k11, n11⟩, -, X11, ⟨Lc11, hQ11, l11, y11, z11⟩, st11⟩ := X10.virtualBack hx (y := (⟨"java/lang/String", "equals", "(Ljava/lang/Object;)Z"⟩ : MethodName)) (z := (⟨"java/lang/String", "equals", "(Ljava/lang/Object;)Z"⟩ : MethodName)) hown10 (mvT hZ10 (hw _ (List.mem_of_getElem? (i := 95) rfl))) (mvT hZ10 (hw _ (List.mem_of_getElem? (i := 96) rfl))) (notFace_of_selects (args := #[]) (mvT hZ10 (hw _ (List.mem_of_getElem? (i := 98) rfl)))) (mvT hZ10 (hw _ (List.mem_of_getElem? (i := 98) rfl))) (mvT hZ10 (hw _ (List.mem_of_getElem? (i := 97) rfl))) (by decide) (own_monoN (StrChars.Road.eqW (W := 0) hZ10 (own_heq hw) (kI := 4) (hw _ (List.mem_of_getElem? (i := 2) rfl)) sE13 sV13 sC13 sA13 sc13 su13 hlen4 sE14 sV14 sC14 sA14 sc14 su14 (by decide) (O2.ext f15.2) P5 (by decide) (by decide)) hq2) q11a q11c (g := (mkF m 18 #[.val (.ref a1)] [(.ref lit10), (.ref a2)])) rfl (by rw [hml]; rfl) (Steps.refl _) (argsL := [(.ref lit10)]) (rest := []) (lenOf own_pd__Ljava_lang_Object__Z rfl) rfl (by show 2 * 0 + _ ≤ _; exact Nat.le_of_eq rfl) (hb hby own_d_prog_30_method_6_code_18) (fun _ _ => ⟨rfl, e10, (by decide : 4 + 0 ≤ _), (by decide : 68 + 0 ≤ _)⟩)
  dsimp only [Pt.U, Pt.locs, Pt.cells, Pt.slots] at X11 l11 y11 z11 st11 hQ11
  rw [l11] at X11
  clear l11; subst y11 z11
  obtain ⟨rfl, rfl, e11q⟩ := hQ11
  have N11a := Fr.app N3a (Fr.nil n0)
  obtain ⟨fs, hr, hrun, hended, hend⟩ := X11.leaveW hS10 (by rw [e11q]; exact hk10) (v := some (.int (0 : Int32))) (fun h => by rw [Bd.returns] at h; cases h)
  refine ⟨_, _, pre0 _ ?_, hrun, hended, _, _, rfl, ?_, ?_, hend.1, hend.2.1, hend.2.2.1, hend.2.2.2.mono (by decide) (by decide)⟩
  · show Steps p.tables e below (s₁.setTop (mkF m 0 #[.val (.ref a1)] [])) _
    refine XS.aloadN X0.here hx rfl (hb hby own_d_prog_30_method_6_code_0) rfl rfl ?_
    show Steps p.tables e below (s₁.setTop (mkF m 1 #[.val (.ref a1)] [(.ref a1)])) _
    refine st1 _ ?_
    show Steps p.tables e below (T1.setTop (mkF m 4 #[.val (.ref a1)] [(.ref a2)])) _
    refine st2 _ ?_
    show Steps p.tables e below (T2.setTop (mkF m 6 #[.val (.ref a1)] [(.ref lit2), (.ref a2)])) _
    refine st3.trans ?_
    show Steps p.tables e below (T3.setTop (mkF m 9 #[.val (.ref a1)] [(.int (0 : Int32))])) _
    refine XS.ifNo X3.here hx rfl (hb hby own_d_prog_30_method_6_code_9) rfl ((if0 _ _).trans (teq (by decide : (0 : Int32) = (0 : Int32))).2) ?_
    refine XS.aloadN X3.here hx rfl (hb hby own_d_prog_30_method_6_code_12) rfl rfl ?_
    show Steps p.tables e below (T3.setTop (mkF m 13 #[.val (.ref a1)] [(.ref a1)])) _
    refine st9 _ ?_
    show Steps p.tables e below (T9.setTop (mkF m 16 #[.val (.ref a1)] [(.ref a2)])) _
    refine st10 _ ?_
    show Steps p.tables e below (T10.setTop (mkF m 18 #[.val (.ref a1)] [(.ref lit10), (.ref a2)])) _
    refine st11.trans ?_
    show Steps p.tables e below (T11.setTop (mkF m 21 #[.val (.ref a1)] [(.int (0 : Int32))])) _
    refine XS.ifYes X11.here hx rfl (pc0 := 21) (pc' := 28) rfl (hb hby own_d_prog_30_method_6_code_21) rfl ((if0 _ _).trans (teq (by decide : (0 : Int32) = (0 : Int32))).1) (by decide) (by decide) ?_
    refine XS.iconst X11.here hx rfl (hb hby own_d_prog_30_method_6_code_28) ?_
    show Steps p.tables e below (T11.setTop (mkF m 29 #[.val (.ref a1)] [(.int (0 : Int32))])) _
    exact retN X11 hx (t := .boolean) Bd.returns (by simp) (hb hby own_d_prog_30_method_6_code_29) hr
  · show QK 0 h0 n0 _ T11.heap _
    rw [e11q]
    exact ⟨rfl, N11a, K2⟩
  · show CHr Z own_EL s.vm s.heap T11.vm T11.heap
    rw [hh, e11q]
    exact CH2.trans (CHv.at X11 hZ10 hEL CH2.1)
theorem rmI (l : Launch) (Z : State) (a0 : Array Value) (hw : ∀ d ∈ tables_1, d.before a0 Z = true) (ws : List Jvm.Cond) (hEL : EW Z a0 own_EL) (a1 a2 : Addr) (ts : List Int32) (G1 : Int32) (G3 : Value) (h0 : Heap) (n0 : Nat) (Z0 : n0 ≤ h0.size) (O2 : Sta Z Z.heap "java/lang/String" "COMPACT_STRINGS" "Z" (.int G1)) (P5 : ¬ (G1 = (0 : Int32))) (O4 : Sta Z Z.heap "jdk/internal/util/Preconditions" "SIOOBE_FORMATTER" "Ljava/util/function/BiFunction;" G3) (rG3 : G3.isRef = true) (O0 : Old Z n0 h0) (E_a1 : Exa Z h0 a1 "com/example/restate/restate/Operation$Target") (F_type_a1 : Fld Z h0 a1 "com/example/restate/restate/Operation$Target" "type" "Ljava/lang/String;" (.ref a2)) (S_a2 : StrV Z h0 a2 ts) (hlen4 : ts.length ≤ 4000) :
    MetFree l (⟨"com/example/restate/restate/Operation$Target", "isAttached", "()Z"⟩ : MethodName) (head1 (Jvm.Cond.code (⟨"com/example/restate/restate/Operation$Target", "isAttached", "()Z"⟩ : MethodName) prog_30_method_6_code 1 (some .boolean) :: ws) ({ frames := 3, cells := 4, slots := 68, locals := 42 } : Room)) (fun a U => a = #[(.ref a1)] ∧ Z.Warmed39 U.vm ∧ U.heap = h0 ∧ CHv Z own_EL U.vm h0) (fun _ _ _ _ _ => True) (fun _ U o U' => ∃ v L, o = .returned v ∧ QK (own_att ts) h0 n0 v U'.heap L ∧ CHr Z own_EL U.vm U.heap U'.vm U'.heap ∧ ReturnedEndW U o U' L 4 68) := by
  by_cases h1 : ts = own_EX
  · have e : own_att ts = 1 := if_pos h1
    rw [e]; exact ri1 l Z a0 hw ws hEL a1 a2 ts G1 G3 h0 n0 Z0 O2 P5 O4 rG3 O0 E_a1 F_type_a1 S_a2 hlen4 h1
  · by_cases h2 : ts = own_SC
    · have e : own_att ts = 1 := (if_neg h1).trans (if_pos h2)
      rw [e]; exact ri2 l Z a0 hw ws hEL a1 a2 ts G1 G3 h0 n0 Z0 O2 P5 O4 rG3 O0 E_a1 F_type_a1 S_a2 hlen4 h1 h2
    · have e : own_att ts = 0 := (if_neg h1).trans (if_neg h2)
      rw [e]; exact ri3 l Z a0 hw ws hEL a1 a2 ts G1 G3 h0 n0 Z0 O2 P5 O4 rG3 O0 E_a1 F_type_a1 S_a2 hlen4 h1 h2
def own_n (p2 : Int32) : Int32 := ((p2 &&& (2147483647 : Int32)) - ((p2 &&& (2147483647 : Int32)) / (10 : Int32)) * (10 : Int32))
def own_p (p3 : Int32) : Int32 := ((p3 &&& (2147483647 : Int32)) - ((p3 &&& (2147483647 : Int32)) / (9 : Int32)) * (9 : Int32))
def own_bit (p1 : Int32) : Int32 := (p1 &&& (1 : Int32))
def own_nc (p6 : Int32) : Int32 := own_c ((p6.toUInt32 >>> ((1 : Int32) &&& 31).toUInt32).toInt32)
def own_b (x : Int32) : Int32 := if x = 0 then 0 else 1
def own_eq (x y : Int32) : Int32 := if x = y then 1 else 0
def Q0 (n0 : Nat) (v : Option Value) (h : Heap) (L : List Loc) : Prop := v = some (.int (1 : Int32)) ∧ Fr n0 L
theorem own_irem_mod (x y : Int32) : x - (x / y) * y = x % y := by
  apply Int32.toInt_inj.mp
  have h1 := Int32.le_toInt (x % y)
  have h2 := Int32.toInt_lt (x % y)
  rw [Int32.toInt_sub, Int32.toInt_mul, Int32.toInt_div, Int.bmod_mul_bmod, Int.sub_bmod_bmod, Int.mul_comm (x.toInt.tdiv y.toInt), ← Int.tmod_def, ← Int32.toInt_mod]
  exact Int.bmod_eq_of_le_mul_two (by omega) (by omega)
theorem own_c_lat (x : Int32) : Lat (own_c x) := by
  have t : ∀ k : Fin 256, Lat ((Int32.ofNat k.val).toUInt32.toUInt16.toUInt32.toInt32) := by unfold Lat; decide +kernel
  have h : (x &&& 255).toBitVec.toNat < 256 := by
    simp only [Int32.toBitVec_and, BitVec.toNat_and]
    exact Nat.lt_succ_of_le Nat.and_le_right
  have e : (x &&& 255) = Int32.ofNat (x &&& 255).toBitVec.toNat := by
    apply Int32.toBitVec_inj.mp
    show _ = BitVec.ofNat 32 _
    rw [BitVec.ofNat_toNat]; simp
  show Lat ((x &&& (255 : Int32)).toUInt32.toUInt16.toUInt32.toInt32)
  rw [e]
  exact t ⟨_, h⟩
theorem own_nar (x : Int32) : nar .char (own_c x) = own_c x := own_narL (own_c_lat x)
theorem own_nc_lat (p6 : Int32) : ¬ (255 : Int32) < own_nc p6 := (own_c_lat _).2
def R8 (x : Int32) : Prop := x = 0 ∨ x = 1 ∨ x = 2 ∨ x = 3 ∨ x = 4 ∨ x = 5 ∨ x = 6 ∨ x = 7 ∨ x = 8
theorem own_cases9 (z : Int32) (h0 : 0 ≤ z.toInt) (h1 : z.toInt < 10) : R9 z := by
  have e : ∀ k : Int32, z.toInt = k.toInt → z = k := fun k h => Int32.toInt_inj.mp h
  have q : z.toInt = 0 ∨ z.toInt = 1 ∨ z.toInt = 2 ∨ z.toInt = 3 ∨ z.toInt = 4 ∨ z.toInt = 5 ∨ z.toInt = 6 ∨ z.toInt = 7 ∨ z.toInt = 8 ∨ z.toInt = 9 := by omega
  rcases q with q | q | q | q | q | q | q | q | q | q
  · exact (Or.inl (e 0 q))
  · exact (Or.inr (Or.inl (e 1 q)))
  · exact (Or.inr (Or.inr (Or.inl (e 2 q))))
  · exact (Or.inr (Or.inr (Or.inr (Or.inl (e 3 q)))))
  · exact (Or.inr (Or.inr (Or.inr (Or.inr (Or.inl (e 4 q))))))
  · exact (Or.inr (Or.inr (Or.inr (Or.inr (Or.inr (Or.inl (e 5 q)))))))
  · exact (Or.inr (Or.inr (Or.inr (Or.inr (Or.inr (Or.inr (Or.inl (e 6 q))))))))
  · exact (Or.inr (Or.inr (Or.inr (Or.inr (Or.inr (Or.inr (Or.inr (Or.inl (e 7 q)))))))))
  · exact (Or.inr (Or.inr (Or.inr (Or.inr (Or.inr (Or.inr (Or.inr (Or.inr (Or.inl (e 8 q))))))))))
  · exact (Or.inr (Or.inr (Or.inr (Or.inr (Or.inr (Or.inr (Or.inr (Or.inr (Or.inr (e 9 q))))))))))
theorem own_cases8 (z : Int32) (h0 : 0 ≤ z.toInt) (h1 : z.toInt < 9) : R8 z := by
  have e : ∀ k : Int32, z.toInt = k.toInt → z = k := fun k h => Int32.toInt_inj.mp h
  have q : z.toInt = 0 ∨ z.toInt = 1 ∨ z.toInt = 2 ∨ z.toInt = 3 ∨ z.toInt = 4 ∨ z.toInt = 5 ∨ z.toInt = 6 ∨ z.toInt = 7 ∨ z.toInt = 8 := by omega
  rcases q with q | q | q | q | q | q | q | q | q
  · exact (Or.inl (e 0 q))
  · exact (Or.inr (Or.inl (e 1 q)))
  · exact (Or.inr (Or.inr (Or.inl (e 2 q))))
  · exact (Or.inr (Or.inr (Or.inr (Or.inl (e 3 q)))))
  · exact (Or.inr (Or.inr (Or.inr (Or.inr (Or.inl (e 4 q))))))
  · exact (Or.inr (Or.inr (Or.inr (Or.inr (Or.inr (Or.inl (e 5 q)))))))
  · exact (Or.inr (Or.inr (Or.inr (Or.inr (Or.inr (Or.inr (Or.inl (e 6 q))))))))
  · exact (Or.inr (Or.inr (Or.inr (Or.inr (Or.inr (Or.inr (Or.inr (Or.inl (e 7 q)))))))))
  · exact (Or.inr (Or.inr (Or.inr (Or.inr (Or.inr (Or.inr (Or.inr (Or.inr (e 8 q)))))))))
theorem own_n_r (p2 : Int32) : R9 (own_n p2) := by
  have b := c_and p2 2147483647 (by decide)
  have c := (c_irem (p2 &&& 2147483647) 10 10 rfl).1 b.1
  refine own_cases9 _ ?_ ?_ <;> (unfold own_n; rw [own_irem_mod, c]; omega)
theorem own_p_r (p3 : Int32) : R8 (own_p p3) := by
  have b := c_and p3 2147483647 (by decide)
  have c := (c_irem (p3 &&& 2147483647) 9 9 rfl).1 b.1
  refine own_cases8 _ ?_ ?_ <;> (unfold own_p; rw [own_irem_mod, c]; omega)
theorem own_p_in (p3 : Int32) : ¬ own_p p3 < 0 ∧ own_p p3 < 9 := by
  rcases own_p_r p3 with h | h | h | h | h | h | h | h | h <;> rw [h] <;> decide
theorem own_p_nn (p3 : Int32) : ¬ own_p p3 < 0 := (own_p_in p3).1
theorem own_p_lt (p3 : Int32) : (own_p p3).toNatClampNeg < 9 := by
  rcases own_p_r p3 with h | h | h | h | h | h | h | h | h <;> rw [h] <;> decide
theorem own_lt8 {p3 : Int32} (h : own_p p3 < 8) : (own_p p3).toNatClampNeg < own_SC.length := by
  show (own_p p3).toNatClampNeg < 8
  rcases own_p_r p3 with q | q | q | q | q | q | q | q | q <;> rw [q] at h ⊢ <;> first | decide | exact absurd h (by decide)
theorem own_lt7 {p3 : Int32} (h : own_p p3 < 7) : (own_p p3).toNatClampNeg < own_EX.length := by
  show (own_p p3).toNatClampNeg < 7
  rcases own_p_r p3 with q | q | q | q | q | q | q | q | q <;> rw [q] at h ⊢ <;> first | decide | exact absurd h (by decide)
def own_pad (p5 : Int32) : Int32 := nar .char (nar .char (own_c p5))
def own_baseS (p5 : Int32) : List Int32 := [115, 99, 104, 101, 100, 117, 108, 101, own_pad p5]
def own_baseE (p5 : Int32) : List Int32 := [101, 120, 104, 105, 98, 105, 116, own_pad p5, own_pad p5]
def own_arr (bs : List Int32) (p3 p4 : Int32) : List Int32 := bs.set (own_p p3).toNatClampNeg (nar .char (own_c p4))
theorem own_pad_lat (p5 : Int32) : Lat (own_pad p5) := by unfold own_pad; rw [own_nar, own_nar]; exact own_c_lat _
theorem own_baseS_lat (p5 : Int32) : ∀ c ∈ own_baseS p5, Lat c := by
  intro c hc
  simp only [own_baseS, List.mem_cons, List.not_mem_nil, or_false] at hc
  rcases hc with rfl | rfl | rfl | rfl | rfl | rfl | rfl | rfl | rfl <;> first | exact own_pad_lat p5 | exact ⟨by decide, by decide⟩
theorem own_baseE_lat (p5 : Int32) : ∀ c ∈ own_baseE p5, Lat c := by
  intro c hc
  simp only [own_baseE, List.mem_cons, List.not_mem_nil, or_false] at hc
  rcases hc with rfl | rfl | rfl | rfl | rfl | rfl | rfl | rfl | rfl <;> first | exact own_pad_lat p5 | exact ⟨by decide, by decide⟩
theorem own_arr_lat (bs : List Int32) (h : ∀ c ∈ bs, Lat c) (p3 p4 : Int32) : ∀ c ∈ own_arr bs p3 p4, Lat c := by
  intro c hc
  rcases List.mem_or_eq_of_mem_set hc with q | q
  · exact h c q
  · rw [q, own_nar]; exact own_c_lat _
theorem own_cut_len (cs : List Int32) {n : Int32} (r : R9 n) : (own_cut cs n.toNatClampNeg).length ≤ 4000 := by
  rw [own_cut, List.length_map, List.length_range]
  rcases r with h | h | h | h | h | h | h | h | h | h <;> rw [h] <;> decide
theorem own_cut_eq {cs : List Int32} (h : ∀ c ∈ cs, Lat c) (n : Nat) : own_cut cs n = (List.range n).map fun j => cs.getD j 0 := List.map_congr_left fun j _ => own_narL (own_latD h j)
theorem own_lawAS {p2 p3 p4 p5 : Int32} (hA : ¬ (own_n p2 = (8 : Int32))) : own_att (own_cut (own_arr (own_baseS p5) p3 p4) (own_n p2).toNatClampNeg) = 0 := by
  rw [own_cut_eq (own_arr_lat _ (own_baseS_lat p5) p3 p4), own_arr, own_nar]
  have r := own_n_r p2
  have q := own_p_r p3
  generalize own_c p4 = c
  generalize own_n p2 = n at *
  generalize own_p p3 = p at *
  unfold own_baseS
  generalize own_pad p5 = d
  rcases r with rfl | rfl | rfl | rfl | rfl | rfl | rfl | rfl | rfl | rfl <;> first | exact absurd rfl hA | (rcases q with rfl | rfl | rfl | rfl | rfl | rfl | rfl | rfl | rfl <;> simp [own_att, own_EX, own_SC, List.range, List.range.loop, Int32.toNatClampNeg])
theorem own_lawBS {p2 p3 p4 p5 : Int32} (hA : own_n p2 = (8 : Int32)) (hB : ¬ (own_p p3 < (8 : Int32))) : own_att (own_cut (own_arr (own_baseS p5) p3 p4) (own_n p2).toNatClampNeg) = 1 := by
  rw [own_cut_eq (own_arr_lat _ (own_baseS_lat p5) p3 p4), own_arr, own_nar, hA]
  have q := own_p_r p3
  generalize own_c p4 = c
  generalize own_p p3 = p at *
  unfold own_baseS
  generalize own_pad p5 = d
  rcases q with rfl | rfl | rfl | rfl | rfl | rfl | rfl | rfl | rfl <;> first | exact absurd (by decide) hB | simp [own_att, own_EX, own_SC, List.range, List.range.loop, Int32.toNatClampNeg]
theorem own_lawCS {p2 p3 p4 p5 : Int32} (hA : own_n p2 = (8 : Int32)) (hB : own_p p3 < (8 : Int32)) : own_att (own_cut (own_arr (own_baseS p5) p3 p4) (own_n p2).toNatClampNeg) = own_eq (own_c p4) (own_SC.getD (own_p p3).toNatClampNeg 0) := by
  rw [own_cut_eq (own_arr_lat _ (own_baseS_lat p5) p3 p4), own_arr, own_nar, hA]
  have q := own_p_r p3
  generalize own_c p4 = c
  generalize own_p p3 = p at *
  unfold own_baseS
  generalize own_pad p5 = d
  rcases q with rfl | rfl | rfl | rfl | rfl | rfl | rfl | rfl | rfl <;> first | exact absurd hB (by decide) | simp [own_att, own_eq, own_EX, own_SC, List.range, List.range.loop, Int32.toNatClampNeg]
theorem own_lawAE {p2 p3 p4 p5 : Int32} (hA : ¬ (own_n p2 = (7 : Int32))) : own_att (own_cut (own_arr (own_baseE p5) p3 p4) (own_n p2).toNatClampNeg) = 0 := by
  rw [own_cut_eq (own_arr_lat _ (own_baseE_lat p5) p3 p4), own_arr, own_nar]
  have r := own_n_r p2
  have q := own_p_r p3
  generalize own_c p4 = c
  generalize own_n p2 = n at *
  generalize own_p p3 = p at *
  unfold own_baseE
  generalize own_pad p5 = d
  rcases r with rfl | rfl | rfl | rfl | rfl | rfl | rfl | rfl | rfl | rfl <;> first | exact absurd rfl hA | (rcases q with rfl | rfl | rfl | rfl | rfl | rfl | rfl | rfl | rfl <;> simp [own_att, own_EX, own_SC, List.range, List.range.loop, Int32.toNatClampNeg])
theorem own_lawBE {p2 p3 p4 p5 : Int32} (hA : own_n p2 = (7 : Int32)) (hB : ¬ (own_p p3 < (7 : Int32))) : own_att (own_cut (own_arr (own_baseE p5) p3 p4) (own_n p2).toNatClampNeg) = 1 := by
  rw [own_cut_eq (own_arr_lat _ (own_baseE_lat p5) p3 p4), own_arr, own_nar, hA]
  have q := own_p_r p3
  generalize own_c p4 = c
  generalize own_p p3 = p at *
  unfold own_baseE
  generalize own_pad p5 = d
  rcases q with rfl | rfl | rfl | rfl | rfl | rfl | rfl | rfl | rfl <;> first | exact absurd (by decide) hB | simp [own_att, own_EX, own_SC, List.range, List.range.loop, Int32.toNatClampNeg]
theorem own_lawCE {p2 p3 p4 p5 : Int32} (hA : own_n p2 = (7 : Int32)) (hB : own_p p3 < (7 : Int32)) : own_att (own_cut (own_arr (own_baseE p5) p3 p4) (own_n p2).toNatClampNeg) = own_eq (own_c p4) (own_EX.getD (own_p p3).toNatClampNeg 0) := by
  rw [own_cut_eq (own_arr_lat _ (own_baseE_lat p5) p3 p4), own_arr, own_nar, hA]
  have q := own_p_r p3
  generalize own_c p4 = c
  generalize own_p p3 = p at *
  unfold own_baseE
  generalize own_pad p5 = d
  rcases q with rfl | rfl | rfl | rfl | rfl | rfl | rfl | rfl | rfl <;> first | exact absurd hB (by decide) | simp [own_att, own_eq, own_EX, own_SC, List.range, List.range.loop, Int32.toNatClampNeg]
theorem own_pd__Ljava_lang_String_IC_C : parseMethodDescriptor "(Ljava/lang/String;IC)C" = some ⟨[(.object "java/lang/String"), .int, .char], some .char⟩ := by decide +kernel
theorem own_pd___CI_Ljava_lang_String_ : parseMethodDescriptor "([CI)Ljava/lang/String;" = some ⟨[(.array .char), .int], some (.object "java/lang/String")⟩ := by decide +kernel
theorem own_pd__Ljava_lang_String_Ljava_lang_String__V : parseMethodDescriptor "(Ljava/lang/String;Ljava/lang/String;)V" = some ⟨[(.object "java/lang/String"), (.object "java/lang/String")], none⟩ := by decide +kernel
theorem own_pd___Z : parseMethodDescriptor "()Z" = some ⟨[], some .boolean⟩ := by decide +kernel
theorem own_pd__C_Ljava_lang_String_ : parseMethodDescriptor "(C)Ljava/lang/String;" = some ⟨[.char], some (.object "java/lang/String")⟩ := by decide +kernel
theorem own_ef_code_xxxxxx (m : MethodId) (x0 : Int32) (x1 : Int32) (x2 : Int32) (x3 : Int32) (x4 : Int32) (x5 : Int32) : entryFrame m #[(.int x0), (.int x1), (.int x2), (.int x3), (.int x4), (.int x5)] maxLocals = mkF m 0 #[.val (.int x0), .val (.int x1), .val (.int x2), .val (.int x3), .val (.int x4), .val (.int x5), .unset, .unset, .unset, .unset, .unset, .unset, .unset, .unset, .unset, .unset, .unset, .unset] [] := by first | (simp [entryFrame, mkF, argsToLocals, Value.category, maxLocals]; done) | rfl
set_option maxRecDepth 65536 in
set_option maxHeartbeats 40000000 in
theorem rm0 (l : Launch) (Z : State) (a0 : Array Value) (hw : ∀ d ∈ tables_1, d.before a0 Z = true) (ws : List Jvm.Cond) (hEL : EW Z a0 own_EL) (p1 p2 p3 p4 p5 p6 : Int32) (G1 : Int32) (G3 : Value) (h0 : Heap) (n0 : Nat) (Z0 : n0 ≤ h0.size) (O2 : Sta Z Z.heap "java/lang/String" "COMPACT_STRINGS" "Z" (.int G1)) (P5 : ¬ (G1 = (0 : Int32))) (O4 : Sta Z Z.heap "jdk/internal/util/Preconditions" "SIOOBE_FORMATTER" "Ljava/util/function/BiFunction;" G3) (rG3 : G3.isRef = true) (O0 : Old Z n0 h0) :
    MetFree l x (head1 (Jvm.Cond.code x code maxLocals ret :: ws) room_1) (fun a U => a = #[(.int p1), (.int p2), (.int p3), (.int p4), (.int p5), (.int p6)] ∧ Z.Warmed39 U.vm ∧ U.heap = h0 ∧ CHv Z own_EL U.vm h0) (fun _ _ _ _ _ => True) (fun _ U o U' => ∃ vr_ Lr_, o = .returned vr_ ∧ Q0 n0 vr_ U'.heap Lr_ ∧ CHr Z own_EL U.vm U.heap U'.vm U'.heap ∧ ReturnedEndW U o U' Lr_ room_1.cells room_1.slots) := by
  refine MetFree.of_bodySF (plainFor_of_name own_pn_com_example_restate_restate_TargetIsAttachedPinLaw) hisR ?_
  intro p e s m args below meth c s₁ Bd hml0 hP hK
  obtain ⟨rfl, hZ, hh, hCH0⟩ := hP
  have hx := Bd.exec
  have hby := Bd.bytes
  have hml : c.maxLocals = 18 := hml0
  have hown : s.vm.findClass "com/example/restate/restate/TargetIsAttachedPinLaw" = some m.cls := findClass_of_methodNamed Bd.named
  have hnm := (name_of_methodNamed Bd.named Bd.method).1
  have X0 : Stand p l e room_1 (s.setVm s.vm) m #[(.int p1), (.int p2), (.int p3), (.int p4), (.int p5), (.int p6)] below meth c s₁ [] 0 0 := Stand.of_body Bd
  have e0 : s₁.heap = h0 := by rw [← hh, Bd.state]; rfl
  have N0 := Fr.nil n0
  have CH0 : CHr Z own_EL s.vm h0 s.vm h0 := CHr.refl hCH0
  have hS0 : s.Since s.vm 0 := State.WarmedH.since (State.WarmedH.refl s) 0
  have pre0 : ∀ t, Steps p.tables e below (s₁.setTop (mkF m 0 #[.val (.int p1), .val (.int p2), .val (.int p3), .val (.int p4), .val (.int p5), .val (.int p6), .unset, .unset, .unset, .unset, .unset, .unset, .unset, .unset, .unset, .unset, .unset, .unset] [])) t → Steps p.tables e below (s₁.setTop (entryFrame m #[(.int p1), (.int p2), (.int p3), (.int p4), (.int p5), (.int p6)] maxLocals)) t := fun t k => castTop (own_ef_code_xxxxxx m p1 p2 p3 p4 p5 p6) k
  have cut3 : ∀ t, Steps p.tables e below (s₁.setTop (mkF m 15 #[.val (.int p1), .val (.int p2), .val (.int p3), .val (.int p4), .val (.int p5), .val (.int p6), .val (.int (own_b (own_bit p1))), .unset, .unset, .unset, .unset, .unset, .unset, .unset, .unset, .unset, .unset, .unset] [(.int (own_b (own_bit p1)))])) t → Steps p.tables e below (s₁.setTop (mkF m 0 #[.val (.int p1), .val (.int p2), .val (.int p3), .val (.int p4), .val (.int p5), .val (.int p6), .unset, .unset, .unset, .unset, .unset, .unset, .unset, .unset, .unset, .unset, .unset, .unset] [])) t := fun t kk => by
    show Steps p.tables e below (s₁.setTop (mkF m 0 #[.val (.int p1), .val (.int p2), .val (.int p3), .val (.int p4), .val (.int p5), .val (.int p6), .unset, .unset, .unset, .unset, .unset, .unset, .unset, .unset, .unset, .unset, .unset, .unset] [])) _
    refine XS.iloadN X0.here hx rfl (hb hby at_0) rfl ?_
    refine XS.iconst X0.here hx rfl (hb hby at_1) ?_
    refine XS.iand X0.here hx rfl (hb hby at_2) rfl ?_
    have tr3_1 : ∀ tgt, Steps p.tables e below (s₁.setTop (mkF m 11 #[.val (.int p1), .val (.int p2), .val (.int p3), .val (.int p4), .val (.int p5), .val (.int p6), .unset, .unset, .unset, .unset, .unset, .unset, .unset, .unset, .unset, .unset, .unset, .unset] [(.int (own_b (own_bit p1)))])) tgt → Steps p.tables e below (s₁.setTop (mkF m 3 #[.val (.int p1), .val (.int p2), .val (.int p3), .val (.int p4), .val (.int p5), .val (.int p6), .unset, .unset, .unset, .unset, .unset, .unset, .unset, .unset, .unset, .unset, .unset, .unset] [(.int (own_bit p1))])) tgt := by
      intro tgt kk
      show Steps p.tables e below (s₁.setTop (mkF m 3 #[.val (.int p1), .val (.int p2), .val (.int p3), .val (.int p4), .val (.int p5), .val (.int p6), .unset, .unset, .unset, .unset, .unset, .unset, .unset, .unset, .unset, .unset, .unset, .unset] [(.int (own_bit p1))])) _
      by_cases c2 : (own_bit p1) = (0 : Int32)
      · refine XS.ifYes X0.here hx rfl (pc0 := 3) (pc' := 10) rfl (hb hby at_3) rfl ((if0 _ _).trans (teq c2).1) (by decide) (by decide) ?_
        show Steps p.tables e below (s₁.setTop (mkF m 10 #[.val (.int p1), .val (.int p2), .val (.int p3), .val (.int p4), .val (.int p5), .val (.int p6), .unset, .unset, .unset, .unset, .unset, .unset, .unset, .unset, .unset, .unset, .unset, .unset] [])) _
        refine XS.iconst X0.here hx rfl (hb hby at_10) ?_
        have ev : (own_b (own_bit p1)) = (0 : Int32) := by simp [own_b, c2]
        rw [ev] at kk
        exact kk
      · refine XS.ifNo X0.here hx rfl (hb hby at_3) rfl ((if0 _ _).trans (feq c2).1) ?_
        show Steps p.tables e below (s₁.setTop (mkF m 6 #[.val (.int p1), .val (.int p2), .val (.int p3), .val (.int p4), .val (.int p5), .val (.int p6), .unset, .unset, .unset, .unset, .unset, .unset, .unset, .unset, .unset, .unset, .unset, .unset] [])) _
        refine XS.iconst X0.here hx rfl (hb hby at_6) ?_
        show Steps p.tables e below (s₁.setTop (mkF m 7 #[.val (.int p1), .val (.int p2), .val (.int p3), .val (.int p4), .val (.int p5), .val (.int p6), .unset, .unset, .unset, .unset, .unset, .unset, .unset, .unset, .unset, .unset, .unset, .unset] [(.int (1 : Int32))])) _
        refine XS.goto X0.here hx rfl (pc0 := 7) (pc' := 11) rfl (hb hby at_7) (by decide) (by decide) ?_
        have ev : (own_b (own_bit p1)) = (1 : Int32) := by simp [own_b, c2]
        rw [ev] at kk
        exact kk
    refine tr3_1 _ ?_
    refine XS.istore X0.here hx rfl (hb hby at_11) rfl (l' := #[.val (.int p1), .val (.int p2), .val (.int p3), .val (.int p4), .val (.int p5), .val (.int p6), .val (.int (own_b (own_bit p1))), .unset, .unset, .unset, .unset, .unset, .unset, .unset, .unset, .unset, .unset, .unset]) rfl ?_
    refine XS.iload X0.here hx rfl (hb hby at_13) rfl ?_
    exact kk
  by_cases hs : own_b (own_bit p1) = (0 : Int32)
  · obtain ⟨lit4, T4, h4, kl4, lba4, kk4, X4, e4, E4, hS4, hk4, hZ4, hown4, Ea4, Fc4, Fv4, V4, la4, lb4, C4, Lt4, sf4, st4⟩ := ldcCH X0 hx hZ hown (hw _ (List.mem_of_getElem? (i := 0) rfl)) (own_wS hw) e0 hS0 (Nat.zero_le _) hEL (by decide : ("com/example/restate/restate/TargetIsAttachedPinLaw", 9) ∈ own_EL) CH0.1 (vs := [.int (101 : Int32), .int (120 : Int32), .int (104 : Int32), .int (105 : Int32), .int (98 : Int32), .int (105 : Int32), .int (116 : Int32)]) (z := (7 : Int32)) own_lit_exhibit (by decide) (by decide) (g := (mkF m 23 #[.val (.int p1), .val (.int p2), .val (.int p3), .val (.int p4), .val (.int p5), .val (.int p6), .val (.int (own_b (own_bit p1))), .unset, .unset, .unset, .unset, .unset, .unset, .unset, .unset, .unset, .unset, .unset] [])) rfl (hb hby at_23) (n := 28) (by decide) (by decide) (by decide) (by decide)
    have CH1 : CHr Z own_EL s.vm h0 T4.vm h4 := CH0.trans C4
    have K1 : Keep h0 h4 [] := (Keep.refl h0 []).ext E4
    have SL4 : StrV Z h4 lit4 own_EX := ⟨lba4, kk4, _, _, Ea4, Fv4, Fc4, V4, StrChars.Road.codOf (cs := own_EX) (n := 7) rfl (fun c hc => (own_EX_lat c hc).2), own_up _ own_EX_lat⟩
    obtain ⟨sb6, sk6, sN6, sv6, sE6, sV6, sC6, sA6, sc6, su6⟩ := id SL4
    have f7 : Old Z n0 h4 := (O0.ext E4)
    obtain ⟨cq5, kq5, q5a, q5b, q5c⟩ := isOf hZ4 e4 SL4.exa
    obtain ⟨_, _, ⟨T5, L5, k5, n5⟩, -, X5, ⟨Lc5, hQ5, l5, y5, z5⟩, st5⟩ := X4.virtualBack hx (y := (⟨"java/lang/String", "length", "()I"⟩ : MethodName)) (z := (⟨"java/lang/String", "length", "()I"⟩ : MethodName)) hown4 (mvT hZ4 (hw _ (List.mem_of_getElem? (i := 8) rfl))) (mvT hZ4 (hw _ (List.mem_of_getElem? (i := 9) rfl))) (notFace_of_selects (args := #[]) (mvT hZ4 (hw _ (List.mem_of_getElem? (i := 11) rfl)))) (mvT hZ4 (hw _ (List.mem_of_getElem? (i := 11) rfl))) (mvT hZ4 (hw _ (List.mem_of_getElem? (i := 10) rfl))) (by decide) (StrChars.Road.lenW (W := 0) hZ4 (own_hlen hw) (kI := 4) (hw _ (List.mem_of_getElem? (i := 2) rfl)) sE6 sV6 sC6 sA6 sc6 su6 (O2.ext f7.2) P5 (by decide) (by decide) (by decide)) q5a q5c (g := (mkF m 29 #[.val (.int p1), .val (.int p2), .val (.int p3), .val (.int p4), .val (.int p5), .val (.int p6), .val (.int (own_b (own_bit p1))), .val (.ref lit4), .unset, .unset, .unset, .unset, .unset, .unset, .unset, .unset, .unset, .unset] [(.ref lit4)])) rfl (by rw [hml]; rfl) (Steps.refl _) (argsL := []) (rest := []) (lenOf own_pd___I rfl) rfl (by show 2 * 0 + _ ≤ _; exact Nat.le_of_eq rfl) (hb hby at_29) (fun _ _ => ⟨rfl, e4, (by decide : 2 + 0 ≤ _), (by decide : 32 + 0 ≤ _)⟩)
    dsimp only [Pt.U, Pt.locs, Pt.cells, Pt.slots] at X5 l5 y5 z5 st5 hQ5
    rw [l5] at X5
    clear l5; subst y5 z5
    obtain ⟨rfl, rfl, e5q⟩ := hQ5
    have N5a := Fr.app N0 (Fr.nil n0)
    obtain ⟨T8, h8, ka8, X8, e8, E8, A8, st8⟩ := newP X5 hx hZ4 (hw _ (List.mem_of_getElem? (i := 22) rfl)) e5q (g := (mkF m 71 #[.val (.int p1), .val (.int p2), .val (.int p3), .val (.int p4), .val (.int p5), .val (.int p6), .val (.int (own_b (own_bit p1))), .val (.ref lit4), .val (.int (7 : Int32)), .val (.int (own_c p5)), .val (.int (own_c p4)), .val (.int (own_n p2)), .val (.int (own_p p3)), .unset, .unset, .unset, .unset, .unset] [(.int (9 : Int32))])) rfl (hb hby at_71) rfl (by decide) (cap := 9) (by decide) (by decide) (by decide) (by decide)
    obtain ⟨b8, g8⟩ : ∃ z, z = h4.size := ⟨_, rfl⟩
    rw [← g8] at A8 st8
    have sz_b8 : h0.size ≤ b8 := Nat.le_trans K1.1 (Nat.le_of_eq g8.symm)
    have g_b8 : n0 ≤ b8 := Nat.le_trans Z0 sz_b8
    have CH2 : CHr Z own_EL s.vm h0 T4.vm h8 := CH1.trans (CHr.ext E8 CH1.1)
    have K2 : Keep h0 h8 [] := K1.ext E8
    have V_b8 : Arv Z h8 b8 ka8 .char (9 : Int32) [(.int (0 : Int32)), (.int (0 : Int32)), (.int (0 : Int32)), (.int (0 : Int32)), (.int (0 : Int32)), (.int (0 : Int32)), (.int (0 : Int32)), (.int (0 : Int32)), (.int (0 : Int32))] (.int (0 : Int32)) := (Arv.new A8 (by decide)).pad (pad_rep [] (.int (0 : Int32)) 9)
    have f10 : Old Z n0 h8 := (f7.ext E8)
    have f11 : StrV Z h8 lit4 own_EX := (SL4.keep0 ((Keep.refl h4 []).ext E8))
    obtain ⟨_, _, ⟨T9, L9, k9, n9⟩, -, X9, ⟨Lc9, hQ9, l9, y9, z9⟩, st9⟩ := Jvm.LawKit.callS X8 hx (y := (⟨"com/example/restate/restate/TargetIsAttachedPinLaw", "at", "(Ljava/lang/String;IC)C"⟩ : MethodName)) hown4 (mvT hZ4 (hw _ (List.mem_of_getElem? (i := 23) rfl))) (mvT hZ4 (hw _ (List.mem_of_getElem? (i := 24) rfl))) (mvT hZ4 (hw _ (List.mem_of_getElem? (i := 25) rfl))) (mvT hZ4 (hw _ (List.mem_of_getElem? (i := 26) rfl))) (by decide) (backOf (W := 2) (rmA l Z a0 hw [] lit4 0 (own_c p5) own_EX G1 G3 h8 n0 (Nat.le_trans Z0 K2.1) O2 P5 O4 rG3 f10 f11 (by decide) (by decide)) hZ4 (hw _ (List.mem_of_getElem? (i := 26) rfl)) (hw _ (List.mem_of_getElem? (i := 25) rfl)) (by decide) (by decide)) (g := (mkF m 83 #[.val (.int p1), .val (.int p2), .val (.int p3), .val (.int p4), .val (.int p5), .val (.int p6), .val (.int (own_b (own_bit p1))), .val (.ref lit4), .val (.int (7 : Int32)), .val (.int (own_c p5)), .val (.int (own_c p4)), .val (.int (own_n p2)), .val (.int (own_p p3)), .val (.ref b8), .unset, .unset, .unset, .unset] [(.int (own_c p5)), (.int (0 : Int32)), (.ref lit4), (.int (0 : Int32)), (.ref b8)])) rfl (by rw [hml]; rfl) (argsL := [(.ref lit4), (.int (0 : Int32)), (.int (own_c p5))]) (rest := [(.int (0 : Int32)), (.ref b8)]) (lenOf own_pd__Ljava_lang_String_IC_C rfl) rfl (by show 2 * 0 + _ ≤ _; exact Nat.le_of_eq rfl) (hb hby at_83) (fun _ _ => ⟨rfl, e8, (by decide : 3 + 0 ≤ _), (by decide : 41 + 0 ≤ _)⟩)
    dsimp only [Pt.U, Pt.locs, Pt.cells, Pt.slots] at X9 l9 y9 z9 st9 hQ9
    rw [l9] at X9
    clear l9; subst y9 z9
    obtain ⟨rfl, N9q, e9q⟩ := hQ9
    have N9a := Fr.app N5a N9q
    obtain ⟨cl12, Ar12, q12, S12, N_12, H_12, G12⟩ := id V_b8
    obtain ⟨T13, h13, X13, e13, W13, st13⟩ := stC X9 hx hZ4 e9q Ar12 (j := (0 : Int32)) (inb_of S12 ⟨by decide, by decide⟩) (g := (mkF m 86 #[.val (.int p1), .val (.int p2), .val (.int p3), .val (.int p4), .val (.int p5), .val (.int p6), .val (.int (own_b (own_bit p1))), .val (.ref lit4), .val (.int (7 : Int32)), .val (.int (own_c p5)), .val (.int (own_c p4)), .val (.int (own_n p2)), .val (.int (own_p p3)), .val (.ref b8), .unset, .unset, .unset, .unset] [(.int (101 : Int32)), (.int (0 : Int32)), (.ref b8)])) rfl rfl (hb hby at_86)
    have V13_b8 : Arv Z h13 b8 ka8 .char (9 : Int32) [(.int (nar .char (101 : Int32))), (.int (0 : Int32)), (.int (0 : Int32)), (.int (0 : Int32)), (.int (0 : Int32)), (.int (0 : Int32)), (.int (0 : Int32)), (.int (0 : Int32)), (.int (0 : Int32))] (.int (0 : Int32)) := Arv.set Ar12 q12 S12 N_12 H_12 G12 (fits_nar_char _) W13 0 rfl (Nat.le_of_ble_eq_true rfl)
    have Nf13 := Fr.snoc X13 N9a g_b8
    have CH3 : CHr Z own_EL s.vm h0 T4.vm h13 := CH2.trans (CHr.wr W13 (own_safeV (hZ4 : Z.Warmed39 T4.vm).alike V_b8 (by decide)) CH2.1)
    have K3 : Keep h0 h13 [] := K2.wr W13 (Or.inr sz_b8)
    have f15 : Old Z n0 h13 := (f10.wr W13 g_b8)
    have f16 : StrV Z h13 lit4 own_EX := (SL4.keep0 (((Keep.refl h4 []).ext E8).wr W13 (Or.inr (Nat.le_trans (Keep.refl h4 []).1 (Nat.le_of_eq g8.symm)))))
    obtain ⟨_, _, ⟨T14, L14, k14, n14⟩, -, X14, ⟨Lc14, hQ14, l14, y14, z14⟩, st14⟩ := Jvm.LawKit.callS X13 hx (y := (⟨"com/example/restate/restate/TargetIsAttachedPinLaw", "at", "(Ljava/lang/String;IC)C"⟩ : MethodName)) hown4 (mvT hZ4 (hw _ (List.mem_of_getElem? (i := 23) rfl))) (mvT hZ4 (hw _ (List.mem_of_getElem? (i := 24) rfl))) (mvT hZ4 (hw _ (List.mem_of_getElem? (i := 25) rfl))) (mvT hZ4 (hw _ (List.mem_of_getElem? (i := 26) rfl))) (by decide) (backOf (W := 2) (rmA l Z a0 hw [] lit4 1 (own_c p5) own_EX G1 G3 h13 n0 (Nat.le_trans Z0 K3.1) O2 P5 O4 rG3 f15 f16 (by decide) (by decide)) hZ4 (hw _ (List.mem_of_getElem? (i := 26) rfl)) (hw _ (List.mem_of_getElem? (i := 25) rfl)) (by decide) (by decide)) (g := (mkF m 95 #[.val (.int p1), .val (.int p2), .val (.int p3), .val (.int p4), .val (.int p5), .val (.int p6), .val (.int (own_b (own_bit p1))), .val (.ref lit4), .val (.int (7 : Int32)), .val (.int (own_c p5)), .val (.int (own_c p4)), .val (.int (own_n p2)), .val (.int (own_p p3)), .val (.ref b8), .unset, .unset, .unset, .unset] [(.int (own_c p5)), (.int (1 : Int32)), (.ref lit4), (.int (1 : Int32)), (.ref b8)])) rfl (by rw [hml]; rfl) (argsL := [(.ref lit4), (.int (1 : Int32)), (.int (own_c p5))]) (rest := [(.int (1 : Int32)), (.ref b8)]) (lenOf own_pd__Ljava_lang_String_IC_C rfl) rfl (by show 2 * 0 + _ ≤ _; exact Nat.le_of_eq rfl) (hb hby at_95) (fun _ _ => ⟨rfl, e13, (by decide : 3 + 0 ≤ _), (by decide : 41 + 0 ≤ _)⟩)
    dsimp only [Pt.U, Pt.locs, Pt.cells, Pt.slots] at X14 l14 y14 z14 st14 hQ14
    rw [l14] at X14
    clear l14; subst y14 z14
    obtain ⟨rfl, N14q, e14q⟩ := hQ14
    have N14a := Fr.app Nf13 N14q
    obtain ⟨cl17, Ar17, q17, S17, N_17, H_17, G17⟩ := id V13_b8
    obtain ⟨T18, h18, X18, e18, W18, st18⟩ := stC X14 hx hZ4 e14q Ar17 (j := (1 : Int32)) (inb_of S17 ⟨by decide, by decide⟩) (g := (mkF m 98 #[.val (.int p1), .val (.int p2), .val (.int p3), .val (.int p4), .val (.int p5), .val (.int p6), .val (.int (own_b (own_bit p1))), .val (.ref lit4), .val (.int (7 : Int32)), .val (.int (own_c p5)), .val (.int (own_c p4)), .val (.int (own_n p2)), .val (.int (own_p p3)), .val (.ref b8), .unset, .unset, .unset, .unset] [(.int (120 : Int32)), (.int (1 : Int32)), (.ref b8)])) rfl rfl (hb hby at_98)
    have V18_b8 : Arv Z h18 b8 ka8 .char (9 : Int32) [(.int (nar .char (101 : Int32))), (.int (nar .char (120 : Int32))), (.int (0 : Int32)), (.int (0 : Int32)), (.int (0 : Int32)), (.int (0 : Int32)), (.int (0 : Int32)), (.int (0 : Int32)), (.int (0 : Int32))] (.int (0 : Int32)) := Arv.set Ar17 q17 S17 N_17 H_17 G17 (fits_nar_char _) W18 1 rfl (Nat.le_of_ble_eq_true rfl)
    have Nf18 := Fr.snoc X18 N14a g_b8
    have CH4 : CHr Z own_EL s.vm h0 T4.vm h18 := CH3.trans (CHr.wr W18 (own_safeV (hZ4 : Z.Warmed39 T4.vm).alike V13_b8 (by decide)) CH3.1)
    have K4 : Keep h0 h18 [] := K3.wr W18 (Or.inr sz_b8)
    have f20 : Old Z n0 h18 := (f15.wr W18 g_b8)
    have f21 : StrV Z h18 lit4 own_EX := (SL4.keep0 ((((Keep.refl h4 []).ext E8).wr W13 (Or.inr (Nat.le_trans (Keep.refl h4 []).1 (Nat.le_of_eq g8.symm)))).wr W18 (Or.inr (Nat.le_trans (Keep.refl h4 []).1 (Nat.le_of_eq g8.symm)))))
    obtain ⟨_, _, ⟨T19, L19, k19, n19⟩, -, X19, ⟨Lc19, hQ19, l19, y19, z19⟩, st19⟩ := Jvm.LawKit.callS X18 hx (y := (⟨"com/example/restate/restate/TargetIsAttachedPinLaw", "at", "(Ljava/lang/String;IC)C"⟩ : MethodName)) hown4 (mvT hZ4 (hw _ (List.mem_of_getElem? (i := 23) rfl))) (mvT hZ4 (hw _ (List.mem_of_getElem? (i := 24) rfl))) (mvT hZ4 (hw _ (List.mem_of_getElem? (i := 25) rfl))) (mvT hZ4 (hw _ (List.mem_of_getElem? (i := 26) rfl))) (by decide) (backOf (W := 2) (rmA l Z a0 hw [] lit4 2 (own_c p5) own_EX G1 G3 h18 n0 (Nat.le_trans Z0 K4.1) O2 P5 O4 rG3 f20 f21 (by decide) (by decide)) hZ4 (hw _ (List.mem_of_getElem? (i := 26) rfl)) (hw _ (List.mem_of_getElem? (i := 25) rfl)) (by decide) (by decide)) (g := (mkF m 107 #[.val (.int p1), .val (.int p2), .val (.int p3), .val (.int p4), .val (.int p5), .val (.int p6), .val (.int (own_b (own_bit p1))), .val (.ref lit4), .val (.int (7 : Int32)), .val (.int (own_c p5)), .val (.int (own_c p4)), .val (.int (own_n p2)), .val (.int (own_p p3)), .val (.ref b8), .unset, .unset, .unset, .unset] [(.int (own_c p5)), (.int (2 : Int32)), (.ref lit4), (.int (2 : Int32)), (.ref b8)])) rfl (by rw [hml]; rfl) (argsL := [(.ref lit4), (.int (2 : Int32)), (.int (own_c p5))]) (rest := [(.int (2 : Int32)), (.ref b8)]) (lenOf own_pd__Ljava_lang_String_IC_C rfl) rfl (by show 2 * 0 + _ ≤ _; exact Nat.le_of_eq rfl) (hb hby at_107) (fun _ _ => ⟨rfl, e18, (by decide : 3 + 0 ≤ _), (by decide : 41 + 0 ≤ _)⟩)
    dsimp only [Pt.U, Pt.locs, Pt.cells, Pt.slots] at X19 l19 y19 z19 st19 hQ19
    rw [l19] at X19
    clear l19; subst y19 z19
    obtain ⟨rfl, N19q, e19q⟩ := hQ19
    have N19a := Fr.app Nf18 N19q
    obtain ⟨cl22, Ar22, q22, S22, N_22, H_22, G22⟩ := id V18_b8
    obtain ⟨T23, h23, X23, e23, W23, st23⟩ := stC X19 hx hZ4 e19q Ar22 (j := (2 : Int32)) (inb_of S22 ⟨by decide, by decide⟩) (g := (mkF m 110 #[.val (.int p1), .val (.int p2), .val (.int p3), .val (.int p4), .val (.int p5), .val (.int p6), .val (.int (own_b (own_bit p1))), .val (.ref lit4), .val (.int (7 : Int32)), .val (.int (own_c p5)), .val (.int (own_c p4)), .val (.int (own_n p2)), .val (.int (own_p p3)), .val (.ref b8), .unset, .unset, .unset, .unset] [(.int (104 : Int32)), (.int (2 : Int32)), (.ref b8)])) rfl rfl (hb hby at_110)
    have V23_b8 : Arv Z h23 b8 ka8 .char (9 : Int32) [(.int (nar .char (101 : Int32))), (.int (nar .char (120 : Int32))), (.int (nar .char (104 : Int32))), (.int (0 : Int32)), (.int (0 : Int32)), (.int (0 : Int32)), (.int (0 : Int32)), (.int (0 : Int32)), (.int (0 : Int32))] (.int (0 : Int32)) := Arv.set Ar22 q22 S22 N_22 H_22 G22 (fits_nar_char _) W23 2 rfl (Nat.le_of_ble_eq_true rfl)
    have Nf23 := Fr.snoc X23 N19a g_b8
    have CH5 : CHr Z own_EL s.vm h0 T4.vm h23 := CH4.trans (CHr.wr W23 (own_safeV (hZ4 : Z.Warmed39 T4.vm).alike V18_b8 (by decide)) CH4.1)
    have K5 : Keep h0 h23 [] := K4.wr W23 (Or.inr sz_b8)
    have f25 : Old Z n0 h23 := (f20.wr W23 g_b8)
    have f26 : StrV Z h23 lit4 own_EX := (SL4.keep0 (((((Keep.refl h4 []).ext E8).wr W13 (Or.inr (Nat.le_trans (Keep.refl h4 []).1 (Nat.le_of_eq g8.symm)))).wr W18 (Or.inr (Nat.le_trans (Keep.refl h4 []).1 (Nat.le_of_eq g8.symm)))).wr W23 (Or.inr (Nat.le_trans (Keep.refl h4 []).1 (Nat.le_of_eq g8.symm)))))
    obtain ⟨_, _, ⟨T24, L24, k24, n24⟩, -, X24, ⟨Lc24, hQ24, l24, y24, z24⟩, st24⟩ := Jvm.LawKit.callS X23 hx (y := (⟨"com/example/restate/restate/TargetIsAttachedPinLaw", "at", "(Ljava/lang/String;IC)C"⟩ : MethodName)) hown4 (mvT hZ4 (hw _ (List.mem_of_getElem? (i := 23) rfl))) (mvT hZ4 (hw _ (List.mem_of_getElem? (i := 24) rfl))) (mvT hZ4 (hw _ (List.mem_of_getElem? (i := 25) rfl))) (mvT hZ4 (hw _ (List.mem_of_getElem? (i := 26) rfl))) (by decide) (backOf (W := 2) (rmA l Z a0 hw [] lit4 3 (own_c p5) own_EX G1 G3 h23 n0 (Nat.le_trans Z0 K5.1) O2 P5 O4 rG3 f25 f26 (by decide) (by decide)) hZ4 (hw _ (List.mem_of_getElem? (i := 26) rfl)) (hw _ (List.mem_of_getElem? (i := 25) rfl)) (by decide) (by decide)) (g := (mkF m 119 #[.val (.int p1), .val (.int p2), .val (.int p3), .val (.int p4), .val (.int p5), .val (.int p6), .val (.int (own_b (own_bit p1))), .val (.ref lit4), .val (.int (7 : Int32)), .val (.int (own_c p5)), .val (.int (own_c p4)), .val (.int (own_n p2)), .val (.int (own_p p3)), .val (.ref b8), .unset, .unset, .unset, .unset] [(.int (own_c p5)), (.int (3 : Int32)), (.ref lit4), (.int (3 : Int32)), (.ref b8)])) rfl (by rw [hml]; rfl) (argsL := [(.ref lit4), (.int (3 : Int32)), (.int (own_c p5))]) (rest := [(.int (3 : Int32)), (.ref b8)]) (lenOf own_pd__Ljava_lang_String_IC_C rfl) rfl (by show 2 * 0 + _ ≤ _; exact Nat.le_of_eq rfl) (hb hby at_119) (fun _ _ => ⟨rfl, e23, (by decide : 3 + 0 ≤ _), (by decide : 41 + 0 ≤ _)⟩)
    dsimp only [Pt.U, Pt.locs, Pt.cells, Pt.slots] at X24 l24 y24 z24 st24 hQ24
    rw [l24] at X24
    clear l24; subst y24 z24
    obtain ⟨rfl, N24q, e24q⟩ := hQ24
    have N24a := Fr.app Nf23 N24q
    obtain ⟨cl27, Ar27, q27, S27, N_27, H_27, G27⟩ := id V23_b8
    obtain ⟨T28, h28, X28, e28, W28, st28⟩ := stC X24 hx hZ4 e24q Ar27 (j := (3 : Int32)) (inb_of S27 ⟨by decide, by decide⟩) (g := (mkF m 122 #[.val (.int p1), .val (.int p2), .val (.int p3), .val (.int p4), .val (.int p5), .val (.int p6), .val (.int (own_b (own_bit p1))), .val (.ref lit4), .val (.int (7 : Int32)), .val (.int (own_c p5)), .val (.int (own_c p4)), .val (.int (own_n p2)), .val (.int (own_p p3)), .val (.ref b8), .unset, .unset, .unset, .unset] [(.int (105 : Int32)), (.int (3 : Int32)), (.ref b8)])) rfl rfl (hb hby at_122)
    have V28_b8 : Arv Z h28 b8 ka8 .char (9 : Int32) [(.int (nar .char (101 : Int32))), (.int (nar .char (120 : Int32))), (.int (nar .char (104 : Int32))), (.int (nar .char (105 : Int32))), (.int (0 : Int32)), (.int (0 : Int32)), (.int (0 : Int32)), (.int (0 : Int32)), (.int (0 : Int32))] (.int (0 : Int32)) := Arv.set Ar27 q27 S27 N_27 H_27 G27 (fits_nar_char _) W28 3 rfl (Nat.le_of_ble_eq_true rfl)
    have Nf28 := Fr.snoc X28 N24a g_b8
    have CH6 : CHr Z own_EL s.vm h0 T4.vm h28 := CH5.trans (CHr.wr W28 (own_safeV (hZ4 : Z.Warmed39 T4.vm).alike V23_b8 (by decide)) CH5.1)
    have K6 : Keep h0 h28 [] := K5.wr W28 (Or.inr sz_b8)
    have f30 : Old Z n0 h28 := (f25.wr W28 g_b8)
    have f31 : StrV Z h28 lit4 own_EX := (SL4.keep0 ((((((Keep.refl h4 []).ext E8).wr W13 (Or.inr (Nat.le_trans (Keep.refl h4 []).1 (Nat.le_of_eq g8.symm)))).wr W18 (Or.inr (Nat.le_trans (Keep.refl h4 []).1 (Nat.le_of_eq g8.symm)))).wr W23 (Or.inr (Nat.le_trans (Keep.refl h4 []).1 (Nat.le_of_eq g8.symm)))).wr W28 (Or.inr (Nat.le_trans (Keep.refl h4 []).1 (Nat.le_of_eq g8.symm)))))
    obtain ⟨_, _, ⟨T29, L29, k29, n29⟩, -, X29, ⟨Lc29, hQ29, l29, y29, z29⟩, st29⟩ := Jvm.LawKit.callS X28 hx (y := (⟨"com/example/restate/restate/TargetIsAttachedPinLaw", "at", "(Ljava/lang/String;IC)C"⟩ : MethodName)) hown4 (mvT hZ4 (hw _ (List.mem_of_getElem? (i := 23) rfl))) (mvT hZ4 (hw _ (List.mem_of_getElem? (i := 24) rfl))) (mvT hZ4 (hw _ (List.mem_of_getElem? (i := 25) rfl))) (mvT hZ4 (hw _ (List.mem_of_getElem? (i := 26) rfl))) (by decide) (backOf (W := 2) (rmA l Z a0 hw [] lit4 4 (own_c p5) own_EX G1 G3 h28 n0 (Nat.le_trans Z0 K6.1) O2 P5 O4 rG3 f30 f31 (by decide) (by decide)) hZ4 (hw _ (List.mem_of_getElem? (i := 26) rfl)) (hw _ (List.mem_of_getElem? (i := 25) rfl)) (by decide) (by decide)) (g := (mkF m 131 #[.val (.int p1), .val (.int p2), .val (.int p3), .val (.int p4), .val (.int p5), .val (.int p6), .val (.int (own_b (own_bit p1))), .val (.ref lit4), .val (.int (7 : Int32)), .val (.int (own_c p5)), .val (.int (own_c p4)), .val (.int (own_n p2)), .val (.int (own_p p3)), .val (.ref b8), .unset, .unset, .unset, .unset] [(.int (own_c p5)), (.int (4 : Int32)), (.ref lit4), (.int (4 : Int32)), (.ref b8)])) rfl (by rw [hml]; rfl) (argsL := [(.ref lit4), (.int (4 : Int32)), (.int (own_c p5))]) (rest := [(.int (4 : Int32)), (.ref b8)]) (lenOf own_pd__Ljava_lang_String_IC_C rfl) rfl (by show 2 * 0 + _ ≤ _; exact Nat.le_of_eq rfl) (hb hby at_131) (fun _ _ => ⟨rfl, e28, (by decide : 3 + 0 ≤ _), (by decide : 41 + 0 ≤ _)⟩)
    dsimp only [Pt.U, Pt.locs, Pt.cells, Pt.slots] at X29 l29 y29 z29 st29 hQ29
    rw [l29] at X29
    clear l29; subst y29 z29
    obtain ⟨rfl, N29q, e29q⟩ := hQ29
    have N29a := Fr.app Nf28 N29q
    obtain ⟨cl32, Ar32, q32, S32, N_32, H_32, G32⟩ := id V28_b8
    obtain ⟨T33, h33, X33, e33, W33, st33⟩ := stC X29 hx hZ4 e29q Ar32 (j := (4 : Int32)) (inb_of S32 ⟨by decide, by decide⟩) (g := (mkF m 134 #[.val (.int p1), .val (.int p2), .val (.int p3), .val (.int p4), .val (.int p5), .val (.int p6), .val (.int (own_b (own_bit p1))), .val (.ref lit4), .val (.int (7 : Int32)), .val (.int (own_c p5)), .val (.int (own_c p4)), .val (.int (own_n p2)), .val (.int (own_p p3)), .val (.ref b8), .unset, .unset, .unset, .unset] [(.int (98 : Int32)), (.int (4 : Int32)), (.ref b8)])) rfl rfl (hb hby at_134)
    have V33_b8 : Arv Z h33 b8 ka8 .char (9 : Int32) [(.int (nar .char (101 : Int32))), (.int (nar .char (120 : Int32))), (.int (nar .char (104 : Int32))), (.int (nar .char (105 : Int32))), (.int (nar .char (98 : Int32))), (.int (0 : Int32)), (.int (0 : Int32)), (.int (0 : Int32)), (.int (0 : Int32))] (.int (0 : Int32)) := Arv.set Ar32 q32 S32 N_32 H_32 G32 (fits_nar_char _) W33 4 rfl (Nat.le_of_ble_eq_true rfl)
    have Nf33 := Fr.snoc X33 N29a g_b8
    have CH7 : CHr Z own_EL s.vm h0 T4.vm h33 := CH6.trans (CHr.wr W33 (own_safeV (hZ4 : Z.Warmed39 T4.vm).alike V28_b8 (by decide)) CH6.1)
    have K7 : Keep h0 h33 [] := K6.wr W33 (Or.inr sz_b8)
    have f35 : Old Z n0 h33 := (f30.wr W33 g_b8)
    have f36 : StrV Z h33 lit4 own_EX := (SL4.keep0 (((((((Keep.refl h4 []).ext E8).wr W13 (Or.inr (Nat.le_trans (Keep.refl h4 []).1 (Nat.le_of_eq g8.symm)))).wr W18 (Or.inr (Nat.le_trans (Keep.refl h4 []).1 (Nat.le_of_eq g8.symm)))).wr W23 (Or.inr (Nat.le_trans (Keep.refl h4 []).1 (Nat.le_of_eq g8.symm)))).wr W28 (Or.inr (Nat.le_trans (Keep.refl h4 []).1 (Nat.le_of_eq g8.symm)))).wr W33 (Or.inr (Nat.le_trans (Keep.refl h4 []).1 (Nat.le_of_eq g8.symm)))))
    obtain ⟨_, _, ⟨T34, L34, k34, n34⟩, -, X34, ⟨Lc34, hQ34, l34, y34, z34⟩, st34⟩ := Jvm.LawKit.callS X33 hx (y := (⟨"com/example/restate/restate/TargetIsAttachedPinLaw", "at", "(Ljava/lang/String;IC)C"⟩ : MethodName)) hown4 (mvT hZ4 (hw _ (List.mem_of_getElem? (i := 23) rfl))) (mvT hZ4 (hw _ (List.mem_of_getElem? (i := 24) rfl))) (mvT hZ4 (hw _ (List.mem_of_getElem? (i := 25) rfl))) (mvT hZ4 (hw _ (List.mem_of_getElem? (i := 26) rfl))) (by decide) (backOf (W := 2) (rmA l Z a0 hw [] lit4 5 (own_c p5) own_EX G1 G3 h33 n0 (Nat.le_trans Z0 K7.1) O2 P5 O4 rG3 f35 f36 (by decide) (by decide)) hZ4 (hw _ (List.mem_of_getElem? (i := 26) rfl)) (hw _ (List.mem_of_getElem? (i := 25) rfl)) (by decide) (by decide)) (g := (mkF m 143 #[.val (.int p1), .val (.int p2), .val (.int p3), .val (.int p4), .val (.int p5), .val (.int p6), .val (.int (own_b (own_bit p1))), .val (.ref lit4), .val (.int (7 : Int32)), .val (.int (own_c p5)), .val (.int (own_c p4)), .val (.int (own_n p2)), .val (.int (own_p p3)), .val (.ref b8), .unset, .unset, .unset, .unset] [(.int (own_c p5)), (.int (5 : Int32)), (.ref lit4), (.int (5 : Int32)), (.ref b8)])) rfl (by rw [hml]; rfl) (argsL := [(.ref lit4), (.int (5 : Int32)), (.int (own_c p5))]) (rest := [(.int (5 : Int32)), (.ref b8)]) (lenOf own_pd__Ljava_lang_String_IC_C rfl) rfl (by show 2 * 0 + _ ≤ _; exact Nat.le_of_eq rfl) (hb hby at_143) (fun _ _ => ⟨rfl, e33, (by decide : 3 + 0 ≤ _), (by decide : 41 + 0 ≤ _)⟩)
    dsimp only [Pt.U, Pt.locs, Pt.cells, Pt.slots] at X34 l34 y34 z34 st34 hQ34
    rw [l34] at X34
    clear l34; subst y34 z34
    obtain ⟨rfl, N34q, e34q⟩ := hQ34
    have N34a := Fr.app Nf33 N34q
    obtain ⟨cl37, Ar37, q37, S37, N_37, H_37, G37⟩ := id V33_b8
    obtain ⟨T38, h38, X38, e38, W38, st38⟩ := stC X34 hx hZ4 e34q Ar37 (j := (5 : Int32)) (inb_of S37 ⟨by decide, by decide⟩) (g := (mkF m 146 #[.val (.int p1), .val (.int p2), .val (.int p3), .val (.int p4), .val (.int p5), .val (.int p6), .val (.int (own_b (own_bit p1))), .val (.ref lit4), .val (.int (7 : Int32)), .val (.int (own_c p5)), .val (.int (own_c p4)), .val (.int (own_n p2)), .val (.int (own_p p3)), .val (.ref b8), .unset, .unset, .unset, .unset] [(.int (105 : Int32)), (.int (5 : Int32)), (.ref b8)])) rfl rfl (hb hby at_146)
    have V38_b8 : Arv Z h38 b8 ka8 .char (9 : Int32) [(.int (nar .char (101 : Int32))), (.int (nar .char (120 : Int32))), (.int (nar .char (104 : Int32))), (.int (nar .char (105 : Int32))), (.int (nar .char (98 : Int32))), (.int (nar .char (105 : Int32))), (.int (0 : Int32)), (.int (0 : Int32)), (.int (0 : Int32))] (.int (0 : Int32)) := Arv.set Ar37 q37 S37 N_37 H_37 G37 (fits_nar_char _) W38 5 rfl (Nat.le_of_ble_eq_true rfl)
    have Nf38 := Fr.snoc X38 N34a g_b8
    have CH8 : CHr Z own_EL s.vm h0 T4.vm h38 := CH7.trans (CHr.wr W38 (own_safeV (hZ4 : Z.Warmed39 T4.vm).alike V33_b8 (by decide)) CH7.1)
    have K8 : Keep h0 h38 [] := K7.wr W38 (Or.inr sz_b8)
    have f40 : Old Z n0 h38 := (f35.wr W38 g_b8)
    have f41 : StrV Z h38 lit4 own_EX := (SL4.keep0 ((((((((Keep.refl h4 []).ext E8).wr W13 (Or.inr (Nat.le_trans (Keep.refl h4 []).1 (Nat.le_of_eq g8.symm)))).wr W18 (Or.inr (Nat.le_trans (Keep.refl h4 []).1 (Nat.le_of_eq g8.symm)))).wr W23 (Or.inr (Nat.le_trans (Keep.refl h4 []).1 (Nat.le_of_eq g8.symm)))).wr W28 (Or.inr (Nat.le_trans (Keep.refl h4 []).1 (Nat.le_of_eq g8.symm)))).wr W33 (Or.inr (Nat.le_trans (Keep.refl h4 []).1 (Nat.le_of_eq g8.symm)))).wr W38 (Or.inr (Nat.le_trans (Keep.refl h4 []).1 (Nat.le_of_eq g8.symm)))))
    obtain ⟨_, _, ⟨T39, L39, k39, n39⟩, -, X39, ⟨Lc39, hQ39, l39, y39, z39⟩, st39⟩ := Jvm.LawKit.callS X38 hx (y := (⟨"com/example/restate/restate/TargetIsAttachedPinLaw", "at", "(Ljava/lang/String;IC)C"⟩ : MethodName)) hown4 (mvT hZ4 (hw _ (List.mem_of_getElem? (i := 23) rfl))) (mvT hZ4 (hw _ (List.mem_of_getElem? (i := 24) rfl))) (mvT hZ4 (hw _ (List.mem_of_getElem? (i := 25) rfl))) (mvT hZ4 (hw _ (List.mem_of_getElem? (i := 26) rfl))) (by decide) (backOf (W := 2) (rmA l Z a0 hw [] lit4 6 (own_c p5) own_EX G1 G3 h38 n0 (Nat.le_trans Z0 K8.1) O2 P5 O4 rG3 f40 f41 (by decide) (by decide)) hZ4 (hw _ (List.mem_of_getElem? (i := 26) rfl)) (hw _ (List.mem_of_getElem? (i := 25) rfl)) (by decide) (by decide)) (g := (mkF m 157 #[.val (.int p1), .val (.int p2), .val (.int p3), .val (.int p4), .val (.int p5), .val (.int p6), .val (.int (own_b (own_bit p1))), .val (.ref lit4), .val (.int (7 : Int32)), .val (.int (own_c p5)), .val (.int (own_c p4)), .val (.int (own_n p2)), .val (.int (own_p p3)), .val (.ref b8), .unset, .unset, .unset, .unset] [(.int (own_c p5)), (.int (6 : Int32)), (.ref lit4), (.int (6 : Int32)), (.ref b8)])) rfl (by rw [hml]; rfl) (argsL := [(.ref lit4), (.int (6 : Int32)), (.int (own_c p5))]) (rest := [(.int (6 : Int32)), (.ref b8)]) (lenOf own_pd__Ljava_lang_String_IC_C rfl) rfl (by show 2 * 0 + _ ≤ _; exact Nat.le_of_eq rfl) (hb hby at_157) (fun _ _ => ⟨rfl, e38, (by decide : 3 + 0 ≤ _), (by decide : 41 + 0 ≤ _)⟩)
    dsimp only [Pt.U, Pt.locs, Pt.cells, Pt.slots] at X39 l39 y39 z39 st39 hQ39
    rw [l39] at X39
    clear l39; subst y39 z39
    obtain ⟨rfl, N39q, e39q⟩ := hQ39
    have N39a := Fr.app Nf38 N39q
    obtain ⟨cl42, Ar42, q42, S42, N_42, H_42, G42⟩ := id V38_b8
    obtain ⟨T43, h43, X43, e43, W43, st43⟩ := stC X39 hx hZ4 e39q Ar42 (j := (6 : Int32)) (inb_of S42 ⟨by decide, by decide⟩) (g := (mkF m 160 #[.val (.int p1), .val (.int p2), .val (.int p3), .val (.int p4), .val (.int p5), .val (.int p6), .val (.int (own_b (own_bit p1))), .val (.ref lit4), .val (.int (7 : Int32)), .val (.int (own_c p5)), .val (.int (own_c p4)), .val (.int (own_n p2)), .val (.int (own_p p3)), .val (.ref b8), .unset, .unset, .unset, .unset] [(.int (116 : Int32)), (.int (6 : Int32)), (.ref b8)])) rfl rfl (hb hby at_160)
    have V43_b8 : Arv Z h43 b8 ka8 .char (9 : Int32) [(.int (nar .char (101 : Int32))), (.int (nar .char (120 : Int32))), (.int (nar .char (104 : Int32))), (.int (nar .char (105 : Int32))), (.int (nar .char (98 : Int32))), (.int (nar .char (105 : Int32))), (.int (nar .char (116 : Int32))), (.int (0 : Int32)), (.int (0 : Int32))] (.int (0 : Int32)) := Arv.set Ar42 q42 S42 N_42 H_42 G42 (fits_nar_char _) W43 6 rfl (Nat.le_of_ble_eq_true rfl)
    have Nf43 := Fr.snoc X43 N39a g_b8
    have CH9 : CHr Z own_EL s.vm h0 T4.vm h43 := CH8.trans (CHr.wr W43 (own_safeV (hZ4 : Z.Warmed39 T4.vm).alike V38_b8 (by decide)) CH8.1)
    have K9 : Keep h0 h43 [] := K8.wr W43 (Or.inr sz_b8)
    have f45 : Old Z n0 h43 := (f40.wr W43 g_b8)
    have f46 : StrV Z h43 lit4 own_EX := (SL4.keep0 (((((((((Keep.refl h4 []).ext E8).wr W13 (Or.inr (Nat.le_trans (Keep.refl h4 []).1 (Nat.le_of_eq g8.symm)))).wr W18 (Or.inr (Nat.le_trans (Keep.refl h4 []).1 (Nat.le_of_eq g8.symm)))).wr W23 (Or.inr (Nat.le_trans (Keep.refl h4 []).1 (Nat.le_of_eq g8.symm)))).wr W28 (Or.inr (Nat.le_trans (Keep.refl h4 []).1 (Nat.le_of_eq g8.symm)))).wr W33 (Or.inr (Nat.le_trans (Keep.refl h4 []).1 (Nat.le_of_eq g8.symm)))).wr W38 (Or.inr (Nat.le_trans (Keep.refl h4 []).1 (Nat.le_of_eq g8.symm)))).wr W43 (Or.inr (Nat.le_trans (Keep.refl h4 []).1 (Nat.le_of_eq g8.symm)))))
    obtain ⟨_, _, ⟨T44, L44, k44, n44⟩, -, X44, ⟨Lc44, hQ44, l44, y44, z44⟩, st44⟩ := Jvm.LawKit.callS X43 hx (y := (⟨"com/example/restate/restate/TargetIsAttachedPinLaw", "at", "(Ljava/lang/String;IC)C"⟩ : MethodName)) hown4 (mvT hZ4 (hw _ (List.mem_of_getElem? (i := 23) rfl))) (mvT hZ4 (hw _ (List.mem_of_getElem? (i := 24) rfl))) (mvT hZ4 (hw _ (List.mem_of_getElem? (i := 25) rfl))) (mvT hZ4 (hw _ (List.mem_of_getElem? (i := 26) rfl))) (by decide) (backOf (W := 2) (rmA l Z a0 hw [] lit4 7 (own_c p5) own_EX G1 G3 h43 n0 (Nat.le_trans Z0 K9.1) O2 P5 O4 rG3 f45 f46 (by decide) (by decide)) hZ4 (hw _ (List.mem_of_getElem? (i := 26) rfl)) (hw _ (List.mem_of_getElem? (i := 25) rfl)) (by decide) (by decide)) (g := (mkF m 171 #[.val (.int p1), .val (.int p2), .val (.int p3), .val (.int p4), .val (.int p5), .val (.int p6), .val (.int (own_b (own_bit p1))), .val (.ref lit4), .val (.int (7 : Int32)), .val (.int (own_c p5)), .val (.int (own_c p4)), .val (.int (own_n p2)), .val (.int (own_p p3)), .val (.ref b8), .unset, .unset, .unset, .unset] [(.int (own_c p5)), (.int (7 : Int32)), (.ref lit4), (.int (7 : Int32)), (.ref b8)])) rfl (by rw [hml]; rfl) (argsL := [(.ref lit4), (.int (7 : Int32)), (.int (own_c p5))]) (rest := [(.int (7 : Int32)), (.ref b8)]) (lenOf own_pd__Ljava_lang_String_IC_C rfl) rfl (by show 2 * 0 + _ ≤ _; exact Nat.le_of_eq rfl) (hb hby at_171) (fun _ _ => ⟨rfl, e43, (by decide : 3 + 0 ≤ _), (by decide : 41 + 0 ≤ _)⟩)
    dsimp only [Pt.U, Pt.locs, Pt.cells, Pt.slots] at X44 l44 y44 z44 st44 hQ44
    rw [l44] at X44
    clear l44; subst y44 z44
    obtain ⟨rfl, N44q, e44q⟩ := hQ44
    have N44a := Fr.app Nf43 N44q
    obtain ⟨cl47, Ar47, q47, S47, N_47, H_47, G47⟩ := id V43_b8
    obtain ⟨T48, h48, X48, e48, W48, st48⟩ := stC X44 hx hZ4 e44q Ar47 (j := (7 : Int32)) (inb_of S47 ⟨by decide, by decide⟩) (g := (mkF m 174 #[.val (.int p1), .val (.int p2), .val (.int p3), .val (.int p4), .val (.int p5), .val (.int p6), .val (.int (own_b (own_bit p1))), .val (.ref lit4), .val (.int (7 : Int32)), .val (.int (own_c p5)), .val (.int (own_c p4)), .val (.int (own_n p2)), .val (.int (own_p p3)), .val (.ref b8), .unset, .unset, .unset, .unset] [(.int (nar .char (own_c p5))), (.int (7 : Int32)), (.ref b8)])) rfl rfl (hb hby at_174)
    have V48_b8 : Arv Z h48 b8 ka8 .char (9 : Int32) [(.int (nar .char (101 : Int32))), (.int (nar .char (120 : Int32))), (.int (nar .char (104 : Int32))), (.int (nar .char (105 : Int32))), (.int (nar .char (98 : Int32))), (.int (nar .char (105 : Int32))), (.int (nar .char (116 : Int32))), (.int (nar .char (nar .char (own_c p5)))), (.int (0 : Int32))] (.int (0 : Int32)) := Arv.set Ar47 q47 S47 N_47 H_47 G47 (fits_nar_char _) W48 7 rfl (Nat.le_of_ble_eq_true rfl)
    have Nf48 := Fr.snoc X48 N44a g_b8
    have CH10 : CHr Z own_EL s.vm h0 T4.vm h48 := CH9.trans (CHr.wr W48 (own_safeV (hZ4 : Z.Warmed39 T4.vm).alike V43_b8 (by decide)) CH9.1)
    have K10 : Keep h0 h48 [] := K9.wr W48 (Or.inr sz_b8)
    have f50 : Old Z n0 h48 := (f45.wr W48 g_b8)
    have f51 : StrV Z h48 lit4 own_EX := (SL4.keep0 ((((((((((Keep.refl h4 []).ext E8).wr W13 (Or.inr (Nat.le_trans (Keep.refl h4 []).1 (Nat.le_of_eq g8.symm)))).wr W18 (Or.inr (Nat.le_trans (Keep.refl h4 []).1 (Nat.le_of_eq g8.symm)))).wr W23 (Or.inr (Nat.le_trans (Keep.refl h4 []).1 (Nat.le_of_eq g8.symm)))).wr W28 (Or.inr (Nat.le_trans (Keep.refl h4 []).1 (Nat.le_of_eq g8.symm)))).wr W33 (Or.inr (Nat.le_trans (Keep.refl h4 []).1 (Nat.le_of_eq g8.symm)))).wr W38 (Or.inr (Nat.le_trans (Keep.refl h4 []).1 (Nat.le_of_eq g8.symm)))).wr W43 (Or.inr (Nat.le_trans (Keep.refl h4 []).1 (Nat.le_of_eq g8.symm)))).wr W48 (Or.inr (Nat.le_trans (Keep.refl h4 []).1 (Nat.le_of_eq g8.symm)))))
    obtain ⟨_, _, ⟨T49, L49, k49, n49⟩, -, X49, ⟨Lc49, hQ49, l49, y49, z49⟩, st49⟩ := Jvm.LawKit.callS X48 hx (y := (⟨"com/example/restate/restate/TargetIsAttachedPinLaw", "at", "(Ljava/lang/String;IC)C"⟩ : MethodName)) hown4 (mvT hZ4 (hw _ (List.mem_of_getElem? (i := 23) rfl))) (mvT hZ4 (hw _ (List.mem_of_getElem? (i := 24) rfl))) (mvT hZ4 (hw _ (List.mem_of_getElem? (i := 25) rfl))) (mvT hZ4 (hw _ (List.mem_of_getElem? (i := 26) rfl))) (by decide) (backOf (W := 2) (rmA l Z a0 hw [] lit4 8 (own_c p5) own_EX G1 G3 h48 n0 (Nat.le_trans Z0 K10.1) O2 P5 O4 rG3 f50 f51 (by decide) (by decide)) hZ4 (hw _ (List.mem_of_getElem? (i := 26) rfl)) (hw _ (List.mem_of_getElem? (i := 25) rfl)) (by decide) (by decide)) (g := (mkF m 185 #[.val (.int p1), .val (.int p2), .val (.int p3), .val (.int p4), .val (.int p5), .val (.int p6), .val (.int (own_b (own_bit p1))), .val (.ref lit4), .val (.int (7 : Int32)), .val (.int (own_c p5)), .val (.int (own_c p4)), .val (.int (own_n p2)), .val (.int (own_p p3)), .val (.ref b8), .unset, .unset, .unset, .unset] [(.int (own_c p5)), (.int (8 : Int32)), (.ref lit4), (.int (8 : Int32)), (.ref b8)])) rfl (by rw [hml]; rfl) (argsL := [(.ref lit4), (.int (8 : Int32)), (.int (own_c p5))]) (rest := [(.int (8 : Int32)), (.ref b8)]) (lenOf own_pd__Ljava_lang_String_IC_C rfl) rfl (by show 2 * 0 + _ ≤ _; exact Nat.le_of_eq rfl) (hb hby at_185) (fun _ _ => ⟨rfl, e48, (by decide : 3 + 0 ≤ _), (by decide : 41 + 0 ≤ _)⟩)
    dsimp only [Pt.U, Pt.locs, Pt.cells, Pt.slots] at X49 l49 y49 z49 st49 hQ49
    rw [l49] at X49
    clear l49; subst y49 z49
    obtain ⟨rfl, N49q, e49q⟩ := hQ49
    have N49a := Fr.app Nf48 N49q
    obtain ⟨cl52, Ar52, q52, S52, N_52, H_52, G52⟩ := id V48_b8
    obtain ⟨T53, h53, X53, e53, W53, st53⟩ := stC X49 hx hZ4 e49q Ar52 (j := (8 : Int32)) (inb_of S52 ⟨by decide, by decide⟩) (g := (mkF m 188 #[.val (.int p1), .val (.int p2), .val (.int p3), .val (.int p4), .val (.int p5), .val (.int p6), .val (.int (own_b (own_bit p1))), .val (.ref lit4), .val (.int (7 : Int32)), .val (.int (own_c p5)), .val (.int (own_c p4)), .val (.int (own_n p2)), .val (.int (own_p p3)), .val (.ref b8), .unset, .unset, .unset, .unset] [(.int (nar .char (own_c p5))), (.int (8 : Int32)), (.ref b8)])) rfl rfl (hb hby at_188)
    have V53_b8 : Arv Z h53 b8 ka8 .char (9 : Int32) [(.int (nar .char (101 : Int32))), (.int (nar .char (120 : Int32))), (.int (nar .char (104 : Int32))), (.int (nar .char (105 : Int32))), (.int (nar .char (98 : Int32))), (.int (nar .char (105 : Int32))), (.int (nar .char (116 : Int32))), (.int (nar .char (nar .char (own_c p5)))), (.int (nar .char (nar .char (own_c p5))))] (.int (0 : Int32)) := Arv.set Ar52 q52 S52 N_52 H_52 G52 (fits_nar_char _) W53 8 rfl (Nat.le_of_ble_eq_true rfl)
    have Nf53 := Fr.snoc X53 N49a g_b8
    have CH11 : CHr Z own_EL s.vm h0 T4.vm h53 := CH10.trans (CHr.wr W53 (own_safeV (hZ4 : Z.Warmed39 T4.vm).alike V48_b8 (by decide)) CH10.1)
    have K11 : Keep h0 h53 [] := K10.wr W53 (Or.inr sz_b8)
    obtain ⟨cl54, Ar54, q54, S54, N_54, H_54, G54⟩ := id V53_b8
    obtain ⟨T55, h55, X55, e55, W55, st55⟩ := stC X53 hx hZ4 e53 Ar54 (j := (own_p p3)) (inb_of S54 (own_p_in p3)) (g := (mkF m 195 #[.val (.int p1), .val (.int p2), .val (.int p3), .val (.int p4), .val (.int p5), .val (.int p6), .val (.int (own_b (own_bit p1))), .val (.ref lit4), .val (.int (7 : Int32)), .val (.int (own_c p5)), .val (.int (own_c p4)), .val (.int (own_n p2)), .val (.int (own_p p3)), .val (.ref b8), .unset, .unset, .unset, .unset] [(.int (own_c p4)), (.int (own_p p3)), (.ref b8)])) rfl rfl (hb hby at_195)
    have V55_b8' := Arv.set Ar54 q54 S54 N_54 H_54 G54 (fits_nar_char _) W55 (own_p p3).toNatClampNeg rfl (own_p_lt p3)
    have V55_b8 : Arv Z h55 b8 ka8 .char (9 : Int32) ((own_arr (own_baseE p5) p3 p4).map Value.int) (.int (0 : Int32)) := by
      rw [own_arr, List.map_set]; exact V55_b8'
    have Nf55 := Fr.snoc X55 Nf53 g_b8
    have CH12 : CHr Z own_EL s.vm h0 T4.vm h55 := CH11.trans (CHr.wr W55 (own_safeV (hZ4 : Z.Warmed39 T4.vm).alike V53_b8 (by decide)) CH11.1)
    have K12 : Keep h0 h55 [] := K11.wr W55 (Or.inr sz_b8)
    have f57 : Old Z n0 h55 := ((f50.wr W53 g_b8).wr W55 g_b8)
    obtain ⟨_, _, ⟨T56, L56, k56, n56⟩, -, X56', hs56, hg56, ⟨Lc56, hQ56, l56, y56, z56, C56⟩, st56⟩ := callSS X55 hx (y := (⟨"com/example/restate/restate/TargetIsAttachedPinLaw", "cut", "([CI)Ljava/lang/String;"⟩ : MethodName)) hown4 (mvT hZ4 (hw _ (List.mem_of_getElem? (i := 49) rfl))) (mvT hZ4 (hw _ (List.mem_of_getElem? (i := 50) rfl))) (mvT hZ4 (hw _ (List.mem_of_getElem? (i := 25) rfl))) (mvT hZ4 (hw _ (List.mem_of_getElem? (i := 51) rfl))) (by decide) (backOfSH (W := 0) (rmC l Z a0 hw [] hEL b8 (own_n p2) (own_arr (own_baseE p5) p3 p4) ka8 G1 G3 h55 n0 (Nat.le_trans Z0 K12.1) O2 P5 O4 rG3 f57 V55_b8 (own_arr_lat _ (own_baseE_lat p5) p3 p4) (own_n_r p2)) hZ4 (hw _ (List.mem_of_getElem? (i := 51) rfl)) (hw _ (List.mem_of_getElem? (i := 25) rfl)) (by decide) (by decide) hEL CH12.1) (g := (mkF m 200 #[.val (.int p1), .val (.int p2), .val (.int p3), .val (.int p4), .val (.int p5), .val (.int p6), .val (.int (own_b (own_bit p1))), .val (.ref lit4), .val (.int (7 : Int32)), .val (.int (own_c p5)), .val (.int (own_c p4)), .val (.int (own_n p2)), .val (.int (own_p p3)), .val (.ref b8), .unset, .unset, .unset, .unset] [(.int (own_n p2)), (.ref b8)])) rfl (by rw [hml]; rfl) (argsL := [(.ref b8), (.int (own_n p2))]) (rest := []) (lenOf own_pd___CI_Ljava_lang_String_ rfl) rfl (by show 2 * 0 + _ ≤ _; exact Nat.le_of_eq rfl) (hb hby at_200) (fun _ _ => ⟨rfl, e55, (by decide : 3 + 4 ≤ _), (by decide : 41 + 22 ≤ _)⟩)
    dsimp only [Pt.U, Pt.locs, Pt.cells, Pt.slots] at X56' l56 y56 z56 st56 hQ56 C56 hs56 hg56
    rw [l56] at X56'
    clear l56; subst y56 z56
    have hk_58 := Nat.le_trans hk4 ((((((((((((Keep.refl h4 []).ext E8).wr W13 (Or.inr (Nat.le_trans (Keep.refl h4 []).1 (Nat.le_of_eq g8.symm)))).wr W18 (Or.inr (Nat.le_trans (Keep.refl h4 []).1 (Nat.le_of_eq g8.symm)))).wr W23 (Or.inr (Nat.le_trans (Keep.refl h4 []).1 (Nat.le_of_eq g8.symm)))).wr W28 (Or.inr (Nat.le_trans (Keep.refl h4 []).1 (Nat.le_of_eq g8.symm)))).wr W33 (Or.inr (Nat.le_trans (Keep.refl h4 []).1 (Nat.le_of_eq g8.symm)))).wr W38 (Or.inr (Nat.le_trans (Keep.refl h4 []).1 (Nat.le_of_eq g8.symm)))).wr W43 (Or.inr (Nat.le_trans (Keep.refl h4 []).1 (Nat.le_of_eq g8.symm)))).wr W48 (Or.inr (Nat.le_trans (Keep.refl h4 []).1 (Nat.le_of_eq g8.symm)))).wr W53 (Or.inr (Nat.le_trans (Keep.refl h4 []).1 (Nat.le_of_eq g8.symm)))).wr W55 (Or.inr (Nat.le_trans (Keep.refl h4 []).1 (Nat.le_of_eq g8.symm)))).1
    obtain ⟨X56, hS56, hZ56, hown56⟩ := rebS hS4 (by rw [e55]; exact hk_58) X56' hs56 hg56 hZ4 hown4
    obtain ⟨r56, rfl, N56q, K56q, SV56⟩ := hQ56
    have N56a := Fr.app Nf55 N56q
    have CH13 : CHr Z own_EL s.vm h0 T56.vm T56.heap := CH12.trans C56
    have K13 : Keep h0 T56.heap [] := K12.trans K56q all0
    have cut59 : ∀ t, Steps p.tables e below (T56.setTop (mkF m 209 #[.val (.int p1), .val (.int p2), .val (.int p3), .val (.int p4), .val (.int p5), .val (.int p6), .val (.int (own_b (own_bit p1))), .val (.ref lit4), .val (.int (7 : Int32)), .val (.int (own_c p5)), .val (.int (own_c p4)), .val (.int (own_n p2)), .val (.int (own_p p3)), .val (.ref b8), .val (.ref r56), .unset, .unset, .unset] [(.int (own_bit p6))])) t → Steps p.tables e below (s₁.setTop (mkF m 0 #[.val (.int p1), .val (.int p2), .val (.int p3), .val (.int p4), .val (.int p5), .val (.int p6), .unset, .unset, .unset, .unset, .unset, .unset, .unset, .unset, .unset, .unset, .unset, .unset] [])) t := fun t kk => by
      refine cut3 _ ?_
      show Steps p.tables e below (s₁.setTop (mkF m 15 #[.val (.int p1), .val (.int p2), .val (.int p3), .val (.int p4), .val (.int p5), .val (.int p6), .val (.int (own_b (own_bit p1))), .unset, .unset, .unset, .unset, .unset, .unset, .unset, .unset, .unset, .unset, .unset] [(.int (own_b (own_bit p1)))])) _
      refine XS.ifYes X0.here hx rfl (pc0 := 15) (pc' := 23) rfl (hb hby at_15) rfl ((if0 _ _).trans (teq (hs : (own_b (own_bit p1)) = (0 : Int32))).1) (by decide) (by decide) ?_
      show Steps p.tables e below (s₁.setTop (mkF m 23 #[.val (.int p1), .val (.int p2), .val (.int p3), .val (.int p4), .val (.int p5), .val (.int p6), .val (.int (own_b (own_bit p1))), .unset, .unset, .unset, .unset, .unset, .unset, .unset, .unset, .unset, .unset, .unset] [])) _
      refine st4 _ ?_
      refine XS.astore X4.here hx rfl (hb hby at_25) rfl rfl (l' := #[.val (.int p1), .val (.int p2), .val (.int p3), .val (.int p4), .val (.int p5), .val (.int p6), .val (.int (own_b (own_bit p1))), .val (.ref lit4), .unset, .unset, .unset, .unset, .unset, .unset, .unset, .unset, .unset, .unset]) rfl ?_
      refine XS.aload X4.here hx rfl (hb hby at_27) rfl rfl ?_
      show Steps p.tables e below (T4.setTop (mkF m 29 #[.val (.int p1), .val (.int p2), .val (.int p3), .val (.int p4), .val (.int p5), .val (.int p6), .val (.int (own_b (own_bit p1))), .val (.ref lit4), .unset, .unset, .unset, .unset, .unset, .unset, .unset, .unset, .unset, .unset] [(.ref lit4)])) _
      refine st5.trans ?_
      refine XS.istore X5.here hx rfl (hb hby at_32) rfl (l' := #[.val (.int p1), .val (.int p2), .val (.int p3), .val (.int p4), .val (.int p5), .val (.int p6), .val (.int (own_b (own_bit p1))), .val (.ref lit4), .val (.int (7 : Int32)), .unset, .unset, .unset, .unset, .unset, .unset, .unset, .unset, .unset]) rfl ?_
      refine XS.iload X5.here hx rfl (hb hby at_34) rfl ?_
      show Steps p.tables e below (T5.setTop (mkF m 36 #[.val (.int p1), .val (.int p2), .val (.int p3), .val (.int p4), .val (.int p5), .val (.int p6), .val (.int (own_b (own_bit p1))), .val (.ref lit4), .val (.int (7 : Int32)), .unset, .unset, .unset, .unset, .unset, .unset, .unset, .unset, .unset] [(.int p5)])) _
      refine XS.sipush X5.here hx rfl (hb hby at_36) ?_
      refine XS.iand X5.here hx rfl (hb hby at_39) rfl ?_
      refine XS.i2c X5.here hx rfl (hb hby at_40) rfl ?_
      show Steps p.tables e below (T5.setTop (mkF m 41 #[.val (.int p1), .val (.int p2), .val (.int p3), .val (.int p4), .val (.int p5), .val (.int p6), .val (.int (own_b (own_bit p1))), .val (.ref lit4), .val (.int (7 : Int32)), .unset, .unset, .unset, .unset, .unset, .unset, .unset, .unset, .unset] [(.int (own_c p5))])) _
      refine XS.istore X5.here hx rfl (hb hby at_41) rfl (l' := #[.val (.int p1), .val (.int p2), .val (.int p3), .val (.int p4), .val (.int p5), .val (.int p6), .val (.int (own_b (own_bit p1))), .val (.ref lit4), .val (.int (7 : Int32)), .val (.int (own_c p5)), .unset, .unset, .unset, .unset, .unset, .unset, .unset, .unset]) rfl ?_
      refine XS.iloadN X5.here hx rfl (hb hby at_43) rfl ?_
      refine XS.sipush X5.here hx rfl (hb hby at_44) ?_
      show Steps p.tables e below (T5.setTop (mkF m 47 #[.val (.int p1), .val (.int p2), .val (.int p3), .val (.int p4), .val (.int p5), .val (.int p6), .val (.int (own_b (own_bit p1))), .val (.ref lit4), .val (.int (7 : Int32)), .val (.int (own_c p5)), .unset, .unset, .unset, .unset, .unset, .unset, .unset, .unset] [(.int (255 : Int32)), (.int p4)])) _
      refine XS.iand X5.here hx rfl (hb hby at_47) rfl ?_
      refine XS.i2c X5.here hx rfl (hb hby at_48) rfl ?_
      refine XS.istore X5.here hx rfl (hb hby at_49) rfl (l' := #[.val (.int p1), .val (.int p2), .val (.int p3), .val (.int p4), .val (.int p5), .val (.int p6), .val (.int (own_b (own_bit p1))), .val (.ref lit4), .val (.int (7 : Int32)), .val (.int (own_c p5)), .val (.int (own_c p4)), .unset, .unset, .unset, .unset, .unset, .unset, .unset]) rfl ?_
      show Steps p.tables e below (T5.setTop (mkF m 51 #[.val (.int p1), .val (.int p2), .val (.int p3), .val (.int p4), .val (.int p5), .val (.int p6), .val (.int (own_b (own_bit p1))), .val (.ref lit4), .val (.int (7 : Int32)), .val (.int (own_c p5)), .val (.int (own_c p4)), .unset, .unset, .unset, .unset, .unset, .unset, .unset] [])) _
      refine XS.iloadN X5.here hx rfl (hb hby at_51) rfl ?_
      show Steps p.tables e below (T5.setTop (mkF m 52 #[.val (.int p1), .val (.int p2), .val (.int p3), .val (.int p4), .val (.int p5), .val (.int p6), .val (.int (own_b (own_bit p1))), .val (.ref lit4), .val (.int (7 : Int32)), .val (.int (own_c p5)), .val (.int (own_c p4)), .unset, .unset, .unset, .unset, .unset, .unset, .unset] [(.int p2)])) _
      refine X5.ldcInt hx hown4 (mvT hZ4 (hw _ (List.mem_of_getElem? (i := 21) rfl))) (g := (mkF m 52 #[.val (.int p1), .val (.int p2), .val (.int p3), .val (.int p4), .val (.int p5), .val (.int p6), .val (.int (own_b (own_bit p1))), .val (.ref lit4), .val (.int (7 : Int32)), .val (.int (own_c p5)), .val (.int (own_c p4)), .unset, .unset, .unset, .unset, .unset, .unset, .unset] [(.int p2)])) rfl (hb hby at_52) _ ?_
      refine XS.iand X5.here hx rfl (hb hby at_54) rfl ?_
      refine XS.bipush X5.here hx rfl (hb hby at_55) ?_
      show Steps p.tables e below (T5.setTop (mkF m 57 #[.val (.int p1), .val (.int p2), .val (.int p3), .val (.int p4), .val (.int p5), .val (.int p6), .val (.int (own_b (own_bit p1))), .val (.ref lit4), .val (.int (7 : Int32)), .val (.int (own_c p5)), .val (.int (own_c p4)), .unset, .unset, .unset, .unset, .unset, .unset, .unset] [(.int (10 : Int32)), (.int (p2 &&& (2147483647 : Int32)))])) _
      refine XS.irem X5.here hx rfl (hb hby at_57) rfl (by decide : (10 : Int32) ≠ 0) ?_
      refine XS.istore X5.here hx rfl (hb hby at_58) rfl (l' := #[.val (.int p1), .val (.int p2), .val (.int p3), .val (.int p4), .val (.int p5), .val (.int p6), .val (.int (own_b (own_bit p1))), .val (.ref lit4), .val (.int (7 : Int32)), .val (.int (own_c p5)), .val (.int (own_c p4)), .val (.int (own_n p2)), .unset, .unset, .unset, .unset, .unset, .unset]) rfl ?_
      refine XS.iloadN X5.here hx rfl (hb hby at_60) rfl ?_
      show Steps p.tables e below (T5.setTop (mkF m 61 #[.val (.int p1), .val (.int p2), .val (.int p3), .val (.int p4), .val (.int p5), .val (.int p6), .val (.int (own_b (own_bit p1))), .val (.ref lit4), .val (.int (7 : Int32)), .val (.int (own_c p5)), .val (.int (own_c p4)), .val (.int (own_n p2)), .unset, .unset, .unset, .unset, .unset, .unset] [(.int p3)])) _
      refine X5.ldcInt hx hown4 (mvT hZ4 (hw _ (List.mem_of_getElem? (i := 21) rfl))) (g := (mkF m 61 #[.val (.int p1), .val (.int p2), .val (.int p3), .val (.int p4), .val (.int p5), .val (.int p6), .val (.int (own_b (own_bit p1))), .val (.ref lit4), .val (.int (7 : Int32)), .val (.int (own_c p5)), .val (.int (own_c p4)), .val (.int (own_n p2)), .unset, .unset, .unset, .unset, .unset, .unset] [(.int p3)])) rfl (hb hby at_61) _ ?_
      refine XS.iand X5.here hx rfl (hb hby at_63) rfl ?_
      refine XS.bipush X5.here hx rfl (hb hby at_64) ?_
      show Steps p.tables e below (T5.setTop (mkF m 66 #[.val (.int p1), .val (.int p2), .val (.int p3), .val (.int p4), .val (.int p5), .val (.int p6), .val (.int (own_b (own_bit p1))), .val (.ref lit4), .val (.int (7 : Int32)), .val (.int (own_c p5)), .val (.int (own_c p4)), .val (.int (own_n p2)), .unset, .unset, .unset, .unset, .unset, .unset] [(.int (9 : Int32)), (.int (p3 &&& (2147483647 : Int32)))])) _
      refine XS.irem X5.here hx rfl (hb hby at_66) rfl (by decide : (9 : Int32) ≠ 0) ?_
      refine XS.istore X5.here hx rfl (hb hby at_67) rfl (l' := #[.val (.int p1), .val (.int p2), .val (.int p3), .val (.int p4), .val (.int p5), .val (.int p6), .val (.int (own_b (own_bit p1))), .val (.ref lit4), .val (.int (7 : Int32)), .val (.int (own_c p5)), .val (.int (own_c p4)), .val (.int (own_n p2)), .val (.int (own_p p3)), .unset, .unset, .unset, .unset, .unset]) rfl ?_
      refine XS.bipush X5.here hx rfl (hb hby at_69) ?_
      show Steps p.tables e below (T5.setTop (mkF m 71 #[.val (.int p1), .val (.int p2), .val (.int p3), .val (.int p4), .val (.int p5), .val (.int p6), .val (.int (own_b (own_bit p1))), .val (.ref lit4), .val (.int (7 : Int32)), .val (.int (own_c p5)), .val (.int (own_c p4)), .val (.int (own_n p2)), .val (.int (own_p p3)), .unset, .unset, .unset, .unset, .unset] [(.int (9 : Int32))])) _
      refine st8 _ ?_
      refine XS.astore X8.here hx rfl (hb hby at_73) rfl rfl (l' := #[.val (.int p1), .val (.int p2), .val (.int p3), .val (.int p4), .val (.int p5), .val (.int p6), .val (.int (own_b (own_bit p1))), .val (.ref lit4), .val (.int (7 : Int32)), .val (.int (own_c p5)), .val (.int (own_c p4)), .val (.int (own_n p2)), .val (.int (own_p p3)), .val (.ref b8), .unset, .unset, .unset, .unset]) rfl ?_
      refine XS.aload X8.here hx rfl (hb hby at_75) rfl rfl ?_
      show Steps p.tables e below (T8.setTop (mkF m 77 #[.val (.int p1), .val (.int p2), .val (.int p3), .val (.int p4), .val (.int p5), .val (.int p6), .val (.int (own_b (own_bit p1))), .val (.ref lit4), .val (.int (7 : Int32)), .val (.int (own_c p5)), .val (.int (own_c p4)), .val (.int (own_n p2)), .val (.int (own_p p3)), .val (.ref b8), .unset, .unset, .unset, .unset] [(.ref b8)])) _
      refine XS.iconst X8.here hx rfl (hb hby at_77) ?_
      refine XS.aload X8.here hx rfl (hb hby at_78) rfl rfl ?_
      refine XS.iconst X8.here hx rfl (hb hby at_80) ?_
      show Steps p.tables e below (T8.setTop (mkF m 81 #[.val (.int p1), .val (.int p2), .val (.int p3), .val (.int p4), .val (.int p5), .val (.int p6), .val (.int (own_b (own_bit p1))), .val (.ref lit4), .val (.int (7 : Int32)), .val (.int (own_c p5)), .val (.int (own_c p4)), .val (.int (own_n p2)), .val (.int (own_p p3)), .val (.ref b8), .unset, .unset, .unset, .unset] [(.int (0 : Int32)), (.ref lit4), (.int (0 : Int32)), (.ref b8)])) _
      refine XS.iload X8.here hx rfl (hb hby at_81) rfl ?_
      show Steps p.tables e below (T8.setTop (mkF m 83 #[.val (.int p1), .val (.int p2), .val (.int p3), .val (.int p4), .val (.int p5), .val (.int p6), .val (.int (own_b (own_bit p1))), .val (.ref lit4), .val (.int (7 : Int32)), .val (.int (own_c p5)), .val (.int (own_c p4)), .val (.int (own_n p2)), .val (.int (own_p p3)), .val (.ref b8), .unset, .unset, .unset, .unset] [(.int (own_c p5)), (.int (0 : Int32)), (.ref lit4), (.int (0 : Int32)), (.ref b8)])) _
      refine st9 _ ?_
      show Steps p.tables e below (T9.setTop (mkF m 86 #[.val (.int p1), .val (.int p2), .val (.int p3), .val (.int p4), .val (.int p5), .val (.int p6), .val (.int (own_b (own_bit p1))), .val (.ref lit4), .val (.int (7 : Int32)), .val (.int (own_c p5)), .val (.int (own_c p4)), .val (.int (own_n p2)), .val (.int (own_p p3)), .val (.ref b8), .unset, .unset, .unset, .unset] [(.int (101 : Int32)), (.int (0 : Int32)), (.ref b8)])) _
      refine st13 _ ?_
      refine XS.aload X13.here hx rfl (hb hby at_87) rfl rfl ?_
      refine XS.iconst X13.here hx rfl (hb hby at_89) ?_
      show Steps p.tables e below (T13.setTop (mkF m 90 #[.val (.int p1), .val (.int p2), .val (.int p3), .val (.int p4), .val (.int p5), .val (.int p6), .val (.int (own_b (own_bit p1))), .val (.ref lit4), .val (.int (7 : Int32)), .val (.int (own_c p5)), .val (.int (own_c p4)), .val (.int (own_n p2)), .val (.int (own_p p3)), .val (.ref b8), .unset, .unset, .unset, .unset] [(.int (1 : Int32)), (.ref b8)])) _
      refine XS.aload X13.here hx rfl (hb hby at_90) rfl rfl ?_
      refine XS.iconst X13.here hx rfl (hb hby at_92) ?_
      refine XS.iload X13.here hx rfl (hb hby at_93) rfl ?_
      show Steps p.tables e below (T13.setTop (mkF m 95 #[.val (.int p1), .val (.int p2), .val (.int p3), .val (.int p4), .val (.int p5), .val (.int p6), .val (.int (own_b (own_bit p1))), .val (.ref lit4), .val (.int (7 : Int32)), .val (.int (own_c p5)), .val (.int (own_c p4)), .val (.int (own_n p2)), .val (.int (own_p p3)), .val (.ref b8), .unset, .unset, .unset, .unset] [(.int (own_c p5)), (.int (1 : Int32)), (.ref lit4), (.int (1 : Int32)), (.ref b8)])) _
      refine st14 _ ?_
      show Steps p.tables e below (T14.setTop (mkF m 98 #[.val (.int p1), .val (.int p2), .val (.int p3), .val (.int p4), .val (.int p5), .val (.int p6), .val (.int (own_b (own_bit p1))), .val (.ref lit4), .val (.int (7 : Int32)), .val (.int (own_c p5)), .val (.int (own_c p4)), .val (.int (own_n p2)), .val (.int (own_p p3)), .val (.ref b8), .unset, .unset, .unset, .unset] [(.int (120 : Int32)), (.int (1 : Int32)), (.ref b8)])) _
      refine st18 _ ?_
      refine XS.aload X18.here hx rfl (hb hby at_99) rfl rfl ?_
      refine XS.iconst X18.here hx rfl (hb hby at_101) ?_
      show Steps p.tables e below (T18.setTop (mkF m 102 #[.val (.int p1), .val (.int p2), .val (.int p3), .val (.int p4), .val (.int p5), .val (.int p6), .val (.int (own_b (own_bit p1))), .val (.ref lit4), .val (.int (7 : Int32)), .val (.int (own_c p5)), .val (.int (own_c p4)), .val (.int (own_n p2)), .val (.int (own_p p3)), .val (.ref b8), .unset, .unset, .unset, .unset] [(.int (2 : Int32)), (.ref b8)])) _
      refine XS.aload X18.here hx rfl (hb hby at_102) rfl rfl ?_
      refine XS.iconst X18.here hx rfl (hb hby at_104) ?_
      refine XS.iload X18.here hx rfl (hb hby at_105) rfl ?_
      show Steps p.tables e below (T18.setTop (mkF m 107 #[.val (.int p1), .val (.int p2), .val (.int p3), .val (.int p4), .val (.int p5), .val (.int p6), .val (.int (own_b (own_bit p1))), .val (.ref lit4), .val (.int (7 : Int32)), .val (.int (own_c p5)), .val (.int (own_c p4)), .val (.int (own_n p2)), .val (.int (own_p p3)), .val (.ref b8), .unset, .unset, .unset, .unset] [(.int (own_c p5)), (.int (2 : Int32)), (.ref lit4), (.int (2 : Int32)), (.ref b8)])) _
      refine st19 _ ?_
      show Steps p.tables e below (T19.setTop (mkF m 110 #[.val (.int p1), .val (.int p2), .val (.int p3), .val (.int p4), .val (.int p5), .val (.int p6), .val (.int (own_b (own_bit p1))), .val (.ref lit4), .val (.int (7 : Int32)), .val (.int (own_c p5)), .val (.int (own_c p4)), .val (.int (own_n p2)), .val (.int (own_p p3)), .val (.ref b8), .unset, .unset, .unset, .unset] [(.int (104 : Int32)), (.int (2 : Int32)), (.ref b8)])) _
      refine st23 _ ?_
      refine XS.aload X23.here hx rfl (hb hby at_111) rfl rfl ?_
      refine XS.iconst X23.here hx rfl (hb hby at_113) ?_
      show Steps p.tables e below (T23.setTop (mkF m 114 #[.val (.int p1), .val (.int p2), .val (.int p3), .val (.int p4), .val (.int p5), .val (.int p6), .val (.int (own_b (own_bit p1))), .val (.ref lit4), .val (.int (7 : Int32)), .val (.int (own_c p5)), .val (.int (own_c p4)), .val (.int (own_n p2)), .val (.int (own_p p3)), .val (.ref b8), .unset, .unset, .unset, .unset] [(.int (3 : Int32)), (.ref b8)])) _
      refine XS.aload X23.here hx rfl (hb hby at_114) rfl rfl ?_
      refine XS.iconst X23.here hx rfl (hb hby at_116) ?_
      refine XS.iload X23.here hx rfl (hb hby at_117) rfl ?_
      show Steps p.tables e below (T23.setTop (mkF m 119 #[.val (.int p1), .val (.int p2), .val (.int p3), .val (.int p4), .val (.int p5), .val (.int p6), .val (.int (own_b (own_bit p1))), .val (.ref lit4), .val (.int (7 : Int32)), .val (.int (own_c p5)), .val (.int (own_c p4)), .val (.int (own_n p2)), .val (.int (own_p p3)), .val (.ref b8), .unset, .unset, .unset, .unset] [(.int (own_c p5)), (.int (3 : Int32)), (.ref lit4), (.int (3 : Int32)), (.ref b8)])) _
      refine st24 _ ?_
      show Steps p.tables e below (T24.setTop (mkF m 122 #[.val (.int p1), .val (.int p2), .val (.int p3), .val (.int p4), .val (.int p5), .val (.int p6), .val (.int (own_b (own_bit p1))), .val (.ref lit4), .val (.int (7 : Int32)), .val (.int (own_c p5)), .val (.int (own_c p4)), .val (.int (own_n p2)), .val (.int (own_p p3)), .val (.ref b8), .unset, .unset, .unset, .unset] [(.int (105 : Int32)), (.int (3 : Int32)), (.ref b8)])) _
      refine st28 _ ?_
      refine XS.aload X28.here hx rfl (hb hby at_123) rfl rfl ?_
      refine XS.iconst X28.here hx rfl (hb hby at_125) ?_
      show Steps p.tables e below (T28.setTop (mkF m 126 #[.val (.int p1), .val (.int p2), .val (.int p3), .val (.int p4), .val (.int p5), .val (.int p6), .val (.int (own_b (own_bit p1))), .val (.ref lit4), .val (.int (7 : Int32)), .val (.int (own_c p5)), .val (.int (own_c p4)), .val (.int (own_n p2)), .val (.int (own_p p3)), .val (.ref b8), .unset, .unset, .unset, .unset] [(.int (4 : Int32)), (.ref b8)])) _
      refine XS.aload X28.here hx rfl (hb hby at_126) rfl rfl ?_
      refine XS.iconst X28.here hx rfl (hb hby at_128) ?_
      refine XS.iload X28.here hx rfl (hb hby at_129) rfl ?_
      show Steps p.tables e below (T28.setTop (mkF m 131 #[.val (.int p1), .val (.int p2), .val (.int p3), .val (.int p4), .val (.int p5), .val (.int p6), .val (.int (own_b (own_bit p1))), .val (.ref lit4), .val (.int (7 : Int32)), .val (.int (own_c p5)), .val (.int (own_c p4)), .val (.int (own_n p2)), .val (.int (own_p p3)), .val (.ref b8), .unset, .unset, .unset, .unset] [(.int (own_c p5)), (.int (4 : Int32)), (.ref lit4), (.int (4 : Int32)), (.ref b8)])) _
      refine st29 _ ?_
      show Steps p.tables e below (T29.setTop (mkF m 134 #[.val (.int p1), .val (.int p2), .val (.int p3), .val (.int p4), .val (.int p5), .val (.int p6), .val (.int (own_b (own_bit p1))), .val (.ref lit4), .val (.int (7 : Int32)), .val (.int (own_c p5)), .val (.int (own_c p4)), .val (.int (own_n p2)), .val (.int (own_p p3)), .val (.ref b8), .unset, .unset, .unset, .unset] [(.int (98 : Int32)), (.int (4 : Int32)), (.ref b8)])) _
      refine st33 _ ?_
      refine XS.aload X33.here hx rfl (hb hby at_135) rfl rfl ?_
      refine XS.iconst X33.here hx rfl (hb hby at_137) ?_
      show Steps p.tables e below (T33.setTop (mkF m 138 #[.val (.int p1), .val (.int p2), .val (.int p3), .val (.int p4), .val (.int p5), .val (.int p6), .val (.int (own_b (own_bit p1))), .val (.ref lit4), .val (.int (7 : Int32)), .val (.int (own_c p5)), .val (.int (own_c p4)), .val (.int (own_n p2)), .val (.int (own_p p3)), .val (.ref b8), .unset, .unset, .unset, .unset] [(.int (5 : Int32)), (.ref b8)])) _
      refine XS.aload X33.here hx rfl (hb hby at_138) rfl rfl ?_
      refine XS.iconst X33.here hx rfl (hb hby at_140) ?_
      refine XS.iload X33.here hx rfl (hb hby at_141) rfl ?_
      show Steps p.tables e below (T33.setTop (mkF m 143 #[.val (.int p1), .val (.int p2), .val (.int p3), .val (.int p4), .val (.int p5), .val (.int p6), .val (.int (own_b (own_bit p1))), .val (.ref lit4), .val (.int (7 : Int32)), .val (.int (own_c p5)), .val (.int (own_c p4)), .val (.int (own_n p2)), .val (.int (own_p p3)), .val (.ref b8), .unset, .unset, .unset, .unset] [(.int (own_c p5)), (.int (5 : Int32)), (.ref lit4), (.int (5 : Int32)), (.ref b8)])) _
      refine st34 _ ?_
      show Steps p.tables e below (T34.setTop (mkF m 146 #[.val (.int p1), .val (.int p2), .val (.int p3), .val (.int p4), .val (.int p5), .val (.int p6), .val (.int (own_b (own_bit p1))), .val (.ref lit4), .val (.int (7 : Int32)), .val (.int (own_c p5)), .val (.int (own_c p4)), .val (.int (own_n p2)), .val (.int (own_p p3)), .val (.ref b8), .unset, .unset, .unset, .unset] [(.int (105 : Int32)), (.int (5 : Int32)), (.ref b8)])) _
      refine st38 _ ?_
      refine XS.aload X38.here hx rfl (hb hby at_147) rfl rfl ?_
      refine XS.bipush X38.here hx rfl (hb hby at_149) ?_
      show Steps p.tables e below (T38.setTop (mkF m 151 #[.val (.int p1), .val (.int p2), .val (.int p3), .val (.int p4), .val (.int p5), .val (.int p6), .val (.int (own_b (own_bit p1))), .val (.ref lit4), .val (.int (7 : Int32)), .val (.int (own_c p5)), .val (.int (own_c p4)), .val (.int (own_n p2)), .val (.int (own_p p3)), .val (.ref b8), .unset, .unset, .unset, .unset] [(.int (6 : Int32)), (.ref b8)])) _
      refine XS.aload X38.here hx rfl (hb hby at_151) rfl rfl ?_
      refine XS.bipush X38.here hx rfl (hb hby at_153) ?_
      refine XS.iload X38.here hx rfl (hb hby at_155) rfl ?_
      show Steps p.tables e below (T38.setTop (mkF m 157 #[.val (.int p1), .val (.int p2), .val (.int p3), .val (.int p4), .val (.int p5), .val (.int p6), .val (.int (own_b (own_bit p1))), .val (.ref lit4), .val (.int (7 : Int32)), .val (.int (own_c p5)), .val (.int (own_c p4)), .val (.int (own_n p2)), .val (.int (own_p p3)), .val (.ref b8), .unset, .unset, .unset, .unset] [(.int (own_c p5)), (.int (6 : Int32)), (.ref lit4), (.int (6 : Int32)), (.ref b8)])) _
      refine st39 _ ?_
      show Steps p.tables e below (T39.setTop (mkF m 160 #[.val (.int p1), .val (.int p2), .val (.int p3), .val (.int p4), .val (.int p5), .val (.int p6), .val (.int (own_b (own_bit p1))), .val (.ref lit4), .val (.int (7 : Int32)), .val (.int (own_c p5)), .val (.int (own_c p4)), .val (.int (own_n p2)), .val (.int (own_p p3)), .val (.ref b8), .unset, .unset, .unset, .unset] [(.int (116 : Int32)), (.int (6 : Int32)), (.ref b8)])) _
      refine st43 _ ?_
      refine XS.aload X43.here hx rfl (hb hby at_161) rfl rfl ?_
      refine XS.bipush X43.here hx rfl (hb hby at_163) ?_
      show Steps p.tables e below (T43.setTop (mkF m 165 #[.val (.int p1), .val (.int p2), .val (.int p3), .val (.int p4), .val (.int p5), .val (.int p6), .val (.int (own_b (own_bit p1))), .val (.ref lit4), .val (.int (7 : Int32)), .val (.int (own_c p5)), .val (.int (own_c p4)), .val (.int (own_n p2)), .val (.int (own_p p3)), .val (.ref b8), .unset, .unset, .unset, .unset] [(.int (7 : Int32)), (.ref b8)])) _
      refine XS.aload X43.here hx rfl (hb hby at_165) rfl rfl ?_
      refine XS.bipush X43.here hx rfl (hb hby at_167) ?_
      refine XS.iload X43.here hx rfl (hb hby at_169) rfl ?_
      show Steps p.tables e below (T43.setTop (mkF m 171 #[.val (.int p1), .val (.int p2), .val (.int p3), .val (.int p4), .val (.int p5), .val (.int p6), .val (.int (own_b (own_bit p1))), .val (.ref lit4), .val (.int (7 : Int32)), .val (.int (own_c p5)), .val (.int (own_c p4)), .val (.int (own_n p2)), .val (.int (own_p p3)), .val (.ref b8), .unset, .unset, .unset, .unset] [(.int (own_c p5)), (.int (7 : Int32)), (.ref lit4), (.int (7 : Int32)), (.ref b8)])) _
      refine st44 _ ?_
      show Steps p.tables e below (T44.setTop (mkF m 174 #[.val (.int p1), .val (.int p2), .val (.int p3), .val (.int p4), .val (.int p5), .val (.int p6), .val (.int (own_b (own_bit p1))), .val (.ref lit4), .val (.int (7 : Int32)), .val (.int (own_c p5)), .val (.int (own_c p4)), .val (.int (own_n p2)), .val (.int (own_p p3)), .val (.ref b8), .unset, .unset, .unset, .unset] [(.int (nar .char (own_c p5))), (.int (7 : Int32)), (.ref b8)])) _
      refine st48 _ ?_
      refine XS.aload X48.here hx rfl (hb hby at_175) rfl rfl ?_
      refine XS.bipush X48.here hx rfl (hb hby at_177) ?_
      show Steps p.tables e below (T48.setTop (mkF m 179 #[.val (.int p1), .val (.int p2), .val (.int p3), .val (.int p4), .val (.int p5), .val (.int p6), .val (.int (own_b (own_bit p1))), .val (.ref lit4), .val (.int (7 : Int32)), .val (.int (own_c p5)), .val (.int (own_c p4)), .val (.int (own_n p2)), .val (.int (own_p p3)), .val (.ref b8), .unset, .unset, .unset, .unset] [(.int (8 : Int32)), (.ref b8)])) _
      refine XS.aload X48.here hx rfl (hb hby at_179) rfl rfl ?_
      refine XS.bipush X48.here hx rfl (hb hby at_181) ?_
      refine XS.iload X48.here hx rfl (hb hby at_183) rfl ?_
      show Steps p.tables e below (T48.setTop (mkF m 185 #[.val (.int p1), .val (.int p2), .val (.int p3), .val (.int p4), .val (.int p5), .val (.int p6), .val (.int (own_b (own_bit p1))), .val (.ref lit4), .val (.int (7 : Int32)), .val (.int (own_c p5)), .val (.int (own_c p4)), .val (.int (own_n p2)), .val (.int (own_p p3)), .val (.ref b8), .unset, .unset, .unset, .unset] [(.int (own_c p5)), (.int (8 : Int32)), (.ref lit4), (.int (8 : Int32)), (.ref b8)])) _
      refine st49 _ ?_
      show Steps p.tables e below (T49.setTop (mkF m 188 #[.val (.int p1), .val (.int p2), .val (.int p3), .val (.int p4), .val (.int p5), .val (.int p6), .val (.int (own_b (own_bit p1))), .val (.ref lit4), .val (.int (7 : Int32)), .val (.int (own_c p5)), .val (.int (own_c p4)), .val (.int (own_n p2)), .val (.int (own_p p3)), .val (.ref b8), .unset, .unset, .unset, .unset] [(.int (nar .char (own_c p5))), (.int (8 : Int32)), (.ref b8)])) _
      refine st53 _ ?_
      refine XS.aload X53.here hx rfl (hb hby at_189) rfl rfl ?_
      refine XS.iload X53.here hx rfl (hb hby at_191) rfl ?_
      show Steps p.tables e below (T53.setTop (mkF m 193 #[.val (.int p1), .val (.int p2), .val (.int p3), .val (.int p4), .val (.int p5), .val (.int p6), .val (.int (own_b (own_bit p1))), .val (.ref lit4), .val (.int (7 : Int32)), .val (.int (own_c p5)), .val (.int (own_c p4)), .val (.int (own_n p2)), .val (.int (own_p p3)), .val (.ref b8), .unset, .unset, .unset, .unset] [(.int (own_p p3)), (.ref b8)])) _
      refine XS.iload X53.here hx rfl (hb hby at_193) rfl ?_
      show Steps p.tables e below (T53.setTop (mkF m 195 #[.val (.int p1), .val (.int p2), .val (.int p3), .val (.int p4), .val (.int p5), .val (.int p6), .val (.int (own_b (own_bit p1))), .val (.ref lit4), .val (.int (7 : Int32)), .val (.int (own_c p5)), .val (.int (own_c p4)), .val (.int (own_n p2)), .val (.int (own_p p3)), .val (.ref b8), .unset, .unset, .unset, .unset] [(.int (own_c p4)), (.int (own_p p3)), (.ref b8)])) _
      refine st55 _ ?_
      refine XS.aload X55.here hx rfl (hb hby at_196) rfl rfl ?_
      refine XS.iload X55.here hx rfl (hb hby at_198) rfl ?_
      show Steps p.tables e below (T55.setTop (mkF m 200 #[.val (.int p1), .val (.int p2), .val (.int p3), .val (.int p4), .val (.int p5), .val (.int p6), .val (.int (own_b (own_bit p1))), .val (.ref lit4), .val (.int (7 : Int32)), .val (.int (own_c p5)), .val (.int (own_c p4)), .val (.int (own_n p2)), .val (.int (own_p p3)), .val (.ref b8), .unset, .unset, .unset, .unset] [(.int (own_n p2)), (.ref b8)])) _
      refine st56.trans ?_
      refine XS.astore X56.here hx rfl (hb hby at_203) rfl rfl (l' := #[.val (.int p1), .val (.int p2), .val (.int p3), .val (.int p4), .val (.int p5), .val (.int p6), .val (.int (own_b (own_bit p1))), .val (.ref lit4), .val (.int (7 : Int32)), .val (.int (own_c p5)), .val (.int (own_c p4)), .val (.int (own_n p2)), .val (.int (own_p p3)), .val (.ref b8), .val (.ref r56), .unset, .unset, .unset]) rfl ?_
      refine XS.iload X56.here hx rfl (hb hby at_205) rfl ?_
      show Steps p.tables e below (T56.setTop (mkF m 207 #[.val (.int p1), .val (.int p2), .val (.int p3), .val (.int p4), .val (.int p5), .val (.int p6), .val (.int (own_b (own_bit p1))), .val (.ref lit4), .val (.int (7 : Int32)), .val (.int (own_c p5)), .val (.int (own_c p4)), .val (.int (own_n p2)), .val (.int (own_p p3)), .val (.ref b8), .val (.ref r56), .unset, .unset, .unset] [(.int p6)])) _
      refine XS.iconst X56.here hx rfl (hb hby at_207) ?_
      refine XS.iand X56.here hx rfl (hb hby at_208) rfl ?_
      exact kk
    by_cases hn : ¬ (own_bit p6 = (0 : Int32))
    · obtain ⟨T60, h60, X60, e60, E60, A60, D60, -, st60⟩ := newO X56 hx hZ56 hown56 (hw _ (List.mem_of_getElem? (i := 73) rfl)) (hw _ (List.mem_of_getElem? (i := 74) rfl)) (hw _ (List.mem_of_getElem? (i := 75) rfl)) rfl (g := (mkF m 230 #[.val (.int p1), .val (.int p2), .val (.int p3), .val (.int p4), .val (.int p5), .val (.int p6), .val (.int (own_b (own_bit p1))), .val (.ref lit4), .val (.int (7 : Int32)), .val (.int (own_c p5)), .val (.int (own_c p4)), .val (.int (own_n p2)), .val (.int (own_p p3)), .val (.ref b8), .val (.ref r56), .val .null, .unset, .unset] [])) rfl (hb hby at_230) (by decide) (by decide)
      obtain ⟨b60, g60⟩ : ∃ z, z = T56.heap.size := ⟨_, rfl⟩
      rw [← g60] at A60 D60 st60
      have sz_b60 : h0.size ≤ b60 := Nat.le_trans K13.1 (Nat.le_of_eq g60.symm)
      have g_b60 : n0 ≤ b60 := Nat.le_trans Z0 sz_b60
      have CH14 : CHr Z own_EL s.vm h0 T56.vm h60 := CH13.trans (CHr.ext E60 CH13.1)
      have K14 : Keep h0 h60 [] := K13.ext E60
      have F_type_b60 : Fld Z h60 b60 "com/example/restate/restate/Operation$Target" "type" "Ljava/lang/String;" .null := D60 (Or.inr (hw _ (List.mem_of_getElem? (i := 86) rfl))) (ty := (.object "java/lang/String")) (by decide)
      have F_name_b60 : Fld Z h60 b60 "com/example/restate/restate/Operation$Target" "name" "Ljava/lang/String;" .null := D60 (Or.inr (hw _ (List.mem_of_getElem? (i := 88) rfl))) (ty := (.object "java/lang/String")) (by decide)
      obtain ⟨_, _, ⟨T61, L61, k61, n61⟩, -, X61, ⟨Lc61, hQ61, l61, y61, z61⟩, st61⟩ := X60.specialBack hx (y := (⟨"com/example/restate/restate/Operation$Target", "<init>", "(Ljava/lang/String;Ljava/lang/String;)V"⟩ : MethodName)) rfl hown56 (mvT hZ56 (hw _ (List.mem_of_getElem? (i := 76) rfl))) (mvT hZ56 (hw _ (List.mem_of_getElem? (i := 77) rfl))) (mvT hZ56 (hw _ (List.mem_of_getElem? (i := 78) rfl))) (by decide) (backOf (W := 1) (rpN l Z a0 hw [] b60 r56 h60 n0 (Nat.le_trans Z0 K14.1) A60 F_type_b60 F_name_b60 g_b60) hZ56 (hw _ (List.mem_of_getElem? (i := 78) rfl)) (hw _ (List.mem_of_getElem? (i := 75) rfl)) (by decide) (by decide)) (g := (mkF m 238 #[.val (.int p1), .val (.int p2), .val (.int p3), .val (.int p4), .val (.int p5), .val (.int p6), .val (.int (own_b (own_bit p1))), .val (.ref lit4), .val (.int (7 : Int32)), .val (.int (own_c p5)), .val (.int (own_c p4)), .val (.int (own_n p2)), .val (.int (own_p p3)), .val (.ref b8), .val (.ref r56), .val .null, .unset, .unset] [.null, (.ref r56), (.ref b60), (.ref b60)])) rfl (by rw [hml]; rfl) (Steps.refl _) (a := b60) (argsL := [(.ref r56), .null]) (rest := [(.ref b60)]) (lenOf own_pd__Ljava_lang_String_Ljava_lang_String__V rfl) rfl (by show 2 * 0 + _ ≤ _; exact Nat.le_of_eq rfl) (hb hby at_238) (fun _ _ => ⟨rfl, e60, (by decide : 8 + 0 ≤ _), (by decide : 65 + 0 ≤ _)⟩)
      dsimp only [Pt.U, Pt.locs, Pt.cells, Pt.slots] at X61 l61 y61 z61 st61 hQ61
      rw [l61] at X61
      clear l61; subst y61 z61
      obtain ⟨rfl, N61q, K61q, Ft61⟩ := hQ61
      have N61a := Fr.app N56a N61q
      have CH15 : CHr Z own_EL s.vm h0 T56.vm T61.heap := CH14.trans (CHr.keep K61q (allS (Safe.exa (hZ56 : Z.Warmed39 T56.vm).alike A60 (by decide) (by decide)) all0) CH14.1)
      have K15 : Keep h0 T61.heap [] := K14.trans K61q (allS (Or.inr sz_b60) all0)
      have cut62 : ∀ t, Steps p.tables e below (T61.setTop (mkF m 247 #[.val (.int p1), .val (.int p2), .val (.int p3), .val (.int p4), .val (.int p5), .val (.int p6), .val (.int (own_b (own_bit p1))), .val (.ref lit4), .val (.int (7 : Int32)), .val (.int (own_c p5)), .val (.int (own_c p4)), .val (.int (own_n p2)), .val (.int (own_p p3)), .val (.ref b8), .val (.ref r56), .val .null, .val (.ref b60), .unset] [(.int (7 : Int32)), (.int (own_n p2))])) t → Steps p.tables e below (s₁.setTop (mkF m 0 #[.val (.int p1), .val (.int p2), .val (.int p3), .val (.int p4), .val (.int p5), .val (.int p6), .unset, .unset, .unset, .unset, .unset, .unset, .unset, .unset, .unset, .unset, .unset, .unset] [])) t := fun t kk => by
        refine cut59 _ ?_
        show Steps p.tables e below (T56.setTop (mkF m 209 #[.val (.int p1), .val (.int p2), .val (.int p3), .val (.int p4), .val (.int p5), .val (.int p6), .val (.int (own_b (own_bit p1))), .val (.ref lit4), .val (.int (7 : Int32)), .val (.int (own_c p5)), .val (.int (own_c p4)), .val (.int (own_n p2)), .val (.int (own_p p3)), .val (.ref b8), .val (.ref r56), .unset, .unset, .unset] [(.int (own_bit p6))])) _
        refine XS.ifNo X56.here hx rfl (hb hby at_209) rfl ((if0 _ _).trans (feq (hn : ¬ ((own_bit p6) = (0 : Int32)))).1) ?_
        refine XS.aconstNull X56.here hx rfl (hb hby at_212) ?_
        refine XS.goto X56.here hx rfl (pc0 := 213) (pc' := 228) rfl (hb hby at_213) (by decide) (by decide) ?_
        show Steps p.tables e below (T56.setTop (mkF m 228 #[.val (.int p1), .val (.int p2), .val (.int p3), .val (.int p4), .val (.int p5), .val (.int p6), .val (.int (own_b (own_bit p1))), .val (.ref lit4), .val (.int (7 : Int32)), .val (.int (own_c p5)), .val (.int (own_c p4)), .val (.int (own_n p2)), .val (.int (own_p p3)), .val (.ref b8), .val (.ref r56), .unset, .unset, .unset] [.null])) _
        refine XS.astore X56.here hx rfl (hb hby at_228) rfl rfl (l' := #[.val (.int p1), .val (.int p2), .val (.int p3), .val (.int p4), .val (.int p5), .val (.int p6), .val (.int (own_b (own_bit p1))), .val (.ref lit4), .val (.int (7 : Int32)), .val (.int (own_c p5)), .val (.int (own_c p4)), .val (.int (own_n p2)), .val (.int (own_p p3)), .val (.ref b8), .val (.ref r56), .val .null, .unset, .unset]) rfl ?_
        show Steps p.tables e below (T56.setTop (mkF m 230 #[.val (.int p1), .val (.int p2), .val (.int p3), .val (.int p4), .val (.int p5), .val (.int p6), .val (.int (own_b (own_bit p1))), .val (.ref lit4), .val (.int (7 : Int32)), .val (.int (own_c p5)), .val (.int (own_c p4)), .val (.int (own_n p2)), .val (.int (own_p p3)), .val (.ref b8), .val (.ref r56), .val .null, .unset, .unset] [])) _
        refine st60 _ ?_
        refine XS.dup X60.here hx rfl (hb hby at_233) rfl rfl ?_
        refine XS.aload X60.here hx rfl (hb hby at_234) rfl rfl ?_
        show Steps p.tables e below (T60.setTop (mkF m 236 #[.val (.int p1), .val (.int p2), .val (.int p3), .val (.int p4), .val (.int p5), .val (.int p6), .val (.int (own_b (own_bit p1))), .val (.ref lit4), .val (.int (7 : Int32)), .val (.int (own_c p5)), .val (.int (own_c p4)), .val (.int (own_n p2)), .val (.int (own_p p3)), .val (.ref b8), .val (.ref r56), .val .null, .unset, .unset] [(.ref r56), (.ref b60), (.ref b60)])) _
        refine XS.aload X60.here hx rfl (hb hby at_236) rfl rfl ?_
        show Steps p.tables e below (T60.setTop (mkF m 238 #[.val (.int p1), .val (.int p2), .val (.int p3), .val (.int p4), .val (.int p5), .val (.int p6), .val (.int (own_b (own_bit p1))), .val (.ref lit4), .val (.int (7 : Int32)), .val (.int (own_c p5)), .val (.int (own_c p4)), .val (.int (own_n p2)), .val (.int (own_p p3)), .val (.ref b8), .val (.ref r56), .val .null, .unset, .unset] [.null, (.ref r56), (.ref b60), (.ref b60)])) _
        refine st61.trans ?_
        refine XS.astore X61.here hx rfl (hb hby at_241) rfl rfl (l' := #[.val (.int p1), .val (.int p2), .val (.int p3), .val (.int p4), .val (.int p5), .val (.int p6), .val (.int (own_b (own_bit p1))), .val (.ref lit4), .val (.int (7 : Int32)), .val (.int (own_c p5)), .val (.int (own_c p4)), .val (.int (own_n p2)), .val (.int (own_p p3)), .val (.ref b8), .val (.ref r56), .val .null, .val (.ref b60), .unset]) rfl ?_
        refine XS.iload X61.here hx rfl (hb hby at_243) rfl ?_
        show Steps p.tables e below (T61.setTop (mkF m 245 #[.val (.int p1), .val (.int p2), .val (.int p3), .val (.int p4), .val (.int p5), .val (.int p6), .val (.int (own_b (own_bit p1))), .val (.ref lit4), .val (.int (7 : Int32)), .val (.int (own_c p5)), .val (.int (own_c p4)), .val (.int (own_n p2)), .val (.int (own_p p3)), .val (.ref b8), .val (.ref r56), .val .null, .val (.ref b60), .unset] [(.int (own_n p2))])) _
        refine XS.iload X61.here hx rfl (hb hby at_245) rfl ?_
        exact kk
      by_cases hA : ¬ (own_n p2 = (7 : Int32))
      · have f64 : Old Z n0 T61.heap := (((f57.keep K56q all0).ext E60).keep K61q (allS g_b60 all0))
        have f65 : Exa Z T61.heap b60 "com/example/restate/restate/Operation$Target" := (A60.keep K61q)
        have f66 : StrV Z T61.heap r56 (own_cut (own_arr (own_baseE p5) p3 p4) (own_n p2).toNatClampNeg) := (SV56.keep0 (((Keep.refl T56.heap []).ext E60).trans K61q (allS (Or.inr (Nat.le_trans (Keep.refl T56.heap []).1 (Nat.le_of_eq g60.symm))) all0)))
        obtain ⟨cq63, kq63, q63a, q63b, q63c⟩ := isOf hZ56 rfl f65
        obtain ⟨_, _, ⟨T63, L63, k63, n63⟩, -, X63', hs63, hg63, ⟨Lc63, hQ63, l63, y63, z63, C63⟩, st63⟩ := X61.virtualBackS hx (y := (⟨"com/example/restate/restate/Operation$Target", "isAttached", "()Z"⟩ : MethodName)) (z := (⟨"com/example/restate/restate/Operation$Target", "isAttached", "()Z"⟩ : MethodName)) hown56 (mvT hZ56 (hw _ (List.mem_of_getElem? (i := 89) rfl))) (mvT hZ56 (hw _ (List.mem_of_getElem? (i := 90) rfl))) (notFace_of_selects (args := #[]) (mvT hZ56 (hw _ (List.mem_of_getElem? (i := 92) rfl)))) (mvT hZ56 (hw _ (List.mem_of_getElem? (i := 92) rfl))) (mvT hZ56 (hw _ (List.mem_of_getElem? (i := 91) rfl))) (by decide) (backOfSH (W := 0) (rmI l Z a0 hw [] hEL b60 r56 (own_cut (own_arr (own_baseE p5) p3 p4) (own_n p2).toNatClampNeg) G1 G3 T61.heap n0 (Nat.le_trans Z0 K15.1) O2 P5 O4 rG3 f64 f65 Ft61 f66 (own_cut_len _ (own_n_r p2))) hZ56 (hw _ (List.mem_of_getElem? (i := 93) rfl)) (hw _ (List.mem_of_getElem? (i := 75) rfl)) (by decide) (by decide) hEL CH15.1) q63a q63c (g := (mkF m 278 #[.val (.int p1), .val (.int p2), .val (.int p3), .val (.int p4), .val (.int p5), .val (.int p6), .val (.int (own_b (own_bit p1))), .val (.ref lit4), .val (.int (7 : Int32)), .val (.int (own_c p5)), .val (.int (own_c p4)), .val (.int (own_n p2)), .val (.int (own_p p3)), .val (.ref b8), .val (.ref r56), .val .null, .val (.ref b60), .val (.int (0 : Int32))] [(.ref b60)])) rfl (by rw [hml]; rfl) (Steps.refl _) (argsL := []) (rest := []) (lenOf own_pd___Z rfl) rfl (by show 2 * 0 + _ ≤ _; exact Nat.le_of_eq rfl) (hb hby at_278) (fun _ _ => ⟨rfl, rfl, (by decide : 8 + 4 ≤ _), (by decide : 65 + 68 ≤ _)⟩)
        dsimp only [Pt.U, Pt.locs, Pt.cells, Pt.slots] at X63' l63 y63 z63 st63 hQ63 C63 hs63 hg63
        rw [l63] at X63'
        clear l63; subst y63 z63
        have hk_67 := Nat.le_trans (Nat.le_refl _) (((Keep.refl T56.heap []).ext E60).trans K61q (allS (Or.inr (Nat.le_trans (Keep.refl T56.heap []).1 (Nat.le_of_eq g60.symm))) all0)).1
        obtain ⟨X63, hS63, hZ63, hown63⟩ := rebS hS56 hk_67 X63' hs63 hg63 hZ56 hown56
        obtain ⟨rfl, N63q, K63q⟩ := hQ63
        have N63a := Fr.app N61a N63q
        have CH16 : CHr Z own_EL s.vm h0 T63.vm T63.heap := CH15.trans C63
        have K16 : Keep h0 T63.heap [] := K15.trans K63q all0
        obtain ⟨fs, hr, hrun, hended, hend⟩ := X63.leaveW hS63 (Nat.le_refl _) (v := some (.int (1 : Int32))) (fun h => by rw [Bd.returns] at h; cases h)
        refine ⟨_, _, pre0 _ ?_, hrun, hended, _, _, rfl, ?_, ?_, hend.1, hend.2.1, hend.2.2.1, hend.2.2.2.mono (by decide) (by decide)⟩
        · refine cut62 _ ?_
          show Steps p.tables e below (T61.setTop (mkF m 247 #[.val (.int p1), .val (.int p2), .val (.int p3), .val (.int p4), .val (.int p5), .val (.int p6), .val (.int (own_b (own_bit p1))), .val (.ref lit4), .val (.int (7 : Int32)), .val (.int (own_c p5)), .val (.int (own_c p4)), .val (.int (own_n p2)), .val (.int (own_p p3)), .val (.ref b8), .val (.ref r56), .val .null, .val (.ref b60), .unset] [(.int (7 : Int32)), (.int (own_n p2))])) _
          refine XS.icmpYes X61.here hx rfl (pc0 := 247) (pc' := 273) rfl (hb hby at_247) rfl (feq (hA : ¬ ((own_n p2) = (7 : Int32)))).2 (by decide) (by decide) ?_
          refine XS.iconst X61.here hx rfl (hb hby at_273) ?_
          refine XS.istore X61.here hx rfl (hb hby at_274) rfl (l' := #[.val (.int p1), .val (.int p2), .val (.int p3), .val (.int p4), .val (.int p5), .val (.int p6), .val (.int (own_b (own_bit p1))), .val (.ref lit4), .val (.int (7 : Int32)), .val (.int (own_c p5)), .val (.int (own_c p4)), .val (.int (own_n p2)), .val (.int (own_p p3)), .val (.ref b8), .val (.ref r56), .val .null, .val (.ref b60), .val (.int (0 : Int32))]) rfl ?_
          show Steps p.tables e below (T61.setTop (mkF m 276 #[.val (.int p1), .val (.int p2), .val (.int p3), .val (.int p4), .val (.int p5), .val (.int p6), .val (.int (own_b (own_bit p1))), .val (.ref lit4), .val (.int (7 : Int32)), .val (.int (own_c p5)), .val (.int (own_c p4)), .val (.int (own_n p2)), .val (.int (own_p p3)), .val (.ref b8), .val (.ref r56), .val .null, .val (.ref b60), .val (.int (0 : Int32))] [])) _
          refine XS.aload X61.here hx rfl (hb hby at_276) rfl rfl ?_
          show Steps p.tables e below (T61.setTop (mkF m 278 #[.val (.int p1), .val (.int p2), .val (.int p3), .val (.int p4), .val (.int p5), .val (.int p6), .val (.int (own_b (own_bit p1))), .val (.ref lit4), .val (.int (7 : Int32)), .val (.int (own_c p5)), .val (.int (own_c p4)), .val (.int (own_n p2)), .val (.int (own_p p3)), .val (.ref b8), .val (.ref r56), .val .null, .val (.ref b60), .val (.int (0 : Int32))] [(.ref b60)])) _
          refine st63.trans ?_
          refine XS.iload X63.here hx rfl (hb hby at_281) rfl ?_
          show Steps p.tables e below (T63.setTop (mkF m 283 #[.val (.int p1), .val (.int p2), .val (.int p3), .val (.int p4), .val (.int p5), .val (.int p6), .val (.int (own_b (own_bit p1))), .val (.ref lit4), .val (.int (7 : Int32)), .val (.int (own_c p5)), .val (.int (own_c p4)), .val (.int (own_n p2)), .val (.int (own_p p3)), .val (.ref b8), .val (.ref r56), .val .null, .val (.ref b60), .val (.int (0 : Int32))] [(.int (0 : Int32)), (.int (own_att (own_cut (own_arr (own_baseE p5) p3 p4) (own_n p2).toNatClampNeg)))])) _
          refine XS.icmpNo X63.here hx rfl (hb hby at_283) rfl (teq (own_lawAE hA : (own_att (own_cut (own_arr (own_baseE p5) p3 p4) (own_n p2).toNatClampNeg)) = (0 : Int32))).2 ?_
          refine XS.iconst X63.here hx rfl (hb hby at_286) ?_
          refine XS.goto X63.here hx rfl (pc0 := 287) (pc' := 291) rfl (hb hby at_287) (by decide) (by decide) ?_
          show Steps p.tables e below (T63.setTop (mkF m 291 #[.val (.int p1), .val (.int p2), .val (.int p3), .val (.int p4), .val (.int p5), .val (.int p6), .val (.int (own_b (own_bit p1))), .val (.ref lit4), .val (.int (7 : Int32)), .val (.int (own_c p5)), .val (.int (own_c p4)), .val (.int (own_n p2)), .val (.int (own_p p3)), .val (.ref b8), .val (.ref r56), .val .null, .val (.ref b60), .val (.int (0 : Int32))] [(.int (1 : Int32))])) _
          exact retN X63 hx (t := .boolean) Bd.returns (by simp) (hb hby at_291) hr
        · show Q0 n0 _ T63.heap _
          exact ⟨rfl, N63a⟩
        · show CHr Z own_EL s.vm s.heap T63.vm T63.heap
          rw [hh]
          exact CH16.trans (CHv.at X63 hZ63 hEL CH16.1)
      · have hA := Classical.not_not.mp hA
        have cut63 : ∀ t, Steps p.tables e below (T61.setTop (mkF m 247 #[.val (.int p1), .val (.int p2), .val (.int p3), .val (.int p4), .val (.int p5), .val (.int p6), .val (.int (own_b (own_bit p1))), .val (.ref lit4), .val (.int (7 : Int32)), .val (.int (own_c p5)), .val (.int (own_c p4)), .val (.int (own_n p2)), .val (.int (own_p p3)), .val (.ref b8), .val (.ref r56), .val .null, .val (.ref b60), .unset] [(.int (7 : Int32)), (.int (own_n p2))])) t → Steps p.tables e below (s₁.setTop (mkF m 0 #[.val (.int p1), .val (.int p2), .val (.int p3), .val (.int p4), .val (.int p5), .val (.int p6), .unset, .unset, .unset, .unset, .unset, .unset, .unset, .unset, .unset, .unset, .unset, .unset] [])) t := fun t kk => by
          refine cut62 _ ?_
          exact kk
        by_cases hB : own_p p3 < (7 : Int32)
        · have f65 : StrV Z T61.heap lit4 own_EX := (SL4.keep0 (((((((((((((((Keep.refl h4 []).ext E8).wr W13 (Or.inr (Nat.le_trans (Keep.refl h4 []).1 (Nat.le_of_eq g8.symm)))).wr W18 (Or.inr (Nat.le_trans (Keep.refl h4 []).1 (Nat.le_of_eq g8.symm)))).wr W23 (Or.inr (Nat.le_trans (Keep.refl h4 []).1 (Nat.le_of_eq g8.symm)))).wr W28 (Or.inr (Nat.le_trans (Keep.refl h4 []).1 (Nat.le_of_eq g8.symm)))).wr W33 (Or.inr (Nat.le_trans (Keep.refl h4 []).1 (Nat.le_of_eq g8.symm)))).wr W38 (Or.inr (Nat.le_trans (Keep.refl h4 []).1 (Nat.le_of_eq g8.symm)))).wr W43 (Or.inr (Nat.le_trans (Keep.refl h4 []).1 (Nat.le_of_eq g8.symm)))).wr W48 (Or.inr (Nat.le_trans (Keep.refl h4 []).1 (Nat.le_of_eq g8.symm)))).wr W53 (Or.inr (Nat.le_trans (Keep.refl h4 []).1 (Nat.le_of_eq g8.symm)))).wr W55 (Or.inr (Nat.le_trans (Keep.refl h4 []).1 (Nat.le_of_eq g8.symm)))).trans K56q all0).ext E60).trans K61q (allS (Or.inr (Nat.le_trans (((((((((((((Keep.refl h4 []).ext E8).wr W13 (Or.inr (Nat.le_trans (Keep.refl h4 []).1 (Nat.le_of_eq g8.symm)))).wr W18 (Or.inr (Nat.le_trans (Keep.refl h4 []).1 (Nat.le_of_eq g8.symm)))).wr W23 (Or.inr (Nat.le_trans (Keep.refl h4 []).1 (Nat.le_of_eq g8.symm)))).wr W28 (Or.inr (Nat.le_trans (Keep.refl h4 []).1 (Nat.le_of_eq g8.symm)))).wr W33 (Or.inr (Nat.le_trans (Keep.refl h4 []).1 (Nat.le_of_eq g8.symm)))).wr W38 (Or.inr (Nat.le_trans (Keep.refl h4 []).1 (Nat.le_of_eq g8.symm)))).wr W43 (Or.inr (Nat.le_trans (Keep.refl h4 []).1 (Nat.le_of_eq g8.symm)))).wr W48 (Or.inr (Nat.le_trans (Keep.refl h4 []).1 (Nat.le_of_eq g8.symm)))).wr W53 (Or.inr (Nat.le_trans (Keep.refl h4 []).1 (Nat.le_of_eq g8.symm)))).wr W55 (Or.inr (Nat.le_trans (Keep.refl h4 []).1 (Nat.le_of_eq g8.symm)))).trans K56q all0).1 (Nat.le_of_eq g60.symm))) all0)))
          obtain ⟨sb66, sk66, sN66, sv66, sE66, sV66, sC66, sA66, sc66, su66⟩ := id f65
          have f67 : Old Z n0 T61.heap := (((f57.keep K56q all0).ext E60).keep K61q (allS g_b60 all0))
          obtain ⟨cq64, kq64, q64a, q64b, q64c⟩ := isOf hZ56 rfl f65.exa
          obtain ⟨_, _, ⟨T64, L64, k64, n64⟩, -, X64, ⟨Lc64, hQ64, l64, y64, z64⟩, st64⟩ := X61.virtualBack hx (y := (⟨"java/lang/String", "charAt", "(I)C"⟩ : MethodName)) (z := (⟨"java/lang/String", "charAt", "(I)C"⟩ : MethodName)) hown56 (mvT hZ56 (hw _ (List.mem_of_getElem? (i := 27) rfl))) (mvT hZ56 (hw _ (List.mem_of_getElem? (i := 28) rfl))) (notFace_of_selects (args := #[]) (mvT hZ56 (hw _ (List.mem_of_getElem? (i := 30) rfl)))) (mvT hZ56 (hw _ (List.mem_of_getElem? (i := 30) rfl))) (mvT hZ56 (hw _ (List.mem_of_getElem? (i := 29) rfl))) (by decide) (StrChars.Road.chN (W := 1) hZ56 (own_hch hw) (kI := 4) (hw _ (List.mem_of_getElem? (i := 2) rfl)) sE66 sV66 sC66 sA66 sc66 su66 (O2.ext f67.2) P5 (O4.ext f67.2) rG3 (by decide) (i := (own_p p3).toNatClampNeg) (own_lt7 hB) (j := (own_p p3)) (back32 (own_p_nn p3)).1.symm (by decide) (by decide)) q64a q64c (g := (mkF m 263 #[.val (.int p1), .val (.int p2), .val (.int p3), .val (.int p4), .val (.int p5), .val (.int p6), .val (.int (own_b (own_bit p1))), .val (.ref lit4), .val (.int (7 : Int32)), .val (.int (own_c p5)), .val (.int (own_c p4)), .val (.int (own_n p2)), .val (.int (own_p p3)), .val (.ref b8), .val (.ref r56), .val .null, .val (.ref b60), .unset] [(.int (own_p p3)), (.ref lit4), (.int (own_c p4))])) rfl (by rw [hml]; rfl) (Steps.refl _) (argsL := [(.int (own_p p3))]) (rest := [(.int (own_c p4))]) (lenOf own_pd__I_C rfl) rfl (by show 2 * 0 + _ ≤ _; exact Nat.le_of_eq rfl) (hb hby at_263) (fun _ _ => ⟨rfl, rfl, (by decide : 8 + 0 ≤ _), (by decide : 65 + 0 ≤ _)⟩)
          dsimp only [Pt.U, Pt.locs, Pt.cells, Pt.slots] at X64 l64 y64 z64 st64 hQ64
          rw [l64] at X64
          clear l64; subst y64 z64
          obtain ⟨rfl, rfl, e64q⟩ := hQ64
          have N64a := Fr.app N61a (Fr.nil n0)
          have f71 : Exa Z T61.heap b60 "com/example/restate/restate/Operation$Target" := (A60.keep K61q)
          have f72 : StrV Z T61.heap r56 (own_cut (own_arr (own_baseE p5) p3 p4) (own_n p2).toNatClampNeg) := (SV56.keep0 (((Keep.refl T56.heap []).ext E60).trans K61q (allS (Or.inr (Nat.le_trans (Keep.refl T56.heap []).1 (Nat.le_of_eq g60.symm))) all0)))
          obtain ⟨cq70, kq70, q70a, q70b, q70c⟩ := isOf hZ56 e64q f71
          obtain ⟨_, _, ⟨T70, L70, k70, n70⟩, -, X70', hs70, hg70, ⟨Lc70, hQ70, l70, y70, z70, C70⟩, st70⟩ := X64.virtualBackS hx (y := (⟨"com/example/restate/restate/Operation$Target", "isAttached", "()Z"⟩ : MethodName)) (z := (⟨"com/example/restate/restate/Operation$Target", "isAttached", "()Z"⟩ : MethodName)) hown56 (mvT hZ56 (hw _ (List.mem_of_getElem? (i := 89) rfl))) (mvT hZ56 (hw _ (List.mem_of_getElem? (i := 90) rfl))) (notFace_of_selects (args := #[]) (mvT hZ56 (hw _ (List.mem_of_getElem? (i := 92) rfl)))) (mvT hZ56 (hw _ (List.mem_of_getElem? (i := 92) rfl))) (mvT hZ56 (hw _ (List.mem_of_getElem? (i := 91) rfl))) (by decide) (backOfSH (W := 0) (rmI l Z a0 hw [] hEL b60 r56 (own_cut (own_arr (own_baseE p5) p3 p4) (own_n p2).toNatClampNeg) G1 G3 T61.heap n0 (Nat.le_trans Z0 K15.1) O2 P5 O4 rG3 f67 f71 Ft61 f72 (own_cut_len _ (own_n_r p2))) hZ56 (hw _ (List.mem_of_getElem? (i := 93) rfl)) (hw _ (List.mem_of_getElem? (i := 75) rfl)) (by decide) (by decide) hEL CH15.1) q70a q70c (g := (mkF m 278 #[.val (.int p1), .val (.int p2), .val (.int p3), .val (.int p4), .val (.int p5), .val (.int p6), .val (.int (own_b (own_bit p1))), .val (.ref lit4), .val (.int (7 : Int32)), .val (.int (own_c p5)), .val (.int (own_c p4)), .val (.int (own_n p2)), .val (.int (own_p p3)), .val (.ref b8), .val (.ref r56), .val .null, .val (.ref b60), .val (.int (own_eq (own_c p4) (own_EX.getD (own_p p3).toNatClampNeg 0)))] [(.ref b60)])) rfl (by rw [hml]; rfl) (Steps.refl _) (argsL := []) (rest := []) (lenOf own_pd___Z rfl) rfl (by show 2 * 0 + _ ≤ _; exact Nat.le_of_eq rfl) (hb hby at_278) (fun _ _ => ⟨rfl, e64q, (by decide : 8 + 4 ≤ _), (by decide : 65 + 68 ≤ _)⟩)
          dsimp only [Pt.U, Pt.locs, Pt.cells, Pt.slots] at X70' l70 y70 z70 st70 hQ70 C70 hs70 hg70
          rw [l70] at X70'
          clear l70; subst y70 z70
          have hk_73 := Nat.le_trans (Nat.le_refl _) (((Keep.refl T56.heap []).ext E60).trans K61q (allS (Or.inr (Nat.le_trans (Keep.refl T56.heap []).1 (Nat.le_of_eq g60.symm))) all0)).1
          obtain ⟨X70, hS70, hZ70, hown70⟩ := rebS hS56 (by rw [e64q]; exact hk_73) X70' hs70 hg70 hZ56 hown56
          obtain ⟨rfl, N70q, K70q⟩ := hQ70
          have N70a := Fr.app N64a N70q
          have CH16 : CHr Z own_EL s.vm h0 T70.vm T70.heap := CH15.trans C70
          have K16 : Keep h0 T70.heap [] := K15.trans K70q all0
          obtain ⟨fs, hr, hrun, hended, hend⟩ := X70.leaveW hS70 (Nat.le_refl _) (v := some (.int (1 : Int32))) (fun h => by rw [Bd.returns] at h; cases h)
          refine ⟨_, _, pre0 _ ?_, hrun, hended, _, _, rfl, ?_, ?_, hend.1, hend.2.1, hend.2.2.1, hend.2.2.2.mono (by decide) (by decide)⟩
          · refine cut63 _ ?_
            show Steps p.tables e below (T61.setTop (mkF m 247 #[.val (.int p1), .val (.int p2), .val (.int p3), .val (.int p4), .val (.int p5), .val (.int p6), .val (.int (own_b (own_bit p1))), .val (.ref lit4), .val (.int (7 : Int32)), .val (.int (own_c p5)), .val (.int (own_c p4)), .val (.int (own_n p2)), .val (.int (own_p p3)), .val (.ref b8), .val (.ref r56), .val .null, .val (.ref b60), .unset] [(.int (7 : Int32)), (.int (own_n p2))])) _
            refine XS.icmpNo X61.here hx rfl (hb hby at_247) rfl (teq (hA : (own_n p2) = (7 : Int32))).2 ?_
            refine XS.iload X61.here hx rfl (hb hby at_250) rfl ?_
            refine XS.iload X61.here hx rfl (hb hby at_252) rfl ?_
            show Steps p.tables e below (T61.setTop (mkF m 254 #[.val (.int p1), .val (.int p2), .val (.int p3), .val (.int p4), .val (.int p5), .val (.int p6), .val (.int (own_b (own_bit p1))), .val (.ref lit4), .val (.int (7 : Int32)), .val (.int (own_c p5)), .val (.int (own_c p4)), .val (.int (own_n p2)), .val (.int (own_p p3)), .val (.ref b8), .val (.ref r56), .val .null, .val (.ref b60), .unset] [(.int (7 : Int32)), (.int (own_p p3))])) _
            refine XS.icmpNo X61.here hx rfl (hb hby at_254) rfl (tlt (hB : (own_p p3) < (7 : Int32))).2.1 ?_
            refine XS.iload X61.here hx rfl (hb hby at_257) rfl ?_
            refine XS.aload X61.here hx rfl (hb hby at_259) rfl rfl ?_
            show Steps p.tables e below (T61.setTop (mkF m 261 #[.val (.int p1), .val (.int p2), .val (.int p3), .val (.int p4), .val (.int p5), .val (.int p6), .val (.int (own_b (own_bit p1))), .val (.ref lit4), .val (.int (7 : Int32)), .val (.int (own_c p5)), .val (.int (own_c p4)), .val (.int (own_n p2)), .val (.int (own_p p3)), .val (.ref b8), .val (.ref r56), .val .null, .val (.ref b60), .unset] [(.ref lit4), (.int (own_c p4))])) _
            refine XS.iload X61.here hx rfl (hb hby at_261) rfl ?_
            show Steps p.tables e below (T61.setTop (mkF m 263 #[.val (.int p1), .val (.int p2), .val (.int p3), .val (.int p4), .val (.int p5), .val (.int p6), .val (.int (own_b (own_bit p1))), .val (.ref lit4), .val (.int (7 : Int32)), .val (.int (own_c p5)), .val (.int (own_c p4)), .val (.int (own_n p2)), .val (.int (own_p p3)), .val (.ref b8), .val (.ref r56), .val .null, .val (.ref b60), .unset] [(.int (own_p p3)), (.ref lit4), (.int (own_c p4))])) _
            refine st64.trans ?_
            have tr266_68 : ∀ tgt, Steps p.tables e below (T64.setTop (mkF m 274 #[.val (.int p1), .val (.int p2), .val (.int p3), .val (.int p4), .val (.int p5), .val (.int p6), .val (.int (own_b (own_bit p1))), .val (.ref lit4), .val (.int (7 : Int32)), .val (.int (own_c p5)), .val (.int (own_c p4)), .val (.int (own_n p2)), .val (.int (own_p p3)), .val (.ref b8), .val (.ref r56), .val .null, .val (.ref b60), .unset] [(.int (own_eq (own_c p4) (own_EX.getD (own_p p3).toNatClampNeg 0)))])) tgt → Steps p.tables e below (T64.setTop (mkF m 266 #[.val (.int p1), .val (.int p2), .val (.int p3), .val (.int p4), .val (.int p5), .val (.int p6), .val (.int (own_b (own_bit p1))), .val (.ref lit4), .val (.int (7 : Int32)), .val (.int (own_c p5)), .val (.int (own_c p4)), .val (.int (own_n p2)), .val (.int (own_p p3)), .val (.ref b8), .val (.ref r56), .val .null, .val (.ref b60), .unset] [(.int (own_EX.getD (own_p p3).toNatClampNeg 0)), (.int (own_c p4))])) tgt := by
              intro tgt kk
              show Steps p.tables e below (T64.setTop (mkF m 266 #[.val (.int p1), .val (.int p2), .val (.int p3), .val (.int p4), .val (.int p5), .val (.int p6), .val (.int (own_b (own_bit p1))), .val (.ref lit4), .val (.int (7 : Int32)), .val (.int (own_c p5)), .val (.int (own_c p4)), .val (.int (own_n p2)), .val (.int (own_p p3)), .val (.ref b8), .val (.ref r56), .val .null, .val (.ref b60), .unset] [(.int (own_EX.getD (own_p p3).toNatClampNeg 0)), (.int (own_c p4))])) _
              by_cases c69 : (own_c p4) = (own_EX.getD (own_p p3).toNatClampNeg 0)
              · refine XS.icmpNo X64.here hx rfl (hb hby at_266) rfl (teq c69).2 ?_
                show Steps p.tables e below (T64.setTop (mkF m 269 #[.val (.int p1), .val (.int p2), .val (.int p3), .val (.int p4), .val (.int p5), .val (.int p6), .val (.int (own_b (own_bit p1))), .val (.ref lit4), .val (.int (7 : Int32)), .val (.int (own_c p5)), .val (.int (own_c p4)), .val (.int (own_n p2)), .val (.int (own_p p3)), .val (.ref b8), .val (.ref r56), .val .null, .val (.ref b60), .unset] [])) _
                refine XS.iconst X64.here hx rfl (hb hby at_269) ?_
                show Steps p.tables e below (T64.setTop (mkF m 270 #[.val (.int p1), .val (.int p2), .val (.int p3), .val (.int p4), .val (.int p5), .val (.int p6), .val (.int (own_b (own_bit p1))), .val (.ref lit4), .val (.int (7 : Int32)), .val (.int (own_c p5)), .val (.int (own_c p4)), .val (.int (own_n p2)), .val (.int (own_p p3)), .val (.ref b8), .val (.ref r56), .val .null, .val (.ref b60), .unset] [(.int (1 : Int32))])) _
                refine XS.goto X64.here hx rfl (pc0 := 270) (pc' := 274) rfl (hb hby at_270) (by decide) (by decide) ?_
                have ev : (own_eq (own_c p4) (own_EX.getD (own_p p3).toNatClampNeg 0)) = (1 : Int32) := by rw [own_eq, if_pos c69]
                rw [ev] at kk
                exact kk
              · refine XS.icmpYes X64.here hx rfl (pc0 := 266) (pc' := 273) rfl (hb hby at_266) rfl (feq c69).2 (by decide) (by decide) ?_
                show Steps p.tables e below (T64.setTop (mkF m 273 #[.val (.int p1), .val (.int p2), .val (.int p3), .val (.int p4), .val (.int p5), .val (.int p6), .val (.int (own_b (own_bit p1))), .val (.ref lit4), .val (.int (7 : Int32)), .val (.int (own_c p5)), .val (.int (own_c p4)), .val (.int (own_n p2)), .val (.int (own_p p3)), .val (.ref b8), .val (.ref r56), .val .null, .val (.ref b60), .unset] [])) _
                refine XS.iconst X64.here hx rfl (hb hby at_273) ?_
                have ev : (own_eq (own_c p4) (own_EX.getD (own_p p3).toNatClampNeg 0)) = (0 : Int32) := by rw [own_eq, if_neg c69]
                rw [ev] at kk
                exact kk
            refine tr266_68 _ ?_
            refine XS.istore X64.here hx rfl (hb hby at_274) rfl (l' := #[.val (.int p1), .val (.int p2), .val (.int p3), .val (.int p4), .val (.int p5), .val (.int p6), .val (.int (own_b (own_bit p1))), .val (.ref lit4), .val (.int (7 : Int32)), .val (.int (own_c p5)), .val (.int (own_c p4)), .val (.int (own_n p2)), .val (.int (own_p p3)), .val (.ref b8), .val (.ref r56), .val .null, .val (.ref b60), .val (.int (own_eq (own_c p4) (own_EX.getD (own_p p3).toNatClampNeg 0)))]) rfl ?_
            refine XS.aload X64.here hx rfl (hb hby at_276) rfl rfl ?_
            show Steps p.tables e below (T64.setTop (mkF m 278 #[.val (.int p1), .val (.int p2), .val (.int p3), .val (.int p4), .val (.int p5), .val (.int p6), .val (.int (own_b (own_bit p1))), .val (.ref lit4), .val (.int (7 : Int32)), .val (.int (own_c p5)), .val (.int (own_c p4)), .val (.int (own_n p2)), .val (.int (own_p p3)), .val (.ref b8), .val (.ref r56), .val .null, .val (.ref b60), .val (.int (own_eq (own_c p4) (own_EX.getD (own_p p3).toNatClampNeg 0)))] [(.ref b60)])) _
            refine st70.trans ?_
            refine XS.iload X70.here hx rfl (hb hby at_281) rfl ?_
            show Steps p.tables e below (T70.setTop (mkF m 283 #[.val (.int p1), .val (.int p2), .val (.int p3), .val (.int p4), .val (.int p5), .val (.int p6), .val (.int (own_b (own_bit p1))), .val (.ref lit4), .val (.int (7 : Int32)), .val (.int (own_c p5)), .val (.int (own_c p4)), .val (.int (own_n p2)), .val (.int (own_p p3)), .val (.ref b8), .val (.ref r56), .val .null, .val (.ref b60), .val (.int (own_eq (own_c p4) (own_EX.getD (own_p p3).toNatClampNeg 0)))] [(.int (own_eq (own_c p4) (own_EX.getD (own_p p3).toNatClampNeg 0))), (.int (own_att (own_cut (own_arr (own_baseE p5) p3 p4) (own_n p2).toNatClampNeg)))])) _
            refine XS.icmpNo X70.here hx rfl (hb hby at_283) rfl (teq (own_lawCE hA hB : (own_att (own_cut (own_arr (own_baseE p5) p3 p4) (own_n p2).toNatClampNeg)) = (own_eq (own_c p4) (own_EX.getD (own_p p3).toNatClampNeg 0)))).2 ?_
            refine XS.iconst X70.here hx rfl (hb hby at_286) ?_
            refine XS.goto X70.here hx rfl (pc0 := 287) (pc' := 291) rfl (hb hby at_287) (by decide) (by decide) ?_
            show Steps p.tables e below (T70.setTop (mkF m 291 #[.val (.int p1), .val (.int p2), .val (.int p3), .val (.int p4), .val (.int p5), .val (.int p6), .val (.int (own_b (own_bit p1))), .val (.ref lit4), .val (.int (7 : Int32)), .val (.int (own_c p5)), .val (.int (own_c p4)), .val (.int (own_n p2)), .val (.int (own_p p3)), .val (.ref b8), .val (.ref r56), .val .null, .val (.ref b60), .val (.int (own_eq (own_c p4) (own_EX.getD (own_p p3).toNatClampNeg 0)))] [(.int (1 : Int32))])) _
            exact retN X70 hx (t := .boolean) Bd.returns (by simp) (hb hby at_291) hr
          · show Q0 n0 _ T70.heap _
            exact ⟨rfl, N70a⟩
          · show CHr Z own_EL s.vm s.heap T70.vm T70.heap
            rw [hh]
            exact CH16.trans (CHv.at X70 hZ70 hEL CH16.1)
        · have f65 : Old Z n0 T61.heap := (((f57.keep K56q all0).ext E60).keep K61q (allS g_b60 all0))
          have f66 : Exa Z T61.heap b60 "com/example/restate/restate/Operation$Target" := (A60.keep K61q)
          have f67 : StrV Z T61.heap r56 (own_cut (own_arr (own_baseE p5) p3 p4) (own_n p2).toNatClampNeg) := (SV56.keep0 (((Keep.refl T56.heap []).ext E60).trans K61q (allS (Or.inr (Nat.le_trans (Keep.refl T56.heap []).1 (Nat.le_of_eq g60.symm))) all0)))
          obtain ⟨cq64, kq64, q64a, q64b, q64c⟩ := isOf hZ56 rfl f66
          obtain ⟨_, _, ⟨T64, L64, k64, n64⟩, -, X64', hs64, hg64, ⟨Lc64, hQ64, l64, y64, z64, C64⟩, st64⟩ := X61.virtualBackS hx (y := (⟨"com/example/restate/restate/Operation$Target", "isAttached", "()Z"⟩ : MethodName)) (z := (⟨"com/example/restate/restate/Operation$Target", "isAttached", "()Z"⟩ : MethodName)) hown56 (mvT hZ56 (hw _ (List.mem_of_getElem? (i := 89) rfl))) (mvT hZ56 (hw _ (List.mem_of_getElem? (i := 90) rfl))) (notFace_of_selects (args := #[]) (mvT hZ56 (hw _ (List.mem_of_getElem? (i := 92) rfl)))) (mvT hZ56 (hw _ (List.mem_of_getElem? (i := 92) rfl))) (mvT hZ56 (hw _ (List.mem_of_getElem? (i := 91) rfl))) (by decide) (backOfSH (W := 0) (rmI l Z a0 hw [] hEL b60 r56 (own_cut (own_arr (own_baseE p5) p3 p4) (own_n p2).toNatClampNeg) G1 G3 T61.heap n0 (Nat.le_trans Z0 K15.1) O2 P5 O4 rG3 f65 f66 Ft61 f67 (own_cut_len _ (own_n_r p2))) hZ56 (hw _ (List.mem_of_getElem? (i := 93) rfl)) (hw _ (List.mem_of_getElem? (i := 75) rfl)) (by decide) (by decide) hEL CH15.1) q64a q64c (g := (mkF m 278 #[.val (.int p1), .val (.int p2), .val (.int p3), .val (.int p4), .val (.int p5), .val (.int p6), .val (.int (own_b (own_bit p1))), .val (.ref lit4), .val (.int (7 : Int32)), .val (.int (own_c p5)), .val (.int (own_c p4)), .val (.int (own_n p2)), .val (.int (own_p p3)), .val (.ref b8), .val (.ref r56), .val .null, .val (.ref b60), .val (.int (1 : Int32))] [(.ref b60)])) rfl (by rw [hml]; rfl) (Steps.refl _) (argsL := []) (rest := []) (lenOf own_pd___Z rfl) rfl (by show 2 * 0 + _ ≤ _; exact Nat.le_of_eq rfl) (hb hby at_278) (fun _ _ => ⟨rfl, rfl, (by decide : 8 + 4 ≤ _), (by decide : 65 + 68 ≤ _)⟩)
          dsimp only [Pt.U, Pt.locs, Pt.cells, Pt.slots] at X64' l64 y64 z64 st64 hQ64 C64 hs64 hg64
          rw [l64] at X64'
          clear l64; subst y64 z64
          have hk_68 := Nat.le_trans (Nat.le_refl _) (((Keep.refl T56.heap []).ext E60).trans K61q (allS (Or.inr (Nat.le_trans (Keep.refl T56.heap []).1 (Nat.le_of_eq g60.symm))) all0)).1
          obtain ⟨X64, hS64, hZ64, hown64⟩ := rebS hS56 hk_68 X64' hs64 hg64 hZ56 hown56
          obtain ⟨rfl, N64q, K64q⟩ := hQ64
          have N64a := Fr.app N61a N64q
          have CH16 : CHr Z own_EL s.vm h0 T64.vm T64.heap := CH15.trans C64
          have K16 : Keep h0 T64.heap [] := K15.trans K64q all0
          obtain ⟨fs, hr, hrun, hended, hend⟩ := X64.leaveW hS64 (Nat.le_refl _) (v := some (.int (1 : Int32))) (fun h => by rw [Bd.returns] at h; cases h)
          refine ⟨_, _, pre0 _ ?_, hrun, hended, _, _, rfl, ?_, ?_, hend.1, hend.2.1, hend.2.2.1, hend.2.2.2.mono (by decide) (by decide)⟩
          · refine cut63 _ ?_
            show Steps p.tables e below (T61.setTop (mkF m 247 #[.val (.int p1), .val (.int p2), .val (.int p3), .val (.int p4), .val (.int p5), .val (.int p6), .val (.int (own_b (own_bit p1))), .val (.ref lit4), .val (.int (7 : Int32)), .val (.int (own_c p5)), .val (.int (own_c p4)), .val (.int (own_n p2)), .val (.int (own_p p3)), .val (.ref b8), .val (.ref r56), .val .null, .val (.ref b60), .unset] [(.int (7 : Int32)), (.int (own_n p2))])) _
            refine XS.icmpNo X61.here hx rfl (hb hby at_247) rfl (teq (hA : (own_n p2) = (7 : Int32))).2 ?_
            refine XS.iload X61.here hx rfl (hb hby at_250) rfl ?_
            refine XS.iload X61.here hx rfl (hb hby at_252) rfl ?_
            show Steps p.tables e below (T61.setTop (mkF m 254 #[.val (.int p1), .val (.int p2), .val (.int p3), .val (.int p4), .val (.int p5), .val (.int p6), .val (.int (own_b (own_bit p1))), .val (.ref lit4), .val (.int (7 : Int32)), .val (.int (own_c p5)), .val (.int (own_c p4)), .val (.int (own_n p2)), .val (.int (own_p p3)), .val (.ref b8), .val (.ref r56), .val .null, .val (.ref b60), .unset] [(.int (7 : Int32)), (.int (own_p p3))])) _
            refine XS.icmpYes X61.here hx rfl (pc0 := 254) (pc' := 269) rfl (hb hby at_254) rfl (flt (hB : ¬ ((own_p p3) < (7 : Int32)))).2.1 (by decide) (by decide) ?_
            refine XS.iconst X61.here hx rfl (hb hby at_269) ?_
            refine XS.goto X61.here hx rfl (pc0 := 270) (pc' := 274) rfl (hb hby at_270) (by decide) (by decide) ?_
            show Steps p.tables e below (T61.setTop (mkF m 274 #[.val (.int p1), .val (.int p2), .val (.int p3), .val (.int p4), .val (.int p5), .val (.int p6), .val (.int (own_b (own_bit p1))), .val (.ref lit4), .val (.int (7 : Int32)), .val (.int (own_c p5)), .val (.int (own_c p4)), .val (.int (own_n p2)), .val (.int (own_p p3)), .val (.ref b8), .val (.ref r56), .val .null, .val (.ref b60), .unset] [(.int (1 : Int32))])) _
            refine XS.istore X61.here hx rfl (hb hby at_274) rfl (l' := #[.val (.int p1), .val (.int p2), .val (.int p3), .val (.int p4), .val (.int p5), .val (.int p6), .val (.int (own_b (own_bit p1))), .val (.ref lit4), .val (.int (7 : Int32)), .val (.int (own_c p5)), .val (.int (own_c p4)), .val (.int (own_n p2)), .val (.int (own_p p3)), .val (.ref b8), .val (.ref r56), .val .null, .val (.ref b60), .val (.int (1 : Int32))]) rfl ?_
            refine XS.aload X61.here hx rfl (hb hby at_276) rfl rfl ?_
            show Steps p.tables e below (T61.setTop (mkF m 278 #[.val (.int p1), .val (.int p2), .val (.int p3), .val (.int p4), .val (.int p5), .val (.int p6), .val (.int (own_b (own_bit p1))), .val (.ref lit4), .val (.int (7 : Int32)), .val (.int (own_c p5)), .val (.int (own_c p4)), .val (.int (own_n p2)), .val (.int (own_p p3)), .val (.ref b8), .val (.ref r56), .val .null, .val (.ref b60), .val (.int (1 : Int32))] [(.ref b60)])) _
            refine st64.trans ?_
            refine XS.iload X64.here hx rfl (hb hby at_281) rfl ?_
            show Steps p.tables e below (T64.setTop (mkF m 283 #[.val (.int p1), .val (.int p2), .val (.int p3), .val (.int p4), .val (.int p5), .val (.int p6), .val (.int (own_b (own_bit p1))), .val (.ref lit4), .val (.int (7 : Int32)), .val (.int (own_c p5)), .val (.int (own_c p4)), .val (.int (own_n p2)), .val (.int (own_p p3)), .val (.ref b8), .val (.ref r56), .val .null, .val (.ref b60), .val (.int (1 : Int32))] [(.int (1 : Int32)), (.int (own_att (own_cut (own_arr (own_baseE p5) p3 p4) (own_n p2).toNatClampNeg)))])) _
            refine XS.icmpNo X64.here hx rfl (hb hby at_283) rfl (teq (own_lawBE hA hB : (own_att (own_cut (own_arr (own_baseE p5) p3 p4) (own_n p2).toNatClampNeg)) = (1 : Int32))).2 ?_
            refine XS.iconst X64.here hx rfl (hb hby at_286) ?_
            refine XS.goto X64.here hx rfl (pc0 := 287) (pc' := 291) rfl (hb hby at_287) (by decide) (by decide) ?_
            show Steps p.tables e below (T64.setTop (mkF m 291 #[.val (.int p1), .val (.int p2), .val (.int p3), .val (.int p4), .val (.int p5), .val (.int p6), .val (.int (own_b (own_bit p1))), .val (.ref lit4), .val (.int (7 : Int32)), .val (.int (own_c p5)), .val (.int (own_c p4)), .val (.int (own_n p2)), .val (.int (own_p p3)), .val (.ref b8), .val (.ref r56), .val .null, .val (.ref b60), .val (.int (1 : Int32))] [(.int (1 : Int32))])) _
            exact retN X64 hx (t := .boolean) Bd.returns (by simp) (hb hby at_291) hr
          · show Q0 n0 _ T64.heap _
            exact ⟨rfl, N64a⟩
          · show CHr Z own_EL s.vm s.heap T64.vm T64.heap
            rw [hh]
            exact CH16.trans (CHv.at X64 hZ64 hEL CH16.1)
    · have hn := Classical.not_not.mp hn
      have f61 : Old Z n0 T56.heap := (f57.keep K56q all0)
      obtain ⟨_, _, ⟨T60, L60, k60, n60⟩, -, X60, ⟨Lc60, hQ60, l60, y60, z60⟩, st60⟩ := Jvm.LawKit.callS X56 hx (y := (⟨"java/lang/String", "valueOf", "(C)Ljava/lang/String;"⟩ : MethodName)) hown56 (mvT hZ56 (hw _ (List.mem_of_getElem? (i := 106) rfl))) (mvT hZ56 (hw _ (List.mem_of_getElem? (i := 107) rfl))) (mvT hZ56 (hw _ (List.mem_of_getElem? (i := 1) rfl))) (mvT hZ56 (hw _ (List.mem_of_getElem? (i := 108) rfl))) (by decide) (backOf (W := 0) (rmV l Z a0 hw [] (own_nc p6) G1 G3 T56.heap n0 (Nat.le_trans Z0 K13.1) O2 P5 O4 rG3 f61 (own_nc_lat p6)) hZ56 (hw _ (List.mem_of_getElem? (i := 108) rfl)) (hw _ (List.mem_of_getElem? (i := 1) rfl)) (by decide) (by decide)) (g := (mkF m 225 #[.val (.int p1), .val (.int p2), .val (.int p3), .val (.int p4), .val (.int p5), .val (.int p6), .val (.int (own_b (own_bit p1))), .val (.ref lit4), .val (.int (7 : Int32)), .val (.int (own_c p5)), .val (.int (own_c p4)), .val (.int (own_n p2)), .val (.int (own_p p3)), .val (.ref b8), .val (.ref r56), .unset, .unset, .unset] [(.int (own_nc p6))])) rfl (by rw [hml]; rfl) (argsL := [(.int (own_nc p6))]) (rest := []) (lenOf own_pd__C_Ljava_lang_String_ rfl) rfl (by show 2 * 0 + _ ≤ _; exact Nat.le_of_eq rfl) (hb hby at_225) (fun _ _ => ⟨rfl, rfl, (by decide : 7 + 2 ≤ _), (by decide : 63 + 5 ≤ _)⟩)
      dsimp only [Pt.U, Pt.locs, Pt.cells, Pt.slots] at X60 l60 y60 z60 st60 hQ60
      rw [l60] at X60
      clear l60; subst y60 z60
      obtain ⟨r60, rfl, N60q, K60q⟩ := hQ60
      have N60a := Fr.app N56a N60q
      have CH14 : CHr Z own_EL s.vm h0 T56.vm T60.heap := CH13.trans (CHr.keep K60q all0 CH13.1)
      have K14 : Keep h0 T60.heap [] := K13.trans K60q all0
      obtain ⟨T62, h62, X62, e62, E62, A62, D62, -, st62⟩ := newO X60 hx hZ56 hown56 (hw _ (List.mem_of_getElem? (i := 73) rfl)) (hw _ (List.mem_of_getElem? (i := 74) rfl)) (hw _ (List.mem_of_getElem? (i := 75) rfl)) rfl (g := (mkF m 230 #[.val (.int p1), .val (.int p2), .val (.int p3), .val (.int p4), .val (.int p5), .val (.int p6), .val (.int (own_b (own_bit p1))), .val (.ref lit4), .val (.int (7 : Int32)), .val (.int (own_c p5)), .val (.int (own_c p4)), .val (.int (own_n p2)), .val (.int (own_p p3)), .val (.ref b8), .val (.ref r56), .val (.ref r60), .unset, .unset] [])) rfl (hb hby at_230) (by decide) (by decide)
      obtain ⟨b62, g62⟩ : ∃ z, z = T60.heap.size := ⟨_, rfl⟩
      rw [← g62] at A62 D62 st62
      have sz_b62 : h0.size ≤ b62 := Nat.le_trans K14.1 (Nat.le_of_eq g62.symm)
      have g_b62 : n0 ≤ b62 := Nat.le_trans Z0 sz_b62
      have CH15 : CHr Z own_EL s.vm h0 T56.vm h62 := CH14.trans (CHr.ext E62 CH14.1)
      have K15 : Keep h0 h62 [] := K14.ext E62
      have F_type_b62 : Fld Z h62 b62 "com/example/restate/restate/Operation$Target" "type" "Ljava/lang/String;" .null := D62 (Or.inr (hw _ (List.mem_of_getElem? (i := 86) rfl))) (ty := (.object "java/lang/String")) (by decide)
      have F_name_b62 : Fld Z h62 b62 "com/example/restate/restate/Operation$Target" "name" "Ljava/lang/String;" .null := D62 (Or.inr (hw _ (List.mem_of_getElem? (i := 88) rfl))) (ty := (.object "java/lang/String")) (by decide)
      obtain ⟨_, _, ⟨T63, L63, k63, n63⟩, -, X63, ⟨Lc63, hQ63, l63, y63, z63⟩, st63⟩ := X62.specialBack hx (y := (⟨"com/example/restate/restate/Operation$Target", "<init>", "(Ljava/lang/String;Ljava/lang/String;)V"⟩ : MethodName)) rfl hown56 (mvT hZ56 (hw _ (List.mem_of_getElem? (i := 76) rfl))) (mvT hZ56 (hw _ (List.mem_of_getElem? (i := 77) rfl))) (mvT hZ56 (hw _ (List.mem_of_getElem? (i := 78) rfl))) (by decide) (backOf (W := 1) (rpS l Z a0 hw [] b62 r56 r60 h62 n0 (Nat.le_trans Z0 K15.1) A62 F_type_b62 F_name_b62 g_b62) hZ56 (hw _ (List.mem_of_getElem? (i := 78) rfl)) (hw _ (List.mem_of_getElem? (i := 75) rfl)) (by decide) (by decide)) (g := (mkF m 238 #[.val (.int p1), .val (.int p2), .val (.int p3), .val (.int p4), .val (.int p5), .val (.int p6), .val (.int (own_b (own_bit p1))), .val (.ref lit4), .val (.int (7 : Int32)), .val (.int (own_c p5)), .val (.int (own_c p4)), .val (.int (own_n p2)), .val (.int (own_p p3)), .val (.ref b8), .val (.ref r56), .val (.ref r60), .unset, .unset] [(.ref r60), (.ref r56), (.ref b62), (.ref b62)])) rfl (by rw [hml]; rfl) (Steps.refl _) (a := b62) (argsL := [(.ref r56), (.ref r60)]) (rest := [(.ref b62)]) (lenOf own_pd__Ljava_lang_String_Ljava_lang_String__V rfl) rfl (by show 2 * 0 + _ ≤ _; exact Nat.le_of_eq rfl) (hb hby at_238) (fun _ _ => ⟨rfl, e62, (by decide : 10 + 0 ≤ _), (by decide : 70 + 0 ≤ _)⟩)
      dsimp only [Pt.U, Pt.locs, Pt.cells, Pt.slots] at X63 l63 y63 z63 st63 hQ63
      rw [l63] at X63
      clear l63; subst y63 z63
      obtain ⟨rfl, N63q, K63q, Ft63⟩ := hQ63
      have N63a := Fr.app N60a N63q
      have CH16 : CHr Z own_EL s.vm h0 T56.vm T63.heap := CH15.trans (CHr.keep K63q (allS (Safe.exa (hZ56 : Z.Warmed39 T56.vm).alike A62 (by decide) (by decide)) all0) CH15.1)
      have K16 : Keep h0 T63.heap [] := K15.trans K63q (allS (Or.inr sz_b62) all0)
      have cut64 : ∀ t, Steps p.tables e below (T63.setTop (mkF m 247 #[.val (.int p1), .val (.int p2), .val (.int p3), .val (.int p4), .val (.int p5), .val (.int p6), .val (.int (own_b (own_bit p1))), .val (.ref lit4), .val (.int (7 : Int32)), .val (.int (own_c p5)), .val (.int (own_c p4)), .val (.int (own_n p2)), .val (.int (own_p p3)), .val (.ref b8), .val (.ref r56), .val (.ref r60), .val (.ref b62), .unset] [(.int (7 : Int32)), (.int (own_n p2))])) t → Steps p.tables e below (s₁.setTop (mkF m 0 #[.val (.int p1), .val (.int p2), .val (.int p3), .val (.int p4), .val (.int p5), .val (.int p6), .unset, .unset, .unset, .unset, .unset, .unset, .unset, .unset, .unset, .unset, .unset, .unset] [])) t := fun t kk => by
        refine cut59 _ ?_
        show Steps p.tables e below (T56.setTop (mkF m 209 #[.val (.int p1), .val (.int p2), .val (.int p3), .val (.int p4), .val (.int p5), .val (.int p6), .val (.int (own_b (own_bit p1))), .val (.ref lit4), .val (.int (7 : Int32)), .val (.int (own_c p5)), .val (.int (own_c p4)), .val (.int (own_n p2)), .val (.int (own_p p3)), .val (.ref b8), .val (.ref r56), .unset, .unset, .unset] [(.int (own_bit p6))])) _
        refine XS.ifYes X56.here hx rfl (pc0 := 209) (pc' := 216) rfl (hb hby at_209) rfl ((if0 _ _).trans (teq (hn : (own_bit p6) = (0 : Int32))).1) (by decide) (by decide) ?_
        refine XS.iload X56.here hx rfl (hb hby at_216) rfl ?_
        refine XS.iconst X56.here hx rfl (hb hby at_218) ?_
        show Steps p.tables e below (T56.setTop (mkF m 219 #[.val (.int p1), .val (.int p2), .val (.int p3), .val (.int p4), .val (.int p5), .val (.int p6), .val (.int (own_b (own_bit p1))), .val (.ref lit4), .val (.int (7 : Int32)), .val (.int (own_c p5)), .val (.int (own_c p4)), .val (.int (own_n p2)), .val (.int (own_p p3)), .val (.ref b8), .val (.ref r56), .unset, .unset, .unset] [(.int (1 : Int32)), (.int p6)])) _
        refine XS.iushr X56.here hx rfl (hb hby at_219) rfl ?_
        refine XS.sipush X56.here hx rfl (hb hby at_220) ?_
        refine XS.iand X56.here hx rfl (hb hby at_223) rfl ?_
        show Steps p.tables e below (T56.setTop (mkF m 224 #[.val (.int p1), .val (.int p2), .val (.int p3), .val (.int p4), .val (.int p5), .val (.int p6), .val (.int (own_b (own_bit p1))), .val (.ref lit4), .val (.int (7 : Int32)), .val (.int (own_c p5)), .val (.int (own_c p4)), .val (.int (own_n p2)), .val (.int (own_p p3)), .val (.ref b8), .val (.ref r56), .unset, .unset, .unset] [(.int (((p6.toUInt32 >>> ((1 : Int32) &&& 31).toUInt32).toInt32) &&& (255 : Int32)))])) _
        refine XS.i2c X56.here hx rfl (hb hby at_224) rfl ?_
        show Steps p.tables e below (T56.setTop (mkF m 225 #[.val (.int p1), .val (.int p2), .val (.int p3), .val (.int p4), .val (.int p5), .val (.int p6), .val (.int (own_b (own_bit p1))), .val (.ref lit4), .val (.int (7 : Int32)), .val (.int (own_c p5)), .val (.int (own_c p4)), .val (.int (own_n p2)), .val (.int (own_p p3)), .val (.ref b8), .val (.ref r56), .unset, .unset, .unset] [(.int (own_nc p6))])) _
        refine st60 _ ?_
        refine XS.astore X60.here hx rfl (hb hby at_228) rfl rfl (l' := #[.val (.int p1), .val (.int p2), .val (.int p3), .val (.int p4), .val (.int p5), .val (.int p6), .val (.int (own_b (own_bit p1))), .val (.ref lit4), .val (.int (7 : Int32)), .val (.int (own_c p5)), .val (.int (own_c p4)), .val (.int (own_n p2)), .val (.int (own_p p3)), .val (.ref b8), .val (.ref r56), .val (.ref r60), .unset, .unset]) rfl ?_
        show Steps p.tables e below (T60.setTop (mkF m 230 #[.val (.int p1), .val (.int p2), .val (.int p3), .val (.int p4), .val (.int p5), .val (.int p6), .val (.int (own_b (own_bit p1))), .val (.ref lit4), .val (.int (7 : Int32)), .val (.int (own_c p5)), .val (.int (own_c p4)), .val (.int (own_n p2)), .val (.int (own_p p3)), .val (.ref b8), .val (.ref r56), .val (.ref r60), .unset, .unset] [])) _
        refine st62 _ ?_
        refine XS.dup X62.here hx rfl (hb hby at_233) rfl rfl ?_
        refine XS.aload X62.here hx rfl (hb hby at_234) rfl rfl ?_
        show Steps p.tables e below (T62.setTop (mkF m 236 #[.val (.int p1), .val (.int p2), .val (.int p3), .val (.int p4), .val (.int p5), .val (.int p6), .val (.int (own_b (own_bit p1))), .val (.ref lit4), .val (.int (7 : Int32)), .val (.int (own_c p5)), .val (.int (own_c p4)), .val (.int (own_n p2)), .val (.int (own_p p3)), .val (.ref b8), .val (.ref r56), .val (.ref r60), .unset, .unset] [(.ref r56), (.ref b62), (.ref b62)])) _
        refine XS.aload X62.here hx rfl (hb hby at_236) rfl rfl ?_
        show Steps p.tables e below (T62.setTop (mkF m 238 #[.val (.int p1), .val (.int p2), .val (.int p3), .val (.int p4), .val (.int p5), .val (.int p6), .val (.int (own_b (own_bit p1))), .val (.ref lit4), .val (.int (7 : Int32)), .val (.int (own_c p5)), .val (.int (own_c p4)), .val (.int (own_n p2)), .val (.int (own_p p3)), .val (.ref b8), .val (.ref r56), .val (.ref r60), .unset, .unset] [(.ref r60), (.ref r56), (.ref b62), (.ref b62)])) _
        refine st63.trans ?_
        refine XS.astore X63.here hx rfl (hb hby at_241) rfl rfl (l' := #[.val (.int p1), .val (.int p2), .val (.int p3), .val (.int p4), .val (.int p5), .val (.int p6), .val (.int (own_b (own_bit p1))), .val (.ref lit4), .val (.int (7 : Int32)), .val (.int (own_c p5)), .val (.int (own_c p4)), .val (.int (own_n p2)), .val (.int (own_p p3)), .val (.ref b8), .val (.ref r56), .val (.ref r60), .val (.ref b62), .unset]) rfl ?_
        refine XS.iload X63.here hx rfl (hb hby at_243) rfl ?_
        show Steps p.tables e below (T63.setTop (mkF m 245 #[.val (.int p1), .val (.int p2), .val (.int p3), .val (.int p4), .val (.int p5), .val (.int p6), .val (.int (own_b (own_bit p1))), .val (.ref lit4), .val (.int (7 : Int32)), .val (.int (own_c p5)), .val (.int (own_c p4)), .val (.int (own_n p2)), .val (.int (own_p p3)), .val (.ref b8), .val (.ref r56), .val (.ref r60), .val (.ref b62), .unset] [(.int (own_n p2))])) _
        refine XS.iload X63.here hx rfl (hb hby at_245) rfl ?_
        exact kk
      by_cases hA : ¬ (own_n p2 = (7 : Int32))
      · have f66 : Old Z n0 T63.heap := (((f61.keep K60q all0).ext E62).keep K63q (allS g_b62 all0))
        have f67 : Exa Z T63.heap b62 "com/example/restate/restate/Operation$Target" := (A62.keep K63q)
        have f68 : StrV Z T63.heap r56 (own_cut (own_arr (own_baseE p5) p3 p4) (own_n p2).toNatClampNeg) := (SV56.keep0 ((((Keep.refl T56.heap []).trans K60q all0).ext E62).trans K63q (allS (Or.inr (Nat.le_trans ((Keep.refl T56.heap []).trans K60q all0).1 (Nat.le_of_eq g62.symm))) all0)))
        obtain ⟨cq65, kq65, q65a, q65b, q65c⟩ := isOf hZ56 rfl f67
        obtain ⟨_, _, ⟨T65, L65, k65, n65⟩, -, X65', hs65, hg65, ⟨Lc65, hQ65, l65, y65, z65, C65⟩, st65⟩ := X63.virtualBackS hx (y := (⟨"com/example/restate/restate/Operation$Target", "isAttached", "()Z"⟩ : MethodName)) (z := (⟨"com/example/restate/restate/Operation$Target", "isAttached", "()Z"⟩ : MethodName)) hown56 (mvT hZ56 (hw _ (List.mem_of_getElem? (i := 89) rfl))) (mvT hZ56 (hw _ (List.mem_of_getElem? (i := 90) rfl))) (notFace_of_selects (args := #[]) (mvT hZ56 (hw _ (List.mem_of_getElem? (i := 92) rfl)))) (mvT hZ56 (hw _ (List.mem_of_getElem? (i := 92) rfl))) (mvT hZ56 (hw _ (List.mem_of_getElem? (i := 91) rfl))) (by decide) (backOfSH (W := 0) (rmI l Z a0 hw [] hEL b62 r56 (own_cut (own_arr (own_baseE p5) p3 p4) (own_n p2).toNatClampNeg) G1 G3 T63.heap n0 (Nat.le_trans Z0 K16.1) O2 P5 O4 rG3 f66 f67 Ft63 f68 (own_cut_len _ (own_n_r p2))) hZ56 (hw _ (List.mem_of_getElem? (i := 93) rfl)) (hw _ (List.mem_of_getElem? (i := 75) rfl)) (by decide) (by decide) hEL CH16.1) q65a q65c (g := (mkF m 278 #[.val (.int p1), .val (.int p2), .val (.int p3), .val (.int p4), .val (.int p5), .val (.int p6), .val (.int (own_b (own_bit p1))), .val (.ref lit4), .val (.int (7 : Int32)), .val (.int (own_c p5)), .val (.int (own_c p4)), .val (.int (own_n p2)), .val (.int (own_p p3)), .val (.ref b8), .val (.ref r56), .val (.ref r60), .val (.ref b62), .val (.int (0 : Int32))] [(.ref b62)])) rfl (by rw [hml]; rfl) (Steps.refl _) (argsL := []) (rest := []) (lenOf own_pd___Z rfl) rfl (by show 2 * 0 + _ ≤ _; exact Nat.le_of_eq rfl) (hb hby at_278) (fun _ _ => ⟨rfl, rfl, (by decide : 10 + 4 ≤ _), (by decide : 70 + 68 ≤ _)⟩)
        dsimp only [Pt.U, Pt.locs, Pt.cells, Pt.slots] at X65' l65 y65 z65 st65 hQ65 C65 hs65 hg65
        rw [l65] at X65'
        clear l65; subst y65 z65
        have hk_69 := Nat.le_trans (Nat.le_refl _) ((((Keep.refl T56.heap []).trans K60q all0).ext E62).trans K63q (allS (Or.inr (Nat.le_trans ((Keep.refl T56.heap []).trans K60q all0).1 (Nat.le_of_eq g62.symm))) all0)).1
        obtain ⟨X65, hS65, hZ65, hown65⟩ := rebS hS56 hk_69 X65' hs65 hg65 hZ56 hown56
        obtain ⟨rfl, N65q, K65q⟩ := hQ65
        have N65a := Fr.app N63a N65q
        have CH17 : CHr Z own_EL s.vm h0 T65.vm T65.heap := CH16.trans C65
        have K17 : Keep h0 T65.heap [] := K16.trans K65q all0
        obtain ⟨fs, hr, hrun, hended, hend⟩ := X65.leaveW hS65 (Nat.le_refl _) (v := some (.int (1 : Int32))) (fun h => by rw [Bd.returns] at h; cases h)
        refine ⟨_, _, pre0 _ ?_, hrun, hended, _, _, rfl, ?_, ?_, hend.1, hend.2.1, hend.2.2.1, hend.2.2.2.mono (by decide) (by decide)⟩
        · refine cut64 _ ?_
          show Steps p.tables e below (T63.setTop (mkF m 247 #[.val (.int p1), .val (.int p2), .val (.int p3), .val (.int p4), .val (.int p5), .val (.int p6), .val (.int (own_b (own_bit p1))), .val (.ref lit4), .val (.int (7 : Int32)), .val (.int (own_c p5)), .val (.int (own_c p4)), .val (.int (own_n p2)), .val (.int (own_p p3)), .val (.ref b8), .val (.ref r56), .val (.ref r60), .val (.ref b62), .unset] [(.int (7 : Int32)), (.int (own_n p2))])) _
          refine XS.icmpYes X63.here hx rfl (pc0 := 247) (pc' := 273) rfl (hb hby at_247) rfl (feq (hA : ¬ ((own_n p2) = (7 : Int32)))).2 (by decide) (by decide) ?_
          refine XS.iconst X63.here hx rfl (hb hby at_273) ?_
          refine XS.istore X63.here hx rfl (hb hby at_274) rfl (l' := #[.val (.int p1), .val (.int p2), .val (.int p3), .val (.int p4), .val (.int p5), .val (.int p6), .val (.int (own_b (own_bit p1))), .val (.ref lit4), .val (.int (7 : Int32)), .val (.int (own_c p5)), .val (.int (own_c p4)), .val (.int (own_n p2)), .val (.int (own_p p3)), .val (.ref b8), .val (.ref r56), .val (.ref r60), .val (.ref b62), .val (.int (0 : Int32))]) rfl ?_
          show Steps p.tables e below (T63.setTop (mkF m 276 #[.val (.int p1), .val (.int p2), .val (.int p3), .val (.int p4), .val (.int p5), .val (.int p6), .val (.int (own_b (own_bit p1))), .val (.ref lit4), .val (.int (7 : Int32)), .val (.int (own_c p5)), .val (.int (own_c p4)), .val (.int (own_n p2)), .val (.int (own_p p3)), .val (.ref b8), .val (.ref r56), .val (.ref r60), .val (.ref b62), .val (.int (0 : Int32))] [])) _
          refine XS.aload X63.here hx rfl (hb hby at_276) rfl rfl ?_
          show Steps p.tables e below (T63.setTop (mkF m 278 #[.val (.int p1), .val (.int p2), .val (.int p3), .val (.int p4), .val (.int p5), .val (.int p6), .val (.int (own_b (own_bit p1))), .val (.ref lit4), .val (.int (7 : Int32)), .val (.int (own_c p5)), .val (.int (own_c p4)), .val (.int (own_n p2)), .val (.int (own_p p3)), .val (.ref b8), .val (.ref r56), .val (.ref r60), .val (.ref b62), .val (.int (0 : Int32))] [(.ref b62)])) _
          refine st65.trans ?_
          refine XS.iload X65.here hx rfl (hb hby at_281) rfl ?_
          show Steps p.tables e below (T65.setTop (mkF m 283 #[.val (.int p1), .val (.int p2), .val (.int p3), .val (.int p4), .val (.int p5), .val (.int p6), .val (.int (own_b (own_bit p1))), .val (.ref lit4), .val (.int (7 : Int32)), .val (.int (own_c p5)), .val (.int (own_c p4)), .val (.int (own_n p2)), .val (.int (own_p p3)), .val (.ref b8), .val (.ref r56), .val (.ref r60), .val (.ref b62), .val (.int (0 : Int32))] [(.int (0 : Int32)), (.int (own_att (own_cut (own_arr (own_baseE p5) p3 p4) (own_n p2).toNatClampNeg)))])) _
          refine XS.icmpNo X65.here hx rfl (hb hby at_283) rfl (teq (own_lawAE hA : (own_att (own_cut (own_arr (own_baseE p5) p3 p4) (own_n p2).toNatClampNeg)) = (0 : Int32))).2 ?_
          refine XS.iconst X65.here hx rfl (hb hby at_286) ?_
          refine XS.goto X65.here hx rfl (pc0 := 287) (pc' := 291) rfl (hb hby at_287) (by decide) (by decide) ?_
          show Steps p.tables e below (T65.setTop (mkF m 291 #[.val (.int p1), .val (.int p2), .val (.int p3), .val (.int p4), .val (.int p5), .val (.int p6), .val (.int (own_b (own_bit p1))), .val (.ref lit4), .val (.int (7 : Int32)), .val (.int (own_c p5)), .val (.int (own_c p4)), .val (.int (own_n p2)), .val (.int (own_p p3)), .val (.ref b8), .val (.ref r56), .val (.ref r60), .val (.ref b62), .val (.int (0 : Int32))] [(.int (1 : Int32))])) _
          exact retN X65 hx (t := .boolean) Bd.returns (by simp) (hb hby at_291) hr
        · show Q0 n0 _ T65.heap _
          exact ⟨rfl, N65a⟩
        · show CHr Z own_EL s.vm s.heap T65.vm T65.heap
          rw [hh]
          exact CH17.trans (CHv.at X65 hZ65 hEL CH17.1)
      · have hA := Classical.not_not.mp hA
        have cut65 : ∀ t, Steps p.tables e below (T63.setTop (mkF m 247 #[.val (.int p1), .val (.int p2), .val (.int p3), .val (.int p4), .val (.int p5), .val (.int p6), .val (.int (own_b (own_bit p1))), .val (.ref lit4), .val (.int (7 : Int32)), .val (.int (own_c p5)), .val (.int (own_c p4)), .val (.int (own_n p2)), .val (.int (own_p p3)), .val (.ref b8), .val (.ref r56), .val (.ref r60), .val (.ref b62), .unset] [(.int (7 : Int32)), (.int (own_n p2))])) t → Steps p.tables e below (s₁.setTop (mkF m 0 #[.val (.int p1), .val (.int p2), .val (.int p3), .val (.int p4), .val (.int p5), .val (.int p6), .unset, .unset, .unset, .unset, .unset, .unset, .unset, .unset, .unset, .unset, .unset, .unset] [])) t := fun t kk => by
          refine cut64 _ ?_
          exact kk
        by_cases hB : own_p p3 < (7 : Int32)
        · have f67 : StrV Z T63.heap lit4 own_EX := (SL4.keep0 ((((((((((((((((Keep.refl h4 []).ext E8).wr W13 (Or.inr (Nat.le_trans (Keep.refl h4 []).1 (Nat.le_of_eq g8.symm)))).wr W18 (Or.inr (Nat.le_trans (Keep.refl h4 []).1 (Nat.le_of_eq g8.symm)))).wr W23 (Or.inr (Nat.le_trans (Keep.refl h4 []).1 (Nat.le_of_eq g8.symm)))).wr W28 (Or.inr (Nat.le_trans (Keep.refl h4 []).1 (Nat.le_of_eq g8.symm)))).wr W33 (Or.inr (Nat.le_trans (Keep.refl h4 []).1 (Nat.le_of_eq g8.symm)))).wr W38 (Or.inr (Nat.le_trans (Keep.refl h4 []).1 (Nat.le_of_eq g8.symm)))).wr W43 (Or.inr (Nat.le_trans (Keep.refl h4 []).1 (Nat.le_of_eq g8.symm)))).wr W48 (Or.inr (Nat.le_trans (Keep.refl h4 []).1 (Nat.le_of_eq g8.symm)))).wr W53 (Or.inr (Nat.le_trans (Keep.refl h4 []).1 (Nat.le_of_eq g8.symm)))).wr W55 (Or.inr (Nat.le_trans (Keep.refl h4 []).1 (Nat.le_of_eq g8.symm)))).trans K56q all0).trans K60q all0).ext E62).trans K63q (allS (Or.inr (Nat.le_trans ((((((((((((((Keep.refl h4 []).ext E8).wr W13 (Or.inr (Nat.le_trans (Keep.refl h4 []).1 (Nat.le_of_eq g8.symm)))).wr W18 (Or.inr (Nat.le_trans (Keep.refl h4 []).1 (Nat.le_of_eq g8.symm)))).wr W23 (Or.inr (Nat.le_trans (Keep.refl h4 []).1 (Nat.le_of_eq g8.symm)))).wr W28 (Or.inr (Nat.le_trans (Keep.refl h4 []).1 (Nat.le_of_eq g8.symm)))).wr W33 (Or.inr (Nat.le_trans (Keep.refl h4 []).1 (Nat.le_of_eq g8.symm)))).wr W38 (Or.inr (Nat.le_trans (Keep.refl h4 []).1 (Nat.le_of_eq g8.symm)))).wr W43 (Or.inr (Nat.le_trans (Keep.refl h4 []).1 (Nat.le_of_eq g8.symm)))).wr W48 (Or.inr (Nat.le_trans (Keep.refl h4 []).1 (Nat.le_of_eq g8.symm)))).wr W53 (Or.inr (Nat.le_trans (Keep.refl h4 []).1 (Nat.le_of_eq g8.symm)))).wr W55 (Or.inr (Nat.le_trans (Keep.refl h4 []).1 (Nat.le_of_eq g8.symm)))).trans K56q all0).trans K60q all0).1 (Nat.le_of_eq g62.symm))) all0)))
          obtain ⟨sb68, sk68, sN68, sv68, sE68, sV68, sC68, sA68, sc68, su68⟩ := id f67
          have f69 : Old Z n0 T63.heap := (((f61.keep K60q all0).ext E62).keep K63q (allS g_b62 all0))
          obtain ⟨cq66, kq66, q66a, q66b, q66c⟩ := isOf hZ56 rfl f67.exa
          obtain ⟨_, _, ⟨T66, L66, k66, n66⟩, -, X66, ⟨Lc66, hQ66, l66, y66, z66⟩, st66⟩ := X63.virtualBack hx (y := (⟨"java/lang/String", "charAt", "(I)C"⟩ : MethodName)) (z := (⟨"java/lang/String", "charAt", "(I)C"⟩ : MethodName)) hown56 (mvT hZ56 (hw _ (List.mem_of_getElem? (i := 27) rfl))) (mvT hZ56 (hw _ (List.mem_of_getElem? (i := 28) rfl))) (notFace_of_selects (args := #[]) (mvT hZ56 (hw _ (List.mem_of_getElem? (i := 30) rfl)))) (mvT hZ56 (hw _ (List.mem_of_getElem? (i := 30) rfl))) (mvT hZ56 (hw _ (List.mem_of_getElem? (i := 29) rfl))) (by decide) (StrChars.Road.chN (W := 1) hZ56 (own_hch hw) (kI := 4) (hw _ (List.mem_of_getElem? (i := 2) rfl)) sE68 sV68 sC68 sA68 sc68 su68 (O2.ext f69.2) P5 (O4.ext f69.2) rG3 (by decide) (i := (own_p p3).toNatClampNeg) (own_lt7 hB) (j := (own_p p3)) (back32 (own_p_nn p3)).1.symm (by decide) (by decide)) q66a q66c (g := (mkF m 263 #[.val (.int p1), .val (.int p2), .val (.int p3), .val (.int p4), .val (.int p5), .val (.int p6), .val (.int (own_b (own_bit p1))), .val (.ref lit4), .val (.int (7 : Int32)), .val (.int (own_c p5)), .val (.int (own_c p4)), .val (.int (own_n p2)), .val (.int (own_p p3)), .val (.ref b8), .val (.ref r56), .val (.ref r60), .val (.ref b62), .unset] [(.int (own_p p3)), (.ref lit4), (.int (own_c p4))])) rfl (by rw [hml]; rfl) (Steps.refl _) (argsL := [(.int (own_p p3))]) (rest := [(.int (own_c p4))]) (lenOf own_pd__I_C rfl) rfl (by show 2 * 0 + _ ≤ _; exact Nat.le_of_eq rfl) (hb hby at_263) (fun _ _ => ⟨rfl, rfl, (by decide : 10 + 0 ≤ _), (by decide : 70 + 0 ≤ _)⟩)
          dsimp only [Pt.U, Pt.locs, Pt.cells, Pt.slots] at X66 l66 y66 z66 st66 hQ66
          rw [l66] at X66
          clear l66; subst y66 z66
          obtain ⟨rfl, rfl, e66q⟩ := hQ66
          have N66a := Fr.app N63a (Fr.nil n0)
          have f73 : Exa Z T63.heap b62 "com/example/restate/restate/Operation$Target" := (A62.keep K63q)
          have f74 : StrV Z T63.heap r56 (own_cut (own_arr (own_baseE p5) p3 p4) (own_n p2).toNatClampNeg) := (SV56.keep0 ((((Keep.refl T56.heap []).trans K60q all0).ext E62).trans K63q (allS (Or.inr (Nat.le_trans ((Keep.refl T56.heap []).trans K60q all0).1 (Nat.le_of_eq g62.symm))) all0)))
          obtain ⟨cq72, kq72, q72a, q72b, q72c⟩ := isOf hZ56 e66q f73
          obtain ⟨_, _, ⟨T72, L72, k72, n72⟩, -, X72', hs72, hg72, ⟨Lc72, hQ72, l72, y72, z72, C72⟩, st72⟩ := X66.virtualBackS hx (y := (⟨"com/example/restate/restate/Operation$Target", "isAttached", "()Z"⟩ : MethodName)) (z := (⟨"com/example/restate/restate/Operation$Target", "isAttached", "()Z"⟩ : MethodName)) hown56 (mvT hZ56 (hw _ (List.mem_of_getElem? (i := 89) rfl))) (mvT hZ56 (hw _ (List.mem_of_getElem? (i := 90) rfl))) (notFace_of_selects (args := #[]) (mvT hZ56 (hw _ (List.mem_of_getElem? (i := 92) rfl)))) (mvT hZ56 (hw _ (List.mem_of_getElem? (i := 92) rfl))) (mvT hZ56 (hw _ (List.mem_of_getElem? (i := 91) rfl))) (by decide) (backOfSH (W := 0) (rmI l Z a0 hw [] hEL b62 r56 (own_cut (own_arr (own_baseE p5) p3 p4) (own_n p2).toNatClampNeg) G1 G3 T63.heap n0 (Nat.le_trans Z0 K16.1) O2 P5 O4 rG3 f69 f73 Ft63 f74 (own_cut_len _ (own_n_r p2))) hZ56 (hw _ (List.mem_of_getElem? (i := 93) rfl)) (hw _ (List.mem_of_getElem? (i := 75) rfl)) (by decide) (by decide) hEL CH16.1) q72a q72c (g := (mkF m 278 #[.val (.int p1), .val (.int p2), .val (.int p3), .val (.int p4), .val (.int p5), .val (.int p6), .val (.int (own_b (own_bit p1))), .val (.ref lit4), .val (.int (7 : Int32)), .val (.int (own_c p5)), .val (.int (own_c p4)), .val (.int (own_n p2)), .val (.int (own_p p3)), .val (.ref b8), .val (.ref r56), .val (.ref r60), .val (.ref b62), .val (.int (own_eq (own_c p4) (own_EX.getD (own_p p3).toNatClampNeg 0)))] [(.ref b62)])) rfl (by rw [hml]; rfl) (Steps.refl _) (argsL := []) (rest := []) (lenOf own_pd___Z rfl) rfl (by show 2 * 0 + _ ≤ _; exact Nat.le_of_eq rfl) (hb hby at_278) (fun _ _ => ⟨rfl, e66q, (by decide : 10 + 4 ≤ _), (by decide : 70 + 68 ≤ _)⟩)
          dsimp only [Pt.U, Pt.locs, Pt.cells, Pt.slots] at X72' l72 y72 z72 st72 hQ72 C72 hs72 hg72
          rw [l72] at X72'
          clear l72; subst y72 z72
          have hk_75 := Nat.le_trans (Nat.le_refl _) ((((Keep.refl T56.heap []).trans K60q all0).ext E62).trans K63q (allS (Or.inr (Nat.le_trans ((Keep.refl T56.heap []).trans K60q all0).1 (Nat.le_of_eq g62.symm))) all0)).1
          obtain ⟨X72, hS72, hZ72, hown72⟩ := rebS hS56 (by rw [e66q]; exact hk_75) X72' hs72 hg72 hZ56 hown56
          obtain ⟨rfl, N72q, K72q⟩ := hQ72
          have N72a := Fr.app N66a N72q
          have CH17 : CHr Z own_EL s.vm h0 T72.vm T72.heap := CH16.trans C72
          have K17 : Keep h0 T72.heap [] := K16.trans K72q all0
          obtain ⟨fs, hr, hrun, hended, hend⟩ := X72.leaveW hS72 (Nat.le_refl _) (v := some (.int (1 : Int32))) (fun h => by rw [Bd.returns] at h; cases h)
          refine ⟨_, _, pre0 _ ?_, hrun, hended, _, _, rfl, ?_, ?_, hend.1, hend.2.1, hend.2.2.1, hend.2.2.2.mono (by decide) (by decide)⟩
          · refine cut65 _ ?_
            show Steps p.tables e below (T63.setTop (mkF m 247 #[.val (.int p1), .val (.int p2), .val (.int p3), .val (.int p4), .val (.int p5), .val (.int p6), .val (.int (own_b (own_bit p1))), .val (.ref lit4), .val (.int (7 : Int32)), .val (.int (own_c p5)), .val (.int (own_c p4)), .val (.int (own_n p2)), .val (.int (own_p p3)), .val (.ref b8), .val (.ref r56), .val (.ref r60), .val (.ref b62), .unset] [(.int (7 : Int32)), (.int (own_n p2))])) _
            refine XS.icmpNo X63.here hx rfl (hb hby at_247) rfl (teq (hA : (own_n p2) = (7 : Int32))).2 ?_
            refine XS.iload X63.here hx rfl (hb hby at_250) rfl ?_
            refine XS.iload X63.here hx rfl (hb hby at_252) rfl ?_
            show Steps p.tables e below (T63.setTop (mkF m 254 #[.val (.int p1), .val (.int p2), .val (.int p3), .val (.int p4), .val (.int p5), .val (.int p6), .val (.int (own_b (own_bit p1))), .val (.ref lit4), .val (.int (7 : Int32)), .val (.int (own_c p5)), .val (.int (own_c p4)), .val (.int (own_n p2)), .val (.int (own_p p3)), .val (.ref b8), .val (.ref r56), .val (.ref r60), .val (.ref b62), .unset] [(.int (7 : Int32)), (.int (own_p p3))])) _
            refine XS.icmpNo X63.here hx rfl (hb hby at_254) rfl (tlt (hB : (own_p p3) < (7 : Int32))).2.1 ?_
            refine XS.iload X63.here hx rfl (hb hby at_257) rfl ?_
            refine XS.aload X63.here hx rfl (hb hby at_259) rfl rfl ?_
            show Steps p.tables e below (T63.setTop (mkF m 261 #[.val (.int p1), .val (.int p2), .val (.int p3), .val (.int p4), .val (.int p5), .val (.int p6), .val (.int (own_b (own_bit p1))), .val (.ref lit4), .val (.int (7 : Int32)), .val (.int (own_c p5)), .val (.int (own_c p4)), .val (.int (own_n p2)), .val (.int (own_p p3)), .val (.ref b8), .val (.ref r56), .val (.ref r60), .val (.ref b62), .unset] [(.ref lit4), (.int (own_c p4))])) _
            refine XS.iload X63.here hx rfl (hb hby at_261) rfl ?_
            show Steps p.tables e below (T63.setTop (mkF m 263 #[.val (.int p1), .val (.int p2), .val (.int p3), .val (.int p4), .val (.int p5), .val (.int p6), .val (.int (own_b (own_bit p1))), .val (.ref lit4), .val (.int (7 : Int32)), .val (.int (own_c p5)), .val (.int (own_c p4)), .val (.int (own_n p2)), .val (.int (own_p p3)), .val (.ref b8), .val (.ref r56), .val (.ref r60), .val (.ref b62), .unset] [(.int (own_p p3)), (.ref lit4), (.int (own_c p4))])) _
            refine st66.trans ?_
            have tr266_70 : ∀ tgt, Steps p.tables e below (T66.setTop (mkF m 274 #[.val (.int p1), .val (.int p2), .val (.int p3), .val (.int p4), .val (.int p5), .val (.int p6), .val (.int (own_b (own_bit p1))), .val (.ref lit4), .val (.int (7 : Int32)), .val (.int (own_c p5)), .val (.int (own_c p4)), .val (.int (own_n p2)), .val (.int (own_p p3)), .val (.ref b8), .val (.ref r56), .val (.ref r60), .val (.ref b62), .unset] [(.int (own_eq (own_c p4) (own_EX.getD (own_p p3).toNatClampNeg 0)))])) tgt → Steps p.tables e below (T66.setTop (mkF m 266 #[.val (.int p1), .val (.int p2), .val (.int p3), .val (.int p4), .val (.int p5), .val (.int p6), .val (.int (own_b (own_bit p1))), .val (.ref lit4), .val (.int (7 : Int32)), .val (.int (own_c p5)), .val (.int (own_c p4)), .val (.int (own_n p2)), .val (.int (own_p p3)), .val (.ref b8), .val (.ref r56), .val (.ref r60), .val (.ref b62), .unset] [(.int (own_EX.getD (own_p p3).toNatClampNeg 0)), (.int (own_c p4))])) tgt := by
              intro tgt kk
              show Steps p.tables e below (T66.setTop (mkF m 266 #[.val (.int p1), .val (.int p2), .val (.int p3), .val (.int p4), .val (.int p5), .val (.int p6), .val (.int (own_b (own_bit p1))), .val (.ref lit4), .val (.int (7 : Int32)), .val (.int (own_c p5)), .val (.int (own_c p4)), .val (.int (own_n p2)), .val (.int (own_p p3)), .val (.ref b8), .val (.ref r56), .val (.ref r60), .val (.ref b62), .unset] [(.int (own_EX.getD (own_p p3).toNatClampNeg 0)), (.int (own_c p4))])) _
              by_cases c71 : (own_c p4) = (own_EX.getD (own_p p3).toNatClampNeg 0)
              · refine XS.icmpNo X66.here hx rfl (hb hby at_266) rfl (teq c71).2 ?_
                show Steps p.tables e below (T66.setTop (mkF m 269 #[.val (.int p1), .val (.int p2), .val (.int p3), .val (.int p4), .val (.int p5), .val (.int p6), .val (.int (own_b (own_bit p1))), .val (.ref lit4), .val (.int (7 : Int32)), .val (.int (own_c p5)), .val (.int (own_c p4)), .val (.int (own_n p2)), .val (.int (own_p p3)), .val (.ref b8), .val (.ref r56), .val (.ref r60), .val (.ref b62), .unset] [])) _
                refine XS.iconst X66.here hx rfl (hb hby at_269) ?_
                show Steps p.tables e below (T66.setTop (mkF m 270 #[.val (.int p1), .val (.int p2), .val (.int p3), .val (.int p4), .val (.int p5), .val (.int p6), .val (.int (own_b (own_bit p1))), .val (.ref lit4), .val (.int (7 : Int32)), .val (.int (own_c p5)), .val (.int (own_c p4)), .val (.int (own_n p2)), .val (.int (own_p p3)), .val (.ref b8), .val (.ref r56), .val (.ref r60), .val (.ref b62), .unset] [(.int (1 : Int32))])) _
                refine XS.goto X66.here hx rfl (pc0 := 270) (pc' := 274) rfl (hb hby at_270) (by decide) (by decide) ?_
                have ev : (own_eq (own_c p4) (own_EX.getD (own_p p3).toNatClampNeg 0)) = (1 : Int32) := by rw [own_eq, if_pos c71]
                rw [ev] at kk
                exact kk
              · refine XS.icmpYes X66.here hx rfl (pc0 := 266) (pc' := 273) rfl (hb hby at_266) rfl (feq c71).2 (by decide) (by decide) ?_
                show Steps p.tables e below (T66.setTop (mkF m 273 #[.val (.int p1), .val (.int p2), .val (.int p3), .val (.int p4), .val (.int p5), .val (.int p6), .val (.int (own_b (own_bit p1))), .val (.ref lit4), .val (.int (7 : Int32)), .val (.int (own_c p5)), .val (.int (own_c p4)), .val (.int (own_n p2)), .val (.int (own_p p3)), .val (.ref b8), .val (.ref r56), .val (.ref r60), .val (.ref b62), .unset] [])) _
                refine XS.iconst X66.here hx rfl (hb hby at_273) ?_
                have ev : (own_eq (own_c p4) (own_EX.getD (own_p p3).toNatClampNeg 0)) = (0 : Int32) := by rw [own_eq, if_neg c71]
                rw [ev] at kk
                exact kk
            refine tr266_70 _ ?_
            refine XS.istore X66.here hx rfl (hb hby at_274) rfl (l' := #[.val (.int p1), .val (.int p2), .val (.int p3), .val (.int p4), .val (.int p5), .val (.int p6), .val (.int (own_b (own_bit p1))), .val (.ref lit4), .val (.int (7 : Int32)), .val (.int (own_c p5)), .val (.int (own_c p4)), .val (.int (own_n p2)), .val (.int (own_p p3)), .val (.ref b8), .val (.ref r56), .val (.ref r60), .val (.ref b62), .val (.int (own_eq (own_c p4) (own_EX.getD (own_p p3).toNatClampNeg 0)))]) rfl ?_
            refine XS.aload X66.here hx rfl (hb hby at_276) rfl rfl ?_
            show Steps p.tables e below (T66.setTop (mkF m 278 #[.val (.int p1), .val (.int p2), .val (.int p3), .val (.int p4), .val (.int p5), .val (.int p6), .val (.int (own_b (own_bit p1))), .val (.ref lit4), .val (.int (7 : Int32)), .val (.int (own_c p5)), .val (.int (own_c p4)), .val (.int (own_n p2)), .val (.int (own_p p3)), .val (.ref b8), .val (.ref r56), .val (.ref r60), .val (.ref b62), .val (.int (own_eq (own_c p4) (own_EX.getD (own_p p3).toNatClampNeg 0)))] [(.ref b62)])) _
            refine st72.trans ?_
            refine XS.iload X72.here hx rfl (hb hby at_281) rfl ?_
            show Steps p.tables e below (T72.setTop (mkF m 283 #[.val (.int p1), .val (.int p2), .val (.int p3), .val (.int p4), .val (.int p5), .val (.int p6), .val (.int (own_b (own_bit p1))), .val (.ref lit4), .val (.int (7 : Int32)), .val (.int (own_c p5)), .val (.int (own_c p4)), .val (.int (own_n p2)), .val (.int (own_p p3)), .val (.ref b8), .val (.ref r56), .val (.ref r60), .val (.ref b62), .val (.int (own_eq (own_c p4) (own_EX.getD (own_p p3).toNatClampNeg 0)))] [(.int (own_eq (own_c p4) (own_EX.getD (own_p p3).toNatClampNeg 0))), (.int (own_att (own_cut (own_arr (own_baseE p5) p3 p4) (own_n p2).toNatClampNeg)))])) _
            refine XS.icmpNo X72.here hx rfl (hb hby at_283) rfl (teq (own_lawCE hA hB : (own_att (own_cut (own_arr (own_baseE p5) p3 p4) (own_n p2).toNatClampNeg)) = (own_eq (own_c p4) (own_EX.getD (own_p p3).toNatClampNeg 0)))).2 ?_
            refine XS.iconst X72.here hx rfl (hb hby at_286) ?_
            refine XS.goto X72.here hx rfl (pc0 := 287) (pc' := 291) rfl (hb hby at_287) (by decide) (by decide) ?_
            show Steps p.tables e below (T72.setTop (mkF m 291 #[.val (.int p1), .val (.int p2), .val (.int p3), .val (.int p4), .val (.int p5), .val (.int p6), .val (.int (own_b (own_bit p1))), .val (.ref lit4), .val (.int (7 : Int32)), .val (.int (own_c p5)), .val (.int (own_c p4)), .val (.int (own_n p2)), .val (.int (own_p p3)), .val (.ref b8), .val (.ref r56), .val (.ref r60), .val (.ref b62), .val (.int (own_eq (own_c p4) (own_EX.getD (own_p p3).toNatClampNeg 0)))] [(.int (1 : Int32))])) _
            exact retN X72 hx (t := .boolean) Bd.returns (by simp) (hb hby at_291) hr
          · show Q0 n0 _ T72.heap _
            exact ⟨rfl, N72a⟩
          · show CHr Z own_EL s.vm s.heap T72.vm T72.heap
            rw [hh]
            exact CH17.trans (CHv.at X72 hZ72 hEL CH17.1)
        · have f67 : Old Z n0 T63.heap := (((f61.keep K60q all0).ext E62).keep K63q (allS g_b62 all0))
          have f68 : Exa Z T63.heap b62 "com/example/restate/restate/Operation$Target" := (A62.keep K63q)
          have f69 : StrV Z T63.heap r56 (own_cut (own_arr (own_baseE p5) p3 p4) (own_n p2).toNatClampNeg) := (SV56.keep0 ((((Keep.refl T56.heap []).trans K60q all0).ext E62).trans K63q (allS (Or.inr (Nat.le_trans ((Keep.refl T56.heap []).trans K60q all0).1 (Nat.le_of_eq g62.symm))) all0)))
          obtain ⟨cq66, kq66, q66a, q66b, q66c⟩ := isOf hZ56 rfl f68
          obtain ⟨_, _, ⟨T66, L66, k66, n66⟩, -, X66', hs66, hg66, ⟨Lc66, hQ66, l66, y66, z66, C66⟩, st66⟩ := X63.virtualBackS hx (y := (⟨"com/example/restate/restate/Operation$Target", "isAttached", "()Z"⟩ : MethodName)) (z := (⟨"com/example/restate/restate/Operation$Target", "isAttached", "()Z"⟩ : MethodName)) hown56 (mvT hZ56 (hw _ (List.mem_of_getElem? (i := 89) rfl))) (mvT hZ56 (hw _ (List.mem_of_getElem? (i := 90) rfl))) (notFace_of_selects (args := #[]) (mvT hZ56 (hw _ (List.mem_of_getElem? (i := 92) rfl)))) (mvT hZ56 (hw _ (List.mem_of_getElem? (i := 92) rfl))) (mvT hZ56 (hw _ (List.mem_of_getElem? (i := 91) rfl))) (by decide) (backOfSH (W := 0) (rmI l Z a0 hw [] hEL b62 r56 (own_cut (own_arr (own_baseE p5) p3 p4) (own_n p2).toNatClampNeg) G1 G3 T63.heap n0 (Nat.le_trans Z0 K16.1) O2 P5 O4 rG3 f67 f68 Ft63 f69 (own_cut_len _ (own_n_r p2))) hZ56 (hw _ (List.mem_of_getElem? (i := 93) rfl)) (hw _ (List.mem_of_getElem? (i := 75) rfl)) (by decide) (by decide) hEL CH16.1) q66a q66c (g := (mkF m 278 #[.val (.int p1), .val (.int p2), .val (.int p3), .val (.int p4), .val (.int p5), .val (.int p6), .val (.int (own_b (own_bit p1))), .val (.ref lit4), .val (.int (7 : Int32)), .val (.int (own_c p5)), .val (.int (own_c p4)), .val (.int (own_n p2)), .val (.int (own_p p3)), .val (.ref b8), .val (.ref r56), .val (.ref r60), .val (.ref b62), .val (.int (1 : Int32))] [(.ref b62)])) rfl (by rw [hml]; rfl) (Steps.refl _) (argsL := []) (rest := []) (lenOf own_pd___Z rfl) rfl (by show 2 * 0 + _ ≤ _; exact Nat.le_of_eq rfl) (hb hby at_278) (fun _ _ => ⟨rfl, rfl, (by decide : 10 + 4 ≤ _), (by decide : 70 + 68 ≤ _)⟩)
          dsimp only [Pt.U, Pt.locs, Pt.cells, Pt.slots] at X66' l66 y66 z66 st66 hQ66 C66 hs66 hg66
          rw [l66] at X66'
          clear l66; subst y66 z66
          have hk_70 := Nat.le_trans (Nat.le_refl _) ((((Keep.refl T56.heap []).trans K60q all0).ext E62).trans K63q (allS (Or.inr (Nat.le_trans ((Keep.refl T56.heap []).trans K60q all0).1 (Nat.le_of_eq g62.symm))) all0)).1
          obtain ⟨X66, hS66, hZ66, hown66⟩ := rebS hS56 hk_70 X66' hs66 hg66 hZ56 hown56
          obtain ⟨rfl, N66q, K66q⟩ := hQ66
          have N66a := Fr.app N63a N66q
          have CH17 : CHr Z own_EL s.vm h0 T66.vm T66.heap := CH16.trans C66
          have K17 : Keep h0 T66.heap [] := K16.trans K66q all0
          obtain ⟨fs, hr, hrun, hended, hend⟩ := X66.leaveW hS66 (Nat.le_refl _) (v := some (.int (1 : Int32))) (fun h => by rw [Bd.returns] at h; cases h)
          refine ⟨_, _, pre0 _ ?_, hrun, hended, _, _, rfl, ?_, ?_, hend.1, hend.2.1, hend.2.2.1, hend.2.2.2.mono (by decide) (by decide)⟩
          · refine cut65 _ ?_
            show Steps p.tables e below (T63.setTop (mkF m 247 #[.val (.int p1), .val (.int p2), .val (.int p3), .val (.int p4), .val (.int p5), .val (.int p6), .val (.int (own_b (own_bit p1))), .val (.ref lit4), .val (.int (7 : Int32)), .val (.int (own_c p5)), .val (.int (own_c p4)), .val (.int (own_n p2)), .val (.int (own_p p3)), .val (.ref b8), .val (.ref r56), .val (.ref r60), .val (.ref b62), .unset] [(.int (7 : Int32)), (.int (own_n p2))])) _
            refine XS.icmpNo X63.here hx rfl (hb hby at_247) rfl (teq (hA : (own_n p2) = (7 : Int32))).2 ?_
            refine XS.iload X63.here hx rfl (hb hby at_250) rfl ?_
            refine XS.iload X63.here hx rfl (hb hby at_252) rfl ?_
            show Steps p.tables e below (T63.setTop (mkF m 254 #[.val (.int p1), .val (.int p2), .val (.int p3), .val (.int p4), .val (.int p5), .val (.int p6), .val (.int (own_b (own_bit p1))), .val (.ref lit4), .val (.int (7 : Int32)), .val (.int (own_c p5)), .val (.int (own_c p4)), .val (.int (own_n p2)), .val (.int (own_p p3)), .val (.ref b8), .val (.ref r56), .val (.ref r60), .val (.ref b62), .unset] [(.int (7 : Int32)), (.int (own_p p3))])) _
            refine XS.icmpYes X63.here hx rfl (pc0 := 254) (pc' := 269) rfl (hb hby at_254) rfl (flt (hB : ¬ ((own_p p3) < (7 : Int32)))).2.1 (by decide) (by decide) ?_
            refine XS.iconst X63.here hx rfl (hb hby at_269) ?_
            refine XS.goto X63.here hx rfl (pc0 := 270) (pc' := 274) rfl (hb hby at_270) (by decide) (by decide) ?_
            show Steps p.tables e below (T63.setTop (mkF m 274 #[.val (.int p1), .val (.int p2), .val (.int p3), .val (.int p4), .val (.int p5), .val (.int p6), .val (.int (own_b (own_bit p1))), .val (.ref lit4), .val (.int (7 : Int32)), .val (.int (own_c p5)), .val (.int (own_c p4)), .val (.int (own_n p2)), .val (.int (own_p p3)), .val (.ref b8), .val (.ref r56), .val (.ref r60), .val (.ref b62), .unset] [(.int (1 : Int32))])) _
            refine XS.istore X63.here hx rfl (hb hby at_274) rfl (l' := #[.val (.int p1), .val (.int p2), .val (.int p3), .val (.int p4), .val (.int p5), .val (.int p6), .val (.int (own_b (own_bit p1))), .val (.ref lit4), .val (.int (7 : Int32)), .val (.int (own_c p5)), .val (.int (own_c p4)), .val (.int (own_n p2)), .val (.int (own_p p3)), .val (.ref b8), .val (.ref r56), .val (.ref r60), .val (.ref b62), .val (.int (1 : Int32))]) rfl ?_
            refine XS.aload X63.here hx rfl (hb hby at_276) rfl rfl ?_
            show Steps p.tables e below (T63.setTop (mkF m 278 #[.val (.int p1), .val (.int p2), .val (.int p3), .val (.int p4), .val (.int p5), .val (.int p6), .val (.int (own_b (own_bit p1))), .val (.ref lit4), .val (.int (7 : Int32)), .val (.int (own_c p5)), .val (.int (own_c p4)), .val (.int (own_n p2)), .val (.int (own_p p3)), .val (.ref b8), .val (.ref r56), .val (.ref r60), .val (.ref b62), .val (.int (1 : Int32))] [(.ref b62)])) _
            refine st66.trans ?_
            refine XS.iload X66.here hx rfl (hb hby at_281) rfl ?_
            show Steps p.tables e below (T66.setTop (mkF m 283 #[.val (.int p1), .val (.int p2), .val (.int p3), .val (.int p4), .val (.int p5), .val (.int p6), .val (.int (own_b (own_bit p1))), .val (.ref lit4), .val (.int (7 : Int32)), .val (.int (own_c p5)), .val (.int (own_c p4)), .val (.int (own_n p2)), .val (.int (own_p p3)), .val (.ref b8), .val (.ref r56), .val (.ref r60), .val (.ref b62), .val (.int (1 : Int32))] [(.int (1 : Int32)), (.int (own_att (own_cut (own_arr (own_baseE p5) p3 p4) (own_n p2).toNatClampNeg)))])) _
            refine XS.icmpNo X66.here hx rfl (hb hby at_283) rfl (teq (own_lawBE hA hB : (own_att (own_cut (own_arr (own_baseE p5) p3 p4) (own_n p2).toNatClampNeg)) = (1 : Int32))).2 ?_
            refine XS.iconst X66.here hx rfl (hb hby at_286) ?_
            refine XS.goto X66.here hx rfl (pc0 := 287) (pc' := 291) rfl (hb hby at_287) (by decide) (by decide) ?_
            show Steps p.tables e below (T66.setTop (mkF m 291 #[.val (.int p1), .val (.int p2), .val (.int p3), .val (.int p4), .val (.int p5), .val (.int p6), .val (.int (own_b (own_bit p1))), .val (.ref lit4), .val (.int (7 : Int32)), .val (.int (own_c p5)), .val (.int (own_c p4)), .val (.int (own_n p2)), .val (.int (own_p p3)), .val (.ref b8), .val (.ref r56), .val (.ref r60), .val (.ref b62), .val (.int (1 : Int32))] [(.int (1 : Int32))])) _
            exact retN X66 hx (t := .boolean) Bd.returns (by simp) (hb hby at_291) hr
          · show Q0 n0 _ T66.heap _
            exact ⟨rfl, N66a⟩
          · show CHr Z own_EL s.vm s.heap T66.vm T66.heap
            rw [hh]
            exact CH17.trans (CHv.at X66 hZ66 hEL CH17.1)
  · obtain ⟨lit4, T4, h4, kl4, lba4, kk4, X4, e4, E4, hS4, hk4, hZ4, hown4, Ea4, Fc4, Fv4, V4, la4, lb4, C4, Lt4, sf4, st4⟩ := ldcCH X0 hx hZ hown (hw _ (List.mem_of_getElem? (i := 118) rfl)) (own_wS hw) e0 hS0 (Nat.zero_le _) hEL (by decide : ("com/example/restate/restate/TargetIsAttachedPinLaw", 7) ∈ own_EL) CH0.1 (vs := [.int (115 : Int32), .int (99 : Int32), .int (104 : Int32), .int (101 : Int32), .int (100 : Int32), .int (117 : Int32), .int (108 : Int32), .int (101 : Int32)]) (z := (8 : Int32)) own_lit_schedule (by decide) (by decide) (g := (mkF m 18 #[.val (.int p1), .val (.int p2), .val (.int p3), .val (.int p4), .val (.int p5), .val (.int p6), .val (.int (own_b (own_bit p1))), .unset, .unset, .unset, .unset, .unset, .unset, .unset, .unset, .unset, .unset, .unset] [])) rfl (hb hby at_18) (n := 32) (by decide) (by decide) (by decide) (by decide)
    have CH1 : CHr Z own_EL s.vm h0 T4.vm h4 := CH0.trans C4
    have K1 : Keep h0 h4 [] := (Keep.refl h0 []).ext E4
    have SL4 : StrV Z h4 lit4 own_SC := ⟨lba4, kk4, _, _, Ea4, Fv4, Fc4, V4, StrChars.Road.codOf (cs := own_SC) (n := 8) rfl (fun c hc => (own_SC_lat c hc).2), own_up _ own_SC_lat⟩
    obtain ⟨sb6, sk6, sN6, sv6, sE6, sV6, sC6, sA6, sc6, su6⟩ := id SL4
    have f7 : Old Z n0 h4 := (O0.ext E4)
    obtain ⟨cq5, kq5, q5a, q5b, q5c⟩ := isOf hZ4 e4 SL4.exa
    obtain ⟨_, _, ⟨T5, L5, k5, n5⟩, -, X5, ⟨Lc5, hQ5, l5, y5, z5⟩, st5⟩ := X4.virtualBack hx (y := (⟨"java/lang/String", "length", "()I"⟩ : MethodName)) (z := (⟨"java/lang/String", "length", "()I"⟩ : MethodName)) hown4 (mvT hZ4 (hw _ (List.mem_of_getElem? (i := 8) rfl))) (mvT hZ4 (hw _ (List.mem_of_getElem? (i := 9) rfl))) (notFace_of_selects (args := #[]) (mvT hZ4 (hw _ (List.mem_of_getElem? (i := 11) rfl)))) (mvT hZ4 (hw _ (List.mem_of_getElem? (i := 11) rfl))) (mvT hZ4 (hw _ (List.mem_of_getElem? (i := 10) rfl))) (by decide) (StrChars.Road.lenW (W := 0) hZ4 (own_hlen hw) (kI := 4) (hw _ (List.mem_of_getElem? (i := 2) rfl)) sE6 sV6 sC6 sA6 sc6 su6 (O2.ext f7.2) P5 (by decide) (by decide) (by decide)) q5a q5c (g := (mkF m 29 #[.val (.int p1), .val (.int p2), .val (.int p3), .val (.int p4), .val (.int p5), .val (.int p6), .val (.int (own_b (own_bit p1))), .val (.ref lit4), .unset, .unset, .unset, .unset, .unset, .unset, .unset, .unset, .unset, .unset] [(.ref lit4)])) rfl (by rw [hml]; rfl) (Steps.refl _) (argsL := []) (rest := []) (lenOf own_pd___I rfl) rfl (by show 2 * 0 + _ ≤ _; exact Nat.le_of_eq rfl) (hb hby at_29) (fun _ _ => ⟨rfl, e4, (by decide : 2 + 0 ≤ _), (by decide : 36 + 0 ≤ _)⟩)
    dsimp only [Pt.U, Pt.locs, Pt.cells, Pt.slots] at X5 l5 y5 z5 st5 hQ5
    rw [l5] at X5
    clear l5; subst y5 z5
    obtain ⟨rfl, rfl, e5q⟩ := hQ5
    have N5a := Fr.app N0 (Fr.nil n0)
    obtain ⟨T8, h8, ka8, X8, e8, E8, A8, st8⟩ := newP X5 hx hZ4 (hw _ (List.mem_of_getElem? (i := 22) rfl)) e5q (g := (mkF m 71 #[.val (.int p1), .val (.int p2), .val (.int p3), .val (.int p4), .val (.int p5), .val (.int p6), .val (.int (own_b (own_bit p1))), .val (.ref lit4), .val (.int (8 : Int32)), .val (.int (own_c p5)), .val (.int (own_c p4)), .val (.int (own_n p2)), .val (.int (own_p p3)), .unset, .unset, .unset, .unset, .unset] [(.int (9 : Int32))])) rfl (hb hby at_71) rfl (by decide) (cap := 9) (by decide) (by decide) (by decide) (by decide)
    obtain ⟨b8, g8⟩ : ∃ z, z = h4.size := ⟨_, rfl⟩
    rw [← g8] at A8 st8
    have sz_b8 : h0.size ≤ b8 := Nat.le_trans K1.1 (Nat.le_of_eq g8.symm)
    have g_b8 : n0 ≤ b8 := Nat.le_trans Z0 sz_b8
    have CH2 : CHr Z own_EL s.vm h0 T4.vm h8 := CH1.trans (CHr.ext E8 CH1.1)
    have K2 : Keep h0 h8 [] := K1.ext E8
    have V_b8 : Arv Z h8 b8 ka8 .char (9 : Int32) [(.int (0 : Int32)), (.int (0 : Int32)), (.int (0 : Int32)), (.int (0 : Int32)), (.int (0 : Int32)), (.int (0 : Int32)), (.int (0 : Int32)), (.int (0 : Int32)), (.int (0 : Int32))] (.int (0 : Int32)) := (Arv.new A8 (by decide)).pad (pad_rep [] (.int (0 : Int32)) 9)
    have f10 : Old Z n0 h8 := (f7.ext E8)
    have f11 : StrV Z h8 lit4 own_SC := (SL4.keep0 ((Keep.refl h4 []).ext E8))
    obtain ⟨_, _, ⟨T9, L9, k9, n9⟩, -, X9, ⟨Lc9, hQ9, l9, y9, z9⟩, st9⟩ := Jvm.LawKit.callS X8 hx (y := (⟨"com/example/restate/restate/TargetIsAttachedPinLaw", "at", "(Ljava/lang/String;IC)C"⟩ : MethodName)) hown4 (mvT hZ4 (hw _ (List.mem_of_getElem? (i := 23) rfl))) (mvT hZ4 (hw _ (List.mem_of_getElem? (i := 24) rfl))) (mvT hZ4 (hw _ (List.mem_of_getElem? (i := 25) rfl))) (mvT hZ4 (hw _ (List.mem_of_getElem? (i := 26) rfl))) (by decide) (backOf (W := 2) (rmA l Z a0 hw [] lit4 0 (own_c p5) own_SC G1 G3 h8 n0 (Nat.le_trans Z0 K2.1) O2 P5 O4 rG3 f10 f11 (by decide) (by decide)) hZ4 (hw _ (List.mem_of_getElem? (i := 26) rfl)) (hw _ (List.mem_of_getElem? (i := 25) rfl)) (by decide) (by decide)) (g := (mkF m 83 #[.val (.int p1), .val (.int p2), .val (.int p3), .val (.int p4), .val (.int p5), .val (.int p6), .val (.int (own_b (own_bit p1))), .val (.ref lit4), .val (.int (8 : Int32)), .val (.int (own_c p5)), .val (.int (own_c p4)), .val (.int (own_n p2)), .val (.int (own_p p3)), .val (.ref b8), .unset, .unset, .unset, .unset] [(.int (own_c p5)), (.int (0 : Int32)), (.ref lit4), (.int (0 : Int32)), (.ref b8)])) rfl (by rw [hml]; rfl) (argsL := [(.ref lit4), (.int (0 : Int32)), (.int (own_c p5))]) (rest := [(.int (0 : Int32)), (.ref b8)]) (lenOf own_pd__Ljava_lang_String_IC_C rfl) rfl (by show 2 * 0 + _ ≤ _; exact Nat.le_of_eq rfl) (hb hby at_83) (fun _ _ => ⟨rfl, e8, (by decide : 3 + 0 ≤ _), (by decide : 45 + 0 ≤ _)⟩)
    dsimp only [Pt.U, Pt.locs, Pt.cells, Pt.slots] at X9 l9 y9 z9 st9 hQ9
    rw [l9] at X9
    clear l9; subst y9 z9
    obtain ⟨rfl, N9q, e9q⟩ := hQ9
    have N9a := Fr.app N5a N9q
    obtain ⟨cl12, Ar12, q12, S12, N_12, H_12, G12⟩ := id V_b8
    obtain ⟨T13, h13, X13, e13, W13, st13⟩ := stC X9 hx hZ4 e9q Ar12 (j := (0 : Int32)) (inb_of S12 ⟨by decide, by decide⟩) (g := (mkF m 86 #[.val (.int p1), .val (.int p2), .val (.int p3), .val (.int p4), .val (.int p5), .val (.int p6), .val (.int (own_b (own_bit p1))), .val (.ref lit4), .val (.int (8 : Int32)), .val (.int (own_c p5)), .val (.int (own_c p4)), .val (.int (own_n p2)), .val (.int (own_p p3)), .val (.ref b8), .unset, .unset, .unset, .unset] [(.int (115 : Int32)), (.int (0 : Int32)), (.ref b8)])) rfl rfl (hb hby at_86)
    have V13_b8 : Arv Z h13 b8 ka8 .char (9 : Int32) [(.int (nar .char (115 : Int32))), (.int (0 : Int32)), (.int (0 : Int32)), (.int (0 : Int32)), (.int (0 : Int32)), (.int (0 : Int32)), (.int (0 : Int32)), (.int (0 : Int32)), (.int (0 : Int32))] (.int (0 : Int32)) := Arv.set Ar12 q12 S12 N_12 H_12 G12 (fits_nar_char _) W13 0 rfl (Nat.le_of_ble_eq_true rfl)
    have Nf13 := Fr.snoc X13 N9a g_b8
    have CH3 : CHr Z own_EL s.vm h0 T4.vm h13 := CH2.trans (CHr.wr W13 (own_safeV (hZ4 : Z.Warmed39 T4.vm).alike V_b8 (by decide)) CH2.1)
    have K3 : Keep h0 h13 [] := K2.wr W13 (Or.inr sz_b8)
    have f15 : Old Z n0 h13 := (f10.wr W13 g_b8)
    have f16 : StrV Z h13 lit4 own_SC := (SL4.keep0 (((Keep.refl h4 []).ext E8).wr W13 (Or.inr (Nat.le_trans (Keep.refl h4 []).1 (Nat.le_of_eq g8.symm)))))
    obtain ⟨_, _, ⟨T14, L14, k14, n14⟩, -, X14, ⟨Lc14, hQ14, l14, y14, z14⟩, st14⟩ := Jvm.LawKit.callS X13 hx (y := (⟨"com/example/restate/restate/TargetIsAttachedPinLaw", "at", "(Ljava/lang/String;IC)C"⟩ : MethodName)) hown4 (mvT hZ4 (hw _ (List.mem_of_getElem? (i := 23) rfl))) (mvT hZ4 (hw _ (List.mem_of_getElem? (i := 24) rfl))) (mvT hZ4 (hw _ (List.mem_of_getElem? (i := 25) rfl))) (mvT hZ4 (hw _ (List.mem_of_getElem? (i := 26) rfl))) (by decide) (backOf (W := 2) (rmA l Z a0 hw [] lit4 1 (own_c p5) own_SC G1 G3 h13 n0 (Nat.le_trans Z0 K3.1) O2 P5 O4 rG3 f15 f16 (by decide) (by decide)) hZ4 (hw _ (List.mem_of_getElem? (i := 26) rfl)) (hw _ (List.mem_of_getElem? (i := 25) rfl)) (by decide) (by decide)) (g := (mkF m 95 #[.val (.int p1), .val (.int p2), .val (.int p3), .val (.int p4), .val (.int p5), .val (.int p6), .val (.int (own_b (own_bit p1))), .val (.ref lit4), .val (.int (8 : Int32)), .val (.int (own_c p5)), .val (.int (own_c p4)), .val (.int (own_n p2)), .val (.int (own_p p3)), .val (.ref b8), .unset, .unset, .unset, .unset] [(.int (own_c p5)), (.int (1 : Int32)), (.ref lit4), (.int (1 : Int32)), (.ref b8)])) rfl (by rw [hml]; rfl) (argsL := [(.ref lit4), (.int (1 : Int32)), (.int (own_c p5))]) (rest := [(.int (1 : Int32)), (.ref b8)]) (lenOf own_pd__Ljava_lang_String_IC_C rfl) rfl (by show 2 * 0 + _ ≤ _; exact Nat.le_of_eq rfl) (hb hby at_95) (fun _ _ => ⟨rfl, e13, (by decide : 3 + 0 ≤ _), (by decide : 45 + 0 ≤ _)⟩)
    dsimp only [Pt.U, Pt.locs, Pt.cells, Pt.slots] at X14 l14 y14 z14 st14 hQ14
    rw [l14] at X14
    clear l14; subst y14 z14
    obtain ⟨rfl, N14q, e14q⟩ := hQ14
    have N14a := Fr.app Nf13 N14q
    obtain ⟨cl17, Ar17, q17, S17, N_17, H_17, G17⟩ := id V13_b8
    obtain ⟨T18, h18, X18, e18, W18, st18⟩ := stC X14 hx hZ4 e14q Ar17 (j := (1 : Int32)) (inb_of S17 ⟨by decide, by decide⟩) (g := (mkF m 98 #[.val (.int p1), .val (.int p2), .val (.int p3), .val (.int p4), .val (.int p5), .val (.int p6), .val (.int (own_b (own_bit p1))), .val (.ref lit4), .val (.int (8 : Int32)), .val (.int (own_c p5)), .val (.int (own_c p4)), .val (.int (own_n p2)), .val (.int (own_p p3)), .val (.ref b8), .unset, .unset, .unset, .unset] [(.int (99 : Int32)), (.int (1 : Int32)), (.ref b8)])) rfl rfl (hb hby at_98)
    have V18_b8 : Arv Z h18 b8 ka8 .char (9 : Int32) [(.int (nar .char (115 : Int32))), (.int (nar .char (99 : Int32))), (.int (0 : Int32)), (.int (0 : Int32)), (.int (0 : Int32)), (.int (0 : Int32)), (.int (0 : Int32)), (.int (0 : Int32)), (.int (0 : Int32))] (.int (0 : Int32)) := Arv.set Ar17 q17 S17 N_17 H_17 G17 (fits_nar_char _) W18 1 rfl (Nat.le_of_ble_eq_true rfl)
    have Nf18 := Fr.snoc X18 N14a g_b8
    have CH4 : CHr Z own_EL s.vm h0 T4.vm h18 := CH3.trans (CHr.wr W18 (own_safeV (hZ4 : Z.Warmed39 T4.vm).alike V13_b8 (by decide)) CH3.1)
    have K4 : Keep h0 h18 [] := K3.wr W18 (Or.inr sz_b8)
    have f20 : Old Z n0 h18 := (f15.wr W18 g_b8)
    have f21 : StrV Z h18 lit4 own_SC := (SL4.keep0 ((((Keep.refl h4 []).ext E8).wr W13 (Or.inr (Nat.le_trans (Keep.refl h4 []).1 (Nat.le_of_eq g8.symm)))).wr W18 (Or.inr (Nat.le_trans (Keep.refl h4 []).1 (Nat.le_of_eq g8.symm)))))
    obtain ⟨_, _, ⟨T19, L19, k19, n19⟩, -, X19, ⟨Lc19, hQ19, l19, y19, z19⟩, st19⟩ := Jvm.LawKit.callS X18 hx (y := (⟨"com/example/restate/restate/TargetIsAttachedPinLaw", "at", "(Ljava/lang/String;IC)C"⟩ : MethodName)) hown4 (mvT hZ4 (hw _ (List.mem_of_getElem? (i := 23) rfl))) (mvT hZ4 (hw _ (List.mem_of_getElem? (i := 24) rfl))) (mvT hZ4 (hw _ (List.mem_of_getElem? (i := 25) rfl))) (mvT hZ4 (hw _ (List.mem_of_getElem? (i := 26) rfl))) (by decide) (backOf (W := 2) (rmA l Z a0 hw [] lit4 2 (own_c p5) own_SC G1 G3 h18 n0 (Nat.le_trans Z0 K4.1) O2 P5 O4 rG3 f20 f21 (by decide) (by decide)) hZ4 (hw _ (List.mem_of_getElem? (i := 26) rfl)) (hw _ (List.mem_of_getElem? (i := 25) rfl)) (by decide) (by decide)) (g := (mkF m 107 #[.val (.int p1), .val (.int p2), .val (.int p3), .val (.int p4), .val (.int p5), .val (.int p6), .val (.int (own_b (own_bit p1))), .val (.ref lit4), .val (.int (8 : Int32)), .val (.int (own_c p5)), .val (.int (own_c p4)), .val (.int (own_n p2)), .val (.int (own_p p3)), .val (.ref b8), .unset, .unset, .unset, .unset] [(.int (own_c p5)), (.int (2 : Int32)), (.ref lit4), (.int (2 : Int32)), (.ref b8)])) rfl (by rw [hml]; rfl) (argsL := [(.ref lit4), (.int (2 : Int32)), (.int (own_c p5))]) (rest := [(.int (2 : Int32)), (.ref b8)]) (lenOf own_pd__Ljava_lang_String_IC_C rfl) rfl (by show 2 * 0 + _ ≤ _; exact Nat.le_of_eq rfl) (hb hby at_107) (fun _ _ => ⟨rfl, e18, (by decide : 3 + 0 ≤ _), (by decide : 45 + 0 ≤ _)⟩)
    dsimp only [Pt.U, Pt.locs, Pt.cells, Pt.slots] at X19 l19 y19 z19 st19 hQ19
    rw [l19] at X19
    clear l19; subst y19 z19
    obtain ⟨rfl, N19q, e19q⟩ := hQ19
    have N19a := Fr.app Nf18 N19q
    obtain ⟨cl22, Ar22, q22, S22, N_22, H_22, G22⟩ := id V18_b8
    obtain ⟨T23, h23, X23, e23, W23, st23⟩ := stC X19 hx hZ4 e19q Ar22 (j := (2 : Int32)) (inb_of S22 ⟨by decide, by decide⟩) (g := (mkF m 110 #[.val (.int p1), .val (.int p2), .val (.int p3), .val (.int p4), .val (.int p5), .val (.int p6), .val (.int (own_b (own_bit p1))), .val (.ref lit4), .val (.int (8 : Int32)), .val (.int (own_c p5)), .val (.int (own_c p4)), .val (.int (own_n p2)), .val (.int (own_p p3)), .val (.ref b8), .unset, .unset, .unset, .unset] [(.int (104 : Int32)), (.int (2 : Int32)), (.ref b8)])) rfl rfl (hb hby at_110)
    have V23_b8 : Arv Z h23 b8 ka8 .char (9 : Int32) [(.int (nar .char (115 : Int32))), (.int (nar .char (99 : Int32))), (.int (nar .char (104 : Int32))), (.int (0 : Int32)), (.int (0 : Int32)), (.int (0 : Int32)), (.int (0 : Int32)), (.int (0 : Int32)), (.int (0 : Int32))] (.int (0 : Int32)) := Arv.set Ar22 q22 S22 N_22 H_22 G22 (fits_nar_char _) W23 2 rfl (Nat.le_of_ble_eq_true rfl)
    have Nf23 := Fr.snoc X23 N19a g_b8
    have CH5 : CHr Z own_EL s.vm h0 T4.vm h23 := CH4.trans (CHr.wr W23 (own_safeV (hZ4 : Z.Warmed39 T4.vm).alike V18_b8 (by decide)) CH4.1)
    have K5 : Keep h0 h23 [] := K4.wr W23 (Or.inr sz_b8)
    have f25 : Old Z n0 h23 := (f20.wr W23 g_b8)
    have f26 : StrV Z h23 lit4 own_SC := (SL4.keep0 (((((Keep.refl h4 []).ext E8).wr W13 (Or.inr (Nat.le_trans (Keep.refl h4 []).1 (Nat.le_of_eq g8.symm)))).wr W18 (Or.inr (Nat.le_trans (Keep.refl h4 []).1 (Nat.le_of_eq g8.symm)))).wr W23 (Or.inr (Nat.le_trans (Keep.refl h4 []).1 (Nat.le_of_eq g8.symm)))))
    obtain ⟨_, _, ⟨T24, L24, k24, n24⟩, -, X24, ⟨Lc24, hQ24, l24, y24, z24⟩, st24⟩ := Jvm.LawKit.callS X23 hx (y := (⟨"com/example/restate/restate/TargetIsAttachedPinLaw", "at", "(Ljava/lang/String;IC)C"⟩ : MethodName)) hown4 (mvT hZ4 (hw _ (List.mem_of_getElem? (i := 23) rfl))) (mvT hZ4 (hw _ (List.mem_of_getElem? (i := 24) rfl))) (mvT hZ4 (hw _ (List.mem_of_getElem? (i := 25) rfl))) (mvT hZ4 (hw _ (List.mem_of_getElem? (i := 26) rfl))) (by decide) (backOf (W := 2) (rmA l Z a0 hw [] lit4 3 (own_c p5) own_SC G1 G3 h23 n0 (Nat.le_trans Z0 K5.1) O2 P5 O4 rG3 f25 f26 (by decide) (by decide)) hZ4 (hw _ (List.mem_of_getElem? (i := 26) rfl)) (hw _ (List.mem_of_getElem? (i := 25) rfl)) (by decide) (by decide)) (g := (mkF m 119 #[.val (.int p1), .val (.int p2), .val (.int p3), .val (.int p4), .val (.int p5), .val (.int p6), .val (.int (own_b (own_bit p1))), .val (.ref lit4), .val (.int (8 : Int32)), .val (.int (own_c p5)), .val (.int (own_c p4)), .val (.int (own_n p2)), .val (.int (own_p p3)), .val (.ref b8), .unset, .unset, .unset, .unset] [(.int (own_c p5)), (.int (3 : Int32)), (.ref lit4), (.int (3 : Int32)), (.ref b8)])) rfl (by rw [hml]; rfl) (argsL := [(.ref lit4), (.int (3 : Int32)), (.int (own_c p5))]) (rest := [(.int (3 : Int32)), (.ref b8)]) (lenOf own_pd__Ljava_lang_String_IC_C rfl) rfl (by show 2 * 0 + _ ≤ _; exact Nat.le_of_eq rfl) (hb hby at_119) (fun _ _ => ⟨rfl, e23, (by decide : 3 + 0 ≤ _), (by decide : 45 + 0 ≤ _)⟩)
    dsimp only [Pt.U, Pt.locs, Pt.cells, Pt.slots] at X24 l24 y24 z24 st24 hQ24
    rw [l24] at X24
    clear l24; subst y24 z24
    obtain ⟨rfl, N24q, e24q⟩ := hQ24
    have N24a := Fr.app Nf23 N24q
    obtain ⟨cl27, Ar27, q27, S27, N_27, H_27, G27⟩ := id V23_b8
    obtain ⟨T28, h28, X28, e28, W28, st28⟩ := stC X24 hx hZ4 e24q Ar27 (j := (3 : Int32)) (inb_of S27 ⟨by decide, by decide⟩) (g := (mkF m 122 #[.val (.int p1), .val (.int p2), .val (.int p3), .val (.int p4), .val (.int p5), .val (.int p6), .val (.int (own_b (own_bit p1))), .val (.ref lit4), .val (.int (8 : Int32)), .val (.int (own_c p5)), .val (.int (own_c p4)), .val (.int (own_n p2)), .val (.int (own_p p3)), .val (.ref b8), .unset, .unset, .unset, .unset] [(.int (101 : Int32)), (.int (3 : Int32)), (.ref b8)])) rfl rfl (hb hby at_122)
    have V28_b8 : Arv Z h28 b8 ka8 .char (9 : Int32) [(.int (nar .char (115 : Int32))), (.int (nar .char (99 : Int32))), (.int (nar .char (104 : Int32))), (.int (nar .char (101 : Int32))), (.int (0 : Int32)), (.int (0 : Int32)), (.int (0 : Int32)), (.int (0 : Int32)), (.int (0 : Int32))] (.int (0 : Int32)) := Arv.set Ar27 q27 S27 N_27 H_27 G27 (fits_nar_char _) W28 3 rfl (Nat.le_of_ble_eq_true rfl)
    have Nf28 := Fr.snoc X28 N24a g_b8
    have CH6 : CHr Z own_EL s.vm h0 T4.vm h28 := CH5.trans (CHr.wr W28 (own_safeV (hZ4 : Z.Warmed39 T4.vm).alike V23_b8 (by decide)) CH5.1)
    have K6 : Keep h0 h28 [] := K5.wr W28 (Or.inr sz_b8)
    have f30 : Old Z n0 h28 := (f25.wr W28 g_b8)
    have f31 : StrV Z h28 lit4 own_SC := (SL4.keep0 ((((((Keep.refl h4 []).ext E8).wr W13 (Or.inr (Nat.le_trans (Keep.refl h4 []).1 (Nat.le_of_eq g8.symm)))).wr W18 (Or.inr (Nat.le_trans (Keep.refl h4 []).1 (Nat.le_of_eq g8.symm)))).wr W23 (Or.inr (Nat.le_trans (Keep.refl h4 []).1 (Nat.le_of_eq g8.symm)))).wr W28 (Or.inr (Nat.le_trans (Keep.refl h4 []).1 (Nat.le_of_eq g8.symm)))))
    obtain ⟨_, _, ⟨T29, L29, k29, n29⟩, -, X29, ⟨Lc29, hQ29, l29, y29, z29⟩, st29⟩ := Jvm.LawKit.callS X28 hx (y := (⟨"com/example/restate/restate/TargetIsAttachedPinLaw", "at", "(Ljava/lang/String;IC)C"⟩ : MethodName)) hown4 (mvT hZ4 (hw _ (List.mem_of_getElem? (i := 23) rfl))) (mvT hZ4 (hw _ (List.mem_of_getElem? (i := 24) rfl))) (mvT hZ4 (hw _ (List.mem_of_getElem? (i := 25) rfl))) (mvT hZ4 (hw _ (List.mem_of_getElem? (i := 26) rfl))) (by decide) (backOf (W := 2) (rmA l Z a0 hw [] lit4 4 (own_c p5) own_SC G1 G3 h28 n0 (Nat.le_trans Z0 K6.1) O2 P5 O4 rG3 f30 f31 (by decide) (by decide)) hZ4 (hw _ (List.mem_of_getElem? (i := 26) rfl)) (hw _ (List.mem_of_getElem? (i := 25) rfl)) (by decide) (by decide)) (g := (mkF m 131 #[.val (.int p1), .val (.int p2), .val (.int p3), .val (.int p4), .val (.int p5), .val (.int p6), .val (.int (own_b (own_bit p1))), .val (.ref lit4), .val (.int (8 : Int32)), .val (.int (own_c p5)), .val (.int (own_c p4)), .val (.int (own_n p2)), .val (.int (own_p p3)), .val (.ref b8), .unset, .unset, .unset, .unset] [(.int (own_c p5)), (.int (4 : Int32)), (.ref lit4), (.int (4 : Int32)), (.ref b8)])) rfl (by rw [hml]; rfl) (argsL := [(.ref lit4), (.int (4 : Int32)), (.int (own_c p5))]) (rest := [(.int (4 : Int32)), (.ref b8)]) (lenOf own_pd__Ljava_lang_String_IC_C rfl) rfl (by show 2 * 0 + _ ≤ _; exact Nat.le_of_eq rfl) (hb hby at_131) (fun _ _ => ⟨rfl, e28, (by decide : 3 + 0 ≤ _), (by decide : 45 + 0 ≤ _)⟩)
    dsimp only [Pt.U, Pt.locs, Pt.cells, Pt.slots] at X29 l29 y29 z29 st29 hQ29
    rw [l29] at X29
    clear l29; subst y29 z29
    obtain ⟨rfl, N29q, e29q⟩ := hQ29
    have N29a := Fr.app Nf28 N29q
    obtain ⟨cl32, Ar32, q32, S32, N_32, H_32, G32⟩ := id V28_b8
    obtain ⟨T33, h33, X33, e33, W33, st33⟩ := stC X29 hx hZ4 e29q Ar32 (j := (4 : Int32)) (inb_of S32 ⟨by decide, by decide⟩) (g := (mkF m 134 #[.val (.int p1), .val (.int p2), .val (.int p3), .val (.int p4), .val (.int p5), .val (.int p6), .val (.int (own_b (own_bit p1))), .val (.ref lit4), .val (.int (8 : Int32)), .val (.int (own_c p5)), .val (.int (own_c p4)), .val (.int (own_n p2)), .val (.int (own_p p3)), .val (.ref b8), .unset, .unset, .unset, .unset] [(.int (100 : Int32)), (.int (4 : Int32)), (.ref b8)])) rfl rfl (hb hby at_134)
    have V33_b8 : Arv Z h33 b8 ka8 .char (9 : Int32) [(.int (nar .char (115 : Int32))), (.int (nar .char (99 : Int32))), (.int (nar .char (104 : Int32))), (.int (nar .char (101 : Int32))), (.int (nar .char (100 : Int32))), (.int (0 : Int32)), (.int (0 : Int32)), (.int (0 : Int32)), (.int (0 : Int32))] (.int (0 : Int32)) := Arv.set Ar32 q32 S32 N_32 H_32 G32 (fits_nar_char _) W33 4 rfl (Nat.le_of_ble_eq_true rfl)
    have Nf33 := Fr.snoc X33 N29a g_b8
    have CH7 : CHr Z own_EL s.vm h0 T4.vm h33 := CH6.trans (CHr.wr W33 (own_safeV (hZ4 : Z.Warmed39 T4.vm).alike V28_b8 (by decide)) CH6.1)
    have K7 : Keep h0 h33 [] := K6.wr W33 (Or.inr sz_b8)
    have f35 : Old Z n0 h33 := (f30.wr W33 g_b8)
    have f36 : StrV Z h33 lit4 own_SC := (SL4.keep0 (((((((Keep.refl h4 []).ext E8).wr W13 (Or.inr (Nat.le_trans (Keep.refl h4 []).1 (Nat.le_of_eq g8.symm)))).wr W18 (Or.inr (Nat.le_trans (Keep.refl h4 []).1 (Nat.le_of_eq g8.symm)))).wr W23 (Or.inr (Nat.le_trans (Keep.refl h4 []).1 (Nat.le_of_eq g8.symm)))).wr W28 (Or.inr (Nat.le_trans (Keep.refl h4 []).1 (Nat.le_of_eq g8.symm)))).wr W33 (Or.inr (Nat.le_trans (Keep.refl h4 []).1 (Nat.le_of_eq g8.symm)))))
    obtain ⟨_, _, ⟨T34, L34, k34, n34⟩, -, X34, ⟨Lc34, hQ34, l34, y34, z34⟩, st34⟩ := Jvm.LawKit.callS X33 hx (y := (⟨"com/example/restate/restate/TargetIsAttachedPinLaw", "at", "(Ljava/lang/String;IC)C"⟩ : MethodName)) hown4 (mvT hZ4 (hw _ (List.mem_of_getElem? (i := 23) rfl))) (mvT hZ4 (hw _ (List.mem_of_getElem? (i := 24) rfl))) (mvT hZ4 (hw _ (List.mem_of_getElem? (i := 25) rfl))) (mvT hZ4 (hw _ (List.mem_of_getElem? (i := 26) rfl))) (by decide) (backOf (W := 2) (rmA l Z a0 hw [] lit4 5 (own_c p5) own_SC G1 G3 h33 n0 (Nat.le_trans Z0 K7.1) O2 P5 O4 rG3 f35 f36 (by decide) (by decide)) hZ4 (hw _ (List.mem_of_getElem? (i := 26) rfl)) (hw _ (List.mem_of_getElem? (i := 25) rfl)) (by decide) (by decide)) (g := (mkF m 143 #[.val (.int p1), .val (.int p2), .val (.int p3), .val (.int p4), .val (.int p5), .val (.int p6), .val (.int (own_b (own_bit p1))), .val (.ref lit4), .val (.int (8 : Int32)), .val (.int (own_c p5)), .val (.int (own_c p4)), .val (.int (own_n p2)), .val (.int (own_p p3)), .val (.ref b8), .unset, .unset, .unset, .unset] [(.int (own_c p5)), (.int (5 : Int32)), (.ref lit4), (.int (5 : Int32)), (.ref b8)])) rfl (by rw [hml]; rfl) (argsL := [(.ref lit4), (.int (5 : Int32)), (.int (own_c p5))]) (rest := [(.int (5 : Int32)), (.ref b8)]) (lenOf own_pd__Ljava_lang_String_IC_C rfl) rfl (by show 2 * 0 + _ ≤ _; exact Nat.le_of_eq rfl) (hb hby at_143) (fun _ _ => ⟨rfl, e33, (by decide : 3 + 0 ≤ _), (by decide : 45 + 0 ≤ _)⟩)
    dsimp only [Pt.U, Pt.locs, Pt.cells, Pt.slots] at X34 l34 y34 z34 st34 hQ34
    rw [l34] at X34
    clear l34; subst y34 z34
    obtain ⟨rfl, N34q, e34q⟩ := hQ34
    have N34a := Fr.app Nf33 N34q
    obtain ⟨cl37, Ar37, q37, S37, N_37, H_37, G37⟩ := id V33_b8
    obtain ⟨T38, h38, X38, e38, W38, st38⟩ := stC X34 hx hZ4 e34q Ar37 (j := (5 : Int32)) (inb_of S37 ⟨by decide, by decide⟩) (g := (mkF m 146 #[.val (.int p1), .val (.int p2), .val (.int p3), .val (.int p4), .val (.int p5), .val (.int p6), .val (.int (own_b (own_bit p1))), .val (.ref lit4), .val (.int (8 : Int32)), .val (.int (own_c p5)), .val (.int (own_c p4)), .val (.int (own_n p2)), .val (.int (own_p p3)), .val (.ref b8), .unset, .unset, .unset, .unset] [(.int (117 : Int32)), (.int (5 : Int32)), (.ref b8)])) rfl rfl (hb hby at_146)
    have V38_b8 : Arv Z h38 b8 ka8 .char (9 : Int32) [(.int (nar .char (115 : Int32))), (.int (nar .char (99 : Int32))), (.int (nar .char (104 : Int32))), (.int (nar .char (101 : Int32))), (.int (nar .char (100 : Int32))), (.int (nar .char (117 : Int32))), (.int (0 : Int32)), (.int (0 : Int32)), (.int (0 : Int32))] (.int (0 : Int32)) := Arv.set Ar37 q37 S37 N_37 H_37 G37 (fits_nar_char _) W38 5 rfl (Nat.le_of_ble_eq_true rfl)
    have Nf38 := Fr.snoc X38 N34a g_b8
    have CH8 : CHr Z own_EL s.vm h0 T4.vm h38 := CH7.trans (CHr.wr W38 (own_safeV (hZ4 : Z.Warmed39 T4.vm).alike V33_b8 (by decide)) CH7.1)
    have K8 : Keep h0 h38 [] := K7.wr W38 (Or.inr sz_b8)
    have f40 : Old Z n0 h38 := (f35.wr W38 g_b8)
    have f41 : StrV Z h38 lit4 own_SC := (SL4.keep0 ((((((((Keep.refl h4 []).ext E8).wr W13 (Or.inr (Nat.le_trans (Keep.refl h4 []).1 (Nat.le_of_eq g8.symm)))).wr W18 (Or.inr (Nat.le_trans (Keep.refl h4 []).1 (Nat.le_of_eq g8.symm)))).wr W23 (Or.inr (Nat.le_trans (Keep.refl h4 []).1 (Nat.le_of_eq g8.symm)))).wr W28 (Or.inr (Nat.le_trans (Keep.refl h4 []).1 (Nat.le_of_eq g8.symm)))).wr W33 (Or.inr (Nat.le_trans (Keep.refl h4 []).1 (Nat.le_of_eq g8.symm)))).wr W38 (Or.inr (Nat.le_trans (Keep.refl h4 []).1 (Nat.le_of_eq g8.symm)))))
    obtain ⟨_, _, ⟨T39, L39, k39, n39⟩, -, X39, ⟨Lc39, hQ39, l39, y39, z39⟩, st39⟩ := Jvm.LawKit.callS X38 hx (y := (⟨"com/example/restate/restate/TargetIsAttachedPinLaw", "at", "(Ljava/lang/String;IC)C"⟩ : MethodName)) hown4 (mvT hZ4 (hw _ (List.mem_of_getElem? (i := 23) rfl))) (mvT hZ4 (hw _ (List.mem_of_getElem? (i := 24) rfl))) (mvT hZ4 (hw _ (List.mem_of_getElem? (i := 25) rfl))) (mvT hZ4 (hw _ (List.mem_of_getElem? (i := 26) rfl))) (by decide) (backOf (W := 2) (rmA l Z a0 hw [] lit4 6 (own_c p5) own_SC G1 G3 h38 n0 (Nat.le_trans Z0 K8.1) O2 P5 O4 rG3 f40 f41 (by decide) (by decide)) hZ4 (hw _ (List.mem_of_getElem? (i := 26) rfl)) (hw _ (List.mem_of_getElem? (i := 25) rfl)) (by decide) (by decide)) (g := (mkF m 157 #[.val (.int p1), .val (.int p2), .val (.int p3), .val (.int p4), .val (.int p5), .val (.int p6), .val (.int (own_b (own_bit p1))), .val (.ref lit4), .val (.int (8 : Int32)), .val (.int (own_c p5)), .val (.int (own_c p4)), .val (.int (own_n p2)), .val (.int (own_p p3)), .val (.ref b8), .unset, .unset, .unset, .unset] [(.int (own_c p5)), (.int (6 : Int32)), (.ref lit4), (.int (6 : Int32)), (.ref b8)])) rfl (by rw [hml]; rfl) (argsL := [(.ref lit4), (.int (6 : Int32)), (.int (own_c p5))]) (rest := [(.int (6 : Int32)), (.ref b8)]) (lenOf own_pd__Ljava_lang_String_IC_C rfl) rfl (by show 2 * 0 + _ ≤ _; exact Nat.le_of_eq rfl) (hb hby at_157) (fun _ _ => ⟨rfl, e38, (by decide : 3 + 0 ≤ _), (by decide : 45 + 0 ≤ _)⟩)
    dsimp only [Pt.U, Pt.locs, Pt.cells, Pt.slots] at X39 l39 y39 z39 st39 hQ39
    rw [l39] at X39
    clear l39; subst y39 z39
    obtain ⟨rfl, N39q, e39q⟩ := hQ39
    have N39a := Fr.app Nf38 N39q
    obtain ⟨cl42, Ar42, q42, S42, N_42, H_42, G42⟩ := id V38_b8
    obtain ⟨T43, h43, X43, e43, W43, st43⟩ := stC X39 hx hZ4 e39q Ar42 (j := (6 : Int32)) (inb_of S42 ⟨by decide, by decide⟩) (g := (mkF m 160 #[.val (.int p1), .val (.int p2), .val (.int p3), .val (.int p4), .val (.int p5), .val (.int p6), .val (.int (own_b (own_bit p1))), .val (.ref lit4), .val (.int (8 : Int32)), .val (.int (own_c p5)), .val (.int (own_c p4)), .val (.int (own_n p2)), .val (.int (own_p p3)), .val (.ref b8), .unset, .unset, .unset, .unset] [(.int (108 : Int32)), (.int (6 : Int32)), (.ref b8)])) rfl rfl (hb hby at_160)
    have V43_b8 : Arv Z h43 b8 ka8 .char (9 : Int32) [(.int (nar .char (115 : Int32))), (.int (nar .char (99 : Int32))), (.int (nar .char (104 : Int32))), (.int (nar .char (101 : Int32))), (.int (nar .char (100 : Int32))), (.int (nar .char (117 : Int32))), (.int (nar .char (108 : Int32))), (.int (0 : Int32)), (.int (0 : Int32))] (.int (0 : Int32)) := Arv.set Ar42 q42 S42 N_42 H_42 G42 (fits_nar_char _) W43 6 rfl (Nat.le_of_ble_eq_true rfl)
    have Nf43 := Fr.snoc X43 N39a g_b8
    have CH9 : CHr Z own_EL s.vm h0 T4.vm h43 := CH8.trans (CHr.wr W43 (own_safeV (hZ4 : Z.Warmed39 T4.vm).alike V38_b8 (by decide)) CH8.1)
    have K9 : Keep h0 h43 [] := K8.wr W43 (Or.inr sz_b8)
    have f45 : Old Z n0 h43 := (f40.wr W43 g_b8)
    have f46 : StrV Z h43 lit4 own_SC := (SL4.keep0 (((((((((Keep.refl h4 []).ext E8).wr W13 (Or.inr (Nat.le_trans (Keep.refl h4 []).1 (Nat.le_of_eq g8.symm)))).wr W18 (Or.inr (Nat.le_trans (Keep.refl h4 []).1 (Nat.le_of_eq g8.symm)))).wr W23 (Or.inr (Nat.le_trans (Keep.refl h4 []).1 (Nat.le_of_eq g8.symm)))).wr W28 (Or.inr (Nat.le_trans (Keep.refl h4 []).1 (Nat.le_of_eq g8.symm)))).wr W33 (Or.inr (Nat.le_trans (Keep.refl h4 []).1 (Nat.le_of_eq g8.symm)))).wr W38 (Or.inr (Nat.le_trans (Keep.refl h4 []).1 (Nat.le_of_eq g8.symm)))).wr W43 (Or.inr (Nat.le_trans (Keep.refl h4 []).1 (Nat.le_of_eq g8.symm)))))
    obtain ⟨_, _, ⟨T44, L44, k44, n44⟩, -, X44, ⟨Lc44, hQ44, l44, y44, z44⟩, st44⟩ := Jvm.LawKit.callS X43 hx (y := (⟨"com/example/restate/restate/TargetIsAttachedPinLaw", "at", "(Ljava/lang/String;IC)C"⟩ : MethodName)) hown4 (mvT hZ4 (hw _ (List.mem_of_getElem? (i := 23) rfl))) (mvT hZ4 (hw _ (List.mem_of_getElem? (i := 24) rfl))) (mvT hZ4 (hw _ (List.mem_of_getElem? (i := 25) rfl))) (mvT hZ4 (hw _ (List.mem_of_getElem? (i := 26) rfl))) (by decide) (backOf (W := 2) (rmA l Z a0 hw [] lit4 7 (own_c p5) own_SC G1 G3 h43 n0 (Nat.le_trans Z0 K9.1) O2 P5 O4 rG3 f45 f46 (by decide) (by decide)) hZ4 (hw _ (List.mem_of_getElem? (i := 26) rfl)) (hw _ (List.mem_of_getElem? (i := 25) rfl)) (by decide) (by decide)) (g := (mkF m 171 #[.val (.int p1), .val (.int p2), .val (.int p3), .val (.int p4), .val (.int p5), .val (.int p6), .val (.int (own_b (own_bit p1))), .val (.ref lit4), .val (.int (8 : Int32)), .val (.int (own_c p5)), .val (.int (own_c p4)), .val (.int (own_n p2)), .val (.int (own_p p3)), .val (.ref b8), .unset, .unset, .unset, .unset] [(.int (own_c p5)), (.int (7 : Int32)), (.ref lit4), (.int (7 : Int32)), (.ref b8)])) rfl (by rw [hml]; rfl) (argsL := [(.ref lit4), (.int (7 : Int32)), (.int (own_c p5))]) (rest := [(.int (7 : Int32)), (.ref b8)]) (lenOf own_pd__Ljava_lang_String_IC_C rfl) rfl (by show 2 * 0 + _ ≤ _; exact Nat.le_of_eq rfl) (hb hby at_171) (fun _ _ => ⟨rfl, e43, (by decide : 3 + 0 ≤ _), (by decide : 45 + 0 ≤ _)⟩)
    dsimp only [Pt.U, Pt.locs, Pt.cells, Pt.slots] at X44 l44 y44 z44 st44 hQ44
    rw [l44] at X44
    clear l44; subst y44 z44
    obtain ⟨rfl, N44q, e44q⟩ := hQ44
    have N44a := Fr.app Nf43 N44q
    obtain ⟨cl47, Ar47, q47, S47, N_47, H_47, G47⟩ := id V43_b8
    obtain ⟨T48, h48, X48, e48, W48, st48⟩ := stC X44 hx hZ4 e44q Ar47 (j := (7 : Int32)) (inb_of S47 ⟨by decide, by decide⟩) (g := (mkF m 174 #[.val (.int p1), .val (.int p2), .val (.int p3), .val (.int p4), .val (.int p5), .val (.int p6), .val (.int (own_b (own_bit p1))), .val (.ref lit4), .val (.int (8 : Int32)), .val (.int (own_c p5)), .val (.int (own_c p4)), .val (.int (own_n p2)), .val (.int (own_p p3)), .val (.ref b8), .unset, .unset, .unset, .unset] [(.int (101 : Int32)), (.int (7 : Int32)), (.ref b8)])) rfl rfl (hb hby at_174)
    have V48_b8 : Arv Z h48 b8 ka8 .char (9 : Int32) [(.int (nar .char (115 : Int32))), (.int (nar .char (99 : Int32))), (.int (nar .char (104 : Int32))), (.int (nar .char (101 : Int32))), (.int (nar .char (100 : Int32))), (.int (nar .char (117 : Int32))), (.int (nar .char (108 : Int32))), (.int (nar .char (101 : Int32))), (.int (0 : Int32))] (.int (0 : Int32)) := Arv.set Ar47 q47 S47 N_47 H_47 G47 (fits_nar_char _) W48 7 rfl (Nat.le_of_ble_eq_true rfl)
    have Nf48 := Fr.snoc X48 N44a g_b8
    have CH10 : CHr Z own_EL s.vm h0 T4.vm h48 := CH9.trans (CHr.wr W48 (own_safeV (hZ4 : Z.Warmed39 T4.vm).alike V43_b8 (by decide)) CH9.1)
    have K10 : Keep h0 h48 [] := K9.wr W48 (Or.inr sz_b8)
    have f50 : Old Z n0 h48 := (f45.wr W48 g_b8)
    have f51 : StrV Z h48 lit4 own_SC := (SL4.keep0 ((((((((((Keep.refl h4 []).ext E8).wr W13 (Or.inr (Nat.le_trans (Keep.refl h4 []).1 (Nat.le_of_eq g8.symm)))).wr W18 (Or.inr (Nat.le_trans (Keep.refl h4 []).1 (Nat.le_of_eq g8.symm)))).wr W23 (Or.inr (Nat.le_trans (Keep.refl h4 []).1 (Nat.le_of_eq g8.symm)))).wr W28 (Or.inr (Nat.le_trans (Keep.refl h4 []).1 (Nat.le_of_eq g8.symm)))).wr W33 (Or.inr (Nat.le_trans (Keep.refl h4 []).1 (Nat.le_of_eq g8.symm)))).wr W38 (Or.inr (Nat.le_trans (Keep.refl h4 []).1 (Nat.le_of_eq g8.symm)))).wr W43 (Or.inr (Nat.le_trans (Keep.refl h4 []).1 (Nat.le_of_eq g8.symm)))).wr W48 (Or.inr (Nat.le_trans (Keep.refl h4 []).1 (Nat.le_of_eq g8.symm)))))
    obtain ⟨_, _, ⟨T49, L49, k49, n49⟩, -, X49, ⟨Lc49, hQ49, l49, y49, z49⟩, st49⟩ := Jvm.LawKit.callS X48 hx (y := (⟨"com/example/restate/restate/TargetIsAttachedPinLaw", "at", "(Ljava/lang/String;IC)C"⟩ : MethodName)) hown4 (mvT hZ4 (hw _ (List.mem_of_getElem? (i := 23) rfl))) (mvT hZ4 (hw _ (List.mem_of_getElem? (i := 24) rfl))) (mvT hZ4 (hw _ (List.mem_of_getElem? (i := 25) rfl))) (mvT hZ4 (hw _ (List.mem_of_getElem? (i := 26) rfl))) (by decide) (backOf (W := 2) (rmA l Z a0 hw [] lit4 8 (own_c p5) own_SC G1 G3 h48 n0 (Nat.le_trans Z0 K10.1) O2 P5 O4 rG3 f50 f51 (by decide) (by decide)) hZ4 (hw _ (List.mem_of_getElem? (i := 26) rfl)) (hw _ (List.mem_of_getElem? (i := 25) rfl)) (by decide) (by decide)) (g := (mkF m 185 #[.val (.int p1), .val (.int p2), .val (.int p3), .val (.int p4), .val (.int p5), .val (.int p6), .val (.int (own_b (own_bit p1))), .val (.ref lit4), .val (.int (8 : Int32)), .val (.int (own_c p5)), .val (.int (own_c p4)), .val (.int (own_n p2)), .val (.int (own_p p3)), .val (.ref b8), .unset, .unset, .unset, .unset] [(.int (own_c p5)), (.int (8 : Int32)), (.ref lit4), (.int (8 : Int32)), (.ref b8)])) rfl (by rw [hml]; rfl) (argsL := [(.ref lit4), (.int (8 : Int32)), (.int (own_c p5))]) (rest := [(.int (8 : Int32)), (.ref b8)]) (lenOf own_pd__Ljava_lang_String_IC_C rfl) rfl (by show 2 * 0 + _ ≤ _; exact Nat.le_of_eq rfl) (hb hby at_185) (fun _ _ => ⟨rfl, e48, (by decide : 3 + 0 ≤ _), (by decide : 45 + 0 ≤ _)⟩)
    dsimp only [Pt.U, Pt.locs, Pt.cells, Pt.slots] at X49 l49 y49 z49 st49 hQ49
    rw [l49] at X49
    clear l49; subst y49 z49
    obtain ⟨rfl, N49q, e49q⟩ := hQ49
    have N49a := Fr.app Nf48 N49q
    obtain ⟨cl52, Ar52, q52, S52, N_52, H_52, G52⟩ := id V48_b8
    obtain ⟨T53, h53, X53, e53, W53, st53⟩ := stC X49 hx hZ4 e49q Ar52 (j := (8 : Int32)) (inb_of S52 ⟨by decide, by decide⟩) (g := (mkF m 188 #[.val (.int p1), .val (.int p2), .val (.int p3), .val (.int p4), .val (.int p5), .val (.int p6), .val (.int (own_b (own_bit p1))), .val (.ref lit4), .val (.int (8 : Int32)), .val (.int (own_c p5)), .val (.int (own_c p4)), .val (.int (own_n p2)), .val (.int (own_p p3)), .val (.ref b8), .unset, .unset, .unset, .unset] [(.int (nar .char (own_c p5))), (.int (8 : Int32)), (.ref b8)])) rfl rfl (hb hby at_188)
    have V53_b8 : Arv Z h53 b8 ka8 .char (9 : Int32) [(.int (nar .char (115 : Int32))), (.int (nar .char (99 : Int32))), (.int (nar .char (104 : Int32))), (.int (nar .char (101 : Int32))), (.int (nar .char (100 : Int32))), (.int (nar .char (117 : Int32))), (.int (nar .char (108 : Int32))), (.int (nar .char (101 : Int32))), (.int (nar .char (nar .char (own_c p5))))] (.int (0 : Int32)) := Arv.set Ar52 q52 S52 N_52 H_52 G52 (fits_nar_char _) W53 8 rfl (Nat.le_of_ble_eq_true rfl)
    have Nf53 := Fr.snoc X53 N49a g_b8
    have CH11 : CHr Z own_EL s.vm h0 T4.vm h53 := CH10.trans (CHr.wr W53 (own_safeV (hZ4 : Z.Warmed39 T4.vm).alike V48_b8 (by decide)) CH10.1)
    have K11 : Keep h0 h53 [] := K10.wr W53 (Or.inr sz_b8)
    obtain ⟨cl54, Ar54, q54, S54, N_54, H_54, G54⟩ := id V53_b8
    obtain ⟨T55, h55, X55, e55, W55, st55⟩ := stC X53 hx hZ4 e53 Ar54 (j := (own_p p3)) (inb_of S54 (own_p_in p3)) (g := (mkF m 195 #[.val (.int p1), .val (.int p2), .val (.int p3), .val (.int p4), .val (.int p5), .val (.int p6), .val (.int (own_b (own_bit p1))), .val (.ref lit4), .val (.int (8 : Int32)), .val (.int (own_c p5)), .val (.int (own_c p4)), .val (.int (own_n p2)), .val (.int (own_p p3)), .val (.ref b8), .unset, .unset, .unset, .unset] [(.int (own_c p4)), (.int (own_p p3)), (.ref b8)])) rfl rfl (hb hby at_195)
    have V55_b8' := Arv.set Ar54 q54 S54 N_54 H_54 G54 (fits_nar_char _) W55 (own_p p3).toNatClampNeg rfl (own_p_lt p3)
    have V55_b8 : Arv Z h55 b8 ka8 .char (9 : Int32) ((own_arr (own_baseS p5) p3 p4).map Value.int) (.int (0 : Int32)) := by
      rw [own_arr, List.map_set]; exact V55_b8'
    have Nf55 := Fr.snoc X55 Nf53 g_b8
    have CH12 : CHr Z own_EL s.vm h0 T4.vm h55 := CH11.trans (CHr.wr W55 (own_safeV (hZ4 : Z.Warmed39 T4.vm).alike V53_b8 (by decide)) CH11.1)
    have K12 : Keep h0 h55 [] := K11.wr W55 (Or.inr sz_b8)
    have f57 : Old Z n0 h55 := ((f50.wr W53 g_b8).wr W55 g_b8)
    obtain ⟨_, _, ⟨T56, L56, k56, n56⟩, -, X56', hs56, hg56, ⟨Lc56, hQ56, l56, y56, z56, C56⟩, st56⟩ := callSS X55 hx (y := (⟨"com/example/restate/restate/TargetIsAttachedPinLaw", "cut", "([CI)Ljava/lang/String;"⟩ : MethodName)) hown4 (mvT hZ4 (hw _ (List.mem_of_getElem? (i := 49) rfl))) (mvT hZ4 (hw _ (List.mem_of_getElem? (i := 50) rfl))) (mvT hZ4 (hw _ (List.mem_of_getElem? (i := 25) rfl))) (mvT hZ4 (hw _ (List.mem_of_getElem? (i := 51) rfl))) (by decide) (backOfSH (W := 0) (rmC l Z a0 hw [] hEL b8 (own_n p2) (own_arr (own_baseS p5) p3 p4) ka8 G1 G3 h55 n0 (Nat.le_trans Z0 K12.1) O2 P5 O4 rG3 f57 V55_b8 (own_arr_lat _ (own_baseS_lat p5) p3 p4) (own_n_r p2)) hZ4 (hw _ (List.mem_of_getElem? (i := 51) rfl)) (hw _ (List.mem_of_getElem? (i := 25) rfl)) (by decide) (by decide) hEL CH12.1) (g := (mkF m 200 #[.val (.int p1), .val (.int p2), .val (.int p3), .val (.int p4), .val (.int p5), .val (.int p6), .val (.int (own_b (own_bit p1))), .val (.ref lit4), .val (.int (8 : Int32)), .val (.int (own_c p5)), .val (.int (own_c p4)), .val (.int (own_n p2)), .val (.int (own_p p3)), .val (.ref b8), .unset, .unset, .unset, .unset] [(.int (own_n p2)), (.ref b8)])) rfl (by rw [hml]; rfl) (argsL := [(.ref b8), (.int (own_n p2))]) (rest := []) (lenOf own_pd___CI_Ljava_lang_String_ rfl) rfl (by show 2 * 0 + _ ≤ _; exact Nat.le_of_eq rfl) (hb hby at_200) (fun _ _ => ⟨rfl, e55, (by decide : 3 + 4 ≤ _), (by decide : 45 + 22 ≤ _)⟩)
    dsimp only [Pt.U, Pt.locs, Pt.cells, Pt.slots] at X56' l56 y56 z56 st56 hQ56 C56 hs56 hg56
    rw [l56] at X56'
    clear l56; subst y56 z56
    have hk_58 := Nat.le_trans hk4 ((((((((((((Keep.refl h4 []).ext E8).wr W13 (Or.inr (Nat.le_trans (Keep.refl h4 []).1 (Nat.le_of_eq g8.symm)))).wr W18 (Or.inr (Nat.le_trans (Keep.refl h4 []).1 (Nat.le_of_eq g8.symm)))).wr W23 (Or.inr (Nat.le_trans (Keep.refl h4 []).1 (Nat.le_of_eq g8.symm)))).wr W28 (Or.inr (Nat.le_trans (Keep.refl h4 []).1 (Nat.le_of_eq g8.symm)))).wr W33 (Or.inr (Nat.le_trans (Keep.refl h4 []).1 (Nat.le_of_eq g8.symm)))).wr W38 (Or.inr (Nat.le_trans (Keep.refl h4 []).1 (Nat.le_of_eq g8.symm)))).wr W43 (Or.inr (Nat.le_trans (Keep.refl h4 []).1 (Nat.le_of_eq g8.symm)))).wr W48 (Or.inr (Nat.le_trans (Keep.refl h4 []).1 (Nat.le_of_eq g8.symm)))).wr W53 (Or.inr (Nat.le_trans (Keep.refl h4 []).1 (Nat.le_of_eq g8.symm)))).wr W55 (Or.inr (Nat.le_trans (Keep.refl h4 []).1 (Nat.le_of_eq g8.symm)))).1
    obtain ⟨X56, hS56, hZ56, hown56⟩ := rebS hS4 (by rw [e55]; exact hk_58) X56' hs56 hg56 hZ4 hown4
    obtain ⟨r56, rfl, N56q, K56q, SV56⟩ := hQ56
    have N56a := Fr.app Nf55 N56q
    have CH13 : CHr Z own_EL s.vm h0 T56.vm T56.heap := CH12.trans C56
    have K13 : Keep h0 T56.heap [] := K12.trans K56q all0
    have cut59 : ∀ t, Steps p.tables e below (T56.setTop (mkF m 209 #[.val (.int p1), .val (.int p2), .val (.int p3), .val (.int p4), .val (.int p5), .val (.int p6), .val (.int (own_b (own_bit p1))), .val (.ref lit4), .val (.int (8 : Int32)), .val (.int (own_c p5)), .val (.int (own_c p4)), .val (.int (own_n p2)), .val (.int (own_p p3)), .val (.ref b8), .val (.ref r56), .unset, .unset, .unset] [(.int (own_bit p6))])) t → Steps p.tables e below (s₁.setTop (mkF m 0 #[.val (.int p1), .val (.int p2), .val (.int p3), .val (.int p4), .val (.int p5), .val (.int p6), .unset, .unset, .unset, .unset, .unset, .unset, .unset, .unset, .unset, .unset, .unset, .unset] [])) t := fun t kk => by
      refine cut3 _ ?_
      show Steps p.tables e below (s₁.setTop (mkF m 15 #[.val (.int p1), .val (.int p2), .val (.int p3), .val (.int p4), .val (.int p5), .val (.int p6), .val (.int (own_b (own_bit p1))), .unset, .unset, .unset, .unset, .unset, .unset, .unset, .unset, .unset, .unset, .unset] [(.int (own_b (own_bit p1)))])) _
      refine XS.ifNo X0.here hx rfl (hb hby at_15) rfl ((if0 _ _).trans (feq (hs : ¬ ((own_b (own_bit p1)) = (0 : Int32)))).1) ?_
      show Steps p.tables e below (s₁.setTop (mkF m 18 #[.val (.int p1), .val (.int p2), .val (.int p3), .val (.int p4), .val (.int p5), .val (.int p6), .val (.int (own_b (own_bit p1))), .unset, .unset, .unset, .unset, .unset, .unset, .unset, .unset, .unset, .unset, .unset] [])) _
      refine st4 _ ?_
      refine XS.goto X4.here hx rfl (pc0 := 20) (pc' := 25) rfl (hb hby at_20) (by decide) (by decide) ?_
      refine XS.astore X4.here hx rfl (hb hby at_25) rfl rfl (l' := #[.val (.int p1), .val (.int p2), .val (.int p3), .val (.int p4), .val (.int p5), .val (.int p6), .val (.int (own_b (own_bit p1))), .val (.ref lit4), .unset, .unset, .unset, .unset, .unset, .unset, .unset, .unset, .unset, .unset]) rfl ?_
      show Steps p.tables e below (T4.setTop (mkF m 27 #[.val (.int p1), .val (.int p2), .val (.int p3), .val (.int p4), .val (.int p5), .val (.int p6), .val (.int (own_b (own_bit p1))), .val (.ref lit4), .unset, .unset, .unset, .unset, .unset, .unset, .unset, .unset, .unset, .unset] [])) _
      refine XS.aload X4.here hx rfl (hb hby at_27) rfl rfl ?_
      show Steps p.tables e below (T4.setTop (mkF m 29 #[.val (.int p1), .val (.int p2), .val (.int p3), .val (.int p4), .val (.int p5), .val (.int p6), .val (.int (own_b (own_bit p1))), .val (.ref lit4), .unset, .unset, .unset, .unset, .unset, .unset, .unset, .unset, .unset, .unset] [(.ref lit4)])) _
      refine st5.trans ?_
      refine XS.istore X5.here hx rfl (hb hby at_32) rfl (l' := #[.val (.int p1), .val (.int p2), .val (.int p3), .val (.int p4), .val (.int p5), .val (.int p6), .val (.int (own_b (own_bit p1))), .val (.ref lit4), .val (.int (8 : Int32)), .unset, .unset, .unset, .unset, .unset, .unset, .unset, .unset, .unset]) rfl ?_
      refine XS.iload X5.here hx rfl (hb hby at_34) rfl ?_
      show Steps p.tables e below (T5.setTop (mkF m 36 #[.val (.int p1), .val (.int p2), .val (.int p3), .val (.int p4), .val (.int p5), .val (.int p6), .val (.int (own_b (own_bit p1))), .val (.ref lit4), .val (.int (8 : Int32)), .unset, .unset, .unset, .unset, .unset, .unset, .unset, .unset, .unset] [(.int p5)])) _
      refine XS.sipush X5.here hx rfl (hb hby at_36) ?_
      refine XS.iand X5.here hx rfl (hb hby at_39) rfl ?_
      refine XS.i2c X5.here hx rfl (hb hby at_40) rfl ?_
      show Steps p.tables e below (T5.setTop (mkF m 41 #[.val (.int p1), .val (.int p2), .val (.int p3), .val (.int p4), .val (.int p5), .val (.int p6), .val (.int (own_b (own_bit p1))), .val (.ref lit4), .val (.int (8 : Int32)), .unset, .unset, .unset, .unset, .unset, .unset, .unset, .unset, .unset] [(.int (own_c p5))])) _
      refine XS.istore X5.here hx rfl (hb hby at_41) rfl (l' := #[.val (.int p1), .val (.int p2), .val (.int p3), .val (.int p4), .val (.int p5), .val (.int p6), .val (.int (own_b (own_bit p1))), .val (.ref lit4), .val (.int (8 : Int32)), .val (.int (own_c p5)), .unset, .unset, .unset, .unset, .unset, .unset, .unset, .unset]) rfl ?_
      refine XS.iloadN X5.here hx rfl (hb hby at_43) rfl ?_
      refine XS.sipush X5.here hx rfl (hb hby at_44) ?_
      show Steps p.tables e below (T5.setTop (mkF m 47 #[.val (.int p1), .val (.int p2), .val (.int p3), .val (.int p4), .val (.int p5), .val (.int p6), .val (.int (own_b (own_bit p1))), .val (.ref lit4), .val (.int (8 : Int32)), .val (.int (own_c p5)), .unset, .unset, .unset, .unset, .unset, .unset, .unset, .unset] [(.int (255 : Int32)), (.int p4)])) _
      refine XS.iand X5.here hx rfl (hb hby at_47) rfl ?_
      refine XS.i2c X5.here hx rfl (hb hby at_48) rfl ?_
      refine XS.istore X5.here hx rfl (hb hby at_49) rfl (l' := #[.val (.int p1), .val (.int p2), .val (.int p3), .val (.int p4), .val (.int p5), .val (.int p6), .val (.int (own_b (own_bit p1))), .val (.ref lit4), .val (.int (8 : Int32)), .val (.int (own_c p5)), .val (.int (own_c p4)), .unset, .unset, .unset, .unset, .unset, .unset, .unset]) rfl ?_
      show Steps p.tables e below (T5.setTop (mkF m 51 #[.val (.int p1), .val (.int p2), .val (.int p3), .val (.int p4), .val (.int p5), .val (.int p6), .val (.int (own_b (own_bit p1))), .val (.ref lit4), .val (.int (8 : Int32)), .val (.int (own_c p5)), .val (.int (own_c p4)), .unset, .unset, .unset, .unset, .unset, .unset, .unset] [])) _
      refine XS.iloadN X5.here hx rfl (hb hby at_51) rfl ?_
      show Steps p.tables e below (T5.setTop (mkF m 52 #[.val (.int p1), .val (.int p2), .val (.int p3), .val (.int p4), .val (.int p5), .val (.int p6), .val (.int (own_b (own_bit p1))), .val (.ref lit4), .val (.int (8 : Int32)), .val (.int (own_c p5)), .val (.int (own_c p4)), .unset, .unset, .unset, .unset, .unset, .unset, .unset] [(.int p2)])) _
      refine X5.ldcInt hx hown4 (mvT hZ4 (hw _ (List.mem_of_getElem? (i := 21) rfl))) (g := (mkF m 52 #[.val (.int p1), .val (.int p2), .val (.int p3), .val (.int p4), .val (.int p5), .val (.int p6), .val (.int (own_b (own_bit p1))), .val (.ref lit4), .val (.int (8 : Int32)), .val (.int (own_c p5)), .val (.int (own_c p4)), .unset, .unset, .unset, .unset, .unset, .unset, .unset] [(.int p2)])) rfl (hb hby at_52) _ ?_
      refine XS.iand X5.here hx rfl (hb hby at_54) rfl ?_
      refine XS.bipush X5.here hx rfl (hb hby at_55) ?_
      show Steps p.tables e below (T5.setTop (mkF m 57 #[.val (.int p1), .val (.int p2), .val (.int p3), .val (.int p4), .val (.int p5), .val (.int p6), .val (.int (own_b (own_bit p1))), .val (.ref lit4), .val (.int (8 : Int32)), .val (.int (own_c p5)), .val (.int (own_c p4)), .unset, .unset, .unset, .unset, .unset, .unset, .unset] [(.int (10 : Int32)), (.int (p2 &&& (2147483647 : Int32)))])) _
      refine XS.irem X5.here hx rfl (hb hby at_57) rfl (by decide : (10 : Int32) ≠ 0) ?_
      refine XS.istore X5.here hx rfl (hb hby at_58) rfl (l' := #[.val (.int p1), .val (.int p2), .val (.int p3), .val (.int p4), .val (.int p5), .val (.int p6), .val (.int (own_b (own_bit p1))), .val (.ref lit4), .val (.int (8 : Int32)), .val (.int (own_c p5)), .val (.int (own_c p4)), .val (.int (own_n p2)), .unset, .unset, .unset, .unset, .unset, .unset]) rfl ?_
      refine XS.iloadN X5.here hx rfl (hb hby at_60) rfl ?_
      show Steps p.tables e below (T5.setTop (mkF m 61 #[.val (.int p1), .val (.int p2), .val (.int p3), .val (.int p4), .val (.int p5), .val (.int p6), .val (.int (own_b (own_bit p1))), .val (.ref lit4), .val (.int (8 : Int32)), .val (.int (own_c p5)), .val (.int (own_c p4)), .val (.int (own_n p2)), .unset, .unset, .unset, .unset, .unset, .unset] [(.int p3)])) _
      refine X5.ldcInt hx hown4 (mvT hZ4 (hw _ (List.mem_of_getElem? (i := 21) rfl))) (g := (mkF m 61 #[.val (.int p1), .val (.int p2), .val (.int p3), .val (.int p4), .val (.int p5), .val (.int p6), .val (.int (own_b (own_bit p1))), .val (.ref lit4), .val (.int (8 : Int32)), .val (.int (own_c p5)), .val (.int (own_c p4)), .val (.int (own_n p2)), .unset, .unset, .unset, .unset, .unset, .unset] [(.int p3)])) rfl (hb hby at_61) _ ?_
      refine XS.iand X5.here hx rfl (hb hby at_63) rfl ?_
      refine XS.bipush X5.here hx rfl (hb hby at_64) ?_
      show Steps p.tables e below (T5.setTop (mkF m 66 #[.val (.int p1), .val (.int p2), .val (.int p3), .val (.int p4), .val (.int p5), .val (.int p6), .val (.int (own_b (own_bit p1))), .val (.ref lit4), .val (.int (8 : Int32)), .val (.int (own_c p5)), .val (.int (own_c p4)), .val (.int (own_n p2)), .unset, .unset, .unset, .unset, .unset, .unset] [(.int (9 : Int32)), (.int (p3 &&& (2147483647 : Int32)))])) _
      refine XS.irem X5.here hx rfl (hb hby at_66) rfl (by decide : (9 : Int32) ≠ 0) ?_
      refine XS.istore X5.here hx rfl (hb hby at_67) rfl (l' := #[.val (.int p1), .val (.int p2), .val (.int p3), .val (.int p4), .val (.int p5), .val (.int p6), .val (.int (own_b (own_bit p1))), .val (.ref lit4), .val (.int (8 : Int32)), .val (.int (own_c p5)), .val (.int (own_c p4)), .val (.int (own_n p2)), .val (.int (own_p p3)), .unset, .unset, .unset, .unset, .unset]) rfl ?_
      refine XS.bipush X5.here hx rfl (hb hby at_69) ?_
      show Steps p.tables e below (T5.setTop (mkF m 71 #[.val (.int p1), .val (.int p2), .val (.int p3), .val (.int p4), .val (.int p5), .val (.int p6), .val (.int (own_b (own_bit p1))), .val (.ref lit4), .val (.int (8 : Int32)), .val (.int (own_c p5)), .val (.int (own_c p4)), .val (.int (own_n p2)), .val (.int (own_p p3)), .unset, .unset, .unset, .unset, .unset] [(.int (9 : Int32))])) _
      refine st8 _ ?_
      refine XS.astore X8.here hx rfl (hb hby at_73) rfl rfl (l' := #[.val (.int p1), .val (.int p2), .val (.int p3), .val (.int p4), .val (.int p5), .val (.int p6), .val (.int (own_b (own_bit p1))), .val (.ref lit4), .val (.int (8 : Int32)), .val (.int (own_c p5)), .val (.int (own_c p4)), .val (.int (own_n p2)), .val (.int (own_p p3)), .val (.ref b8), .unset, .unset, .unset, .unset]) rfl ?_
      refine XS.aload X8.here hx rfl (hb hby at_75) rfl rfl ?_
      show Steps p.tables e below (T8.setTop (mkF m 77 #[.val (.int p1), .val (.int p2), .val (.int p3), .val (.int p4), .val (.int p5), .val (.int p6), .val (.int (own_b (own_bit p1))), .val (.ref lit4), .val (.int (8 : Int32)), .val (.int (own_c p5)), .val (.int (own_c p4)), .val (.int (own_n p2)), .val (.int (own_p p3)), .val (.ref b8), .unset, .unset, .unset, .unset] [(.ref b8)])) _
      refine XS.iconst X8.here hx rfl (hb hby at_77) ?_
      refine XS.aload X8.here hx rfl (hb hby at_78) rfl rfl ?_
      refine XS.iconst X8.here hx rfl (hb hby at_80) ?_
      show Steps p.tables e below (T8.setTop (mkF m 81 #[.val (.int p1), .val (.int p2), .val (.int p3), .val (.int p4), .val (.int p5), .val (.int p6), .val (.int (own_b (own_bit p1))), .val (.ref lit4), .val (.int (8 : Int32)), .val (.int (own_c p5)), .val (.int (own_c p4)), .val (.int (own_n p2)), .val (.int (own_p p3)), .val (.ref b8), .unset, .unset, .unset, .unset] [(.int (0 : Int32)), (.ref lit4), (.int (0 : Int32)), (.ref b8)])) _
      refine XS.iload X8.here hx rfl (hb hby at_81) rfl ?_
      show Steps p.tables e below (T8.setTop (mkF m 83 #[.val (.int p1), .val (.int p2), .val (.int p3), .val (.int p4), .val (.int p5), .val (.int p6), .val (.int (own_b (own_bit p1))), .val (.ref lit4), .val (.int (8 : Int32)), .val (.int (own_c p5)), .val (.int (own_c p4)), .val (.int (own_n p2)), .val (.int (own_p p3)), .val (.ref b8), .unset, .unset, .unset, .unset] [(.int (own_c p5)), (.int (0 : Int32)), (.ref lit4), (.int (0 : Int32)), (.ref b8)])) _
      refine st9 _ ?_
      show Steps p.tables e below (T9.setTop (mkF m 86 #[.val (.int p1), .val (.int p2), .val (.int p3), .val (.int p4), .val (.int p5), .val (.int p6), .val (.int (own_b (own_bit p1))), .val (.ref lit4), .val (.int (8 : Int32)), .val (.int (own_c p5)), .val (.int (own_c p4)), .val (.int (own_n p2)), .val (.int (own_p p3)), .val (.ref b8), .unset, .unset, .unset, .unset] [(.int (115 : Int32)), (.int (0 : Int32)), (.ref b8)])) _
      refine st13 _ ?_
      refine XS.aload X13.here hx rfl (hb hby at_87) rfl rfl ?_
      refine XS.iconst X13.here hx rfl (hb hby at_89) ?_
      show Steps p.tables e below (T13.setTop (mkF m 90 #[.val (.int p1), .val (.int p2), .val (.int p3), .val (.int p4), .val (.int p5), .val (.int p6), .val (.int (own_b (own_bit p1))), .val (.ref lit4), .val (.int (8 : Int32)), .val (.int (own_c p5)), .val (.int (own_c p4)), .val (.int (own_n p2)), .val (.int (own_p p3)), .val (.ref b8), .unset, .unset, .unset, .unset] [(.int (1 : Int32)), (.ref b8)])) _
      refine XS.aload X13.here hx rfl (hb hby at_90) rfl rfl ?_
      refine XS.iconst X13.here hx rfl (hb hby at_92) ?_
      refine XS.iload X13.here hx rfl (hb hby at_93) rfl ?_
      show Steps p.tables e below (T13.setTop (mkF m 95 #[.val (.int p1), .val (.int p2), .val (.int p3), .val (.int p4), .val (.int p5), .val (.int p6), .val (.int (own_b (own_bit p1))), .val (.ref lit4), .val (.int (8 : Int32)), .val (.int (own_c p5)), .val (.int (own_c p4)), .val (.int (own_n p2)), .val (.int (own_p p3)), .val (.ref b8), .unset, .unset, .unset, .unset] [(.int (own_c p5)), (.int (1 : Int32)), (.ref lit4), (.int (1 : Int32)), (.ref b8)])) _
      refine st14 _ ?_
      show Steps p.tables e below (T14.setTop (mkF m 98 #[.val (.int p1), .val (.int p2), .val (.int p3), .val (.int p4), .val (.int p5), .val (.int p6), .val (.int (own_b (own_bit p1))), .val (.ref lit4), .val (.int (8 : Int32)), .val (.int (own_c p5)), .val (.int (own_c p4)), .val (.int (own_n p2)), .val (.int (own_p p3)), .val (.ref b8), .unset, .unset, .unset, .unset] [(.int (99 : Int32)), (.int (1 : Int32)), (.ref b8)])) _
      refine st18 _ ?_
      refine XS.aload X18.here hx rfl (hb hby at_99) rfl rfl ?_
      refine XS.iconst X18.here hx rfl (hb hby at_101) ?_
      show Steps p.tables e below (T18.setTop (mkF m 102 #[.val (.int p1), .val (.int p2), .val (.int p3), .val (.int p4), .val (.int p5), .val (.int p6), .val (.int (own_b (own_bit p1))), .val (.ref lit4), .val (.int (8 : Int32)), .val (.int (own_c p5)), .val (.int (own_c p4)), .val (.int (own_n p2)), .val (.int (own_p p3)), .val (.ref b8), .unset, .unset, .unset, .unset] [(.int (2 : Int32)), (.ref b8)])) _
      refine XS.aload X18.here hx rfl (hb hby at_102) rfl rfl ?_
      refine XS.iconst X18.here hx rfl (hb hby at_104) ?_
      refine XS.iload X18.here hx rfl (hb hby at_105) rfl ?_
      show Steps p.tables e below (T18.setTop (mkF m 107 #[.val (.int p1), .val (.int p2), .val (.int p3), .val (.int p4), .val (.int p5), .val (.int p6), .val (.int (own_b (own_bit p1))), .val (.ref lit4), .val (.int (8 : Int32)), .val (.int (own_c p5)), .val (.int (own_c p4)), .val (.int (own_n p2)), .val (.int (own_p p3)), .val (.ref b8), .unset, .unset, .unset, .unset] [(.int (own_c p5)), (.int (2 : Int32)), (.ref lit4), (.int (2 : Int32)), (.ref b8)])) _
      refine st19 _ ?_
      show Steps p.tables e below (T19.setTop (mkF m 110 #[.val (.int p1), .val (.int p2), .val (.int p3), .val (.int p4), .val (.int p5), .val (.int p6), .val (.int (own_b (own_bit p1))), .val (.ref lit4), .val (.int (8 : Int32)), .val (.int (own_c p5)), .val (.int (own_c p4)), .val (.int (own_n p2)), .val (.int (own_p p3)), .val (.ref b8), .unset, .unset, .unset, .unset] [(.int (104 : Int32)), (.int (2 : Int32)), (.ref b8)])) _
      refine st23 _ ?_
      refine XS.aload X23.here hx rfl (hb hby at_111) rfl rfl ?_
      refine XS.iconst X23.here hx rfl (hb hby at_113) ?_
      show Steps p.tables e below (T23.setTop (mkF m 114 #[.val (.int p1), .val (.int p2), .val (.int p3), .val (.int p4), .val (.int p5), .val (.int p6), .val (.int (own_b (own_bit p1))), .val (.ref lit4), .val (.int (8 : Int32)), .val (.int (own_c p5)), .val (.int (own_c p4)), .val (.int (own_n p2)), .val (.int (own_p p3)), .val (.ref b8), .unset, .unset, .unset, .unset] [(.int (3 : Int32)), (.ref b8)])) _
      refine XS.aload X23.here hx rfl (hb hby at_114) rfl rfl ?_
      refine XS.iconst X23.here hx rfl (hb hby at_116) ?_
      refine XS.iload X23.here hx rfl (hb hby at_117) rfl ?_
      show Steps p.tables e below (T23.setTop (mkF m 119 #[.val (.int p1), .val (.int p2), .val (.int p3), .val (.int p4), .val (.int p5), .val (.int p6), .val (.int (own_b (own_bit p1))), .val (.ref lit4), .val (.int (8 : Int32)), .val (.int (own_c p5)), .val (.int (own_c p4)), .val (.int (own_n p2)), .val (.int (own_p p3)), .val (.ref b8), .unset, .unset, .unset, .unset] [(.int (own_c p5)), (.int (3 : Int32)), (.ref lit4), (.int (3 : Int32)), (.ref b8)])) _
      refine st24 _ ?_
      show Steps p.tables e below (T24.setTop (mkF m 122 #[.val (.int p1), .val (.int p2), .val (.int p3), .val (.int p4), .val (.int p5), .val (.int p6), .val (.int (own_b (own_bit p1))), .val (.ref lit4), .val (.int (8 : Int32)), .val (.int (own_c p5)), .val (.int (own_c p4)), .val (.int (own_n p2)), .val (.int (own_p p3)), .val (.ref b8), .unset, .unset, .unset, .unset] [(.int (101 : Int32)), (.int (3 : Int32)), (.ref b8)])) _
      refine st28 _ ?_
      refine XS.aload X28.here hx rfl (hb hby at_123) rfl rfl ?_
      refine XS.iconst X28.here hx rfl (hb hby at_125) ?_
      show Steps p.tables e below (T28.setTop (mkF m 126 #[.val (.int p1), .val (.int p2), .val (.int p3), .val (.int p4), .val (.int p5), .val (.int p6), .val (.int (own_b (own_bit p1))), .val (.ref lit4), .val (.int (8 : Int32)), .val (.int (own_c p5)), .val (.int (own_c p4)), .val (.int (own_n p2)), .val (.int (own_p p3)), .val (.ref b8), .unset, .unset, .unset, .unset] [(.int (4 : Int32)), (.ref b8)])) _
      refine XS.aload X28.here hx rfl (hb hby at_126) rfl rfl ?_
      refine XS.iconst X28.here hx rfl (hb hby at_128) ?_
      refine XS.iload X28.here hx rfl (hb hby at_129) rfl ?_
      show Steps p.tables e below (T28.setTop (mkF m 131 #[.val (.int p1), .val (.int p2), .val (.int p3), .val (.int p4), .val (.int p5), .val (.int p6), .val (.int (own_b (own_bit p1))), .val (.ref lit4), .val (.int (8 : Int32)), .val (.int (own_c p5)), .val (.int (own_c p4)), .val (.int (own_n p2)), .val (.int (own_p p3)), .val (.ref b8), .unset, .unset, .unset, .unset] [(.int (own_c p5)), (.int (4 : Int32)), (.ref lit4), (.int (4 : Int32)), (.ref b8)])) _
      refine st29 _ ?_
      show Steps p.tables e below (T29.setTop (mkF m 134 #[.val (.int p1), .val (.int p2), .val (.int p3), .val (.int p4), .val (.int p5), .val (.int p6), .val (.int (own_b (own_bit p1))), .val (.ref lit4), .val (.int (8 : Int32)), .val (.int (own_c p5)), .val (.int (own_c p4)), .val (.int (own_n p2)), .val (.int (own_p p3)), .val (.ref b8), .unset, .unset, .unset, .unset] [(.int (100 : Int32)), (.int (4 : Int32)), (.ref b8)])) _
      refine st33 _ ?_
      refine XS.aload X33.here hx rfl (hb hby at_135) rfl rfl ?_
      refine XS.iconst X33.here hx rfl (hb hby at_137) ?_
      show Steps p.tables e below (T33.setTop (mkF m 138 #[.val (.int p1), .val (.int p2), .val (.int p3), .val (.int p4), .val (.int p5), .val (.int p6), .val (.int (own_b (own_bit p1))), .val (.ref lit4), .val (.int (8 : Int32)), .val (.int (own_c p5)), .val (.int (own_c p4)), .val (.int (own_n p2)), .val (.int (own_p p3)), .val (.ref b8), .unset, .unset, .unset, .unset] [(.int (5 : Int32)), (.ref b8)])) _
      refine XS.aload X33.here hx rfl (hb hby at_138) rfl rfl ?_
      refine XS.iconst X33.here hx rfl (hb hby at_140) ?_
      refine XS.iload X33.here hx rfl (hb hby at_141) rfl ?_
      show Steps p.tables e below (T33.setTop (mkF m 143 #[.val (.int p1), .val (.int p2), .val (.int p3), .val (.int p4), .val (.int p5), .val (.int p6), .val (.int (own_b (own_bit p1))), .val (.ref lit4), .val (.int (8 : Int32)), .val (.int (own_c p5)), .val (.int (own_c p4)), .val (.int (own_n p2)), .val (.int (own_p p3)), .val (.ref b8), .unset, .unset, .unset, .unset] [(.int (own_c p5)), (.int (5 : Int32)), (.ref lit4), (.int (5 : Int32)), (.ref b8)])) _
      refine st34 _ ?_
      show Steps p.tables e below (T34.setTop (mkF m 146 #[.val (.int p1), .val (.int p2), .val (.int p3), .val (.int p4), .val (.int p5), .val (.int p6), .val (.int (own_b (own_bit p1))), .val (.ref lit4), .val (.int (8 : Int32)), .val (.int (own_c p5)), .val (.int (own_c p4)), .val (.int (own_n p2)), .val (.int (own_p p3)), .val (.ref b8), .unset, .unset, .unset, .unset] [(.int (117 : Int32)), (.int (5 : Int32)), (.ref b8)])) _
      refine st38 _ ?_
      refine XS.aload X38.here hx rfl (hb hby at_147) rfl rfl ?_
      refine XS.bipush X38.here hx rfl (hb hby at_149) ?_
      show Steps p.tables e below (T38.setTop (mkF m 151 #[.val (.int p1), .val (.int p2), .val (.int p3), .val (.int p4), .val (.int p5), .val (.int p6), .val (.int (own_b (own_bit p1))), .val (.ref lit4), .val (.int (8 : Int32)), .val (.int (own_c p5)), .val (.int (own_c p4)), .val (.int (own_n p2)), .val (.int (own_p p3)), .val (.ref b8), .unset, .unset, .unset, .unset] [(.int (6 : Int32)), (.ref b8)])) _
      refine XS.aload X38.here hx rfl (hb hby at_151) rfl rfl ?_
      refine XS.bipush X38.here hx rfl (hb hby at_153) ?_
      refine XS.iload X38.here hx rfl (hb hby at_155) rfl ?_
      show Steps p.tables e below (T38.setTop (mkF m 157 #[.val (.int p1), .val (.int p2), .val (.int p3), .val (.int p4), .val (.int p5), .val (.int p6), .val (.int (own_b (own_bit p1))), .val (.ref lit4), .val (.int (8 : Int32)), .val (.int (own_c p5)), .val (.int (own_c p4)), .val (.int (own_n p2)), .val (.int (own_p p3)), .val (.ref b8), .unset, .unset, .unset, .unset] [(.int (own_c p5)), (.int (6 : Int32)), (.ref lit4), (.int (6 : Int32)), (.ref b8)])) _
      refine st39 _ ?_
      show Steps p.tables e below (T39.setTop (mkF m 160 #[.val (.int p1), .val (.int p2), .val (.int p3), .val (.int p4), .val (.int p5), .val (.int p6), .val (.int (own_b (own_bit p1))), .val (.ref lit4), .val (.int (8 : Int32)), .val (.int (own_c p5)), .val (.int (own_c p4)), .val (.int (own_n p2)), .val (.int (own_p p3)), .val (.ref b8), .unset, .unset, .unset, .unset] [(.int (108 : Int32)), (.int (6 : Int32)), (.ref b8)])) _
      refine st43 _ ?_
      refine XS.aload X43.here hx rfl (hb hby at_161) rfl rfl ?_
      refine XS.bipush X43.here hx rfl (hb hby at_163) ?_
      show Steps p.tables e below (T43.setTop (mkF m 165 #[.val (.int p1), .val (.int p2), .val (.int p3), .val (.int p4), .val (.int p5), .val (.int p6), .val (.int (own_b (own_bit p1))), .val (.ref lit4), .val (.int (8 : Int32)), .val (.int (own_c p5)), .val (.int (own_c p4)), .val (.int (own_n p2)), .val (.int (own_p p3)), .val (.ref b8), .unset, .unset, .unset, .unset] [(.int (7 : Int32)), (.ref b8)])) _
      refine XS.aload X43.here hx rfl (hb hby at_165) rfl rfl ?_
      refine XS.bipush X43.here hx rfl (hb hby at_167) ?_
      refine XS.iload X43.here hx rfl (hb hby at_169) rfl ?_
      show Steps p.tables e below (T43.setTop (mkF m 171 #[.val (.int p1), .val (.int p2), .val (.int p3), .val (.int p4), .val (.int p5), .val (.int p6), .val (.int (own_b (own_bit p1))), .val (.ref lit4), .val (.int (8 : Int32)), .val (.int (own_c p5)), .val (.int (own_c p4)), .val (.int (own_n p2)), .val (.int (own_p p3)), .val (.ref b8), .unset, .unset, .unset, .unset] [(.int (own_c p5)), (.int (7 : Int32)), (.ref lit4), (.int (7 : Int32)), (.ref b8)])) _
      refine st44 _ ?_
      show Steps p.tables e below (T44.setTop (mkF m 174 #[.val (.int p1), .val (.int p2), .val (.int p3), .val (.int p4), .val (.int p5), .val (.int p6), .val (.int (own_b (own_bit p1))), .val (.ref lit4), .val (.int (8 : Int32)), .val (.int (own_c p5)), .val (.int (own_c p4)), .val (.int (own_n p2)), .val (.int (own_p p3)), .val (.ref b8), .unset, .unset, .unset, .unset] [(.int (101 : Int32)), (.int (7 : Int32)), (.ref b8)])) _
      refine st48 _ ?_
      refine XS.aload X48.here hx rfl (hb hby at_175) rfl rfl ?_
      refine XS.bipush X48.here hx rfl (hb hby at_177) ?_
      show Steps p.tables e below (T48.setTop (mkF m 179 #[.val (.int p1), .val (.int p2), .val (.int p3), .val (.int p4), .val (.int p5), .val (.int p6), .val (.int (own_b (own_bit p1))), .val (.ref lit4), .val (.int (8 : Int32)), .val (.int (own_c p5)), .val (.int (own_c p4)), .val (.int (own_n p2)), .val (.int (own_p p3)), .val (.ref b8), .unset, .unset, .unset, .unset] [(.int (8 : Int32)), (.ref b8)])) _
      refine XS.aload X48.here hx rfl (hb hby at_179) rfl rfl ?_
      refine XS.bipush X48.here hx rfl (hb hby at_181) ?_
      refine XS.iload X48.here hx rfl (hb hby at_183) rfl ?_
      show Steps p.tables e below (T48.setTop (mkF m 185 #[.val (.int p1), .val (.int p2), .val (.int p3), .val (.int p4), .val (.int p5), .val (.int p6), .val (.int (own_b (own_bit p1))), .val (.ref lit4), .val (.int (8 : Int32)), .val (.int (own_c p5)), .val (.int (own_c p4)), .val (.int (own_n p2)), .val (.int (own_p p3)), .val (.ref b8), .unset, .unset, .unset, .unset] [(.int (own_c p5)), (.int (8 : Int32)), (.ref lit4), (.int (8 : Int32)), (.ref b8)])) _
      refine st49 _ ?_
      show Steps p.tables e below (T49.setTop (mkF m 188 #[.val (.int p1), .val (.int p2), .val (.int p3), .val (.int p4), .val (.int p5), .val (.int p6), .val (.int (own_b (own_bit p1))), .val (.ref lit4), .val (.int (8 : Int32)), .val (.int (own_c p5)), .val (.int (own_c p4)), .val (.int (own_n p2)), .val (.int (own_p p3)), .val (.ref b8), .unset, .unset, .unset, .unset] [(.int (nar .char (own_c p5))), (.int (8 : Int32)), (.ref b8)])) _
      refine st53 _ ?_
      refine XS.aload X53.here hx rfl (hb hby at_189) rfl rfl ?_
      refine XS.iload X53.here hx rfl (hb hby at_191) rfl ?_
      show Steps p.tables e below (T53.setTop (mkF m 193 #[.val (.int p1), .val (.int p2), .val (.int p3), .val (.int p4), .val (.int p5), .val (.int p6), .val (.int (own_b (own_bit p1))), .val (.ref lit4), .val (.int (8 : Int32)), .val (.int (own_c p5)), .val (.int (own_c p4)), .val (.int (own_n p2)), .val (.int (own_p p3)), .val (.ref b8), .unset, .unset, .unset, .unset] [(.int (own_p p3)), (.ref b8)])) _
      refine XS.iload X53.here hx rfl (hb hby at_193) rfl ?_
      show Steps p.tables e below (T53.setTop (mkF m 195 #[.val (.int p1), .val (.int p2), .val (.int p3), .val (.int p4), .val (.int p5), .val (.int p6), .val (.int (own_b (own_bit p1))), .val (.ref lit4), .val (.int (8 : Int32)), .val (.int (own_c p5)), .val (.int (own_c p4)), .val (.int (own_n p2)), .val (.int (own_p p3)), .val (.ref b8), .unset, .unset, .unset, .unset] [(.int (own_c p4)), (.int (own_p p3)), (.ref b8)])) _
      refine st55 _ ?_
      refine XS.aload X55.here hx rfl (hb hby at_196) rfl rfl ?_
      refine XS.iload X55.here hx rfl (hb hby at_198) rfl ?_
      show Steps p.tables e below (T55.setTop (mkF m 200 #[.val (.int p1), .val (.int p2), .val (.int p3), .val (.int p4), .val (.int p5), .val (.int p6), .val (.int (own_b (own_bit p1))), .val (.ref lit4), .val (.int (8 : Int32)), .val (.int (own_c p5)), .val (.int (own_c p4)), .val (.int (own_n p2)), .val (.int (own_p p3)), .val (.ref b8), .unset, .unset, .unset, .unset] [(.int (own_n p2)), (.ref b8)])) _
      refine st56.trans ?_
      refine XS.astore X56.here hx rfl (hb hby at_203) rfl rfl (l' := #[.val (.int p1), .val (.int p2), .val (.int p3), .val (.int p4), .val (.int p5), .val (.int p6), .val (.int (own_b (own_bit p1))), .val (.ref lit4), .val (.int (8 : Int32)), .val (.int (own_c p5)), .val (.int (own_c p4)), .val (.int (own_n p2)), .val (.int (own_p p3)), .val (.ref b8), .val (.ref r56), .unset, .unset, .unset]) rfl ?_
      refine XS.iload X56.here hx rfl (hb hby at_205) rfl ?_
      show Steps p.tables e below (T56.setTop (mkF m 207 #[.val (.int p1), .val (.int p2), .val (.int p3), .val (.int p4), .val (.int p5), .val (.int p6), .val (.int (own_b (own_bit p1))), .val (.ref lit4), .val (.int (8 : Int32)), .val (.int (own_c p5)), .val (.int (own_c p4)), .val (.int (own_n p2)), .val (.int (own_p p3)), .val (.ref b8), .val (.ref r56), .unset, .unset, .unset] [(.int p6)])) _
      refine XS.iconst X56.here hx rfl (hb hby at_207) ?_
      refine XS.iand X56.here hx rfl (hb hby at_208) rfl ?_
      exact kk
    by_cases hn : ¬ (own_bit p6 = (0 : Int32))
    · obtain ⟨T60, h60, X60, e60, E60, A60, D60, -, st60⟩ := newO X56 hx hZ56 hown56 (hw _ (List.mem_of_getElem? (i := 73) rfl)) (hw _ (List.mem_of_getElem? (i := 74) rfl)) (hw _ (List.mem_of_getElem? (i := 75) rfl)) rfl (g := (mkF m 230 #[.val (.int p1), .val (.int p2), .val (.int p3), .val (.int p4), .val (.int p5), .val (.int p6), .val (.int (own_b (own_bit p1))), .val (.ref lit4), .val (.int (8 : Int32)), .val (.int (own_c p5)), .val (.int (own_c p4)), .val (.int (own_n p2)), .val (.int (own_p p3)), .val (.ref b8), .val (.ref r56), .val .null, .unset, .unset] [])) rfl (hb hby at_230) (by decide) (by decide)
      obtain ⟨b60, g60⟩ : ∃ z, z = T56.heap.size := ⟨_, rfl⟩
      rw [← g60] at A60 D60 st60
      have sz_b60 : h0.size ≤ b60 := Nat.le_trans K13.1 (Nat.le_of_eq g60.symm)
      have g_b60 : n0 ≤ b60 := Nat.le_trans Z0 sz_b60
      have CH14 : CHr Z own_EL s.vm h0 T56.vm h60 := CH13.trans (CHr.ext E60 CH13.1)
      have K14 : Keep h0 h60 [] := K13.ext E60
      have F_type_b60 : Fld Z h60 b60 "com/example/restate/restate/Operation$Target" "type" "Ljava/lang/String;" .null := D60 (Or.inr (hw _ (List.mem_of_getElem? (i := 86) rfl))) (ty := (.object "java/lang/String")) (by decide)
      have F_name_b60 : Fld Z h60 b60 "com/example/restate/restate/Operation$Target" "name" "Ljava/lang/String;" .null := D60 (Or.inr (hw _ (List.mem_of_getElem? (i := 88) rfl))) (ty := (.object "java/lang/String")) (by decide)
      obtain ⟨_, _, ⟨T61, L61, k61, n61⟩, -, X61, ⟨Lc61, hQ61, l61, y61, z61⟩, st61⟩ := X60.specialBack hx (y := (⟨"com/example/restate/restate/Operation$Target", "<init>", "(Ljava/lang/String;Ljava/lang/String;)V"⟩ : MethodName)) rfl hown56 (mvT hZ56 (hw _ (List.mem_of_getElem? (i := 76) rfl))) (mvT hZ56 (hw _ (List.mem_of_getElem? (i := 77) rfl))) (mvT hZ56 (hw _ (List.mem_of_getElem? (i := 78) rfl))) (by decide) (backOf (W := 1) (rpN l Z a0 hw [] b60 r56 h60 n0 (Nat.le_trans Z0 K14.1) A60 F_type_b60 F_name_b60 g_b60) hZ56 (hw _ (List.mem_of_getElem? (i := 78) rfl)) (hw _ (List.mem_of_getElem? (i := 75) rfl)) (by decide) (by decide)) (g := (mkF m 238 #[.val (.int p1), .val (.int p2), .val (.int p3), .val (.int p4), .val (.int p5), .val (.int p6), .val (.int (own_b (own_bit p1))), .val (.ref lit4), .val (.int (8 : Int32)), .val (.int (own_c p5)), .val (.int (own_c p4)), .val (.int (own_n p2)), .val (.int (own_p p3)), .val (.ref b8), .val (.ref r56), .val .null, .unset, .unset] [.null, (.ref r56), (.ref b60), (.ref b60)])) rfl (by rw [hml]; rfl) (Steps.refl _) (a := b60) (argsL := [(.ref r56), .null]) (rest := [(.ref b60)]) (lenOf own_pd__Ljava_lang_String_Ljava_lang_String__V rfl) rfl (by show 2 * 0 + _ ≤ _; exact Nat.le_of_eq rfl) (hb hby at_238) (fun _ _ => ⟨rfl, e60, (by decide : 8 + 0 ≤ _), (by decide : 69 + 0 ≤ _)⟩)
      dsimp only [Pt.U, Pt.locs, Pt.cells, Pt.slots] at X61 l61 y61 z61 st61 hQ61
      rw [l61] at X61
      clear l61; subst y61 z61
      obtain ⟨rfl, N61q, K61q, Ft61⟩ := hQ61
      have N61a := Fr.app N56a N61q
      have CH15 : CHr Z own_EL s.vm h0 T56.vm T61.heap := CH14.trans (CHr.keep K61q (allS (Safe.exa (hZ56 : Z.Warmed39 T56.vm).alike A60 (by decide) (by decide)) all0) CH14.1)
      have K15 : Keep h0 T61.heap [] := K14.trans K61q (allS (Or.inr sz_b60) all0)
      have cut62 : ∀ t, Steps p.tables e below (T61.setTop (mkF m 247 #[.val (.int p1), .val (.int p2), .val (.int p3), .val (.int p4), .val (.int p5), .val (.int p6), .val (.int (own_b (own_bit p1))), .val (.ref lit4), .val (.int (8 : Int32)), .val (.int (own_c p5)), .val (.int (own_c p4)), .val (.int (own_n p2)), .val (.int (own_p p3)), .val (.ref b8), .val (.ref r56), .val .null, .val (.ref b60), .unset] [(.int (8 : Int32)), (.int (own_n p2))])) t → Steps p.tables e below (s₁.setTop (mkF m 0 #[.val (.int p1), .val (.int p2), .val (.int p3), .val (.int p4), .val (.int p5), .val (.int p6), .unset, .unset, .unset, .unset, .unset, .unset, .unset, .unset, .unset, .unset, .unset, .unset] [])) t := fun t kk => by
        refine cut59 _ ?_
        show Steps p.tables e below (T56.setTop (mkF m 209 #[.val (.int p1), .val (.int p2), .val (.int p3), .val (.int p4), .val (.int p5), .val (.int p6), .val (.int (own_b (own_bit p1))), .val (.ref lit4), .val (.int (8 : Int32)), .val (.int (own_c p5)), .val (.int (own_c p4)), .val (.int (own_n p2)), .val (.int (own_p p3)), .val (.ref b8), .val (.ref r56), .unset, .unset, .unset] [(.int (own_bit p6))])) _
        refine XS.ifNo X56.here hx rfl (hb hby at_209) rfl ((if0 _ _).trans (feq (hn : ¬ ((own_bit p6) = (0 : Int32)))).1) ?_
        refine XS.aconstNull X56.here hx rfl (hb hby at_212) ?_
        refine XS.goto X56.here hx rfl (pc0 := 213) (pc' := 228) rfl (hb hby at_213) (by decide) (by decide) ?_
        show Steps p.tables e below (T56.setTop (mkF m 228 #[.val (.int p1), .val (.int p2), .val (.int p3), .val (.int p4), .val (.int p5), .val (.int p6), .val (.int (own_b (own_bit p1))), .val (.ref lit4), .val (.int (8 : Int32)), .val (.int (own_c p5)), .val (.int (own_c p4)), .val (.int (own_n p2)), .val (.int (own_p p3)), .val (.ref b8), .val (.ref r56), .unset, .unset, .unset] [.null])) _
        refine XS.astore X56.here hx rfl (hb hby at_228) rfl rfl (l' := #[.val (.int p1), .val (.int p2), .val (.int p3), .val (.int p4), .val (.int p5), .val (.int p6), .val (.int (own_b (own_bit p1))), .val (.ref lit4), .val (.int (8 : Int32)), .val (.int (own_c p5)), .val (.int (own_c p4)), .val (.int (own_n p2)), .val (.int (own_p p3)), .val (.ref b8), .val (.ref r56), .val .null, .unset, .unset]) rfl ?_
        show Steps p.tables e below (T56.setTop (mkF m 230 #[.val (.int p1), .val (.int p2), .val (.int p3), .val (.int p4), .val (.int p5), .val (.int p6), .val (.int (own_b (own_bit p1))), .val (.ref lit4), .val (.int (8 : Int32)), .val (.int (own_c p5)), .val (.int (own_c p4)), .val (.int (own_n p2)), .val (.int (own_p p3)), .val (.ref b8), .val (.ref r56), .val .null, .unset, .unset] [])) _
        refine st60 _ ?_
        refine XS.dup X60.here hx rfl (hb hby at_233) rfl rfl ?_
        refine XS.aload X60.here hx rfl (hb hby at_234) rfl rfl ?_
        show Steps p.tables e below (T60.setTop (mkF m 236 #[.val (.int p1), .val (.int p2), .val (.int p3), .val (.int p4), .val (.int p5), .val (.int p6), .val (.int (own_b (own_bit p1))), .val (.ref lit4), .val (.int (8 : Int32)), .val (.int (own_c p5)), .val (.int (own_c p4)), .val (.int (own_n p2)), .val (.int (own_p p3)), .val (.ref b8), .val (.ref r56), .val .null, .unset, .unset] [(.ref r56), (.ref b60), (.ref b60)])) _
        refine XS.aload X60.here hx rfl (hb hby at_236) rfl rfl ?_
        show Steps p.tables e below (T60.setTop (mkF m 238 #[.val (.int p1), .val (.int p2), .val (.int p3), .val (.int p4), .val (.int p5), .val (.int p6), .val (.int (own_b (own_bit p1))), .val (.ref lit4), .val (.int (8 : Int32)), .val (.int (own_c p5)), .val (.int (own_c p4)), .val (.int (own_n p2)), .val (.int (own_p p3)), .val (.ref b8), .val (.ref r56), .val .null, .unset, .unset] [.null, (.ref r56), (.ref b60), (.ref b60)])) _
        refine st61.trans ?_
        refine XS.astore X61.here hx rfl (hb hby at_241) rfl rfl (l' := #[.val (.int p1), .val (.int p2), .val (.int p3), .val (.int p4), .val (.int p5), .val (.int p6), .val (.int (own_b (own_bit p1))), .val (.ref lit4), .val (.int (8 : Int32)), .val (.int (own_c p5)), .val (.int (own_c p4)), .val (.int (own_n p2)), .val (.int (own_p p3)), .val (.ref b8), .val (.ref r56), .val .null, .val (.ref b60), .unset]) rfl ?_
        refine XS.iload X61.here hx rfl (hb hby at_243) rfl ?_
        show Steps p.tables e below (T61.setTop (mkF m 245 #[.val (.int p1), .val (.int p2), .val (.int p3), .val (.int p4), .val (.int p5), .val (.int p6), .val (.int (own_b (own_bit p1))), .val (.ref lit4), .val (.int (8 : Int32)), .val (.int (own_c p5)), .val (.int (own_c p4)), .val (.int (own_n p2)), .val (.int (own_p p3)), .val (.ref b8), .val (.ref r56), .val .null, .val (.ref b60), .unset] [(.int (own_n p2))])) _
        refine XS.iload X61.here hx rfl (hb hby at_245) rfl ?_
        exact kk
      by_cases hA : ¬ (own_n p2 = (8 : Int32))
      · have f64 : Old Z n0 T61.heap := (((f57.keep K56q all0).ext E60).keep K61q (allS g_b60 all0))
        have f65 : Exa Z T61.heap b60 "com/example/restate/restate/Operation$Target" := (A60.keep K61q)
        have f66 : StrV Z T61.heap r56 (own_cut (own_arr (own_baseS p5) p3 p4) (own_n p2).toNatClampNeg) := (SV56.keep0 (((Keep.refl T56.heap []).ext E60).trans K61q (allS (Or.inr (Nat.le_trans (Keep.refl T56.heap []).1 (Nat.le_of_eq g60.symm))) all0)))
        obtain ⟨cq63, kq63, q63a, q63b, q63c⟩ := isOf hZ56 rfl f65
        obtain ⟨_, _, ⟨T63, L63, k63, n63⟩, -, X63', hs63, hg63, ⟨Lc63, hQ63, l63, y63, z63, C63⟩, st63⟩ := X61.virtualBackS hx (y := (⟨"com/example/restate/restate/Operation$Target", "isAttached", "()Z"⟩ : MethodName)) (z := (⟨"com/example/restate/restate/Operation$Target", "isAttached", "()Z"⟩ : MethodName)) hown56 (mvT hZ56 (hw _ (List.mem_of_getElem? (i := 89) rfl))) (mvT hZ56 (hw _ (List.mem_of_getElem? (i := 90) rfl))) (notFace_of_selects (args := #[]) (mvT hZ56 (hw _ (List.mem_of_getElem? (i := 92) rfl)))) (mvT hZ56 (hw _ (List.mem_of_getElem? (i := 92) rfl))) (mvT hZ56 (hw _ (List.mem_of_getElem? (i := 91) rfl))) (by decide) (backOfSH (W := 0) (rmI l Z a0 hw [] hEL b60 r56 (own_cut (own_arr (own_baseS p5) p3 p4) (own_n p2).toNatClampNeg) G1 G3 T61.heap n0 (Nat.le_trans Z0 K15.1) O2 P5 O4 rG3 f64 f65 Ft61 f66 (own_cut_len _ (own_n_r p2))) hZ56 (hw _ (List.mem_of_getElem? (i := 93) rfl)) (hw _ (List.mem_of_getElem? (i := 75) rfl)) (by decide) (by decide) hEL CH15.1) q63a q63c (g := (mkF m 278 #[.val (.int p1), .val (.int p2), .val (.int p3), .val (.int p4), .val (.int p5), .val (.int p6), .val (.int (own_b (own_bit p1))), .val (.ref lit4), .val (.int (8 : Int32)), .val (.int (own_c p5)), .val (.int (own_c p4)), .val (.int (own_n p2)), .val (.int (own_p p3)), .val (.ref b8), .val (.ref r56), .val .null, .val (.ref b60), .val (.int (0 : Int32))] [(.ref b60)])) rfl (by rw [hml]; rfl) (Steps.refl _) (argsL := []) (rest := []) (lenOf own_pd___Z rfl) rfl (by show 2 * 0 + _ ≤ _; exact Nat.le_of_eq rfl) (hb hby at_278) (fun _ _ => ⟨rfl, rfl, (by decide : 8 + 4 ≤ _), (by decide : 69 + 68 ≤ _)⟩)
        dsimp only [Pt.U, Pt.locs, Pt.cells, Pt.slots] at X63' l63 y63 z63 st63 hQ63 C63 hs63 hg63
        rw [l63] at X63'
        clear l63; subst y63 z63
        have hk_67 := Nat.le_trans (Nat.le_refl _) (((Keep.refl T56.heap []).ext E60).trans K61q (allS (Or.inr (Nat.le_trans (Keep.refl T56.heap []).1 (Nat.le_of_eq g60.symm))) all0)).1
        obtain ⟨X63, hS63, hZ63, hown63⟩ := rebS hS56 hk_67 X63' hs63 hg63 hZ56 hown56
        obtain ⟨rfl, N63q, K63q⟩ := hQ63
        have N63a := Fr.app N61a N63q
        have CH16 : CHr Z own_EL s.vm h0 T63.vm T63.heap := CH15.trans C63
        have K16 : Keep h0 T63.heap [] := K15.trans K63q all0
        obtain ⟨fs, hr, hrun, hended, hend⟩ := X63.leaveW hS63 (Nat.le_refl _) (v := some (.int (1 : Int32))) (fun h => by rw [Bd.returns] at h; cases h)
        refine ⟨_, _, pre0 _ ?_, hrun, hended, _, _, rfl, ?_, ?_, hend.1, hend.2.1, hend.2.2.1, hend.2.2.2.mono (by decide) (by decide)⟩
        · refine cut62 _ ?_
          show Steps p.tables e below (T61.setTop (mkF m 247 #[.val (.int p1), .val (.int p2), .val (.int p3), .val (.int p4), .val (.int p5), .val (.int p6), .val (.int (own_b (own_bit p1))), .val (.ref lit4), .val (.int (8 : Int32)), .val (.int (own_c p5)), .val (.int (own_c p4)), .val (.int (own_n p2)), .val (.int (own_p p3)), .val (.ref b8), .val (.ref r56), .val .null, .val (.ref b60), .unset] [(.int (8 : Int32)), (.int (own_n p2))])) _
          refine XS.icmpYes X61.here hx rfl (pc0 := 247) (pc' := 273) rfl (hb hby at_247) rfl (feq (hA : ¬ ((own_n p2) = (8 : Int32)))).2 (by decide) (by decide) ?_
          refine XS.iconst X61.here hx rfl (hb hby at_273) ?_
          refine XS.istore X61.here hx rfl (hb hby at_274) rfl (l' := #[.val (.int p1), .val (.int p2), .val (.int p3), .val (.int p4), .val (.int p5), .val (.int p6), .val (.int (own_b (own_bit p1))), .val (.ref lit4), .val (.int (8 : Int32)), .val (.int (own_c p5)), .val (.int (own_c p4)), .val (.int (own_n p2)), .val (.int (own_p p3)), .val (.ref b8), .val (.ref r56), .val .null, .val (.ref b60), .val (.int (0 : Int32))]) rfl ?_
          show Steps p.tables e below (T61.setTop (mkF m 276 #[.val (.int p1), .val (.int p2), .val (.int p3), .val (.int p4), .val (.int p5), .val (.int p6), .val (.int (own_b (own_bit p1))), .val (.ref lit4), .val (.int (8 : Int32)), .val (.int (own_c p5)), .val (.int (own_c p4)), .val (.int (own_n p2)), .val (.int (own_p p3)), .val (.ref b8), .val (.ref r56), .val .null, .val (.ref b60), .val (.int (0 : Int32))] [])) _
          refine XS.aload X61.here hx rfl (hb hby at_276) rfl rfl ?_
          show Steps p.tables e below (T61.setTop (mkF m 278 #[.val (.int p1), .val (.int p2), .val (.int p3), .val (.int p4), .val (.int p5), .val (.int p6), .val (.int (own_b (own_bit p1))), .val (.ref lit4), .val (.int (8 : Int32)), .val (.int (own_c p5)), .val (.int (own_c p4)), .val (.int (own_n p2)), .val (.int (own_p p3)), .val (.ref b8), .val (.ref r56), .val .null, .val (.ref b60), .val (.int (0 : Int32))] [(.ref b60)])) _
          refine st63.trans ?_
          refine XS.iload X63.here hx rfl (hb hby at_281) rfl ?_
          show Steps p.tables e below (T63.setTop (mkF m 283 #[.val (.int p1), .val (.int p2), .val (.int p3), .val (.int p4), .val (.int p5), .val (.int p6), .val (.int (own_b (own_bit p1))), .val (.ref lit4), .val (.int (8 : Int32)), .val (.int (own_c p5)), .val (.int (own_c p4)), .val (.int (own_n p2)), .val (.int (own_p p3)), .val (.ref b8), .val (.ref r56), .val .null, .val (.ref b60), .val (.int (0 : Int32))] [(.int (0 : Int32)), (.int (own_att (own_cut (own_arr (own_baseS p5) p3 p4) (own_n p2).toNatClampNeg)))])) _
          refine XS.icmpNo X63.here hx rfl (hb hby at_283) rfl (teq (own_lawAS hA : (own_att (own_cut (own_arr (own_baseS p5) p3 p4) (own_n p2).toNatClampNeg)) = (0 : Int32))).2 ?_
          refine XS.iconst X63.here hx rfl (hb hby at_286) ?_
          refine XS.goto X63.here hx rfl (pc0 := 287) (pc' := 291) rfl (hb hby at_287) (by decide) (by decide) ?_
          show Steps p.tables e below (T63.setTop (mkF m 291 #[.val (.int p1), .val (.int p2), .val (.int p3), .val (.int p4), .val (.int p5), .val (.int p6), .val (.int (own_b (own_bit p1))), .val (.ref lit4), .val (.int (8 : Int32)), .val (.int (own_c p5)), .val (.int (own_c p4)), .val (.int (own_n p2)), .val (.int (own_p p3)), .val (.ref b8), .val (.ref r56), .val .null, .val (.ref b60), .val (.int (0 : Int32))] [(.int (1 : Int32))])) _
          exact retN X63 hx (t := .boolean) Bd.returns (by simp) (hb hby at_291) hr
        · show Q0 n0 _ T63.heap _
          exact ⟨rfl, N63a⟩
        · show CHr Z own_EL s.vm s.heap T63.vm T63.heap
          rw [hh]
          exact CH16.trans (CHv.at X63 hZ63 hEL CH16.1)
      · have hA := Classical.not_not.mp hA
        have cut63 : ∀ t, Steps p.tables e below (T61.setTop (mkF m 247 #[.val (.int p1), .val (.int p2), .val (.int p3), .val (.int p4), .val (.int p5), .val (.int p6), .val (.int (own_b (own_bit p1))), .val (.ref lit4), .val (.int (8 : Int32)), .val (.int (own_c p5)), .val (.int (own_c p4)), .val (.int (own_n p2)), .val (.int (own_p p3)), .val (.ref b8), .val (.ref r56), .val .null, .val (.ref b60), .unset] [(.int (8 : Int32)), (.int (own_n p2))])) t → Steps p.tables e below (s₁.setTop (mkF m 0 #[.val (.int p1), .val (.int p2), .val (.int p3), .val (.int p4), .val (.int p5), .val (.int p6), .unset, .unset, .unset, .unset, .unset, .unset, .unset, .unset, .unset, .unset, .unset, .unset] [])) t := fun t kk => by
          refine cut62 _ ?_
          exact kk
        by_cases hB : own_p p3 < (8 : Int32)
        · have f65 : StrV Z T61.heap lit4 own_SC := (SL4.keep0 (((((((((((((((Keep.refl h4 []).ext E8).wr W13 (Or.inr (Nat.le_trans (Keep.refl h4 []).1 (Nat.le_of_eq g8.symm)))).wr W18 (Or.inr (Nat.le_trans (Keep.refl h4 []).1 (Nat.le_of_eq g8.symm)))).wr W23 (Or.inr (Nat.le_trans (Keep.refl h4 []).1 (Nat.le_of_eq g8.symm)))).wr W28 (Or.inr (Nat.le_trans (Keep.refl h4 []).1 (Nat.le_of_eq g8.symm)))).wr W33 (Or.inr (Nat.le_trans (Keep.refl h4 []).1 (Nat.le_of_eq g8.symm)))).wr W38 (Or.inr (Nat.le_trans (Keep.refl h4 []).1 (Nat.le_of_eq g8.symm)))).wr W43 (Or.inr (Nat.le_trans (Keep.refl h4 []).1 (Nat.le_of_eq g8.symm)))).wr W48 (Or.inr (Nat.le_trans (Keep.refl h4 []).1 (Nat.le_of_eq g8.symm)))).wr W53 (Or.inr (Nat.le_trans (Keep.refl h4 []).1 (Nat.le_of_eq g8.symm)))).wr W55 (Or.inr (Nat.le_trans (Keep.refl h4 []).1 (Nat.le_of_eq g8.symm)))).trans K56q all0).ext E60).trans K61q (allS (Or.inr (Nat.le_trans (((((((((((((Keep.refl h4 []).ext E8).wr W13 (Or.inr (Nat.le_trans (Keep.refl h4 []).1 (Nat.le_of_eq g8.symm)))).wr W18 (Or.inr (Nat.le_trans (Keep.refl h4 []).1 (Nat.le_of_eq g8.symm)))).wr W23 (Or.inr (Nat.le_trans (Keep.refl h4 []).1 (Nat.le_of_eq g8.symm)))).wr W28 (Or.inr (Nat.le_trans (Keep.refl h4 []).1 (Nat.le_of_eq g8.symm)))).wr W33 (Or.inr (Nat.le_trans (Keep.refl h4 []).1 (Nat.le_of_eq g8.symm)))).wr W38 (Or.inr (Nat.le_trans (Keep.refl h4 []).1 (Nat.le_of_eq g8.symm)))).wr W43 (Or.inr (Nat.le_trans (Keep.refl h4 []).1 (Nat.le_of_eq g8.symm)))).wr W48 (Or.inr (Nat.le_trans (Keep.refl h4 []).1 (Nat.le_of_eq g8.symm)))).wr W53 (Or.inr (Nat.le_trans (Keep.refl h4 []).1 (Nat.le_of_eq g8.symm)))).wr W55 (Or.inr (Nat.le_trans (Keep.refl h4 []).1 (Nat.le_of_eq g8.symm)))).trans K56q all0).1 (Nat.le_of_eq g60.symm))) all0)))
          obtain ⟨sb66, sk66, sN66, sv66, sE66, sV66, sC66, sA66, sc66, su66⟩ := id f65
          have f67 : Old Z n0 T61.heap := (((f57.keep K56q all0).ext E60).keep K61q (allS g_b60 all0))
          obtain ⟨cq64, kq64, q64a, q64b, q64c⟩ := isOf hZ56 rfl f65.exa
          obtain ⟨_, _, ⟨T64, L64, k64, n64⟩, -, X64, ⟨Lc64, hQ64, l64, y64, z64⟩, st64⟩ := X61.virtualBack hx (y := (⟨"java/lang/String", "charAt", "(I)C"⟩ : MethodName)) (z := (⟨"java/lang/String", "charAt", "(I)C"⟩ : MethodName)) hown56 (mvT hZ56 (hw _ (List.mem_of_getElem? (i := 27) rfl))) (mvT hZ56 (hw _ (List.mem_of_getElem? (i := 28) rfl))) (notFace_of_selects (args := #[]) (mvT hZ56 (hw _ (List.mem_of_getElem? (i := 30) rfl)))) (mvT hZ56 (hw _ (List.mem_of_getElem? (i := 30) rfl))) (mvT hZ56 (hw _ (List.mem_of_getElem? (i := 29) rfl))) (by decide) (StrChars.Road.chN (W := 1) hZ56 (own_hch hw) (kI := 4) (hw _ (List.mem_of_getElem? (i := 2) rfl)) sE66 sV66 sC66 sA66 sc66 su66 (O2.ext f67.2) P5 (O4.ext f67.2) rG3 (by decide) (i := (own_p p3).toNatClampNeg) (own_lt8 hB) (j := (own_p p3)) (back32 (own_p_nn p3)).1.symm (by decide) (by decide)) q64a q64c (g := (mkF m 263 #[.val (.int p1), .val (.int p2), .val (.int p3), .val (.int p4), .val (.int p5), .val (.int p6), .val (.int (own_b (own_bit p1))), .val (.ref lit4), .val (.int (8 : Int32)), .val (.int (own_c p5)), .val (.int (own_c p4)), .val (.int (own_n p2)), .val (.int (own_p p3)), .val (.ref b8), .val (.ref r56), .val .null, .val (.ref b60), .unset] [(.int (own_p p3)), (.ref lit4), (.int (own_c p4))])) rfl (by rw [hml]; rfl) (Steps.refl _) (argsL := [(.int (own_p p3))]) (rest := [(.int (own_c p4))]) (lenOf own_pd__I_C rfl) rfl (by show 2 * 0 + _ ≤ _; exact Nat.le_of_eq rfl) (hb hby at_263) (fun _ _ => ⟨rfl, rfl, (by decide : 8 + 0 ≤ _), (by decide : 69 + 0 ≤ _)⟩)
          dsimp only [Pt.U, Pt.locs, Pt.cells, Pt.slots] at X64 l64 y64 z64 st64 hQ64
          rw [l64] at X64
          clear l64; subst y64 z64
          obtain ⟨rfl, rfl, e64q⟩ := hQ64
          have N64a := Fr.app N61a (Fr.nil n0)
          have f71 : Exa Z T61.heap b60 "com/example/restate/restate/Operation$Target" := (A60.keep K61q)
          have f72 : StrV Z T61.heap r56 (own_cut (own_arr (own_baseS p5) p3 p4) (own_n p2).toNatClampNeg) := (SV56.keep0 (((Keep.refl T56.heap []).ext E60).trans K61q (allS (Or.inr (Nat.le_trans (Keep.refl T56.heap []).1 (Nat.le_of_eq g60.symm))) all0)))
          obtain ⟨cq70, kq70, q70a, q70b, q70c⟩ := isOf hZ56 e64q f71
          obtain ⟨_, _, ⟨T70, L70, k70, n70⟩, -, X70', hs70, hg70, ⟨Lc70, hQ70, l70, y70, z70, C70⟩, st70⟩ := X64.virtualBackS hx (y := (⟨"com/example/restate/restate/Operation$Target", "isAttached", "()Z"⟩ : MethodName)) (z := (⟨"com/example/restate/restate/Operation$Target", "isAttached", "()Z"⟩ : MethodName)) hown56 (mvT hZ56 (hw _ (List.mem_of_getElem? (i := 89) rfl))) (mvT hZ56 (hw _ (List.mem_of_getElem? (i := 90) rfl))) (notFace_of_selects (args := #[]) (mvT hZ56 (hw _ (List.mem_of_getElem? (i := 92) rfl)))) (mvT hZ56 (hw _ (List.mem_of_getElem? (i := 92) rfl))) (mvT hZ56 (hw _ (List.mem_of_getElem? (i := 91) rfl))) (by decide) (backOfSH (W := 0) (rmI l Z a0 hw [] hEL b60 r56 (own_cut (own_arr (own_baseS p5) p3 p4) (own_n p2).toNatClampNeg) G1 G3 T61.heap n0 (Nat.le_trans Z0 K15.1) O2 P5 O4 rG3 f67 f71 Ft61 f72 (own_cut_len _ (own_n_r p2))) hZ56 (hw _ (List.mem_of_getElem? (i := 93) rfl)) (hw _ (List.mem_of_getElem? (i := 75) rfl)) (by decide) (by decide) hEL CH15.1) q70a q70c (g := (mkF m 278 #[.val (.int p1), .val (.int p2), .val (.int p3), .val (.int p4), .val (.int p5), .val (.int p6), .val (.int (own_b (own_bit p1))), .val (.ref lit4), .val (.int (8 : Int32)), .val (.int (own_c p5)), .val (.int (own_c p4)), .val (.int (own_n p2)), .val (.int (own_p p3)), .val (.ref b8), .val (.ref r56), .val .null, .val (.ref b60), .val (.int (own_eq (own_c p4) (own_SC.getD (own_p p3).toNatClampNeg 0)))] [(.ref b60)])) rfl (by rw [hml]; rfl) (Steps.refl _) (argsL := []) (rest := []) (lenOf own_pd___Z rfl) rfl (by show 2 * 0 + _ ≤ _; exact Nat.le_of_eq rfl) (hb hby at_278) (fun _ _ => ⟨rfl, e64q, (by decide : 8 + 4 ≤ _), (by decide : 69 + 68 ≤ _)⟩)
          dsimp only [Pt.U, Pt.locs, Pt.cells, Pt.slots] at X70' l70 y70 z70 st70 hQ70 C70 hs70 hg70
          rw [l70] at X70'
          clear l70; subst y70 z70
          have hk_73 := Nat.le_trans (Nat.le_refl _) (((Keep.refl T56.heap []).ext E60).trans K61q (allS (Or.inr (Nat.le_trans (Keep.refl T56.heap []).1 (Nat.le_of_eq g60.symm))) all0)).1
          obtain ⟨X70, hS70, hZ70, hown70⟩ := rebS hS56 (by rw [e64q]; exact hk_73) X70' hs70 hg70 hZ56 hown56
          obtain ⟨rfl, N70q, K70q⟩ := hQ70
          have N70a := Fr.app N64a N70q
          have CH16 : CHr Z own_EL s.vm h0 T70.vm T70.heap := CH15.trans C70
          have K16 : Keep h0 T70.heap [] := K15.trans K70q all0
          obtain ⟨fs, hr, hrun, hended, hend⟩ := X70.leaveW hS70 (Nat.le_refl _) (v := some (.int (1 : Int32))) (fun h => by rw [Bd.returns] at h; cases h)
          refine ⟨_, _, pre0 _ ?_, hrun, hended, _, _, rfl, ?_, ?_, hend.1, hend.2.1, hend.2.2.1, hend.2.2.2.mono (by decide) (by decide)⟩
          · refine cut63 _ ?_
            show Steps p.tables e below (T61.setTop (mkF m 247 #[.val (.int p1), .val (.int p2), .val (.int p3), .val (.int p4), .val (.int p5), .val (.int p6), .val (.int (own_b (own_bit p1))), .val (.ref lit4), .val (.int (8 : Int32)), .val (.int (own_c p5)), .val (.int (own_c p4)), .val (.int (own_n p2)), .val (.int (own_p p3)), .val (.ref b8), .val (.ref r56), .val .null, .val (.ref b60), .unset] [(.int (8 : Int32)), (.int (own_n p2))])) _
            refine XS.icmpNo X61.here hx rfl (hb hby at_247) rfl (teq (hA : (own_n p2) = (8 : Int32))).2 ?_
            refine XS.iload X61.here hx rfl (hb hby at_250) rfl ?_
            refine XS.iload X61.here hx rfl (hb hby at_252) rfl ?_
            show Steps p.tables e below (T61.setTop (mkF m 254 #[.val (.int p1), .val (.int p2), .val (.int p3), .val (.int p4), .val (.int p5), .val (.int p6), .val (.int (own_b (own_bit p1))), .val (.ref lit4), .val (.int (8 : Int32)), .val (.int (own_c p5)), .val (.int (own_c p4)), .val (.int (own_n p2)), .val (.int (own_p p3)), .val (.ref b8), .val (.ref r56), .val .null, .val (.ref b60), .unset] [(.int (8 : Int32)), (.int (own_p p3))])) _
            refine XS.icmpNo X61.here hx rfl (hb hby at_254) rfl (tlt (hB : (own_p p3) < (8 : Int32))).2.1 ?_
            refine XS.iload X61.here hx rfl (hb hby at_257) rfl ?_
            refine XS.aload X61.here hx rfl (hb hby at_259) rfl rfl ?_
            show Steps p.tables e below (T61.setTop (mkF m 261 #[.val (.int p1), .val (.int p2), .val (.int p3), .val (.int p4), .val (.int p5), .val (.int p6), .val (.int (own_b (own_bit p1))), .val (.ref lit4), .val (.int (8 : Int32)), .val (.int (own_c p5)), .val (.int (own_c p4)), .val (.int (own_n p2)), .val (.int (own_p p3)), .val (.ref b8), .val (.ref r56), .val .null, .val (.ref b60), .unset] [(.ref lit4), (.int (own_c p4))])) _
            refine XS.iload X61.here hx rfl (hb hby at_261) rfl ?_
            show Steps p.tables e below (T61.setTop (mkF m 263 #[.val (.int p1), .val (.int p2), .val (.int p3), .val (.int p4), .val (.int p5), .val (.int p6), .val (.int (own_b (own_bit p1))), .val (.ref lit4), .val (.int (8 : Int32)), .val (.int (own_c p5)), .val (.int (own_c p4)), .val (.int (own_n p2)), .val (.int (own_p p3)), .val (.ref b8), .val (.ref r56), .val .null, .val (.ref b60), .unset] [(.int (own_p p3)), (.ref lit4), (.int (own_c p4))])) _
            refine st64.trans ?_
            have tr266_68 : ∀ tgt, Steps p.tables e below (T64.setTop (mkF m 274 #[.val (.int p1), .val (.int p2), .val (.int p3), .val (.int p4), .val (.int p5), .val (.int p6), .val (.int (own_b (own_bit p1))), .val (.ref lit4), .val (.int (8 : Int32)), .val (.int (own_c p5)), .val (.int (own_c p4)), .val (.int (own_n p2)), .val (.int (own_p p3)), .val (.ref b8), .val (.ref r56), .val .null, .val (.ref b60), .unset] [(.int (own_eq (own_c p4) (own_SC.getD (own_p p3).toNatClampNeg 0)))])) tgt → Steps p.tables e below (T64.setTop (mkF m 266 #[.val (.int p1), .val (.int p2), .val (.int p3), .val (.int p4), .val (.int p5), .val (.int p6), .val (.int (own_b (own_bit p1))), .val (.ref lit4), .val (.int (8 : Int32)), .val (.int (own_c p5)), .val (.int (own_c p4)), .val (.int (own_n p2)), .val (.int (own_p p3)), .val (.ref b8), .val (.ref r56), .val .null, .val (.ref b60), .unset] [(.int (own_SC.getD (own_p p3).toNatClampNeg 0)), (.int (own_c p4))])) tgt := by
              intro tgt kk
              show Steps p.tables e below (T64.setTop (mkF m 266 #[.val (.int p1), .val (.int p2), .val (.int p3), .val (.int p4), .val (.int p5), .val (.int p6), .val (.int (own_b (own_bit p1))), .val (.ref lit4), .val (.int (8 : Int32)), .val (.int (own_c p5)), .val (.int (own_c p4)), .val (.int (own_n p2)), .val (.int (own_p p3)), .val (.ref b8), .val (.ref r56), .val .null, .val (.ref b60), .unset] [(.int (own_SC.getD (own_p p3).toNatClampNeg 0)), (.int (own_c p4))])) _
              by_cases c69 : (own_c p4) = (own_SC.getD (own_p p3).toNatClampNeg 0)
              · refine XS.icmpNo X64.here hx rfl (hb hby at_266) rfl (teq c69).2 ?_
                show Steps p.tables e below (T64.setTop (mkF m 269 #[.val (.int p1), .val (.int p2), .val (.int p3), .val (.int p4), .val (.int p5), .val (.int p6), .val (.int (own_b (own_bit p1))), .val (.ref lit4), .val (.int (8 : Int32)), .val (.int (own_c p5)), .val (.int (own_c p4)), .val (.int (own_n p2)), .val (.int (own_p p3)), .val (.ref b8), .val (.ref r56), .val .null, .val (.ref b60), .unset] [])) _
                refine XS.iconst X64.here hx rfl (hb hby at_269) ?_
                show Steps p.tables e below (T64.setTop (mkF m 270 #[.val (.int p1), .val (.int p2), .val (.int p3), .val (.int p4), .val (.int p5), .val (.int p6), .val (.int (own_b (own_bit p1))), .val (.ref lit4), .val (.int (8 : Int32)), .val (.int (own_c p5)), .val (.int (own_c p4)), .val (.int (own_n p2)), .val (.int (own_p p3)), .val (.ref b8), .val (.ref r56), .val .null, .val (.ref b60), .unset] [(.int (1 : Int32))])) _
                refine XS.goto X64.here hx rfl (pc0 := 270) (pc' := 274) rfl (hb hby at_270) (by decide) (by decide) ?_
                have ev : (own_eq (own_c p4) (own_SC.getD (own_p p3).toNatClampNeg 0)) = (1 : Int32) := by rw [own_eq, if_pos c69]
                rw [ev] at kk
                exact kk
              · refine XS.icmpYes X64.here hx rfl (pc0 := 266) (pc' := 273) rfl (hb hby at_266) rfl (feq c69).2 (by decide) (by decide) ?_
                show Steps p.tables e below (T64.setTop (mkF m 273 #[.val (.int p1), .val (.int p2), .val (.int p3), .val (.int p4), .val (.int p5), .val (.int p6), .val (.int (own_b (own_bit p1))), .val (.ref lit4), .val (.int (8 : Int32)), .val (.int (own_c p5)), .val (.int (own_c p4)), .val (.int (own_n p2)), .val (.int (own_p p3)), .val (.ref b8), .val (.ref r56), .val .null, .val (.ref b60), .unset] [])) _
                refine XS.iconst X64.here hx rfl (hb hby at_273) ?_
                have ev : (own_eq (own_c p4) (own_SC.getD (own_p p3).toNatClampNeg 0)) = (0 : Int32) := by rw [own_eq, if_neg c69]
                rw [ev] at kk
                exact kk
            refine tr266_68 _ ?_
            refine XS.istore X64.here hx rfl (hb hby at_274) rfl (l' := #[.val (.int p1), .val (.int p2), .val (.int p3), .val (.int p4), .val (.int p5), .val (.int p6), .val (.int (own_b (own_bit p1))), .val (.ref lit4), .val (.int (8 : Int32)), .val (.int (own_c p5)), .val (.int (own_c p4)), .val (.int (own_n p2)), .val (.int (own_p p3)), .val (.ref b8), .val (.ref r56), .val .null, .val (.ref b60), .val (.int (own_eq (own_c p4) (own_SC.getD (own_p p3).toNatClampNeg 0)))]) rfl ?_
            refine XS.aload X64.here hx rfl (hb hby at_276) rfl rfl ?_
            show Steps p.tables e below (T64.setTop (mkF m 278 #[.val (.int p1), .val (.int p2), .val (.int p3), .val (.int p4), .val (.int p5), .val (.int p6), .val (.int (own_b (own_bit p1))), .val (.ref lit4), .val (.int (8 : Int32)), .val (.int (own_c p5)), .val (.int (own_c p4)), .val (.int (own_n p2)), .val (.int (own_p p3)), .val (.ref b8), .val (.ref r56), .val .null, .val (.ref b60), .val (.int (own_eq (own_c p4) (own_SC.getD (own_p p3).toNatClampNeg 0)))] [(.ref b60)])) _
            refine st70.trans ?_
            refine XS.iload X70.here hx rfl (hb hby at_281) rfl ?_
            show Steps p.tables e below (T70.setTop (mkF m 283 #[.val (.int p1), .val (.int p2), .val (.int p3), .val (.int p4), .val (.int p5), .val (.int p6), .val (.int (own_b (own_bit p1))), .val (.ref lit4), .val (.int (8 : Int32)), .val (.int (own_c p5)), .val (.int (own_c p4)), .val (.int (own_n p2)), .val (.int (own_p p3)), .val (.ref b8), .val (.ref r56), .val .null, .val (.ref b60), .val (.int (own_eq (own_c p4) (own_SC.getD (own_p p3).toNatClampNeg 0)))] [(.int (own_eq (own_c p4) (own_SC.getD (own_p p3).toNatClampNeg 0))), (.int (own_att (own_cut (own_arr (own_baseS p5) p3 p4) (own_n p2).toNatClampNeg)))])) _
            refine XS.icmpNo X70.here hx rfl (hb hby at_283) rfl (teq (own_lawCS hA hB : (own_att (own_cut (own_arr (own_baseS p5) p3 p4) (own_n p2).toNatClampNeg)) = (own_eq (own_c p4) (own_SC.getD (own_p p3).toNatClampNeg 0)))).2 ?_
            refine XS.iconst X70.here hx rfl (hb hby at_286) ?_
            refine XS.goto X70.here hx rfl (pc0 := 287) (pc' := 291) rfl (hb hby at_287) (by decide) (by decide) ?_
            show Steps p.tables e below (T70.setTop (mkF m 291 #[.val (.int p1), .val (.int p2), .val (.int p3), .val (.int p4), .val (.int p5), .val (.int p6), .val (.int (own_b (own_bit p1))), .val (.ref lit4), .val (.int (8 : Int32)), .val (.int (own_c p5)), .val (.int (own_c p4)), .val (.int (own_n p2)), .val (.int (own_p p3)), .val (.ref b8), .val (.ref r56), .val .null, .val (.ref b60), .val (.int (own_eq (own_c p4) (own_SC.getD (own_p p3).toNatClampNeg 0)))] [(.int (1 : Int32))])) _
            exact retN X70 hx (t := .boolean) Bd.returns (by simp) (hb hby at_291) hr
          · show Q0 n0 _ T70.heap _
            exact ⟨rfl, N70a⟩
          · show CHr Z own_EL s.vm s.heap T70.vm T70.heap
            rw [hh]
            exact CH16.trans (CHv.at X70 hZ70 hEL CH16.1)
        · have f65 : Old Z n0 T61.heap := (((f57.keep K56q all0).ext E60).keep K61q (allS g_b60 all0))
          have f66 : Exa Z T61.heap b60 "com/example/restate/restate/Operation$Target" := (A60.keep K61q)
          have f67 : StrV Z T61.heap r56 (own_cut (own_arr (own_baseS p5) p3 p4) (own_n p2).toNatClampNeg) := (SV56.keep0 (((Keep.refl T56.heap []).ext E60).trans K61q (allS (Or.inr (Nat.le_trans (Keep.refl T56.heap []).1 (Nat.le_of_eq g60.symm))) all0)))
          obtain ⟨cq64, kq64, q64a, q64b, q64c⟩ := isOf hZ56 rfl f66
          obtain ⟨_, _, ⟨T64, L64, k64, n64⟩, -, X64', hs64, hg64, ⟨Lc64, hQ64, l64, y64, z64, C64⟩, st64⟩ := X61.virtualBackS hx (y := (⟨"com/example/restate/restate/Operation$Target", "isAttached", "()Z"⟩ : MethodName)) (z := (⟨"com/example/restate/restate/Operation$Target", "isAttached", "()Z"⟩ : MethodName)) hown56 (mvT hZ56 (hw _ (List.mem_of_getElem? (i := 89) rfl))) (mvT hZ56 (hw _ (List.mem_of_getElem? (i := 90) rfl))) (notFace_of_selects (args := #[]) (mvT hZ56 (hw _ (List.mem_of_getElem? (i := 92) rfl)))) (mvT hZ56 (hw _ (List.mem_of_getElem? (i := 92) rfl))) (mvT hZ56 (hw _ (List.mem_of_getElem? (i := 91) rfl))) (by decide) (backOfSH (W := 0) (rmI l Z a0 hw [] hEL b60 r56 (own_cut (own_arr (own_baseS p5) p3 p4) (own_n p2).toNatClampNeg) G1 G3 T61.heap n0 (Nat.le_trans Z0 K15.1) O2 P5 O4 rG3 f65 f66 Ft61 f67 (own_cut_len _ (own_n_r p2))) hZ56 (hw _ (List.mem_of_getElem? (i := 93) rfl)) (hw _ (List.mem_of_getElem? (i := 75) rfl)) (by decide) (by decide) hEL CH15.1) q64a q64c (g := (mkF m 278 #[.val (.int p1), .val (.int p2), .val (.int p3), .val (.int p4), .val (.int p5), .val (.int p6), .val (.int (own_b (own_bit p1))), .val (.ref lit4), .val (.int (8 : Int32)), .val (.int (own_c p5)), .val (.int (own_c p4)), .val (.int (own_n p2)), .val (.int (own_p p3)), .val (.ref b8), .val (.ref r56), .val .null, .val (.ref b60), .val (.int (1 : Int32))] [(.ref b60)])) rfl (by rw [hml]; rfl) (Steps.refl _) (argsL := []) (rest := []) (lenOf own_pd___Z rfl) rfl (by show 2 * 0 + _ ≤ _; exact Nat.le_of_eq rfl) (hb hby at_278) (fun _ _ => ⟨rfl, rfl, (by decide : 8 + 4 ≤ _), (by decide : 69 + 68 ≤ _)⟩)
          dsimp only [Pt.U, Pt.locs, Pt.cells, Pt.slots] at X64' l64 y64 z64 st64 hQ64 C64 hs64 hg64
          rw [l64] at X64'
          clear l64; subst y64 z64
          have hk_68 := Nat.le_trans (Nat.le_refl _) (((Keep.refl T56.heap []).ext E60).trans K61q (allS (Or.inr (Nat.le_trans (Keep.refl T56.heap []).1 (Nat.le_of_eq g60.symm))) all0)).1
          obtain ⟨X64, hS64, hZ64, hown64⟩ := rebS hS56 hk_68 X64' hs64 hg64 hZ56 hown56
          obtain ⟨rfl, N64q, K64q⟩ := hQ64
          have N64a := Fr.app N61a N64q
          have CH16 : CHr Z own_EL s.vm h0 T64.vm T64.heap := CH15.trans C64
          have K16 : Keep h0 T64.heap [] := K15.trans K64q all0
          obtain ⟨fs, hr, hrun, hended, hend⟩ := X64.leaveW hS64 (Nat.le_refl _) (v := some (.int (1 : Int32))) (fun h => by rw [Bd.returns] at h; cases h)
          refine ⟨_, _, pre0 _ ?_, hrun, hended, _, _, rfl, ?_, ?_, hend.1, hend.2.1, hend.2.2.1, hend.2.2.2.mono (by decide) (by decide)⟩
          · refine cut63 _ ?_
            show Steps p.tables e below (T61.setTop (mkF m 247 #[.val (.int p1), .val (.int p2), .val (.int p3), .val (.int p4), .val (.int p5), .val (.int p6), .val (.int (own_b (own_bit p1))), .val (.ref lit4), .val (.int (8 : Int32)), .val (.int (own_c p5)), .val (.int (own_c p4)), .val (.int (own_n p2)), .val (.int (own_p p3)), .val (.ref b8), .val (.ref r56), .val .null, .val (.ref b60), .unset] [(.int (8 : Int32)), (.int (own_n p2))])) _
            refine XS.icmpNo X61.here hx rfl (hb hby at_247) rfl (teq (hA : (own_n p2) = (8 : Int32))).2 ?_
            refine XS.iload X61.here hx rfl (hb hby at_250) rfl ?_
            refine XS.iload X61.here hx rfl (hb hby at_252) rfl ?_
            show Steps p.tables e below (T61.setTop (mkF m 254 #[.val (.int p1), .val (.int p2), .val (.int p3), .val (.int p4), .val (.int p5), .val (.int p6), .val (.int (own_b (own_bit p1))), .val (.ref lit4), .val (.int (8 : Int32)), .val (.int (own_c p5)), .val (.int (own_c p4)), .val (.int (own_n p2)), .val (.int (own_p p3)), .val (.ref b8), .val (.ref r56), .val .null, .val (.ref b60), .unset] [(.int (8 : Int32)), (.int (own_p p3))])) _
            refine XS.icmpYes X61.here hx rfl (pc0 := 254) (pc' := 269) rfl (hb hby at_254) rfl (flt (hB : ¬ ((own_p p3) < (8 : Int32)))).2.1 (by decide) (by decide) ?_
            refine XS.iconst X61.here hx rfl (hb hby at_269) ?_
            refine XS.goto X61.here hx rfl (pc0 := 270) (pc' := 274) rfl (hb hby at_270) (by decide) (by decide) ?_
            show Steps p.tables e below (T61.setTop (mkF m 274 #[.val (.int p1), .val (.int p2), .val (.int p3), .val (.int p4), .val (.int p5), .val (.int p6), .val (.int (own_b (own_bit p1))), .val (.ref lit4), .val (.int (8 : Int32)), .val (.int (own_c p5)), .val (.int (own_c p4)), .val (.int (own_n p2)), .val (.int (own_p p3)), .val (.ref b8), .val (.ref r56), .val .null, .val (.ref b60), .unset] [(.int (1 : Int32))])) _
            refine XS.istore X61.here hx rfl (hb hby at_274) rfl (l' := #[.val (.int p1), .val (.int p2), .val (.int p3), .val (.int p4), .val (.int p5), .val (.int p6), .val (.int (own_b (own_bit p1))), .val (.ref lit4), .val (.int (8 : Int32)), .val (.int (own_c p5)), .val (.int (own_c p4)), .val (.int (own_n p2)), .val (.int (own_p p3)), .val (.ref b8), .val (.ref r56), .val .null, .val (.ref b60), .val (.int (1 : Int32))]) rfl ?_
            refine XS.aload X61.here hx rfl (hb hby at_276) rfl rfl ?_
            show Steps p.tables e below (T61.setTop (mkF m 278 #[.val (.int p1), .val (.int p2), .val (.int p3), .val (.int p4), .val (.int p5), .val (.int p6), .val (.int (own_b (own_bit p1))), .val (.ref lit4), .val (.int (8 : Int32)), .val (.int (own_c p5)), .val (.int (own_c p4)), .val (.int (own_n p2)), .val (.int (own_p p3)), .val (.ref b8), .val (.ref r56), .val .null, .val (.ref b60), .val (.int (1 : Int32))] [(.ref b60)])) _
            refine st64.trans ?_
            refine XS.iload X64.here hx rfl (hb hby at_281) rfl ?_
            show Steps p.tables e below (T64.setTop (mkF m 283 #[.val (.int p1), .val (.int p2), .val (.int p3), .val (.int p4), .val (.int p5), .val (.int p6), .val (.int (own_b (own_bit p1))), .val (.ref lit4), .val (.int (8 : Int32)), .val (.int (own_c p5)), .val (.int (own_c p4)), .val (.int (own_n p2)), .val (.int (own_p p3)), .val (.ref b8), .val (.ref r56), .val .null, .val (.ref b60), .val (.int (1 : Int32))] [(.int (1 : Int32)), (.int (own_att (own_cut (own_arr (own_baseS p5) p3 p4) (own_n p2).toNatClampNeg)))])) _
            refine XS.icmpNo X64.here hx rfl (hb hby at_283) rfl (teq (own_lawBS hA hB : (own_att (own_cut (own_arr (own_baseS p5) p3 p4) (own_n p2).toNatClampNeg)) = (1 : Int32))).2 ?_
            refine XS.iconst X64.here hx rfl (hb hby at_286) ?_
            refine XS.goto X64.here hx rfl (pc0 := 287) (pc' := 291) rfl (hb hby at_287) (by decide) (by decide) ?_
            show Steps p.tables e below (T64.setTop (mkF m 291 #[.val (.int p1), .val (.int p2), .val (.int p3), .val (.int p4), .val (.int p5), .val (.int p6), .val (.int (own_b (own_bit p1))), .val (.ref lit4), .val (.int (8 : Int32)), .val (.int (own_c p5)), .val (.int (own_c p4)), .val (.int (own_n p2)), .val (.int (own_p p3)), .val (.ref b8), .val (.ref r56), .val .null, .val (.ref b60), .val (.int (1 : Int32))] [(.int (1 : Int32))])) _
            exact retN X64 hx (t := .boolean) Bd.returns (by simp) (hb hby at_291) hr
          · show Q0 n0 _ T64.heap _
            exact ⟨rfl, N64a⟩
          · show CHr Z own_EL s.vm s.heap T64.vm T64.heap
            rw [hh]
            exact CH16.trans (CHv.at X64 hZ64 hEL CH16.1)
    · have hn := Classical.not_not.mp hn
      have f61 : Old Z n0 T56.heap := (f57.keep K56q all0)
      obtain ⟨_, _, ⟨T60, L60, k60, n60⟩, -, X60, ⟨Lc60, hQ60, l60, y60, z60⟩, st60⟩ := Jvm.LawKit.callS X56 hx (y := (⟨"java/lang/String", "valueOf", "(C)Ljava/lang/String;"⟩ : MethodName)) hown56 (mvT hZ56 (hw _ (List.mem_of_getElem? (i := 106) rfl))) (mvT hZ56 (hw _ (List.mem_of_getElem? (i := 107) rfl))) (mvT hZ56 (hw _ (List.mem_of_getElem? (i := 1) rfl))) (mvT hZ56 (hw _ (List.mem_of_getElem? (i := 108) rfl))) (by decide) (backOf (W := 0) (rmV l Z a0 hw [] (own_nc p6) G1 G3 T56.heap n0 (Nat.le_trans Z0 K13.1) O2 P5 O4 rG3 f61 (own_nc_lat p6)) hZ56 (hw _ (List.mem_of_getElem? (i := 108) rfl)) (hw _ (List.mem_of_getElem? (i := 1) rfl)) (by decide) (by decide)) (g := (mkF m 225 #[.val (.int p1), .val (.int p2), .val (.int p3), .val (.int p4), .val (.int p5), .val (.int p6), .val (.int (own_b (own_bit p1))), .val (.ref lit4), .val (.int (8 : Int32)), .val (.int (own_c p5)), .val (.int (own_c p4)), .val (.int (own_n p2)), .val (.int (own_p p3)), .val (.ref b8), .val (.ref r56), .unset, .unset, .unset] [(.int (own_nc p6))])) rfl (by rw [hml]; rfl) (argsL := [(.int (own_nc p6))]) (rest := []) (lenOf own_pd__C_Ljava_lang_String_ rfl) rfl (by show 2 * 0 + _ ≤ _; exact Nat.le_of_eq rfl) (hb hby at_225) (fun _ _ => ⟨rfl, rfl, (by decide : 7 + 2 ≤ _), (by decide : 67 + 5 ≤ _)⟩)
      dsimp only [Pt.U, Pt.locs, Pt.cells, Pt.slots] at X60 l60 y60 z60 st60 hQ60
      rw [l60] at X60
      clear l60; subst y60 z60
      obtain ⟨r60, rfl, N60q, K60q⟩ := hQ60
      have N60a := Fr.app N56a N60q
      have CH14 : CHr Z own_EL s.vm h0 T56.vm T60.heap := CH13.trans (CHr.keep K60q all0 CH13.1)
      have K14 : Keep h0 T60.heap [] := K13.trans K60q all0
      obtain ⟨T62, h62, X62, e62, E62, A62, D62, -, st62⟩ := newO X60 hx hZ56 hown56 (hw _ (List.mem_of_getElem? (i := 73) rfl)) (hw _ (List.mem_of_getElem? (i := 74) rfl)) (hw _ (List.mem_of_getElem? (i := 75) rfl)) rfl (g := (mkF m 230 #[.val (.int p1), .val (.int p2), .val (.int p3), .val (.int p4), .val (.int p5), .val (.int p6), .val (.int (own_b (own_bit p1))), .val (.ref lit4), .val (.int (8 : Int32)), .val (.int (own_c p5)), .val (.int (own_c p4)), .val (.int (own_n p2)), .val (.int (own_p p3)), .val (.ref b8), .val (.ref r56), .val (.ref r60), .unset, .unset] [])) rfl (hb hby at_230) (by decide) (by decide)
      obtain ⟨b62, g62⟩ : ∃ z, z = T60.heap.size := ⟨_, rfl⟩
      rw [← g62] at A62 D62 st62
      have sz_b62 : h0.size ≤ b62 := Nat.le_trans K14.1 (Nat.le_of_eq g62.symm)
      have g_b62 : n0 ≤ b62 := Nat.le_trans Z0 sz_b62
      have CH15 : CHr Z own_EL s.vm h0 T56.vm h62 := CH14.trans (CHr.ext E62 CH14.1)
      have K15 : Keep h0 h62 [] := K14.ext E62
      have F_type_b62 : Fld Z h62 b62 "com/example/restate/restate/Operation$Target" "type" "Ljava/lang/String;" .null := D62 (Or.inr (hw _ (List.mem_of_getElem? (i := 86) rfl))) (ty := (.object "java/lang/String")) (by decide)
      have F_name_b62 : Fld Z h62 b62 "com/example/restate/restate/Operation$Target" "name" "Ljava/lang/String;" .null := D62 (Or.inr (hw _ (List.mem_of_getElem? (i := 88) rfl))) (ty := (.object "java/lang/String")) (by decide)
      obtain ⟨_, _, ⟨T63, L63, k63, n63⟩, -, X63, ⟨Lc63, hQ63, l63, y63, z63⟩, st63⟩ := X62.specialBack hx (y := (⟨"com/example/restate/restate/Operation$Target", "<init>", "(Ljava/lang/String;Ljava/lang/String;)V"⟩ : MethodName)) rfl hown56 (mvT hZ56 (hw _ (List.mem_of_getElem? (i := 76) rfl))) (mvT hZ56 (hw _ (List.mem_of_getElem? (i := 77) rfl))) (mvT hZ56 (hw _ (List.mem_of_getElem? (i := 78) rfl))) (by decide) (backOf (W := 1) (rpS l Z a0 hw [] b62 r56 r60 h62 n0 (Nat.le_trans Z0 K15.1) A62 F_type_b62 F_name_b62 g_b62) hZ56 (hw _ (List.mem_of_getElem? (i := 78) rfl)) (hw _ (List.mem_of_getElem? (i := 75) rfl)) (by decide) (by decide)) (g := (mkF m 238 #[.val (.int p1), .val (.int p2), .val (.int p3), .val (.int p4), .val (.int p5), .val (.int p6), .val (.int (own_b (own_bit p1))), .val (.ref lit4), .val (.int (8 : Int32)), .val (.int (own_c p5)), .val (.int (own_c p4)), .val (.int (own_n p2)), .val (.int (own_p p3)), .val (.ref b8), .val (.ref r56), .val (.ref r60), .unset, .unset] [(.ref r60), (.ref r56), (.ref b62), (.ref b62)])) rfl (by rw [hml]; rfl) (Steps.refl _) (a := b62) (argsL := [(.ref r56), (.ref r60)]) (rest := [(.ref b62)]) (lenOf own_pd__Ljava_lang_String_Ljava_lang_String__V rfl) rfl (by show 2 * 0 + _ ≤ _; exact Nat.le_of_eq rfl) (hb hby at_238) (fun _ _ => ⟨rfl, e62, (by decide : 10 + 0 ≤ _), (by decide : 74 + 0 ≤ _)⟩)
      dsimp only [Pt.U, Pt.locs, Pt.cells, Pt.slots] at X63 l63 y63 z63 st63 hQ63
      rw [l63] at X63
      clear l63; subst y63 z63
      obtain ⟨rfl, N63q, K63q, Ft63⟩ := hQ63
      have N63a := Fr.app N60a N63q
      have CH16 : CHr Z own_EL s.vm h0 T56.vm T63.heap := CH15.trans (CHr.keep K63q (allS (Safe.exa (hZ56 : Z.Warmed39 T56.vm).alike A62 (by decide) (by decide)) all0) CH15.1)
      have K16 : Keep h0 T63.heap [] := K15.trans K63q (allS (Or.inr sz_b62) all0)
      have cut64 : ∀ t, Steps p.tables e below (T63.setTop (mkF m 247 #[.val (.int p1), .val (.int p2), .val (.int p3), .val (.int p4), .val (.int p5), .val (.int p6), .val (.int (own_b (own_bit p1))), .val (.ref lit4), .val (.int (8 : Int32)), .val (.int (own_c p5)), .val (.int (own_c p4)), .val (.int (own_n p2)), .val (.int (own_p p3)), .val (.ref b8), .val (.ref r56), .val (.ref r60), .val (.ref b62), .unset] [(.int (8 : Int32)), (.int (own_n p2))])) t → Steps p.tables e below (s₁.setTop (mkF m 0 #[.val (.int p1), .val (.int p2), .val (.int p3), .val (.int p4), .val (.int p5), .val (.int p6), .unset, .unset, .unset, .unset, .unset, .unset, .unset, .unset, .unset, .unset, .unset, .unset] [])) t := fun t kk => by
        refine cut59 _ ?_
        show Steps p.tables e below (T56.setTop (mkF m 209 #[.val (.int p1), .val (.int p2), .val (.int p3), .val (.int p4), .val (.int p5), .val (.int p6), .val (.int (own_b (own_bit p1))), .val (.ref lit4), .val (.int (8 : Int32)), .val (.int (own_c p5)), .val (.int (own_c p4)), .val (.int (own_n p2)), .val (.int (own_p p3)), .val (.ref b8), .val (.ref r56), .unset, .unset, .unset] [(.int (own_bit p6))])) _
        refine XS.ifYes X56.here hx rfl (pc0 := 209) (pc' := 216) rfl (hb hby at_209) rfl ((if0 _ _).trans (teq (hn : (own_bit p6) = (0 : Int32))).1) (by decide) (by decide) ?_
        refine XS.iload X56.here hx rfl (hb hby at_216) rfl ?_
        refine XS.iconst X56.here hx rfl (hb hby at_218) ?_
        show Steps p.tables e below (T56.setTop (mkF m 219 #[.val (.int p1), .val (.int p2), .val (.int p3), .val (.int p4), .val (.int p5), .val (.int p6), .val (.int (own_b (own_bit p1))), .val (.ref lit4), .val (.int (8 : Int32)), .val (.int (own_c p5)), .val (.int (own_c p4)), .val (.int (own_n p2)), .val (.int (own_p p3)), .val (.ref b8), .val (.ref r56), .unset, .unset, .unset] [(.int (1 : Int32)), (.int p6)])) _
        refine XS.iushr X56.here hx rfl (hb hby at_219) rfl ?_
        refine XS.sipush X56.here hx rfl (hb hby at_220) ?_
        refine XS.iand X56.here hx rfl (hb hby at_223) rfl ?_
        show Steps p.tables e below (T56.setTop (mkF m 224 #[.val (.int p1), .val (.int p2), .val (.int p3), .val (.int p4), .val (.int p5), .val (.int p6), .val (.int (own_b (own_bit p1))), .val (.ref lit4), .val (.int (8 : Int32)), .val (.int (own_c p5)), .val (.int (own_c p4)), .val (.int (own_n p2)), .val (.int (own_p p3)), .val (.ref b8), .val (.ref r56), .unset, .unset, .unset] [(.int (((p6.toUInt32 >>> ((1 : Int32) &&& 31).toUInt32).toInt32) &&& (255 : Int32)))])) _
        refine XS.i2c X56.here hx rfl (hb hby at_224) rfl ?_
        show Steps p.tables e below (T56.setTop (mkF m 225 #[.val (.int p1), .val (.int p2), .val (.int p3), .val (.int p4), .val (.int p5), .val (.int p6), .val (.int (own_b (own_bit p1))), .val (.ref lit4), .val (.int (8 : Int32)), .val (.int (own_c p5)), .val (.int (own_c p4)), .val (.int (own_n p2)), .val (.int (own_p p3)), .val (.ref b8), .val (.ref r56), .unset, .unset, .unset] [(.int (own_nc p6))])) _
        refine st60 _ ?_
        refine XS.astore X60.here hx rfl (hb hby at_228) rfl rfl (l' := #[.val (.int p1), .val (.int p2), .val (.int p3), .val (.int p4), .val (.int p5), .val (.int p6), .val (.int (own_b (own_bit p1))), .val (.ref lit4), .val (.int (8 : Int32)), .val (.int (own_c p5)), .val (.int (own_c p4)), .val (.int (own_n p2)), .val (.int (own_p p3)), .val (.ref b8), .val (.ref r56), .val (.ref r60), .unset, .unset]) rfl ?_
        show Steps p.tables e below (T60.setTop (mkF m 230 #[.val (.int p1), .val (.int p2), .val (.int p3), .val (.int p4), .val (.int p5), .val (.int p6), .val (.int (own_b (own_bit p1))), .val (.ref lit4), .val (.int (8 : Int32)), .val (.int (own_c p5)), .val (.int (own_c p4)), .val (.int (own_n p2)), .val (.int (own_p p3)), .val (.ref b8), .val (.ref r56), .val (.ref r60), .unset, .unset] [])) _
        refine st62 _ ?_
        refine XS.dup X62.here hx rfl (hb hby at_233) rfl rfl ?_
        refine XS.aload X62.here hx rfl (hb hby at_234) rfl rfl ?_
        show Steps p.tables e below (T62.setTop (mkF m 236 #[.val (.int p1), .val (.int p2), .val (.int p3), .val (.int p4), .val (.int p5), .val (.int p6), .val (.int (own_b (own_bit p1))), .val (.ref lit4), .val (.int (8 : Int32)), .val (.int (own_c p5)), .val (.int (own_c p4)), .val (.int (own_n p2)), .val (.int (own_p p3)), .val (.ref b8), .val (.ref r56), .val (.ref r60), .unset, .unset] [(.ref r56), (.ref b62), (.ref b62)])) _
        refine XS.aload X62.here hx rfl (hb hby at_236) rfl rfl ?_
        show Steps p.tables e below (T62.setTop (mkF m 238 #[.val (.int p1), .val (.int p2), .val (.int p3), .val (.int p4), .val (.int p5), .val (.int p6), .val (.int (own_b (own_bit p1))), .val (.ref lit4), .val (.int (8 : Int32)), .val (.int (own_c p5)), .val (.int (own_c p4)), .val (.int (own_n p2)), .val (.int (own_p p3)), .val (.ref b8), .val (.ref r56), .val (.ref r60), .unset, .unset] [(.ref r60), (.ref r56), (.ref b62), (.ref b62)])) _
        refine st63.trans ?_
        refine XS.astore X63.here hx rfl (hb hby at_241) rfl rfl (l' := #[.val (.int p1), .val (.int p2), .val (.int p3), .val (.int p4), .val (.int p5), .val (.int p6), .val (.int (own_b (own_bit p1))), .val (.ref lit4), .val (.int (8 : Int32)), .val (.int (own_c p5)), .val (.int (own_c p4)), .val (.int (own_n p2)), .val (.int (own_p p3)), .val (.ref b8), .val (.ref r56), .val (.ref r60), .val (.ref b62), .unset]) rfl ?_
        refine XS.iload X63.here hx rfl (hb hby at_243) rfl ?_
        show Steps p.tables e below (T63.setTop (mkF m 245 #[.val (.int p1), .val (.int p2), .val (.int p3), .val (.int p4), .val (.int p5), .val (.int p6), .val (.int (own_b (own_bit p1))), .val (.ref lit4), .val (.int (8 : Int32)), .val (.int (own_c p5)), .val (.int (own_c p4)), .val (.int (own_n p2)), .val (.int (own_p p3)), .val (.ref b8), .val (.ref r56), .val (.ref r60), .val (.ref b62), .unset] [(.int (own_n p2))])) _
        refine XS.iload X63.here hx rfl (hb hby at_245) rfl ?_
        exact kk
      by_cases hA : ¬ (own_n p2 = (8 : Int32))
      · have f66 : Old Z n0 T63.heap := (((f61.keep K60q all0).ext E62).keep K63q (allS g_b62 all0))
        have f67 : Exa Z T63.heap b62 "com/example/restate/restate/Operation$Target" := (A62.keep K63q)
        have f68 : StrV Z T63.heap r56 (own_cut (own_arr (own_baseS p5) p3 p4) (own_n p2).toNatClampNeg) := (SV56.keep0 ((((Keep.refl T56.heap []).trans K60q all0).ext E62).trans K63q (allS (Or.inr (Nat.le_trans ((Keep.refl T56.heap []).trans K60q all0).1 (Nat.le_of_eq g62.symm))) all0)))
        obtain ⟨cq65, kq65, q65a, q65b, q65c⟩ := isOf hZ56 rfl f67
        obtain ⟨_, _, ⟨T65, L65, k65, n65⟩, -, X65', hs65, hg65, ⟨Lc65, hQ65, l65, y65, z65, C65⟩, st65⟩ := X63.virtualBackS hx (y := (⟨"com/example/restate/restate/Operation$Target", "isAttached", "()Z"⟩ : MethodName)) (z := (⟨"com/example/restate/restate/Operation$Target", "isAttached", "()Z"⟩ : MethodName)) hown56 (mvT hZ56 (hw _ (List.mem_of_getElem? (i := 89) rfl))) (mvT hZ56 (hw _ (List.mem_of_getElem? (i := 90) rfl))) (notFace_of_selects (args := #[]) (mvT hZ56 (hw _ (List.mem_of_getElem? (i := 92) rfl)))) (mvT hZ56 (hw _ (List.mem_of_getElem? (i := 92) rfl))) (mvT hZ56 (hw _ (List.mem_of_getElem? (i := 91) rfl))) (by decide) (backOfSH (W := 0) (rmI l Z a0 hw [] hEL b62 r56 (own_cut (own_arr (own_baseS p5) p3 p4) (own_n p2).toNatClampNeg) G1 G3 T63.heap n0 (Nat.le_trans Z0 K16.1) O2 P5 O4 rG3 f66 f67 Ft63 f68 (own_cut_len _ (own_n_r p2))) hZ56 (hw _ (List.mem_of_getElem? (i := 93) rfl)) (hw _ (List.mem_of_getElem? (i := 75) rfl)) (by decide) (by decide) hEL CH16.1) q65a q65c (g := (mkF m 278 #[.val (.int p1), .val (.int p2), .val (.int p3), .val (.int p4), .val (.int p5), .val (.int p6), .val (.int (own_b (own_bit p1))), .val (.ref lit4), .val (.int (8 : Int32)), .val (.int (own_c p5)), .val (.int (own_c p4)), .val (.int (own_n p2)), .val (.int (own_p p3)), .val (.ref b8), .val (.ref r56), .val (.ref r60), .val (.ref b62), .val (.int (0 : Int32))] [(.ref b62)])) rfl (by rw [hml]; rfl) (Steps.refl _) (argsL := []) (rest := []) (lenOf own_pd___Z rfl) rfl (by show 2 * 0 + _ ≤ _; exact Nat.le_of_eq rfl) (hb hby at_278) (fun _ _ => ⟨rfl, rfl, (by decide : 10 + 4 ≤ _), (by decide : 74 + 68 ≤ _)⟩)
        dsimp only [Pt.U, Pt.locs, Pt.cells, Pt.slots] at X65' l65 y65 z65 st65 hQ65 C65 hs65 hg65
        rw [l65] at X65'
        clear l65; subst y65 z65
        have hk_69 := Nat.le_trans (Nat.le_refl _) ((((Keep.refl T56.heap []).trans K60q all0).ext E62).trans K63q (allS (Or.inr (Nat.le_trans ((Keep.refl T56.heap []).trans K60q all0).1 (Nat.le_of_eq g62.symm))) all0)).1
        obtain ⟨X65, hS65, hZ65, hown65⟩ := rebS hS56 hk_69 X65' hs65 hg65 hZ56 hown56
        obtain ⟨rfl, N65q, K65q⟩ := hQ65
        have N65a := Fr.app N63a N65q
        have CH17 : CHr Z own_EL s.vm h0 T65.vm T65.heap := CH16.trans C65
        have K17 : Keep h0 T65.heap [] := K16.trans K65q all0
        obtain ⟨fs, hr, hrun, hended, hend⟩ := X65.leaveW hS65 (Nat.le_refl _) (v := some (.int (1 : Int32))) (fun h => by rw [Bd.returns] at h; cases h)
        refine ⟨_, _, pre0 _ ?_, hrun, hended, _, _, rfl, ?_, ?_, hend.1, hend.2.1, hend.2.2.1, hend.2.2.2.mono (by decide) (by decide)⟩
        · refine cut64 _ ?_
          show Steps p.tables e below (T63.setTop (mkF m 247 #[.val (.int p1), .val (.int p2), .val (.int p3), .val (.int p4), .val (.int p5), .val (.int p6), .val (.int (own_b (own_bit p1))), .val (.ref lit4), .val (.int (8 : Int32)), .val (.int (own_c p5)), .val (.int (own_c p4)), .val (.int (own_n p2)), .val (.int (own_p p3)), .val (.ref b8), .val (.ref r56), .val (.ref r60), .val (.ref b62), .unset] [(.int (8 : Int32)), (.int (own_n p2))])) _
          refine XS.icmpYes X63.here hx rfl (pc0 := 247) (pc' := 273) rfl (hb hby at_247) rfl (feq (hA : ¬ ((own_n p2) = (8 : Int32)))).2 (by decide) (by decide) ?_
          refine XS.iconst X63.here hx rfl (hb hby at_273) ?_
          refine XS.istore X63.here hx rfl (hb hby at_274) rfl (l' := #[.val (.int p1), .val (.int p2), .val (.int p3), .val (.int p4), .val (.int p5), .val (.int p6), .val (.int (own_b (own_bit p1))), .val (.ref lit4), .val (.int (8 : Int32)), .val (.int (own_c p5)), .val (.int (own_c p4)), .val (.int (own_n p2)), .val (.int (own_p p3)), .val (.ref b8), .val (.ref r56), .val (.ref r60), .val (.ref b62), .val (.int (0 : Int32))]) rfl ?_
          show Steps p.tables e below (T63.setTop (mkF m 276 #[.val (.int p1), .val (.int p2), .val (.int p3), .val (.int p4), .val (.int p5), .val (.int p6), .val (.int (own_b (own_bit p1))), .val (.ref lit4), .val (.int (8 : Int32)), .val (.int (own_c p5)), .val (.int (own_c p4)), .val (.int (own_n p2)), .val (.int (own_p p3)), .val (.ref b8), .val (.ref r56), .val (.ref r60), .val (.ref b62), .val (.int (0 : Int32))] [])) _
          refine XS.aload X63.here hx rfl (hb hby at_276) rfl rfl ?_
          show Steps p.tables e below (T63.setTop (mkF m 278 #[.val (.int p1), .val (.int p2), .val (.int p3), .val (.int p4), .val (.int p5), .val (.int p6), .val (.int (own_b (own_bit p1))), .val (.ref lit4), .val (.int (8 : Int32)), .val (.int (own_c p5)), .val (.int (own_c p4)), .val (.int (own_n p2)), .val (.int (own_p p3)), .val (.ref b8), .val (.ref r56), .val (.ref r60), .val (.ref b62), .val (.int (0 : Int32))] [(.ref b62)])) _
          refine st65.trans ?_
          refine XS.iload X65.here hx rfl (hb hby at_281) rfl ?_
          show Steps p.tables e below (T65.setTop (mkF m 283 #[.val (.int p1), .val (.int p2), .val (.int p3), .val (.int p4), .val (.int p5), .val (.int p6), .val (.int (own_b (own_bit p1))), .val (.ref lit4), .val (.int (8 : Int32)), .val (.int (own_c p5)), .val (.int (own_c p4)), .val (.int (own_n p2)), .val (.int (own_p p3)), .val (.ref b8), .val (.ref r56), .val (.ref r60), .val (.ref b62), .val (.int (0 : Int32))] [(.int (0 : Int32)), (.int (own_att (own_cut (own_arr (own_baseS p5) p3 p4) (own_n p2).toNatClampNeg)))])) _
          refine XS.icmpNo X65.here hx rfl (hb hby at_283) rfl (teq (own_lawAS hA : (own_att (own_cut (own_arr (own_baseS p5) p3 p4) (own_n p2).toNatClampNeg)) = (0 : Int32))).2 ?_
          refine XS.iconst X65.here hx rfl (hb hby at_286) ?_
          refine XS.goto X65.here hx rfl (pc0 := 287) (pc' := 291) rfl (hb hby at_287) (by decide) (by decide) ?_
          show Steps p.tables e below (T65.setTop (mkF m 291 #[.val (.int p1), .val (.int p2), .val (.int p3), .val (.int p4), .val (.int p5), .val (.int p6), .val (.int (own_b (own_bit p1))), .val (.ref lit4), .val (.int (8 : Int32)), .val (.int (own_c p5)), .val (.int (own_c p4)), .val (.int (own_n p2)), .val (.int (own_p p3)), .val (.ref b8), .val (.ref r56), .val (.ref r60), .val (.ref b62), .val (.int (0 : Int32))] [(.int (1 : Int32))])) _
          exact retN X65 hx (t := .boolean) Bd.returns (by simp) (hb hby at_291) hr
        · show Q0 n0 _ T65.heap _
          exact ⟨rfl, N65a⟩
        · show CHr Z own_EL s.vm s.heap T65.vm T65.heap
          rw [hh]
          exact CH17.trans (CHv.at X65 hZ65 hEL CH17.1)
      · have hA := Classical.not_not.mp hA
        have cut65 : ∀ t, Steps p.tables e below (T63.setTop (mkF m 247 #[.val (.int p1), .val (.int p2), .val (.int p3), .val (.int p4), .val (.int p5), .val (.int p6), .val (.int (own_b (own_bit p1))), .val (.ref lit4), .val (.int (8 : Int32)), .val (.int (own_c p5)), .val (.int (own_c p4)), .val (.int (own_n p2)), .val (.int (own_p p3)), .val (.ref b8), .val (.ref r56), .val (.ref r60), .val (.ref b62), .unset] [(.int (8 : Int32)), (.int (own_n p2))])) t → Steps p.tables e below (s₁.setTop (mkF m 0 #[.val (.int p1), .val (.int p2), .val (.int p3), .val (.int p4), .val (.int p5), .val (.int p6), .unset, .unset, .unset, .unset, .unset, .unset, .unset, .unset, .unset, .unset, .unset, .unset] [])) t := fun t kk => by
          refine cut64 _ ?_
          exact kk
        by_cases hB : own_p p3 < (8 : Int32)
        · have f67 : StrV Z T63.heap lit4 own_SC := (SL4.keep0 ((((((((((((((((Keep.refl h4 []).ext E8).wr W13 (Or.inr (Nat.le_trans (Keep.refl h4 []).1 (Nat.le_of_eq g8.symm)))).wr W18 (Or.inr (Nat.le_trans (Keep.refl h4 []).1 (Nat.le_of_eq g8.symm)))).wr W23 (Or.inr (Nat.le_trans (Keep.refl h4 []).1 (Nat.le_of_eq g8.symm)))).wr W28 (Or.inr (Nat.le_trans (Keep.refl h4 []).1 (Nat.le_of_eq g8.symm)))).wr W33 (Or.inr (Nat.le_trans (Keep.refl h4 []).1 (Nat.le_of_eq g8.symm)))).wr W38 (Or.inr (Nat.le_trans (Keep.refl h4 []).1 (Nat.le_of_eq g8.symm)))).wr W43 (Or.inr (Nat.le_trans (Keep.refl h4 []).1 (Nat.le_of_eq g8.symm)))).wr W48 (Or.inr (Nat.le_trans (Keep.refl h4 []).1 (Nat.le_of_eq g8.symm)))).wr W53 (Or.inr (Nat.le_trans (Keep.refl h4 []).1 (Nat.le_of_eq g8.symm)))).wr W55 (Or.inr (Nat.le_trans (Keep.refl h4 []).1 (Nat.le_of_eq g8.symm)))).trans K56q all0).trans K60q all0).ext E62).trans K63q (allS (Or.inr (Nat.le_trans ((((((((((((((Keep.refl h4 []).ext E8).wr W13 (Or.inr (Nat.le_trans (Keep.refl h4 []).1 (Nat.le_of_eq g8.symm)))).wr W18 (Or.inr (Nat.le_trans (Keep.refl h4 []).1 (Nat.le_of_eq g8.symm)))).wr W23 (Or.inr (Nat.le_trans (Keep.refl h4 []).1 (Nat.le_of_eq g8.symm)))).wr W28 (Or.inr (Nat.le_trans (Keep.refl h4 []).1 (Nat.le_of_eq g8.symm)))).wr W33 (Or.inr (Nat.le_trans (Keep.refl h4 []).1 (Nat.le_of_eq g8.symm)))).wr W38 (Or.inr (Nat.le_trans (Keep.refl h4 []).1 (Nat.le_of_eq g8.symm)))).wr W43 (Or.inr (Nat.le_trans (Keep.refl h4 []).1 (Nat.le_of_eq g8.symm)))).wr W48 (Or.inr (Nat.le_trans (Keep.refl h4 []).1 (Nat.le_of_eq g8.symm)))).wr W53 (Or.inr (Nat.le_trans (Keep.refl h4 []).1 (Nat.le_of_eq g8.symm)))).wr W55 (Or.inr (Nat.le_trans (Keep.refl h4 []).1 (Nat.le_of_eq g8.symm)))).trans K56q all0).trans K60q all0).1 (Nat.le_of_eq g62.symm))) all0)))
          obtain ⟨sb68, sk68, sN68, sv68, sE68, sV68, sC68, sA68, sc68, su68⟩ := id f67
          have f69 : Old Z n0 T63.heap := (((f61.keep K60q all0).ext E62).keep K63q (allS g_b62 all0))
          obtain ⟨cq66, kq66, q66a, q66b, q66c⟩ := isOf hZ56 rfl f67.exa
          obtain ⟨_, _, ⟨T66, L66, k66, n66⟩, -, X66, ⟨Lc66, hQ66, l66, y66, z66⟩, st66⟩ := X63.virtualBack hx (y := (⟨"java/lang/String", "charAt", "(I)C"⟩ : MethodName)) (z := (⟨"java/lang/String", "charAt", "(I)C"⟩ : MethodName)) hown56 (mvT hZ56 (hw _ (List.mem_of_getElem? (i := 27) rfl))) (mvT hZ56 (hw _ (List.mem_of_getElem? (i := 28) rfl))) (notFace_of_selects (args := #[]) (mvT hZ56 (hw _ (List.mem_of_getElem? (i := 30) rfl)))) (mvT hZ56 (hw _ (List.mem_of_getElem? (i := 30) rfl))) (mvT hZ56 (hw _ (List.mem_of_getElem? (i := 29) rfl))) (by decide) (StrChars.Road.chN (W := 1) hZ56 (own_hch hw) (kI := 4) (hw _ (List.mem_of_getElem? (i := 2) rfl)) sE68 sV68 sC68 sA68 sc68 su68 (O2.ext f69.2) P5 (O4.ext f69.2) rG3 (by decide) (i := (own_p p3).toNatClampNeg) (own_lt8 hB) (j := (own_p p3)) (back32 (own_p_nn p3)).1.symm (by decide) (by decide)) q66a q66c (g := (mkF m 263 #[.val (.int p1), .val (.int p2), .val (.int p3), .val (.int p4), .val (.int p5), .val (.int p6), .val (.int (own_b (own_bit p1))), .val (.ref lit4), .val (.int (8 : Int32)), .val (.int (own_c p5)), .val (.int (own_c p4)), .val (.int (own_n p2)), .val (.int (own_p p3)), .val (.ref b8), .val (.ref r56), .val (.ref r60), .val (.ref b62), .unset] [(.int (own_p p3)), (.ref lit4), (.int (own_c p4))])) rfl (by rw [hml]; rfl) (Steps.refl _) (argsL := [(.int (own_p p3))]) (rest := [(.int (own_c p4))]) (lenOf own_pd__I_C rfl) rfl (by show 2 * 0 + _ ≤ _; exact Nat.le_of_eq rfl) (hb hby at_263) (fun _ _ => ⟨rfl, rfl, (by decide : 10 + 0 ≤ _), (by decide : 74 + 0 ≤ _)⟩)
          dsimp only [Pt.U, Pt.locs, Pt.cells, Pt.slots] at X66 l66 y66 z66 st66 hQ66
          rw [l66] at X66
          clear l66; subst y66 z66
          obtain ⟨rfl, rfl, e66q⟩ := hQ66
          have N66a := Fr.app N63a (Fr.nil n0)
          have f73 : Exa Z T63.heap b62 "com/example/restate/restate/Operation$Target" := (A62.keep K63q)
          have f74 : StrV Z T63.heap r56 (own_cut (own_arr (own_baseS p5) p3 p4) (own_n p2).toNatClampNeg) := (SV56.keep0 ((((Keep.refl T56.heap []).trans K60q all0).ext E62).trans K63q (allS (Or.inr (Nat.le_trans ((Keep.refl T56.heap []).trans K60q all0).1 (Nat.le_of_eq g62.symm))) all0)))
          obtain ⟨cq72, kq72, q72a, q72b, q72c⟩ := isOf hZ56 e66q f73
          obtain ⟨_, _, ⟨T72, L72, k72, n72⟩, -, X72', hs72, hg72, ⟨Lc72, hQ72, l72, y72, z72, C72⟩, st72⟩ := X66.virtualBackS hx (y := (⟨"com/example/restate/restate/Operation$Target", "isAttached", "()Z"⟩ : MethodName)) (z := (⟨"com/example/restate/restate/Operation$Target", "isAttached", "()Z"⟩ : MethodName)) hown56 (mvT hZ56 (hw _ (List.mem_of_getElem? (i := 89) rfl))) (mvT hZ56 (hw _ (List.mem_of_getElem? (i := 90) rfl))) (notFace_of_selects (args := #[]) (mvT hZ56 (hw _ (List.mem_of_getElem? (i := 92) rfl)))) (mvT hZ56 (hw _ (List.mem_of_getElem? (i := 92) rfl))) (mvT hZ56 (hw _ (List.mem_of_getElem? (i := 91) rfl))) (by decide) (backOfSH (W := 0) (rmI l Z a0 hw [] hEL b62 r56 (own_cut (own_arr (own_baseS p5) p3 p4) (own_n p2).toNatClampNeg) G1 G3 T63.heap n0 (Nat.le_trans Z0 K16.1) O2 P5 O4 rG3 f69 f73 Ft63 f74 (own_cut_len _ (own_n_r p2))) hZ56 (hw _ (List.mem_of_getElem? (i := 93) rfl)) (hw _ (List.mem_of_getElem? (i := 75) rfl)) (by decide) (by decide) hEL CH16.1) q72a q72c (g := (mkF m 278 #[.val (.int p1), .val (.int p2), .val (.int p3), .val (.int p4), .val (.int p5), .val (.int p6), .val (.int (own_b (own_bit p1))), .val (.ref lit4), .val (.int (8 : Int32)), .val (.int (own_c p5)), .val (.int (own_c p4)), .val (.int (own_n p2)), .val (.int (own_p p3)), .val (.ref b8), .val (.ref r56), .val (.ref r60), .val (.ref b62), .val (.int (own_eq (own_c p4) (own_SC.getD (own_p p3).toNatClampNeg 0)))] [(.ref b62)])) rfl (by rw [hml]; rfl) (Steps.refl _) (argsL := []) (rest := []) (lenOf own_pd___Z rfl) rfl (by show 2 * 0 + _ ≤ _; exact Nat.le_of_eq rfl) (hb hby at_278) (fun _ _ => ⟨rfl, e66q, (by decide : 10 + 4 ≤ _), (by decide : 74 + 68 ≤ _)⟩)
          dsimp only [Pt.U, Pt.locs, Pt.cells, Pt.slots] at X72' l72 y72 z72 st72 hQ72 C72 hs72 hg72
          rw [l72] at X72'
          clear l72; subst y72 z72
          have hk_75 := Nat.le_trans (Nat.le_refl _) ((((Keep.refl T56.heap []).trans K60q all0).ext E62).trans K63q (allS (Or.inr (Nat.le_trans ((Keep.refl T56.heap []).trans K60q all0).1 (Nat.le_of_eq g62.symm))) all0)).1
          obtain ⟨X72, hS72, hZ72, hown72⟩ := rebS hS56 (by rw [e66q]; exact hk_75) X72' hs72 hg72 hZ56 hown56
          obtain ⟨rfl, N72q, K72q⟩ := hQ72
          have N72a := Fr.app N66a N72q
          have CH17 : CHr Z own_EL s.vm h0 T72.vm T72.heap := CH16.trans C72
          have K17 : Keep h0 T72.heap [] := K16.trans K72q all0
          obtain ⟨fs, hr, hrun, hended, hend⟩ := X72.leaveW hS72 (Nat.le_refl _) (v := some (.int (1 : Int32))) (fun h => by rw [Bd.returns] at h; cases h)
          refine ⟨_, _, pre0 _ ?_, hrun, hended, _, _, rfl, ?_, ?_, hend.1, hend.2.1, hend.2.2.1, hend.2.2.2.mono (by decide) (by decide)⟩
          · refine cut65 _ ?_
            show Steps p.tables e below (T63.setTop (mkF m 247 #[.val (.int p1), .val (.int p2), .val (.int p3), .val (.int p4), .val (.int p5), .val (.int p6), .val (.int (own_b (own_bit p1))), .val (.ref lit4), .val (.int (8 : Int32)), .val (.int (own_c p5)), .val (.int (own_c p4)), .val (.int (own_n p2)), .val (.int (own_p p3)), .val (.ref b8), .val (.ref r56), .val (.ref r60), .val (.ref b62), .unset] [(.int (8 : Int32)), (.int (own_n p2))])) _
            refine XS.icmpNo X63.here hx rfl (hb hby at_247) rfl (teq (hA : (own_n p2) = (8 : Int32))).2 ?_
            refine XS.iload X63.here hx rfl (hb hby at_250) rfl ?_
            refine XS.iload X63.here hx rfl (hb hby at_252) rfl ?_
            show Steps p.tables e below (T63.setTop (mkF m 254 #[.val (.int p1), .val (.int p2), .val (.int p3), .val (.int p4), .val (.int p5), .val (.int p6), .val (.int (own_b (own_bit p1))), .val (.ref lit4), .val (.int (8 : Int32)), .val (.int (own_c p5)), .val (.int (own_c p4)), .val (.int (own_n p2)), .val (.int (own_p p3)), .val (.ref b8), .val (.ref r56), .val (.ref r60), .val (.ref b62), .unset] [(.int (8 : Int32)), (.int (own_p p3))])) _
            refine XS.icmpNo X63.here hx rfl (hb hby at_254) rfl (tlt (hB : (own_p p3) < (8 : Int32))).2.1 ?_
            refine XS.iload X63.here hx rfl (hb hby at_257) rfl ?_
            refine XS.aload X63.here hx rfl (hb hby at_259) rfl rfl ?_
            show Steps p.tables e below (T63.setTop (mkF m 261 #[.val (.int p1), .val (.int p2), .val (.int p3), .val (.int p4), .val (.int p5), .val (.int p6), .val (.int (own_b (own_bit p1))), .val (.ref lit4), .val (.int (8 : Int32)), .val (.int (own_c p5)), .val (.int (own_c p4)), .val (.int (own_n p2)), .val (.int (own_p p3)), .val (.ref b8), .val (.ref r56), .val (.ref r60), .val (.ref b62), .unset] [(.ref lit4), (.int (own_c p4))])) _
            refine XS.iload X63.here hx rfl (hb hby at_261) rfl ?_
            show Steps p.tables e below (T63.setTop (mkF m 263 #[.val (.int p1), .val (.int p2), .val (.int p3), .val (.int p4), .val (.int p5), .val (.int p6), .val (.int (own_b (own_bit p1))), .val (.ref lit4), .val (.int (8 : Int32)), .val (.int (own_c p5)), .val (.int (own_c p4)), .val (.int (own_n p2)), .val (.int (own_p p3)), .val (.ref b8), .val (.ref r56), .val (.ref r60), .val (.ref b62), .unset] [(.int (own_p p3)), (.ref lit4), (.int (own_c p4))])) _
            refine st66.trans ?_
            have tr266_70 : ∀ tgt, Steps p.tables e below (T66.setTop (mkF m 274 #[.val (.int p1), .val (.int p2), .val (.int p3), .val (.int p4), .val (.int p5), .val (.int p6), .val (.int (own_b (own_bit p1))), .val (.ref lit4), .val (.int (8 : Int32)), .val (.int (own_c p5)), .val (.int (own_c p4)), .val (.int (own_n p2)), .val (.int (own_p p3)), .val (.ref b8), .val (.ref r56), .val (.ref r60), .val (.ref b62), .unset] [(.int (own_eq (own_c p4) (own_SC.getD (own_p p3).toNatClampNeg 0)))])) tgt → Steps p.tables e below (T66.setTop (mkF m 266 #[.val (.int p1), .val (.int p2), .val (.int p3), .val (.int p4), .val (.int p5), .val (.int p6), .val (.int (own_b (own_bit p1))), .val (.ref lit4), .val (.int (8 : Int32)), .val (.int (own_c p5)), .val (.int (own_c p4)), .val (.int (own_n p2)), .val (.int (own_p p3)), .val (.ref b8), .val (.ref r56), .val (.ref r60), .val (.ref b62), .unset] [(.int (own_SC.getD (own_p p3).toNatClampNeg 0)), (.int (own_c p4))])) tgt := by
              intro tgt kk
              show Steps p.tables e below (T66.setTop (mkF m 266 #[.val (.int p1), .val (.int p2), .val (.int p3), .val (.int p4), .val (.int p5), .val (.int p6), .val (.int (own_b (own_bit p1))), .val (.ref lit4), .val (.int (8 : Int32)), .val (.int (own_c p5)), .val (.int (own_c p4)), .val (.int (own_n p2)), .val (.int (own_p p3)), .val (.ref b8), .val (.ref r56), .val (.ref r60), .val (.ref b62), .unset] [(.int (own_SC.getD (own_p p3).toNatClampNeg 0)), (.int (own_c p4))])) _
              by_cases c71 : (own_c p4) = (own_SC.getD (own_p p3).toNatClampNeg 0)
              · refine XS.icmpNo X66.here hx rfl (hb hby at_266) rfl (teq c71).2 ?_
                show Steps p.tables e below (T66.setTop (mkF m 269 #[.val (.int p1), .val (.int p2), .val (.int p3), .val (.int p4), .val (.int p5), .val (.int p6), .val (.int (own_b (own_bit p1))), .val (.ref lit4), .val (.int (8 : Int32)), .val (.int (own_c p5)), .val (.int (own_c p4)), .val (.int (own_n p2)), .val (.int (own_p p3)), .val (.ref b8), .val (.ref r56), .val (.ref r60), .val (.ref b62), .unset] [])) _
                refine XS.iconst X66.here hx rfl (hb hby at_269) ?_
                show Steps p.tables e below (T66.setTop (mkF m 270 #[.val (.int p1), .val (.int p2), .val (.int p3), .val (.int p4), .val (.int p5), .val (.int p6), .val (.int (own_b (own_bit p1))), .val (.ref lit4), .val (.int (8 : Int32)), .val (.int (own_c p5)), .val (.int (own_c p4)), .val (.int (own_n p2)), .val (.int (own_p p3)), .val (.ref b8), .val (.ref r56), .val (.ref r60), .val (.ref b62), .unset] [(.int (1 : Int32))])) _
                refine XS.goto X66.here hx rfl (pc0 := 270) (pc' := 274) rfl (hb hby at_270) (by decide) (by decide) ?_
                have ev : (own_eq (own_c p4) (own_SC.getD (own_p p3).toNatClampNeg 0)) = (1 : Int32) := by rw [own_eq, if_pos c71]
                rw [ev] at kk
                exact kk
              · refine XS.icmpYes X66.here hx rfl (pc0 := 266) (pc' := 273) rfl (hb hby at_266) rfl (feq c71).2 (by decide) (by decide) ?_
                show Steps p.tables e below (T66.setTop (mkF m 273 #[.val (.int p1), .val (.int p2), .val (.int p3), .val (.int p4), .val (.int p5), .val (.int p6), .val (.int (own_b (own_bit p1))), .val (.ref lit4), .val (.int (8 : Int32)), .val (.int (own_c p5)), .val (.int (own_c p4)), .val (.int (own_n p2)), .val (.int (own_p p3)), .val (.ref b8), .val (.ref r56), .val (.ref r60), .val (.ref b62), .unset] [])) _
                refine XS.iconst X66.here hx rfl (hb hby at_273) ?_
                have ev : (own_eq (own_c p4) (own_SC.getD (own_p p3).toNatClampNeg 0)) = (0 : Int32) := by rw [own_eq, if_neg c71]
                rw [ev] at kk
                exact kk
            refine tr266_70 _ ?_
            refine XS.istore X66.here hx rfl (hb hby at_274) rfl (l' := #[.val (.int p1), .val (.int p2), .val (.int p3), .val (.int p4), .val (.int p5), .val (.int p6), .val (.int (own_b (own_bit p1))), .val (.ref lit4), .val (.int (8 : Int32)), .val (.int (own_c p5)), .val (.int (own_c p4)), .val (.int (own_n p2)), .val (.int (own_p p3)), .val (.ref b8), .val (.ref r56), .val (.ref r60), .val (.ref b62), .val (.int (own_eq (own_c p4) (own_SC.getD (own_p p3).toNatClampNeg 0)))]) rfl ?_
            refine XS.aload X66.here hx rfl (hb hby at_276) rfl rfl ?_
            show Steps p.tables e below (T66.setTop (mkF m 278 #[.val (.int p1), .val (.int p2), .val (.int p3), .val (.int p4), .val (.int p5), .val (.int p6), .val (.int (own_b (own_bit p1))), .val (.ref lit4), .val (.int (8 : Int32)), .val (.int (own_c p5)), .val (.int (own_c p4)), .val (.int (own_n p2)), .val (.int (own_p p3)), .val (.ref b8), .val (.ref r56), .val (.ref r60), .val (.ref b62), .val (.int (own_eq (own_c p4) (own_SC.getD (own_p p3).toNatClampNeg 0)))] [(.ref b62)])) _
            refine st72.trans ?_
            refine XS.iload X72.here hx rfl (hb hby at_281) rfl ?_
            show Steps p.tables e below (T72.setTop (mkF m 283 #[.val (.int p1), .val (.int p2), .val (.int p3), .val (.int p4), .val (.int p5), .val (.int p6), .val (.int (own_b (own_bit p1))), .val (.ref lit4), .val (.int (8 : Int32)), .val (.int (own_c p5)), .val (.int (own_c p4)), .val (.int (own_n p2)), .val (.int (own_p p3)), .val (.ref b8), .val (.ref r56), .val (.ref r60), .val (.ref b62), .val (.int (own_eq (own_c p4) (own_SC.getD (own_p p3).toNatClampNeg 0)))] [(.int (own_eq (own_c p4) (own_SC.getD (own_p p3).toNatClampNeg 0))), (.int (own_att (own_cut (own_arr (own_baseS p5) p3 p4) (own_n p2).toNatClampNeg)))])) _
            refine XS.icmpNo X72.here hx rfl (hb hby at_283) rfl (teq (own_lawCS hA hB : (own_att (own_cut (own_arr (own_baseS p5) p3 p4) (own_n p2).toNatClampNeg)) = (own_eq (own_c p4) (own_SC.getD (own_p p3).toNatClampNeg 0)))).2 ?_
            refine XS.iconst X72.here hx rfl (hb hby at_286) ?_
            refine XS.goto X72.here hx rfl (pc0 := 287) (pc' := 291) rfl (hb hby at_287) (by decide) (by decide) ?_
            show Steps p.tables e below (T72.setTop (mkF m 291 #[.val (.int p1), .val (.int p2), .val (.int p3), .val (.int p4), .val (.int p5), .val (.int p6), .val (.int (own_b (own_bit p1))), .val (.ref lit4), .val (.int (8 : Int32)), .val (.int (own_c p5)), .val (.int (own_c p4)), .val (.int (own_n p2)), .val (.int (own_p p3)), .val (.ref b8), .val (.ref r56), .val (.ref r60), .val (.ref b62), .val (.int (own_eq (own_c p4) (own_SC.getD (own_p p3).toNatClampNeg 0)))] [(.int (1 : Int32))])) _
            exact retN X72 hx (t := .boolean) Bd.returns (by simp) (hb hby at_291) hr
          · show Q0 n0 _ T72.heap _
            exact ⟨rfl, N72a⟩
          · show CHr Z own_EL s.vm s.heap T72.vm T72.heap
            rw [hh]
            exact CH17.trans (CHv.at X72 hZ72 hEL CH17.1)
        · have f67 : Old Z n0 T63.heap := (((f61.keep K60q all0).ext E62).keep K63q (allS g_b62 all0))
          have f68 : Exa Z T63.heap b62 "com/example/restate/restate/Operation$Target" := (A62.keep K63q)
          have f69 : StrV Z T63.heap r56 (own_cut (own_arr (own_baseS p5) p3 p4) (own_n p2).toNatClampNeg) := (SV56.keep0 ((((Keep.refl T56.heap []).trans K60q all0).ext E62).trans K63q (allS (Or.inr (Nat.le_trans ((Keep.refl T56.heap []).trans K60q all0).1 (Nat.le_of_eq g62.symm))) all0)))
          obtain ⟨cq66, kq66, q66a, q66b, q66c⟩ := isOf hZ56 rfl f68
          obtain ⟨_, _, ⟨T66, L66, k66, n66⟩, -, X66', hs66, hg66, ⟨Lc66, hQ66, l66, y66, z66, C66⟩, st66⟩ := X63.virtualBackS hx (y := (⟨"com/example/restate/restate/Operation$Target", "isAttached", "()Z"⟩ : MethodName)) (z := (⟨"com/example/restate/restate/Operation$Target", "isAttached", "()Z"⟩ : MethodName)) hown56 (mvT hZ56 (hw _ (List.mem_of_getElem? (i := 89) rfl))) (mvT hZ56 (hw _ (List.mem_of_getElem? (i := 90) rfl))) (notFace_of_selects (args := #[]) (mvT hZ56 (hw _ (List.mem_of_getElem? (i := 92) rfl)))) (mvT hZ56 (hw _ (List.mem_of_getElem? (i := 92) rfl))) (mvT hZ56 (hw _ (List.mem_of_getElem? (i := 91) rfl))) (by decide) (backOfSH (W := 0) (rmI l Z a0 hw [] hEL b62 r56 (own_cut (own_arr (own_baseS p5) p3 p4) (own_n p2).toNatClampNeg) G1 G3 T63.heap n0 (Nat.le_trans Z0 K16.1) O2 P5 O4 rG3 f67 f68 Ft63 f69 (own_cut_len _ (own_n_r p2))) hZ56 (hw _ (List.mem_of_getElem? (i := 93) rfl)) (hw _ (List.mem_of_getElem? (i := 75) rfl)) (by decide) (by decide) hEL CH16.1) q66a q66c (g := (mkF m 278 #[.val (.int p1), .val (.int p2), .val (.int p3), .val (.int p4), .val (.int p5), .val (.int p6), .val (.int (own_b (own_bit p1))), .val (.ref lit4), .val (.int (8 : Int32)), .val (.int (own_c p5)), .val (.int (own_c p4)), .val (.int (own_n p2)), .val (.int (own_p p3)), .val (.ref b8), .val (.ref r56), .val (.ref r60), .val (.ref b62), .val (.int (1 : Int32))] [(.ref b62)])) rfl (by rw [hml]; rfl) (Steps.refl _) (argsL := []) (rest := []) (lenOf own_pd___Z rfl) rfl (by show 2 * 0 + _ ≤ _; exact Nat.le_of_eq rfl) (hb hby at_278) (fun _ _ => ⟨rfl, rfl, (by decide : 10 + 4 ≤ _), (by decide : 74 + 68 ≤ _)⟩)
          dsimp only [Pt.U, Pt.locs, Pt.cells, Pt.slots] at X66' l66 y66 z66 st66 hQ66 C66 hs66 hg66
          rw [l66] at X66'
          clear l66; subst y66 z66
          have hk_70 := Nat.le_trans (Nat.le_refl _) ((((Keep.refl T56.heap []).trans K60q all0).ext E62).trans K63q (allS (Or.inr (Nat.le_trans ((Keep.refl T56.heap []).trans K60q all0).1 (Nat.le_of_eq g62.symm))) all0)).1
          obtain ⟨X66, hS66, hZ66, hown66⟩ := rebS hS56 hk_70 X66' hs66 hg66 hZ56 hown56
          obtain ⟨rfl, N66q, K66q⟩ := hQ66
          have N66a := Fr.app N63a N66q
          have CH17 : CHr Z own_EL s.vm h0 T66.vm T66.heap := CH16.trans C66
          have K17 : Keep h0 T66.heap [] := K16.trans K66q all0
          obtain ⟨fs, hr, hrun, hended, hend⟩ := X66.leaveW hS66 (Nat.le_refl _) (v := some (.int (1 : Int32))) (fun h => by rw [Bd.returns] at h; cases h)
          refine ⟨_, _, pre0 _ ?_, hrun, hended, _, _, rfl, ?_, ?_, hend.1, hend.2.1, hend.2.2.1, hend.2.2.2.mono (by decide) (by decide)⟩
          · refine cut65 _ ?_
            show Steps p.tables e below (T63.setTop (mkF m 247 #[.val (.int p1), .val (.int p2), .val (.int p3), .val (.int p4), .val (.int p5), .val (.int p6), .val (.int (own_b (own_bit p1))), .val (.ref lit4), .val (.int (8 : Int32)), .val (.int (own_c p5)), .val (.int (own_c p4)), .val (.int (own_n p2)), .val (.int (own_p p3)), .val (.ref b8), .val (.ref r56), .val (.ref r60), .val (.ref b62), .unset] [(.int (8 : Int32)), (.int (own_n p2))])) _
            refine XS.icmpNo X63.here hx rfl (hb hby at_247) rfl (teq (hA : (own_n p2) = (8 : Int32))).2 ?_
            refine XS.iload X63.here hx rfl (hb hby at_250) rfl ?_
            refine XS.iload X63.here hx rfl (hb hby at_252) rfl ?_
            show Steps p.tables e below (T63.setTop (mkF m 254 #[.val (.int p1), .val (.int p2), .val (.int p3), .val (.int p4), .val (.int p5), .val (.int p6), .val (.int (own_b (own_bit p1))), .val (.ref lit4), .val (.int (8 : Int32)), .val (.int (own_c p5)), .val (.int (own_c p4)), .val (.int (own_n p2)), .val (.int (own_p p3)), .val (.ref b8), .val (.ref r56), .val (.ref r60), .val (.ref b62), .unset] [(.int (8 : Int32)), (.int (own_p p3))])) _
            refine XS.icmpYes X63.here hx rfl (pc0 := 254) (pc' := 269) rfl (hb hby at_254) rfl (flt (hB : ¬ ((own_p p3) < (8 : Int32)))).2.1 (by decide) (by decide) ?_
            refine XS.iconst X63.here hx rfl (hb hby at_269) ?_
            refine XS.goto X63.here hx rfl (pc0 := 270) (pc' := 274) rfl (hb hby at_270) (by decide) (by decide) ?_
            show Steps p.tables e below (T63.setTop (mkF m 274 #[.val (.int p1), .val (.int p2), .val (.int p3), .val (.int p4), .val (.int p5), .val (.int p6), .val (.int (own_b (own_bit p1))), .val (.ref lit4), .val (.int (8 : Int32)), .val (.int (own_c p5)), .val (.int (own_c p4)), .val (.int (own_n p2)), .val (.int (own_p p3)), .val (.ref b8), .val (.ref r56), .val (.ref r60), .val (.ref b62), .unset] [(.int (1 : Int32))])) _
            refine XS.istore X63.here hx rfl (hb hby at_274) rfl (l' := #[.val (.int p1), .val (.int p2), .val (.int p3), .val (.int p4), .val (.int p5), .val (.int p6), .val (.int (own_b (own_bit p1))), .val (.ref lit4), .val (.int (8 : Int32)), .val (.int (own_c p5)), .val (.int (own_c p4)), .val (.int (own_n p2)), .val (.int (own_p p3)), .val (.ref b8), .val (.ref r56), .val (.ref r60), .val (.ref b62), .val (.int (1 : Int32))]) rfl ?_
            refine XS.aload X63.here hx rfl (hb hby at_276) rfl rfl ?_
            show Steps p.tables e below (T63.setTop (mkF m 278 #[.val (.int p1), .val (.int p2), .val (.int p3), .val (.int p4), .val (.int p5), .val (.int p6), .val (.int (own_b (own_bit p1))), .val (.ref lit4), .val (.int (8 : Int32)), .val (.int (own_c p5)), .val (.int (own_c p4)), .val (.int (own_n p2)), .val (.int (own_p p3)), .val (.ref b8), .val (.ref r56), .val (.ref r60), .val (.ref b62), .val (.int (1 : Int32))] [(.ref b62)])) _
            refine st66.trans ?_
            refine XS.iload X66.here hx rfl (hb hby at_281) rfl ?_
            show Steps p.tables e below (T66.setTop (mkF m 283 #[.val (.int p1), .val (.int p2), .val (.int p3), .val (.int p4), .val (.int p5), .val (.int p6), .val (.int (own_b (own_bit p1))), .val (.ref lit4), .val (.int (8 : Int32)), .val (.int (own_c p5)), .val (.int (own_c p4)), .val (.int (own_n p2)), .val (.int (own_p p3)), .val (.ref b8), .val (.ref r56), .val (.ref r60), .val (.ref b62), .val (.int (1 : Int32))] [(.int (1 : Int32)), (.int (own_att (own_cut (own_arr (own_baseS p5) p3 p4) (own_n p2).toNatClampNeg)))])) _
            refine XS.icmpNo X66.here hx rfl (hb hby at_283) rfl (teq (own_lawBS hA hB : (own_att (own_cut (own_arr (own_baseS p5) p3 p4) (own_n p2).toNatClampNeg)) = (1 : Int32))).2 ?_
            refine XS.iconst X66.here hx rfl (hb hby at_286) ?_
            refine XS.goto X66.here hx rfl (pc0 := 287) (pc' := 291) rfl (hb hby at_287) (by decide) (by decide) ?_
            show Steps p.tables e below (T66.setTop (mkF m 291 #[.val (.int p1), .val (.int p2), .val (.int p3), .val (.int p4), .val (.int p5), .val (.int p6), .val (.int (own_b (own_bit p1))), .val (.ref lit4), .val (.int (8 : Int32)), .val (.int (own_c p5)), .val (.int (own_c p4)), .val (.int (own_n p2)), .val (.int (own_p p3)), .val (.ref b8), .val (.ref r56), .val (.ref r60), .val (.ref b62), .val (.int (1 : Int32))] [(.int (1 : Int32))])) _
            exact retN X66 hx (t := .boolean) Bd.returns (by simp) (hb hby at_291) hr
          · show Q0 n0 _ T66.heap _
            exact ⟨rfl, N66a⟩
          · show CHr Z own_EL s.vm s.heap T66.vm T66.heap
            rw [hh]
            exact CH17.trans (CHv.at X66 hZ66 hEL CH17.1)
set_option maxRecDepth 65536 in
set_option maxHeartbeats 40000000 in
theorem comes_1 {Post : Tables → Env → Array Value → State → Outcome → State → Prop} (hpost : ∀ tb e args s v u, (limb_1_1.after args s (.returned v) u = true ∧ limb_1_2.after args s (.returned v) u = true ∧ True) → ReturnedEndW s (.returned v) u (Jvm.fieldLocs frame_1_writes args s ++ Jvm.arrayLocs frame_1_arrays args s ++ Jvm.staticLocs frame_1_statics s) 32 5312 → Post tb e args s (.returned v) u) :
    ArmFor flags0 classFile x code maxLocals ret World_1 tables_1 room_1 Calls_1 rest_1 Pre_1 Post := by
  intro l hfl _ _ p e ha hc hk s m args below hf hA hF happ hP
  obtain ⟨hcalls, hrest, hpre⟩ := hP
  obtain ⟨-, -, -, hnamed, -, -, -, hat⟩ := (Spec.applies_iff hf).mp happ
  obtain ⟨hg, hn⟩ := and_e (Cond.before_iff.mp (show (Jvm.Cond.and given_1 narrow_1).before args s = true from hpre))
  obtain ⟨g1, g2⟩ := and_e hg
  obtain ⟨g3, g4⟩ := and_e g2
  obtain ⟨g5, g6⟩ := and_e g4
  obtain ⟨g7, g8⟩ := and_e g6
  obtain ⟨g9, g10⟩ := and_e g8
  obtain ⟨g11, g12⟩ := and_e g10
  obtain ⟨w0, w1, w2, w3, w4, w5, rfl⟩ : ∃ w0 w1 w2 w3 w4 w5 : Value, args = #[w0, w1, w2, w3, w4, w5] := by
    have hs : args.size = 6 := by simpa [Cond.value, given_1] using g1
    obtain ⟨L⟩ := args
    match L, hs with
    | [w0, w1, w2, w3, w4, w5], _ => exact ⟨w0, w1, w2, w3, w4, w5, rfl⟩
  have hw := fun d (hd : d ∈ tables_1) => atoms_spec (ws := Jvm.Cond.code x code maxLocals ret :: tables_1) hat d (List.mem_cons_of_mem _ hd)
  obtain ⟨hsets, hown0⟩ := atoms_of _ (rest_1_c_eq ▸ (show rest_1_c.before _ s = true from hrest))
  obtain ⟨i0, ei0⟩ := is_v g3
  obtain rfl : w0 = (.int i0) := Option.some.inj ei0
  obtain ⟨i1, ei1⟩ := is_v g5
  obtain rfl : w1 = (.int i1) := Option.some.inj ei1
  obtain ⟨i2, ei2⟩ := is_v g7
  obtain rfl : w2 = (.int i2) := Option.some.inj ei2
  obtain ⟨i3, ei3⟩ := is_v g9
  obtain rfl : w3 = (.int i3) := Option.some.inj ei3
  obtain ⟨i4, ei4⟩ := is_v g11
  obtain rfl : w4 = (.int i4) := Option.some.inj ei4
  obtain ⟨i5, ei5⟩ := is_v g12
  obtain rfl : w5 = (.int i5) := Option.some.inj ei5
  have n5 := not_v (Cond.before_iff.mp (hsets _ (List.mem_of_getElem? (i := 2) rfl)))
  obtain ⟨i11, e10⟩ := is_v (Cond.before_iff.mp (hsets _ (List.mem_of_getElem? (i := 1) rfl)))
  have S12 : Sta s s.heap "java/lang/String" "COMPACT_STRINGS" "Z" (.int i11) := Sta.start e10 (Or.inl (hsets _ (List.mem_of_getElem? (i := 0) rfl)))
  have c17 : ¬ (i11 = (0 : Int32)) := gotF (Cond.eq_ints e10 (Term.int_eval (0))) n5
  obtain ⟨v13, e14, r15⟩ := isR_v (Cond.before_iff.mp (hsets _ (List.mem_of_getElem? (i := 8) rfl)))
  have S16 : Sta s s.heap "jdk/internal/util/Preconditions" "SIOOBE_FORMATTER" "Ljava/util/function/BiFunction;" v13 := Sta.start e14 (Or.inl (hsets _ (List.mem_of_getElem? (i := 7) rfl)))
  have hEL : EW s _ own_EL := (EW.cons (hw _ (List.mem_of_getElem? (i := 94) rfl)) (by decide +kernel) (EW.cons (hw _ (List.mem_of_getElem? (i := 104) rfl)) (by decide +kernel) (EW.cons (hw _ (List.mem_of_getElem? (i := 118) rfl)) (by decide +kernel) (EW.cons (hw _ (List.mem_of_getElem? (i := 0) rfl)) (by decide +kernel) (EW.cons (hw _ (List.mem_of_getElem? (i := 105) rfl)) (by decide +kernel) EW.nil)))))
  have hCH : CHv s own_EL s.vm s.heap := CHv.start hEL (fun p hp => hcalls.1 p hp) (hsets _ (List.mem_of_getElem? (i := 2) rfl)) (own_wS hw _ (by simp [Bundle.stringAtoms])) (own_wS hw _ (by simp [Bundle.stringAtoms, Bundle.sN]))
  obtain ⟨n, o, h1, h2, h3, _, L, rfl, ⟨rfl, N⟩, hch, hq⟩ := rm0 l s _ hw tables_1 hEL i0 i1 i2 i3 i4 i5 i11 v13 s.heap s.heap.size (Nat.le_refl _) S12 c17 S16 r15 (Old.start s) p e ha hc hk s m _ below hf ((Spec.applies_iff_loose hf).mp happ).1 ⟨rfl, State.Warmed39.refl s, rfl, hCH⟩ trivial
  exact ⟨n, _, h1, h2, h3, hpost _ _ _ _ _ _ ⟨Cond.after_iff.mpr rfl, Cond.after_iff.mpr (eq_i res_at (Term.int_eval (1)) rfl), trivial⟩ ⟨hq.1, hq.2.1, hq.2.2.1, (hq.2.2.2.sift fun y hy => Or.inr (N y hy)).mono (by decide) (by decide)⟩⟩
theorem main_1_1 : Claimed_1_1 := comes_1 fun _ _ _ _ _ _ h hF => ⟨h.1, hF⟩
theorem main_1_2 : Claimed_1_2 := comes_1 fun _ _ _ _ _ _ h hF => ⟨h.2.1, hF⟩
end Jvm.Pilot.@@N@@
namespace Jvm.Pilot.@@N@@
open Jvm Jvm.ClassFile Sem Op Lib Jvm.Free Jvm.Stand Jvm.Pilot.@@N@@.Jvm.D
/-! MADE BY PROGRAM (witnessworld.py) out of the Statement's table words and the real class files: 21 classes; the members and pool entries that the words name. The judged class is class 1, her method 1. -/
namespace start1
open Jvm.ClassFile
def u (s : String) : CpInfo := .utf8 (stringToUtf16 s)
/-- a pool by its gaps: so many unusable entries, then the entry; so many at the end -/
def gap : Nat → List CpInfo → List CpInfo
  | 0, r => r
  | n + 1, r => .unusable :: gap n r
def poolList (es : List (Nat × CpInfo)) (last : Nat) : List CpInfo := es.foldr (fun e r => gap e.1 (e.2 :: r)) (gap last [])
def pool (es : List (Nat × CpInfo)) (last : Nat) : Array CpInfo := ⟨poolList es last⟩
def fileOf (pool : Array CpInfo) (this : Nat) (attrs : Array Attribute := #[]) (ms : Array MethodInfo := #[]) (fl : Nat := 33) (sup : Nat := 0) (ifs : Array Nat := #[]) (fds : Array FieldInfo := #[]) : ClassFile where
  minorVersion := 0
  majorVersion := 65
  constantPool := pool
  accessFlags := fl
  thisClass := this
  superClass := sup
  interfaces := ifs
  fields := fds
  methods := ms
  attributes := attrs
def plain (name : String) (sup : Option ClassId) : Class where
  name := name
  kind := .ordinary
  loader := none
  accessFlags := 33
  super := sup
  interfaces := #[]
  cf := none
  fields := #[]
  methods := #[]
  instanceTypes := #[]
  staticTypes := #[]
  resolved := #[]
  callSites := []
  init := .initialized
  statics := none
  mirror := none

def pool0 : Array CpInfo := pool [(5, u "<init>"), (0, u "()V"), (1, .class_ 10), (1, u "java/lang/Object")] 113

def k0c0 : Code := { maxStack := 0, maxLocals := 1, code := object_method_1_code, exceptionTable := #[], attributes := #[] }
def k0m0 : Method := { name := "<init>", desc := "()V", sig := { parameters := [], returnType := none }, accessFlags := 1, code := some k0c0 }
/-- java/lang/Object -/
def k0 : Class := { plain "java/lang/Object" none with
  accessFlags := 33
  interfaces := #[]
  cf := some (fileOf pool0 8 #[] #[{ accessFlags := 1, nameIndex := 5, descriptorIndex := 6, attributes := #[] }] 33 0 #[] #[])
  fields := #[]
  methods := #[k0m0]
  instanceTypes := #[]
  staticTypes := #[]
  resolved := Array.replicate 124 none
  statics := none }

def pool1 : Array CpInfo := pool [(2, .class_ 4), (1, u "java/lang/Object"), (0, u "<init>"), (0, u "()V"), (0, .string 8), (0, u "schedule"), (0, .string 10), (0, u "exhibit"), (0, .methodref 12 13), (0, .class_ 14), (0, .nameAndType 15 16), (0, u "java/lang/String"), (0, u "length"), (0, u "()I"), (0, .integer 2147483647), (0, .methodref 19 20), (0, .class_ 21), (0, .nameAndType 22 23), (0, u "com/example/restate/restate/TargetIsAttachedPinLaw"), (0, u "at"), (0, u "(Ljava/lang/String;IC)C"), (0, .methodref 19 25), (0, .nameAndType 26 27), (0, u "cut"), (0, u "([CI)Ljava/lang/String;"), (0, .methodref 12 29), (0, .nameAndType 30 31), (0, u "valueOf"), (0, u "(C)Ljava/lang/String;"), (0, .class_ 33), (0, u "com/example/restate/restate/Operation$Target"), (0, .methodref 32 35), (0, .nameAndType 5 36), (0, u "(Ljava/lang/String;Ljava/lang/String;)V"), (0, .methodref 12 38), (0, .nameAndType 39 40), (0, u "charAt"), (0, u "(I)C"), (0, .methodref 32 42), (0, .nameAndType 43 44), (0, u "isAttached"), (0, u "()Z"), (0, .methodref 12 46), (0, .nameAndType 5 47), (0, u "([C)V"), (2, u "law"), (0, u "(IIIIII)Z")] 9

def k1m0 : Method := { name := "<init>", desc := "()V", sig := { parameters := [], returnType := none }, accessFlags := 1, code := none }
def k1c1 : Code := { maxStack := 5, maxLocals := 18, code := code, exceptionTable := #[], attributes := #[] }
def k1m1 : Method := { name := "law", desc := "(IIIIII)Z", sig := { parameters := [.int, .int, .int, .int, .int, .int], returnType := some .boolean }, accessFlags := 9, code := some k1c1 }
def k1c2 : Code := { maxStack := 2, maxLocals := 3, code := method_3_code, exceptionTable := #[], attributes := #[] }
def k1m2 : Method := { name := "at", desc := "(Ljava/lang/String;IC)C", sig := { parameters := [(.object "java/lang/String"), .int, .char], returnType := some .char }, accessFlags := 10, code := some k1c2 }
def k1c3 : Code := { maxStack := 7, maxLocals := 2, code := method_4_code, exceptionTable := #[], attributes := #[] }
def k1m3 : Method := { name := "cut", desc := "([CI)Ljava/lang/String;", sig := { parameters := [(.array .char), .int], returnType := some (.object "java/lang/String") }, accessFlags := 10, code := some k1c3 }
/-- com/example/restate/restate/TargetIsAttachedPinLaw -/
def k1 : Class := { plain "com/example/restate/restate/TargetIsAttachedPinLaw" (some 0) with
  accessFlags := 49
  interfaces := #[]
  cf := some (fileOf pool1 19 #[] #[{ accessFlags := 1, nameIndex := 5, descriptorIndex := 6, attributes := #[] }, { accessFlags := 9, nameIndex := 50, descriptorIndex := 51, attributes := #[] }, { accessFlags := 10, nameIndex := 22, descriptorIndex := 23, attributes := #[] }, { accessFlags := 10, nameIndex := 26, descriptorIndex := 27, attributes := #[] }] 49 2 #[] #[])
  fields := #[]
  methods := #[k1m0, k1m1, k1m2, k1m3]
  instanceTypes := #[]
  staticTypes := #[]
  resolved := Array.replicate 61 none
  statics := none }

def pool2 : Array CpInfo := pool [(1, .class_ 2), (0, u "java/io/Serializable"), (0, .class_ 4), (0, u "java/lang/Object")] 2

/-- java/io/Serializable -/
def k2 : Class := { plain "java/io/Serializable" (some 0) with
  accessFlags := 1537
  interfaces := #[]
  cf := some (fileOf pool2 1 #[] #[] 1537 3 #[] #[])
  fields := #[]
  methods := #[]
  instanceTypes := #[]
  staticTypes := #[]
  resolved := Array.replicate 7 none
  statics := none }

def pool3 : Array CpInfo := pool [(1, .class_ 2), (0, u "java/lang/Comparable"), (0, .class_ 4), (0, u "java/lang/Object")] 7

/-- java/lang/Comparable -/
def k3 : Class := { plain "java/lang/Comparable" (some 0) with
  accessFlags := 1537
  interfaces := #[]
  cf := some (fileOf pool3 1 #[] #[] 1537 3 #[] #[])
  fields := #[]
  methods := #[]
  instanceTypes := #[]
  staticTypes := #[]
  resolved := Array.replicate 12 none
  statics := none }

def pool4 : Array CpInfo := pool [(2, .class_ 4), (1, u "java/lang/CharSequence"), (42, .class_ 48), (0, u "java/lang/CharSequence$1CodePointIterator"), (10, .class_ 60), (0, u "java/lang/CharSequence$1CharIterator"), (5, .class_ 67), (0, u "java/lang/Object")] 63

/-- java/lang/CharSequence -/
def k4 : Class := { plain "java/lang/CharSequence" (some 0) with
  accessFlags := 1537
  interfaces := #[]
  cf := some (fileOf pool4 2 #[.nestMembers #[47, 59]] #[] 1537 66 #[] #[])
  fields := #[]
  methods := #[]
  instanceTypes := #[]
  staticTypes := #[]
  resolved := Array.replicate 131 none
  statics := none }

def pool5 : Array CpInfo := pool [(1, .class_ 2), (0, u "java/lang/constant/Constable"), (0, .class_ 4), (0, u "java/lang/Object")] 6

/-- java/lang/constant/Constable -/
def k5 : Class := { plain "java/lang/constant/Constable" (some 0) with
  accessFlags := 1537
  interfaces := #[]
  cf := some (fileOf pool5 1 #[] #[] 1537 3 #[] #[])
  fields := #[]
  methods := #[]
  instanceTypes := #[]
  staticTypes := #[]
  resolved := Array.replicate 11 none
  statics := none }

def pool6 : Array CpInfo := pool [(1, .class_ 2), (0, u "java/lang/constant/ConstantDesc"), (0, .class_ 4), (0, u "java/lang/Object")] 32

/-- java/lang/constant/ConstantDesc -/
def k6 : Class := { plain "java/lang/constant/ConstantDesc" (some 0) with
  accessFlags := 1537
  interfaces := #[]
  cf := some (fileOf pool6 1 #[] #[] 1537 3 #[] #[])
  fields := #[]
  methods := #[]
  instanceTypes := #[]
  staticTypes := #[]
  resolved := Array.replicate 37 none
  statics := none }

def pool7 : Array CpInfo := pool [(1, .methodref 2 3), (0, .class_ 4), (0, .nameAndType 5 6), (0, u "java/lang/Object"), (0, u "<init>"), (0, u "()V"), (0, .string 8), (0, u ""), (0, .fieldref 10 11), (0, .class_ 12), (0, .nameAndType 13 14), (0, u "java/lang/String"), (0, u "value"), (0, u "[B"), (0, .fieldref 10 16), (0, .nameAndType 17 18), (0, u "coder"), (0, u "B"), (2, u "hash"), (0, u "I"), (2, u "hashIsZero"), (0, u "Z"), (0, .methodref 10 28), (0, .nameAndType 5 29), (0, u "([CIILjava/lang/Void;)V"), (8, .fieldref 10 39), (0, .nameAndType 40 26), (0, u "COMPACT_STRINGS"), (1, .class_ 44), (1, u "java/lang/StringUTF16"), (0, u "compress"), (1, .methodref 42 48), (0, .nameAndType 49 50), (0, u "coderFromArrayLen"), (0, u "([BI)B"), (2, u "toBytes"), (53, .class_ 109), (1, u "java/lang/StringLatin1"), (32, u "()Z"), (34, .methodref 42 178), (0, .nameAndType 45 179), (0, u "([CII)[B"), (29, .methodref 10 210), (0, .nameAndType 5 211), (0, u "([BB)V"), (122, u "()I"), (0, .methodref 10 336), (0, .nameAndType 17 337), (0, u "()B"), (25, u "([BI)C"), (5, u "(C)Z"), (21, u "(II)V"), (35, u "(I)C"), (64, .methodref 10 493), (0, .nameAndType 494 142), (0, u "isLatin1"), (0, .methodref 107 496), (0, .nameAndType 497 363), (0, u "charAt"), (3, u "checkIndex"), (5, u "length"), (33, .methodref 107 542), (0, .nameAndType 543 544), (0, u "equals"), (0, u "([B[B)Z"), (28, u "(Ljava/lang/Object;)Z"), (1, .class_ 576), (0, u "java/lang/CharSequence"), (22, u "CASE_INSENSITIVE_ORDER"), (0, u "Ljava/util/Comparator;"), (181, u "valueOf"), (0, u "(C)Ljava/lang/String;"), (226, u "([C)V"), (4, .methodref 107 1016), (0, .nameAndType 1017 369), (0, u "canEncode"), (0, .methodref 107 1019), (0, .nameAndType 53 1020), (0, u "(C)[B"), (32, .fieldref 1054 1055), (0, .class_ 1056), (0, .nameAndType 1057 1058), (0, u "jdk/internal/util/Preconditions"), (0, u "SIOOBE_FORMATTER"), (0, u "Ljava/util/function/BiFunction;"), (0, .methodref 1054 1060), (0, .nameAndType 501 1061), (0, u "(IILjava/util/function/BiFunction;)I"), (39, u "serialPersistentFields"), (0, u "[Ljava/io/ObjectStreamField;"), (0, .class_ 1104), (0, u "java/lang/String$CaseInsensitiveComparator"), (1, .class_ 1107), (0, u "java/io/Serializable"), (0, .class_ 1109), (0, u "java/lang/Comparable"), (0, .class_ 1111), (0, u "java/lang/constant/Constable"), (0, .class_ 1113), (0, u "java/lang/constant/ConstantDesc"), (2, u "serialVersionUID"), (0, u "J"), (3, u "REPL"), (0, u "C"), (2, u "LATIN1"), (1, u "UTF16")] 323

def k7m0 : Method := { name := "<init>", desc := "()V", sig := { parameters := [], returnType := none }, accessFlags := 1, code := none }
def k7c1 : Code := { maxStack := 5, maxLocals := 2, code := jdk_42_method_3_code, exceptionTable := #[], attributes := #[] }
def k7m1 : Method := { name := "<init>", desc := "([C)V", sig := { parameters := [(.array .char)], returnType := none }, accessFlags := 1, code := some k7c1 }
def k7c2 : Code := { maxStack := 2, maxLocals := 1, code := jdk_42_method_54_code, exceptionTable := #[], attributes := #[] }
def k7m2 : Method := { name := "length", desc := "()I", sig := { parameters := [], returnType := some .int }, accessFlags := 1, code := some k7c2 }
def k7c3 : Code := { maxStack := 2, maxLocals := 2, code := jdk_42_method_56_code, exceptionTable := #[], attributes := #[] }
def k7m3 : Method := { name := "charAt", desc := "(I)C", sig := { parameters := [.int], returnType := some .char }, accessFlags := 1, code := some k7c3 }
def k7c4 : Code := { maxStack := 2, maxLocals := 3, code := jdk_42_method_66_code, exceptionTable := #[], attributes := #[] }
def k7m4 : Method := { name := "equals", desc := "(Ljava/lang/Object;)Z", sig := { parameters := [(.object "java/lang/Object")], returnType := some .boolean }, accessFlags := 1, code := some k7c4 }
def k7c5 : Code := { maxStack := 4, maxLocals := 1, code := jdk_42_method_139_code, exceptionTable := #[], attributes := #[] }
def k7m5 : Method := { name := "valueOf", desc := "(C)Ljava/lang/String;", sig := { parameters := [.char], returnType := some (.object "java/lang/String") }, accessFlags := 9, code := some k7c5 }
def k7c6 : Code := { maxStack := 4, maxLocals := 6, code := jdk_42_method_149_code, exceptionTable := #[], attributes := #[] }
def k7m6 : Method := { name := "<init>", desc := "([CIILjava/lang/Void;)V", sig := { parameters := [(.array .char), .int, .int, (.object "java/lang/Void")], returnType := none }, accessFlags := 2, code := some k7c6 }
def k7c7 : Code := { maxStack := 2, maxLocals := 3, code := jdk_42_method_151_code, exceptionTable := #[], attributes := #[] }
def k7m7 : Method := { name := "<init>", desc := "([BB)V", sig := { parameters := [(.array .byte), .byte], returnType := none }, accessFlags := 0, code := some k7c7 }
def k7c8 : Code := { maxStack := 1, maxLocals := 1, code := jdk_42_method_152_code, exceptionTable := #[], attributes := #[] }
def k7m8 : Method := { name := "coder", desc := "()B", sig := { parameters := [], returnType := some .byte }, accessFlags := 0, code := some k7c8 }
def k7c9 : Code := { maxStack := 1, maxLocals := 1, code := jdk_42_method_154_code, exceptionTable := #[], attributes := #[] }
def k7m9 : Method := { name := "isLatin1", desc := "()Z", sig := { parameters := [], returnType := some .boolean }, accessFlags := 0, code := some k7c9 }
def k7c10 : Code := { maxStack := 3, maxLocals := 2, code := jdk_42_method_155_code, exceptionTable := #[], attributes := #[] }
def k7m10 : Method := { name := "checkIndex", desc := "(II)V", sig := { parameters := [.int, .int], returnType := none }, accessFlags := 8, code := some k7c10 }
/-- java/lang/String -/
def k7 : Class := { plain "java/lang/String" (some 0) with
  accessFlags := 49
  interfaces := #[2, 3, 4, 5, 6]
  cf := some (fileOf pool7 10 #[.nestMembers #[1103]] #[{ accessFlags := 1, nameIndex := 5, descriptorIndex := 6, attributes := #[] }, { accessFlags := 1, nameIndex := 5, descriptorIndex := 1010, attributes := #[] }, { accessFlags := 1, nameIndex := 507, descriptorIndex := 334, attributes := #[] }, { accessFlags := 1, nameIndex := 497, descriptorIndex := 427, attributes := #[] }, { accessFlags := 1, nameIndex := 543, descriptorIndex := 573, attributes := #[] }, { accessFlags := 9, nameIndex := 782, descriptorIndex := 783, attributes := #[] }, { accessFlags := 2, nameIndex := 5, descriptorIndex := 29, attributes := #[] }, { accessFlags := 0, nameIndex := 5, descriptorIndex := 211, attributes := #[] }, { accessFlags := 0, nameIndex := 17, descriptorIndex := 337, attributes := #[] }, { accessFlags := 0, nameIndex := 494, descriptorIndex := 142, attributes := #[] }, { accessFlags := 8, nameIndex := 501, descriptorIndex := 391, attributes := #[] }] 49 2 #[1106, 1108, 575, 1110, 1112] #[{ accessFlags := 18, nameIndex := 13, descriptorIndex := 14, attributes := #[] }, { accessFlags := 18, nameIndex := 17, descriptorIndex := 18, attributes := #[] }, { accessFlags := 2, nameIndex := 21, descriptorIndex := 22, attributes := #[] }, { accessFlags := 2, nameIndex := 25, descriptorIndex := 26, attributes := #[] }, { accessFlags := 26, nameIndex := 1116, descriptorIndex := 1117, attributes := #[] }, { accessFlags := 24, nameIndex := 40, descriptorIndex := 26, attributes := #[] }, { accessFlags := 26, nameIndex := 1101, descriptorIndex := 1102, attributes := #[] }, { accessFlags := 26, nameIndex := 1121, descriptorIndex := 1122, attributes := #[] }, { accessFlags := 25, nameIndex := 599, descriptorIndex := 600, attributes := #[] }, { accessFlags := 24, nameIndex := 1125, descriptorIndex := 18, attributes := #[] }, { accessFlags := 24, nameIndex := 1127, descriptorIndex := 18, attributes := #[] }])
  fields := #[{ name := "value", type := (.array .byte), accessFlags := 18, slot := 0, constantValue := 0 }, { name := "coder", type := .byte, accessFlags := 18, slot := 1, constantValue := 0 }, { name := "hash", type := .int, accessFlags := 2, slot := 2, constantValue := 0 }, { name := "hashIsZero", type := .boolean, accessFlags := 2, slot := 3, constantValue := 0 }, { name := "serialVersionUID", type := .long, accessFlags := 26, slot := 0, constantValue := 0 }, { name := "COMPACT_STRINGS", type := .boolean, accessFlags := 24, slot := 1, constantValue := 0 }, { name := "serialPersistentFields", type := (.array (.object "java/io/ObjectStreamField")), accessFlags := 26, slot := 2, constantValue := 0 }, { name := "REPL", type := .char, accessFlags := 26, slot := 3, constantValue := 0 }, { name := "CASE_INSENSITIVE_ORDER", type := (.object "java/util/Comparator"), accessFlags := 25, slot := 4, constantValue := 0 }, { name := "LATIN1", type := .byte, accessFlags := 24, slot := 5, constantValue := 0 }, { name := "UTF16", type := .byte, accessFlags := 24, slot := 6, constantValue := 0 }]
  methods := #[k7m0, k7m1, k7m2, k7m3, k7m4, k7m5, k7m6, k7m7, k7m8, k7m9, k7m10]
  instanceTypes := #[(.array .byte), .byte, .int, .boolean]
  staticTypes := #[.long, .boolean, (.array (.object "java/io/ObjectStreamField")), .char, (.object "java/util/Comparator"), .byte, .byte]
  resolved := Array.replicate 1451 none
  statics := some 0 }

def pool8 : Array CpInfo := pool [(1, .class_ 2), (0, u "java/lang/String"), (1, .class_ 6), (1, u "java/lang/Object"), (0, u "<init>"), (0, u "()V"), (0, .methodref 1 10), (0, .nameAndType 11 12), (0, u "checkIndex"), (0, u "(II)V"), (1, .class_ 16), (1, u "java/lang/StringLatin1"), (36, u "([BI)C"), (36, u "canEncode"), (14, u "(C)Z"), (15, u "$assertionsDisabled"), (0, u "Z"), (98, .class_ 223), (1, u "java/lang/StringLatin1$LinesSpliterator"), (28, u "charAt"), (28, u "equals"), (0, u "([B[B)Z"), (97, u "toBytes"), (1, u "(C)[B"), (7, .class_ 391), (0, u "java/lang/StringLatin1$CharsSpliterator")] 3

def k8m0 : Method := { name := "<init>", desc := "()V", sig := { parameters := [], returnType := none }, accessFlags := 0, code := none }
def k8c1 : Code := { maxStack := 2, maxLocals := 2, code := jdk_43_method_2_code, exceptionTable := #[], attributes := #[] }
def k8m1 : Method := { name := "charAt", desc := "([BI)C", sig := { parameters := [(.array .byte), .int], returnType := some .char }, accessFlags := 9, code := some k8c1 }
def k8c2 : Code := { maxStack := 2, maxLocals := 1, code := jdk_43_method_3_code, exceptionTable := #[], attributes := #[] }
def k8m2 : Method := { name := "canEncode", desc := "(C)Z", sig := { parameters := [.char], returnType := some .boolean }, accessFlags := 9, code := some k8c2 }
def k8c3 : Code := { maxStack := 3, maxLocals := 3, code := jdk_43_method_13_code, exceptionTable := #[], attributes := #[] }
def k8m3 : Method := { name := "equals", desc := "([B[B)Z", sig := { parameters := [(.array .byte), (.array .byte)], returnType := some .boolean }, accessFlags := 9, code := some k8c3 }
def k8c4 : Code := { maxStack := 4, maxLocals := 1, code := jdk_43_method_46_code, exceptionTable := #[], attributes := #[] }
def k8m4 : Method := { name := "toBytes", desc := "(C)[B", sig := { parameters := [.char], returnType := some (.array .byte) }, accessFlags := 9, code := some k8c4 }
/-- java/lang/StringLatin1 -/
def k8 : Class := { plain "java/lang/StringLatin1" (some 0) with
  accessFlags := 48
  interfaces := #[]
  cf := some (fileOf pool8 14 #[.nestMembers #[390, 221]] #[{ accessFlags := 0, nameIndex := 7, descriptorIndex := 8, attributes := #[] }, { accessFlags := 9, nameIndex := 252, descriptorIndex := 53, attributes := #[] }, { accessFlags := 9, nameIndex := 90, descriptorIndex := 105, attributes := #[] }, { accessFlags := 9, nameIndex := 281, descriptorIndex := 282, attributes := #[] }, { accessFlags := 9, nameIndex := 380, descriptorIndex := 382, attributes := #[] }] 48 4 #[] #[{ accessFlags := 4120, nameIndex := 121, descriptorIndex := 122, attributes := #[] }])
  fields := #[{ name := "$assertionsDisabled", type := .boolean, accessFlags := 4120, slot := 0, constantValue := 0 }]
  methods := #[k8m0, k8m1, k8m2, k8m3, k8m4]
  instanceTypes := #[]
  staticTypes := #[.boolean]
  resolved := Array.replicate 395 none
  statics := none }

def pool9 : Array CpInfo := pool [(2, .class_ 4), (1, u "java/lang/Object"), (0, u "<init>"), (0, u "()V"), (17, .class_ 26), (1, u "jdk/internal/util/Preconditions"), (6, u "checkIndex"), (21, .class_ 56), (0, u "jdk/internal/util/Preconditions$4"), (57, .class_ 115), (0, u "jdk/internal/util/Preconditions$1"), (7, u "SIOOBE_FORMATTER"), (0, u "Ljava/util/function/BiFunction;"), (0, .class_ 126), (0, u "jdk/internal/util/Preconditions$2"), (3, u "AIOOBE_FORMATTER"), (0, .class_ 132), (0, u "jdk/internal/util/Preconditions$3"), (3, u "IOOBE_FORMATTER"), (41, u "(IILjava/util/function/BiFunction;)I")] 15

def k9m0 : Method := { name := "<init>", desc := "()V", sig := { parameters := [], returnType := none }, accessFlags := 1, code := none }
def k9c1 : Code := { maxStack := 3, maxLocals := 3, code := jdk_41_method_11_code, exceptionTable := #[], attributes := #[] }
def k9m1 : Method := { name := "checkIndex", desc := "(IILjava/util/function/BiFunction;)I", sig := { parameters := [.int, .int, (.object "java/util/function/BiFunction")], returnType := some .int }, accessFlags := 9, code := some k9c1 }
/-- jdk/internal/util/Preconditions -/
def k9 : Class := { plain "jdk/internal/util/Preconditions" (some 0) with
  accessFlags := 33
  interfaces := #[]
  cf := some (fileOf pool9 24 #[.nestMembers #[55, 131, 125, 114]] #[{ accessFlags := 1, nameIndex := 5, descriptorIndex := 6, attributes := #[] }, { accessFlags := 9, nameIndex := 33, descriptorIndex := 178, attributes := #[] }] 33 2 #[] #[{ accessFlags := 25, nameIndex := 123, descriptorIndex := 124, attributes := #[] }, { accessFlags := 25, nameIndex := 130, descriptorIndex := 124, attributes := #[] }, { accessFlags := 25, nameIndex := 136, descriptorIndex := 124, attributes := #[] }])
  fields := #[{ name := "SIOOBE_FORMATTER", type := (.object "java/util/function/BiFunction"), accessFlags := 25, slot := 0, constantValue := 0 }, { name := "AIOOBE_FORMATTER", type := (.object "java/util/function/BiFunction"), accessFlags := 25, slot := 1, constantValue := 0 }, { name := "IOOBE_FORMATTER", type := (.object "java/util/function/BiFunction"), accessFlags := 25, slot := 2, constantValue := 0 }]
  methods := #[k9m0, k9m1]
  instanceTypes := #[]
  staticTypes := #[(.object "java/util/function/BiFunction"), (.object "java/util/function/BiFunction"), (.object "java/util/function/BiFunction")]
  resolved := Array.replicate 194 none
  statics := some 1 }

def pool10 : Array CpInfo := pool [(6, .class_ 8), (1, u "java/lang/Object"), (0, u "<init>"), (0, u "()V"), (1, .class_ 14), (1, u "java/lang/StringUTF16"), (31, u "$assertionsDisabled"), (0, u "Z"), (13, u "HI_BYTE_SHIFT"), (0, u "I"), (2, u "LO_BYTE_SHIFT"), (49, .methodref 12 116), (0, .nameAndType 117 118), (0, u "compress"), (0, u "([CI[BII)I"), (3, u "([CII)[B"), (138, u "coderFromArrayLen"), (0, u "([BI)B"), (106, .class_ 371), (1, u "java/lang/StringUTF16$LinesSpliterator"), (58, u "MAX_LENGTH"), (196, .class_ 628), (0, u "java/lang/StringUTF16$CodePointsSpliterator"), (0, .class_ 630), (0, u "java/lang/StringUTF16$CharsSpliterator")] 4

def k10m0 : Method := { name := "<init>", desc := "()V", sig := { parameters := [], returnType := none }, accessFlags := 0, code := none }
def k10c1 : Code := { maxStack := 2, maxLocals := 2, code := jdk_52_method_15_code, exceptionTable := #[], attributes := #[] }
def k10m1 : Method := { name := "coderFromArrayLen", desc := "([BI)B", sig := { parameters := [(.array .byte), .int], returnType := some .byte }, accessFlags := 8, code := some k10c1 }
def k10c2 : Code := { maxStack := 5, maxLocals := 6, code := jdk_52_method_16_code, exceptionTable := #[], attributes := #[] }
def k10m2 : Method := { name := "compress", desc := "([CII)[B", sig := { parameters := [(.array .char), .int, .int], returnType := some (.array .byte) }, accessFlags := 9, code := some k10c2 }
def k10c3 : Code := { maxStack := 3, maxLocals := 7, code := jdk_52_method_21_code, exceptionTable := #[], attributes := #[] }
def k10m3 : Method := { name := "compress", desc := "([CI[BII)I", sig := { parameters := [(.array .char), .int, (.array .byte), .int, .int], returnType := some .int }, accessFlags := 9, code := some k10c3 }
/-- java/lang/StringUTF16 -/
def k10 : Class := { plain "java/lang/StringUTF16" (some 0) with
  accessFlags := 48
  interfaces := #[]
  cf := some (fileOf pool10 12 #[.nestMembers #[627, 629, 369]] #[{ accessFlags := 0, nameIndex := 9, descriptorIndex := 10, attributes := #[] }, { accessFlags := 8, nameIndex := 261, descriptorIndex := 262, attributes := #[] }, { accessFlags := 9, nameIndex := 117, descriptorIndex := 122, attributes := #[] }, { accessFlags := 9, nameIndex := 117, descriptorIndex := 118, attributes := #[] }] 48 6 #[] #[{ accessFlags := 26, nameIndex := 61, descriptorIndex := 62, attributes := #[] }, { accessFlags := 26, nameIndex := 65, descriptorIndex := 62, attributes := #[] }, { accessFlags := 24, nameIndex := 430, descriptorIndex := 62, attributes := #[] }, { accessFlags := 4120, nameIndex := 46, descriptorIndex := 47, attributes := #[] }])
  fields := #[{ name := "HI_BYTE_SHIFT", type := .int, accessFlags := 26, slot := 0, constantValue := 0 }, { name := "LO_BYTE_SHIFT", type := .int, accessFlags := 26, slot := 1, constantValue := 0 }, { name := "MAX_LENGTH", type := .int, accessFlags := 24, slot := 2, constantValue := 0 }, { name := "$assertionsDisabled", type := .boolean, accessFlags := 4120, slot := 3, constantValue := 0 }]
  methods := #[k10m0, k10m1, k10m2, k10m3]
  instanceTypes := #[]
  staticTypes := #[.int, .int, .int, .boolean]
  resolved := Array.replicate 635 none
  statics := none }

def pool11 : Array CpInfo := pool [(1, .methodref 2 3), (0, .class_ 4), (0, .nameAndType 5 6), (0, u "java/lang/Object"), (0, u "<init>"), (0, u "()V"), (0, .class_ 8), (0, u "java/lang/Record")] 13

def k11c0 : Code := { maxStack := 1, maxLocals := 1, code := jdk_30_method_1_code, exceptionTable := #[], attributes := #[] }
def k11m0 : Method := { name := "<init>", desc := "()V", sig := { parameters := [], returnType := none }, accessFlags := 4, code := some k11c0 }
/-- java/lang/Record -/
def k11 : Class := { plain "java/lang/Record" (some 0) with
  accessFlags := 1057
  interfaces := #[]
  cf := some (fileOf pool11 7 #[] #[{ accessFlags := 4, nameIndex := 5, descriptorIndex := 6, attributes := #[] }] 1057 2 #[] #[])
  fields := #[]
  methods := #[k11m0]
  instanceTypes := #[]
  staticTypes := #[]
  resolved := Array.replicate 22 none
  statics := none }

def pool12 : Array CpInfo := pool [(1, .methodref 2 3), (0, .class_ 4), (0, .nameAndType 5 6), (0, u "java/lang/Record"), (0, u "<init>"), (0, u "()V"), (0, .fieldref 8 9), (0, .class_ 10), (0, .nameAndType 11 12), (0, u "com/example/restate/restate/Operation$Target"), (0, u "type"), (0, u "Ljava/lang/String;"), (0, .fieldref 8 14), (0, .nameAndType 15 12), (0, u "name"), (4, u "(Ljava/lang/String;Ljava/lang/String;)V"), (4, u "WHITE_SPACE"), (0, u "Ljava/util/regex/Pattern;"), (21, .class_ 50), (1, u "java/lang/String"), (4, .string 56), (0, u "exhibit"), (0, .methodref 48 58), (0, .nameAndType 59 60), (0, u "equals"), (0, u "(Ljava/lang/Object;)Z"), (0, .string 62), (0, u "schedule"), (6, u "LAST_LABEL"), (3, u "()Z"), (26, u "DEFINITION"), (1, u "SECTION"), (7, u "isAttached"), (11, .class_ 123), (0, u "com/example/restate/restate/Operation")] 30

def k12c0 : Code := { maxStack := 2, maxLocals := 3, code := prog_30_method_1_code, exceptionTable := #[], attributes := #[] }
def k12m0 : Method := { name := "<init>", desc := "(Ljava/lang/String;Ljava/lang/String;)V", sig := { parameters := [(.object "java/lang/String"), (.object "java/lang/String")], returnType := none }, accessFlags := 0, code := some k12c0 }
def k12c1 : Code := { maxStack := 2, maxLocals := 1, code := prog_30_method_6_code, exceptionTable := #[], attributes := #[] }
def k12m1 : Method := { name := "isAttached", desc := "()Z", sig := { parameters := [], returnType := some .boolean }, accessFlags := 0, code := some k12c1 }
/-- com/example/restate/restate/Operation$Target -/
def k12 : Class := { plain "com/example/restate/restate/Operation$Target" (some 11) with
  accessFlags := 48
  interfaces := #[]
  cf := some (fileOf pool12 8 #[.nestHost 122] #[{ accessFlags := 0, nameIndex := 5, descriptorIndex := 20, attributes := #[] }, { accessFlags := 0, nameIndex := 110, descriptorIndex := 73, attributes := #[] }] 48 2 #[] #[{ accessFlags := 18, nameIndex := 11, descriptorIndex := 12, attributes := #[] }, { accessFlags := 18, nameIndex := 15, descriptorIndex := 12, attributes := #[] }, { accessFlags := 24, nameIndex := 100, descriptorIndex := 12, attributes := #[] }, { accessFlags := 24, nameIndex := 102, descriptorIndex := 12, attributes := #[] }, { accessFlags := 26, nameIndex := 69, descriptorIndex := 26, attributes := #[] }, { accessFlags := 26, nameIndex := 25, descriptorIndex := 26, attributes := #[] }])
  fields := #[{ name := "type", type := (.object "java/lang/String"), accessFlags := 18, slot := 0, constantValue := 0 }, { name := "name", type := (.object "java/lang/String"), accessFlags := 18, slot := 1, constantValue := 0 }, { name := "DEFINITION", type := (.object "java/lang/String"), accessFlags := 24, slot := 0, constantValue := 0 }, { name := "SECTION", type := (.object "java/lang/String"), accessFlags := 24, slot := 1, constantValue := 0 }, { name := "LAST_LABEL", type := (.object "java/util/regex/Pattern"), accessFlags := 26, slot := 2, constantValue := 0 }, { name := "WHITE_SPACE", type := (.object "java/util/regex/Pattern"), accessFlags := 26, slot := 3, constantValue := 0 }]
  methods := #[k12m0, k12m1]
  instanceTypes := #[(.object "java/lang/String"), (.object "java/lang/String")]
  staticTypes := #[(.object "java/lang/String"), (.object "java/lang/String"), (.object "java/util/regex/Pattern"), (.object "java/util/regex/Pattern")]
  resolved := Array.replicate 154 none
  statics := none }

def pool13 : Array CpInfo := pool [(9, u "<init>"), (6, .class_ 18), (1, u "java/lang/Object"), (0, u "()V"), (1, .class_ 23), (1, u "jdk/internal/util/ArraysSupport"), (0, u "LOG2_ARRAY_LONG_INDEX_SCALE"), (0, u "I"), (2, u "U"), (0, u "Ljdk/internal/misc/Unsafe;"), (8, u "BIG_ENDIAN"), (0, u "Z"), (8, u "LOG2_BYTE_BIT_SIZE"), (4, u "LOG2_ARRAY_INT_INDEX_SCALE"), (54, u "JLA"), (0, u "Ljdk/internal/access/JavaLangAccess;"), (11, u "LOG2_ARRAY_BOOLEAN_INDEX_SCALE"), (9, u "LOG2_ARRAY_BYTE_INDEX_SCALE"), (5, u "LOG2_ARRAY_CHAR_INDEX_SCALE"), (5, u "LOG2_ARRAY_SHORT_INDEX_SCALE"), (18, u "LOG2_ARRAY_FLOAT_INDEX_SCALE"), (24, u "LOG2_ARRAY_DOUBLE_INDEX_SCALE"), (89, u "T_BOOLEAN"), (2, u "T_CHAR"), (1, u "T_FLOAT"), (1, u "T_DOUBLE"), (1, u "T_BYTE"), (1, u "T_SHORT"), (1, u "T_INT"), (1, u "T_LONG"), (1, u "SOFT_MAX_ARRAY_LENGTH")] 83

def k13m0 : Method := { name := "<init>", desc := "()V", sig := { parameters := [], returnType := none }, accessFlags := 2, code := none }
/-- jdk/internal/util/ArraysSupport -/
def k13 : Class := { plain "jdk/internal/util/ArraysSupport" (some 0) with
  accessFlags := 33
  interfaces := #[]
  cf := some (fileOf pool13 21 #[] #[{ accessFlags := 2, nameIndex := 9, descriptorIndex := 19, attributes := #[] }] 33 16 #[] #[{ accessFlags := 24, nameIndex := 28, descriptorIndex := 29, attributes := #[] }, { accessFlags := 26, nameIndex := 38, descriptorIndex := 39, attributes := #[] }, { accessFlags := 25, nameIndex := 121, descriptorIndex := 25, attributes := #[] }, { accessFlags := 25, nameIndex := 131, descriptorIndex := 25, attributes := #[] }, { accessFlags := 25, nameIndex := 137, descriptorIndex := 25, attributes := #[] }, { accessFlags := 25, nameIndex := 143, descriptorIndex := 25, attributes := #[] }, { accessFlags := 25, nameIndex := 53, descriptorIndex := 25, attributes := #[] }, { accessFlags := 25, nameIndex := 24, descriptorIndex := 25, attributes := #[] }, { accessFlags := 25, nameIndex := 162, descriptorIndex := 25, attributes := #[] }, { accessFlags := 25, nameIndex := 187, descriptorIndex := 25, attributes := #[] }, { accessFlags := 26, nameIndex := 48, descriptorIndex := 25, attributes := #[] }, { accessFlags := 25, nameIndex := 277, descriptorIndex := 25, attributes := #[] }, { accessFlags := 25, nameIndex := 280, descriptorIndex := 25, attributes := #[] }, { accessFlags := 25, nameIndex := 282, descriptorIndex := 25, attributes := #[] }, { accessFlags := 25, nameIndex := 284, descriptorIndex := 25, attributes := #[] }, { accessFlags := 25, nameIndex := 286, descriptorIndex := 25, attributes := #[] }, { accessFlags := 25, nameIndex := 288, descriptorIndex := 25, attributes := #[] }, { accessFlags := 25, nameIndex := 290, descriptorIndex := 25, attributes := #[] }, { accessFlags := 25, nameIndex := 292, descriptorIndex := 25, attributes := #[] }, { accessFlags := 26, nameIndex := 108, descriptorIndex := 109, attributes := #[] }, { accessFlags := 25, nameIndex := 294, descriptorIndex := 25, attributes := #[] }])
  fields := #[{ name := "U", type := (.object "jdk/internal/misc/Unsafe"), accessFlags := 24, slot := 0, constantValue := 0 }, { name := "BIG_ENDIAN", type := .boolean, accessFlags := 26, slot := 1, constantValue := 0 }, { name := "LOG2_ARRAY_BOOLEAN_INDEX_SCALE", type := .int, accessFlags := 25, slot := 2, constantValue := 0 }, { name := "LOG2_ARRAY_BYTE_INDEX_SCALE", type := .int, accessFlags := 25, slot := 3, constantValue := 0 }, { name := "LOG2_ARRAY_CHAR_INDEX_SCALE", type := .int, accessFlags := 25, slot := 4, constantValue := 0 }, { name := "LOG2_ARRAY_SHORT_INDEX_SCALE", type := .int, accessFlags := 25, slot := 5, constantValue := 0 }, { name := "LOG2_ARRAY_INT_INDEX_SCALE", type := .int, accessFlags := 25, slot := 6, constantValue := 0 }, { name := "LOG2_ARRAY_LONG_INDEX_SCALE", type := .int, accessFlags := 25, slot := 7, constantValue := 0 }, { name := "LOG2_ARRAY_FLOAT_INDEX_SCALE", type := .int, accessFlags := 25, slot := 8, constantValue := 0 }, { name := "LOG2_ARRAY_DOUBLE_INDEX_SCALE", type := .int, accessFlags := 25, slot := 9, constantValue := 0 }, { name := "LOG2_BYTE_BIT_SIZE", type := .int, accessFlags := 26, slot := 10, constantValue := 0 }, { name := "T_BOOLEAN", type := .int, accessFlags := 25, slot := 11, constantValue := 0 }, { name := "T_CHAR", type := .int, accessFlags := 25, slot := 12, constantValue := 0 }, { name := "T_FLOAT", type := .int, accessFlags := 25, slot := 13, constantValue := 0 }, { name := "T_DOUBLE", type := .int, accessFlags := 25, slot := 14, constantValue := 0 }, { name := "T_BYTE", type := .int, accessFlags := 25, slot := 15, constantValue := 0 }, { name := "T_SHORT", type := .int, accessFlags := 25, slot := 16, constantValue := 0 }, { name := "T_INT", type := .int, accessFlags := 25, slot := 17, constantValue := 0 }, { name := "T_LONG", type := .int, accessFlags := 25, slot := 18, constantValue := 0 }, { name := "JLA", type := (.object "jdk/internal/access/JavaLangAccess"), accessFlags := 26, slot := 19, constantValue := 0 }, { name := "SOFT_MAX_ARRAY_LENGTH", type := .int, accessFlags := 25, slot := 20, constantValue := 0 }]
  methods := #[k13m0]
  instanceTypes := #[]
  staticTypes := #[(.object "jdk/internal/misc/Unsafe"), .boolean, .int, .int, .int, .int, .int, .int, .int, .int, .int, .int, .int, .int, .int, .int, .int, .int, .int, (.object "jdk/internal/access/JavaLangAccess"), .int]
  resolved := Array.replicate 378 none
  statics := none }

def pool14 : Array CpInfo := pool [(1, u "java/lang/Cloneable"), (0, .class_ 1), (0, u "java/lang/Object"), (0, .class_ 3)] 3

/-- java/lang/Cloneable -/
def k14 : Class := { plain "java/lang/Cloneable" (some 0) with
  accessFlags := 1537
  interfaces := #[]
  cf := some (fileOf pool14 2 #[] #[] 1537 4 #[] #[])
  fields := #[]
  methods := #[]
  instanceTypes := #[]
  staticTypes := #[]
  resolved := Array.replicate 8 none
  statics := none }

/-- the primitive byte -/
def k15 : Class := { plain "byte" none with kind := .primitive 'B', accessFlags := 0x411 }
/-- [B -/
def k16 : Class := { plain "[B" (some 0) with kind := .array 15 .byte, interfaces := #[14, 2], accessFlags := 1041 }

/-- the primitive char -/
def k17 : Class := { plain "char" none with kind := .primitive 'C', accessFlags := 0x411 }
/-- [C -/
def k18 : Class := { plain "[C" (some 0) with kind := .array 17 .char, interfaces := #[14, 2], accessFlags := 1041 }

/-- the primitive int -/
def k19 : Class := { plain "int" none with kind := .primitive 'I', accessFlags := 0x411 }
/-- [I -/
def k20 : Class := { plain "[I" (some 0) with kind := .array 19 .int, interfaces := #[14, 2], accessFlags := 1041 }

def heap : Heap := #[{ cls := 7, slots := #[.long 0, .int 1, .null, .int 0, .null, .int 0, .int 0], vm := .statics 7 },
  { cls := 9, slots := #[.null, .null, .null], vm := .statics 9 }]
def classes : Array Class := #[k0, k1, k2, k3, k4, k5, k6, k7, k8, k9, k10, k11, k12, k13, k14, k15, k16, k17, k18, k19, k20]
def interned : List (Array UInt16 × Addr) := []
def slotsUsed : Nat := 10
def theMethod : MethodId := ⟨1, 1⟩
def args0 : Array Value := #[.int 5, .int 7, .int 3, .int 4, .int 6, .int 9]
def aboutOver (below : List Frame) : State where
  vm := { classes := classes, interned := interned.toArray }
  heap := heap
  slotsUsed := slotsUsed
  threads := #[{ frames := .invoking theMethod args0 :: below }]
def below0 : List Frame := [.native { method := ⟨0, 0⟩, args := #[] }]
def about1 : State := aboutOver below0
def p0 : Program := .bare "" "" ""
def e0 : Env := launch0.env 0 0 0
theorem w_frames : about1.frames = Frame.invoking theMethod args0 :: below0 := rfl
set_option maxRecDepth 65536 in
theorem w_args : argsFit about1.vm theMethod args0 = true := by decide +kernel
set_option maxRecDepth 65536 in
theorem w_heap : heapFits about1 = true := by decide +kernel
set_option maxRecDepth 65536 in
theorem w_runnable : about1.curStatus? = some .runnable := by decide +kernel
set_option maxRecDepth 65536 in
theorem w_alone : about1.alone = true := by decide +kernel
set_option maxRecDepth 65536 in
theorem w_named : about1.methodNamed? x = some theMethod := by decide +kernel
set_option maxRecDepth 65536 in
theorem w_hears : about1.hears theMethod below0 = true := by decide +kernel
set_option maxRecDepth 65536 in
theorem w_ripe : about1.ripe theMethod args0 below0 = true := by decide +kernel
theorem w_running : about1.status = .running := rfl
set_option maxRecDepth 65536 in
theorem w_room : about1.hasRoom e0.platform room_1 = true :=
  launch0.hasRoom_least _ room_1 (by decide +kernel) (by decide +kernel) (by decide +kernel) (by decide +kernel) (by decide +kernel) (by decide +kernel)
theorem allAtoms_all (ts : List Jvm.Cond) (a : Array Jvm.Value) (st : Jvm.State) : (allAtoms ts).before a st = ts.all (fun c => c.before a st) := by
  induction ts with
  | nil => rfl
  | cons c t ih =>
    show (Jvm.Cond.and c (allAtoms t)).before a st = _
    rw [Jvm.Cond.before_and, ih, List.all_cons]
def words1 : List Jvm.Cond := Jvm.Cond.code x code maxLocals ret :: tables_1
/-- a 'code' word, met by the world's own term for the bytes: nothing is compared byte by byte -/
theorem code_word {y : MethodName} {bytes : ByteArray} {mx : Nat} {rt : Option FieldType} {a : Array Value} {s : State} {m : MethodId} {meth : Method} {c : Code} (h1 : s.methodNamed? y = some m) (h2 : s.vm.method? m = some meth) (h3 : meth.code = some c) (h4 : c.code = bytes)
    (h5 : (c.maxLocals == mx && c.exceptionTable.isEmpty && decide (c.maxStack ≤ mostOperands) && decide (meth.sig.returnType = rt) && !meth.locks && decide (parseMethodDescriptor y.desc = some meth.sig)) = true) : (Jvm.Cond.code y bytes mx rt).before a s = true := by
  simp only [Bool.and_eq_true, beq_iff_eq, Bool.not_eq_true', decide_eq_true_eq] at h5
  obtain ⟨⟨⟨⟨⟨g1, g2⟩, g3⟩, g4⟩, g5⟩, g6⟩ := h5
  simp [Cond.before, Cond.holds, Cond.value, h1, h2, h3, h4, g1, g2, g3, g4, g5, g6]
def isCode : Jvm.Cond → Bool
  | .code _ _ _ _ => true
  | _ => false
theorem all_split {L : List Jvm.Cond} {P : Jvm.Cond → Bool} (h1 : L.all (fun c => isCode c || P c) = true) (h2 : ∀ c ∈ L.filter isCode, P c = true) : L.all P = true := by
  refine List.all_eq_true.mpr fun c hc => ?_
  have h := List.all_eq_true.mp h1 c hc
  rcases Bool.eq_false_or_eq_true (isCode c) with hi | hi
  · exact h2 c (List.mem_filter.mpr ⟨hc, hi⟩)
  · simpa [hi] using h
set_option maxRecDepth 65536 in
theorem w_c0 : (Jvm.Cond.code x code maxLocals ret).before args0 about1 = true := code_word (m := ⟨1, 1⟩) (meth := k1m1) (c := k1c1) (by decide +kernel) rfl rfl rfl (by decide +kernel)
set_option maxRecDepth 65536 in
theorem w_c1 : (Jvm.Cond.code ({ cls := "java/lang/String", name := "length", desc := "()I" } : Jvm.MethodName) jdk_42_method_54_code (1 : Nat) (Option.some Jvm.ClassFile.FieldType.int)).before args0 about1 = true := code_word (m := ⟨7, 2⟩) (meth := k7m2) (c := k7c2) (by decide +kernel) rfl rfl rfl (by decide +kernel)
set_option maxRecDepth 65536 in
theorem w_c2 : (Jvm.Cond.code ({ cls := "java/lang/String", name := "coder", desc := "()B" } : Jvm.MethodName) jdk_42_method_152_code (1 : Nat) (Option.some Jvm.ClassFile.FieldType.byte)).before args0 about1 = true := code_word (m := ⟨7, 8⟩) (meth := k7m8) (c := k7c8) (by decide +kernel) rfl rfl rfl (by decide +kernel)
set_option maxRecDepth 65536 in
theorem w_c3 : (Jvm.Cond.code ({ cls := "com/example/restate/restate/TargetIsAttachedPinLaw", name := "at", desc := "(Ljava/lang/String;IC)C" } : Jvm.MethodName) method_3_code (3 : Nat) (Option.some Jvm.ClassFile.FieldType.char)).before args0 about1 = true := code_word (m := ⟨1, 2⟩) (meth := k1m2) (c := k1c2) (by decide +kernel) rfl rfl rfl (by decide +kernel)
set_option maxRecDepth 65536 in
theorem w_c4 : (Jvm.Cond.code ({ cls := "java/lang/String", name := "charAt", desc := "(I)C" } : Jvm.MethodName) jdk_42_method_56_code (2 : Nat) (Option.some Jvm.ClassFile.FieldType.char)).before args0 about1 = true := code_word (m := ⟨7, 3⟩) (meth := k7m3) (c := k7c3) (by decide +kernel) rfl rfl rfl (by decide +kernel)
set_option maxRecDepth 65536 in
theorem w_c5 : (Jvm.Cond.code ({ cls := "java/lang/String", name := "isLatin1", desc := "()Z" } : Jvm.MethodName) jdk_42_method_154_code (1 : Nat) (Option.some Jvm.ClassFile.FieldType.boolean)).before args0 about1 = true := code_word (m := ⟨7, 9⟩) (meth := k7m9) (c := k7c9) (by decide +kernel) rfl rfl rfl (by decide +kernel)
set_option maxRecDepth 65536 in
theorem w_c6 : (Jvm.Cond.code ({ cls := "java/lang/StringLatin1", name := "charAt", desc := "([BI)C" } : Jvm.MethodName) jdk_43_method_2_code (2 : Nat) (Option.some Jvm.ClassFile.FieldType.char)).before args0 about1 = true := code_word (m := ⟨8, 1⟩) (meth := k8m1) (c := k8c1) (by decide +kernel) rfl rfl rfl (by decide +kernel)
set_option maxRecDepth 65536 in
theorem w_c7 : (Jvm.Cond.code ({ cls := "java/lang/String", name := "checkIndex", desc := "(II)V" } : Jvm.MethodName) jdk_42_method_155_code (2 : Nat) (Option.none : Option Jvm.ClassFile.FieldType)).before args0 about1 = true := code_word (m := ⟨7, 10⟩) (meth := k7m10) (c := k7c10) (by decide +kernel) rfl rfl rfl (by decide +kernel)
set_option maxRecDepth 65536 in
theorem w_c8 : (Jvm.Cond.code ({ cls := "jdk/internal/util/Preconditions", name := "checkIndex", desc := "(IILjava/util/function/BiFunction;)I" } : Jvm.MethodName) jdk_41_method_11_code (3 : Nat) (Option.some Jvm.ClassFile.FieldType.int)).before args0 about1 = true := code_word (m := ⟨9, 1⟩) (meth := k9m1) (c := k9c1) (by decide +kernel) rfl rfl rfl (by decide +kernel)
set_option maxRecDepth 65536 in
theorem w_c9 : (Jvm.Cond.code ({ cls := "com/example/restate/restate/TargetIsAttachedPinLaw", name := "cut", desc := "([CI)Ljava/lang/String;" } : Jvm.MethodName) method_4_code (2 : Nat) (Option.some (Jvm.ClassFile.FieldType.object "java/lang/String"))).before args0 about1 = true := code_word (m := ⟨1, 3⟩) (meth := k1m3) (c := k1c3) (by decide +kernel) rfl rfl rfl (by decide +kernel)
set_option maxRecDepth 65536 in
theorem w_c10 : (Jvm.Cond.code ({ cls := "java/lang/String", name := "<init>", desc := "([C)V" } : Jvm.MethodName) jdk_42_method_3_code (2 : Nat) (Option.none : Option Jvm.ClassFile.FieldType)).before args0 about1 = true := code_word (m := ⟨7, 1⟩) (meth := k7m1) (c := k7c1) (by decide +kernel) rfl rfl rfl (by decide +kernel)
set_option maxRecDepth 65536 in
theorem w_c11 : (Jvm.Cond.code ({ cls := "java/lang/String", name := "<init>", desc := "([CIILjava/lang/Void;)V" } : Jvm.MethodName) jdk_42_method_149_code (6 : Nat) (Option.none : Option Jvm.ClassFile.FieldType)).before args0 about1 = true := code_word (m := ⟨7, 6⟩) (meth := k7m6) (c := k7c6) (by decide +kernel) rfl rfl rfl (by decide +kernel)
set_option maxRecDepth 65536 in
theorem w_c12 : (Jvm.Cond.code ({ cls := "java/lang/Object", name := "<init>", desc := "()V" } : Jvm.MethodName) object_method_1_code (1 : Nat) (Option.none : Option Jvm.ClassFile.FieldType)).before args0 about1 = true := code_word (m := ⟨0, 0⟩) (meth := k0m0) (c := k0c0) (by decide +kernel) rfl rfl rfl (by decide +kernel)
set_option maxRecDepth 65536 in
theorem w_c13 : (Jvm.Cond.code ({ cls := "java/lang/StringUTF16", name := "compress", desc := "([CII)[B" } : Jvm.MethodName) jdk_52_method_16_code (6 : Nat) (Option.some (Jvm.ClassFile.FieldType.array Jvm.ClassFile.FieldType.byte))).before args0 about1 = true := code_word (m := ⟨10, 2⟩) (meth := k10m2) (c := k10c2) (by decide +kernel) rfl rfl rfl (by decide +kernel)
set_option maxRecDepth 65536 in
theorem w_c14 : (Jvm.Cond.code ({ cls := "java/lang/StringUTF16", name := "compress", desc := "([CI[BII)I" } : Jvm.MethodName) jdk_52_method_21_code (7 : Nat) (Option.some Jvm.ClassFile.FieldType.int)).before args0 about1 = true := code_word (m := ⟨10, 3⟩) (meth := k10m3) (c := k10c3) (by decide +kernel) rfl rfl rfl (by decide +kernel)
set_option maxRecDepth 65536 in
theorem w_c15 : (Jvm.Cond.code ({ cls := "java/lang/StringUTF16", name := "coderFromArrayLen", desc := "([BI)B" } : Jvm.MethodName) jdk_52_method_15_code (2 : Nat) (Option.some Jvm.ClassFile.FieldType.byte)).before args0 about1 = true := code_word (m := ⟨10, 1⟩) (meth := k10m1) (c := k10c1) (by decide +kernel) rfl rfl rfl (by decide +kernel)
set_option maxRecDepth 65536 in
theorem w_c16 : (Jvm.Cond.code ({ cls := "com/example/restate/restate/Operation$Target", name := "<init>", desc := "(Ljava/lang/String;Ljava/lang/String;)V" } : Jvm.MethodName) prog_30_method_1_code (3 : Nat) (Option.none : Option Jvm.ClassFile.FieldType)).before args0 about1 = true := code_word (m := ⟨12, 0⟩) (meth := k12m0) (c := k12c0) (by decide +kernel) rfl rfl rfl (by decide +kernel)
set_option maxRecDepth 65536 in
theorem w_c17 : (Jvm.Cond.code ({ cls := "java/lang/Record", name := "<init>", desc := "()V" } : Jvm.MethodName) jdk_30_method_1_code (1 : Nat) (Option.none : Option Jvm.ClassFile.FieldType)).before args0 about1 = true := code_word (m := ⟨11, 0⟩) (meth := k11m0) (c := k11c0) (by decide +kernel) rfl rfl rfl (by decide +kernel)
set_option maxRecDepth 65536 in
theorem w_c18 : (Jvm.Cond.code ({ cls := "com/example/restate/restate/Operation$Target", name := "isAttached", desc := "()Z" } : Jvm.MethodName) prog_30_method_6_code (1 : Nat) (Option.some Jvm.ClassFile.FieldType.boolean)).before args0 about1 = true := code_word (m := ⟨12, 1⟩) (meth := k12m1) (c := k12c1) (by decide +kernel) rfl rfl rfl (by decide +kernel)
set_option maxRecDepth 65536 in
theorem w_c19 : (Jvm.Cond.code ({ cls := "java/lang/String", name := "equals", desc := "(Ljava/lang/Object;)Z" } : Jvm.MethodName) jdk_42_method_66_code (3 : Nat) (Option.some Jvm.ClassFile.FieldType.boolean)).before args0 about1 = true := code_word (m := ⟨7, 4⟩) (meth := k7m4) (c := k7c4) (by decide +kernel) rfl rfl rfl (by decide +kernel)
set_option maxRecDepth 65536 in
theorem w_c20 : (Jvm.Cond.code ({ cls := "java/lang/StringLatin1", name := "equals", desc := "([B[B)Z" } : Jvm.MethodName) jdk_43_method_13_code (3 : Nat) (Option.some Jvm.ClassFile.FieldType.boolean)).before args0 about1 = true := code_word (m := ⟨8, 3⟩) (meth := k8m3) (c := k8c3) (by decide +kernel) rfl rfl rfl (by decide +kernel)
set_option maxRecDepth 65536 in
theorem w_c21 : (Jvm.Cond.code ({ cls := "java/lang/String", name := "valueOf", desc := "(C)Ljava/lang/String;" } : Jvm.MethodName) jdk_42_method_139_code (1 : Nat) (Option.some (Jvm.ClassFile.FieldType.object "java/lang/String"))).before args0 about1 = true := code_word (m := ⟨7, 5⟩) (meth := k7m5) (c := k7c5) (by decide +kernel) rfl rfl rfl (by decide +kernel)
set_option maxRecDepth 65536 in
theorem w_c22 : (Jvm.Cond.code ({ cls := "java/lang/StringLatin1", name := "canEncode", desc := "(C)Z" } : Jvm.MethodName) jdk_43_method_3_code (1 : Nat) (Option.some Jvm.ClassFile.FieldType.boolean)).before args0 about1 = true := code_word (m := ⟨8, 2⟩) (meth := k8m2) (c := k8c2) (by decide +kernel) rfl rfl rfl (by decide +kernel)
set_option maxRecDepth 65536 in
theorem w_c23 : (Jvm.Cond.code ({ cls := "java/lang/StringLatin1", name := "toBytes", desc := "(C)[B" } : Jvm.MethodName) jdk_43_method_46_code (1 : Nat) (Option.some (Jvm.ClassFile.FieldType.array Jvm.ClassFile.FieldType.byte))).before args0 about1 = true := code_word (m := ⟨8, 4⟩) (meth := k8m4) (c := k8c4) (by decide +kernel) rfl rfl rfl (by decide +kernel)
set_option maxRecDepth 65536 in
theorem w_c24 : (Jvm.Cond.code ({ cls := "java/lang/String", name := "<init>", desc := "([BB)V" } : Jvm.MethodName) jdk_42_method_151_code (3 : Nat) (Option.none : Option Jvm.ClassFile.FieldType)).before args0 about1 = true := code_word (m := ⟨7, 7⟩) (meth := k7m7) (c := k7c7) (by decide +kernel) rfl rfl rfl (by decide +kernel)
def codes1 : List Jvm.Cond := [Jvm.Cond.code x code maxLocals ret, Jvm.Cond.code ({ cls := "java/lang/String", name := "length", desc := "()I" } : Jvm.MethodName) jdk_42_method_54_code (1 : Nat) (Option.some Jvm.ClassFile.FieldType.int), Jvm.Cond.code ({ cls := "java/lang/String", name := "coder", desc := "()B" } : Jvm.MethodName) jdk_42_method_152_code (1 : Nat) (Option.some Jvm.ClassFile.FieldType.byte), Jvm.Cond.code ({ cls := "com/example/restate/restate/TargetIsAttachedPinLaw", name := "at", desc := "(Ljava/lang/String;IC)C" } : Jvm.MethodName) method_3_code (3 : Nat) (Option.some Jvm.ClassFile.FieldType.char), Jvm.Cond.code ({ cls := "java/lang/String", name := "charAt", desc := "(I)C" } : Jvm.MethodName) jdk_42_method_56_code (2 : Nat) (Option.some Jvm.ClassFile.FieldType.char), Jvm.Cond.code ({ cls := "java/lang/String", name := "isLatin1", desc := "()Z" } : Jvm.MethodName) jdk_42_method_154_code (1 : Nat) (Option.some Jvm.ClassFile.FieldType.boolean), Jvm.Cond.code ({ cls := "java/lang/StringLatin1", name := "charAt", desc := "([BI)C" } : Jvm.MethodName) jdk_43_method_2_code (2 : Nat) (Option.some Jvm.ClassFile.FieldType.char), Jvm.Cond.code ({ cls := "java/lang/String", name := "checkIndex", desc := "(II)V" } : Jvm.MethodName) jdk_42_method_155_code (2 : Nat) (Option.none : Option Jvm.ClassFile.FieldType), Jvm.Cond.code ({ cls := "jdk/internal/util/Preconditions", name := "checkIndex", desc := "(IILjava/util/function/BiFunction;)I" } : Jvm.MethodName) jdk_41_method_11_code (3 : Nat) (Option.some Jvm.ClassFile.FieldType.int), Jvm.Cond.code ({ cls := "com/example/restate/restate/TargetIsAttachedPinLaw", name := "cut", desc := "([CI)Ljava/lang/String;" } : Jvm.MethodName) method_4_code (2 : Nat) (Option.some (Jvm.ClassFile.FieldType.object "java/lang/String")), Jvm.Cond.code ({ cls := "java/lang/String", name := "<init>", desc := "([C)V" } : Jvm.MethodName) jdk_42_method_3_code (2 : Nat) (Option.none : Option Jvm.ClassFile.FieldType), Jvm.Cond.code ({ cls := "java/lang/String", name := "<init>", desc := "([CIILjava/lang/Void;)V" } : Jvm.MethodName) jdk_42_method_149_code (6 : Nat) (Option.none : Option Jvm.ClassFile.FieldType), Jvm.Cond.code ({ cls := "java/lang/Object", name := "<init>", desc := "()V" } : Jvm.MethodName) object_method_1_code (1 : Nat) (Option.none : Option Jvm.ClassFile.FieldType), Jvm.Cond.code ({ cls := "java/lang/StringUTF16", name := "compress", desc := "([CII)[B" } : Jvm.MethodName) jdk_52_method_16_code (6 : Nat) (Option.some (Jvm.ClassFile.FieldType.array Jvm.ClassFile.FieldType.byte)), Jvm.Cond.code ({ cls := "java/lang/StringUTF16", name := "compress", desc := "([CI[BII)I" } : Jvm.MethodName) jdk_52_method_21_code (7 : Nat) (Option.some Jvm.ClassFile.FieldType.int), Jvm.Cond.code ({ cls := "java/lang/StringUTF16", name := "coderFromArrayLen", desc := "([BI)B" } : Jvm.MethodName) jdk_52_method_15_code (2 : Nat) (Option.some Jvm.ClassFile.FieldType.byte), Jvm.Cond.code ({ cls := "com/example/restate/restate/Operation$Target", name := "<init>", desc := "(Ljava/lang/String;Ljava/lang/String;)V" } : Jvm.MethodName) prog_30_method_1_code (3 : Nat) (Option.none : Option Jvm.ClassFile.FieldType), Jvm.Cond.code ({ cls := "java/lang/Record", name := "<init>", desc := "()V" } : Jvm.MethodName) jdk_30_method_1_code (1 : Nat) (Option.none : Option Jvm.ClassFile.FieldType), Jvm.Cond.code ({ cls := "com/example/restate/restate/Operation$Target", name := "isAttached", desc := "()Z" } : Jvm.MethodName) prog_30_method_6_code (1 : Nat) (Option.some Jvm.ClassFile.FieldType.boolean), Jvm.Cond.code ({ cls := "java/lang/String", name := "equals", desc := "(Ljava/lang/Object;)Z" } : Jvm.MethodName) jdk_42_method_66_code (3 : Nat) (Option.some Jvm.ClassFile.FieldType.boolean), Jvm.Cond.code ({ cls := "java/lang/StringLatin1", name := "equals", desc := "([B[B)Z" } : Jvm.MethodName) jdk_43_method_13_code (3 : Nat) (Option.some Jvm.ClassFile.FieldType.boolean), Jvm.Cond.code ({ cls := "java/lang/String", name := "valueOf", desc := "(C)Ljava/lang/String;" } : Jvm.MethodName) jdk_42_method_139_code (1 : Nat) (Option.some (Jvm.ClassFile.FieldType.object "java/lang/String")), Jvm.Cond.code ({ cls := "java/lang/StringLatin1", name := "canEncode", desc := "(C)Z" } : Jvm.MethodName) jdk_43_method_3_code (1 : Nat) (Option.some Jvm.ClassFile.FieldType.boolean), Jvm.Cond.code ({ cls := "java/lang/StringLatin1", name := "toBytes", desc := "(C)[B" } : Jvm.MethodName) jdk_43_method_46_code (1 : Nat) (Option.some (Jvm.ClassFile.FieldType.array Jvm.ClassFile.FieldType.byte)), Jvm.Cond.code ({ cls := "java/lang/String", name := "<init>", desc := "([BB)V" } : Jvm.MethodName) jdk_42_method_151_code (3 : Nat) (Option.none : Option Jvm.ClassFile.FieldType)]
set_option maxRecDepth 65536 in
theorem codes_eq : words1.filter isCode = codes1 := rfl
theorem w_codes : ∀ c ∈ words1.filter isCode, c.before args0 about1 = true := by
  rw [codes_eq]
  intro c hc
  simp only [codes1, List.mem_cons, List.not_mem_nil, or_false] at hc
  rcases hc with rfl | rfl | rfl | rfl | rfl | rfl | rfl | rfl | rfl | rfl | rfl | rfl | rfl | rfl | rfl | rfl | rfl | rfl | rfl | rfl | rfl | rfl | rfl | rfl | rfl
  · exact w_c0
  · exact w_c1
  · exact w_c2
  · exact w_c3
  · exact w_c4
  · exact w_c5
  · exact w_c6
  · exact w_c7
  · exact w_c8
  · exact w_c9
  · exact w_c10
  · exact w_c11
  · exact w_c12
  · exact w_c13
  · exact w_c14
  · exact w_c15
  · exact w_c16
  · exact w_c17
  · exact w_c18
  · exact w_c19
  · exact w_c20
  · exact w_c21
  · exact w_c22
  · exact w_c23
  · exact w_c24
set_option maxRecDepth 65536 in
theorem w_t1 : (words1.take 24).all (fun c => isCode c || c.before args0 about1) = true := by decide +kernel
set_option maxRecDepth 65536 in
theorem w_t2 : ((words1.drop 24).take 24).all (fun c => isCode c || c.before args0 about1) = true := by decide +kernel
set_option maxRecDepth 65536 in
theorem w_t3 : (((words1.drop 24).drop 24).take 24).all (fun c => isCode c || c.before args0 about1) = true := by decide +kernel
set_option maxRecDepth 65536 in
theorem w_t4 : ((((words1.drop 24).drop 24).drop 24).take 24).all (fun c => isCode c || c.before args0 about1) = true := by decide +kernel
set_option maxRecDepth 65536 in
theorem w_t5 : ((((words1.drop 24).drop 24).drop 24).drop 24).all (fun c => isCode c || c.before args0 about1) = true := by decide +kernel
theorem w_tables : (allAtoms (Jvm.Cond.code x code maxLocals ret :: tables_1)).before args0 about1 = true := by
  rw [allAtoms_all]
  show words1.all (fun c => c.before args0 about1) = true
  refine all_split ?_ w_codes
  rw [← List.take_append_drop 24 words1, List.all_append, w_t1, ← List.take_append_drop 24 (words1.drop 24), List.all_append, w_t2, ← List.take_append_drop 24 ((words1.drop 24).drop 24), List.all_append, w_t3, ← List.take_append_drop 24 (((words1.drop 24).drop 24).drop 24), List.all_append, w_t4, w_t5]
  rfl
set_option maxRecDepth 65536 in
theorem w_rest : rest_1_c.before args0 about1 = true := by decide +kernel
set_option maxRecDepth 65536 in
theorem w_case : (Jvm.Cond.and given_1 narrow_1).before args0 about1 = true := by decide +kernel
set_option maxRecDepth 65536 in
theorem w_consts : constsHeld consts_1 about1 := Jvm.Lit.constsHeldB_iff.mp (by decide +kernel)
theorem w_applies : (headSpec (Jvm.Cond.code x code maxLocals ret :: tables_1) room_1).applies x e0.platform about1 = true :=
  (Spec.applies_iff w_frames).mpr ⟨w_running, w_runnable, w_alone, w_named, w_hears, w_ripe, w_room, w_tables⟩
theorem atStart : AtStart classFile x code maxLocals ret World_1 tables_1 room_1 Calls_1 rest_1 Pre_1 launch0 p0 e0 about1 theMethod args0 below0 :=
  ⟨lists_1, trivial, launch0.admits_env _ _ _, launch0.least_env, fairChoices_fair.cas, fairChoices_fair.clock, w_frames, w_args, w_heap, w_applies, ⟨w_consts, trivial⟩, w_rest, w_case⟩
end start1
theorem witness_1 : WitnessClaimed_1 := ⟨start1.p0, start1.e0, start1.about1, start1.theMethod, start1.args0, start1.below0, start1.atStart⟩
end Jvm.Pilot.@@N@@
