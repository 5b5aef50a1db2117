import JvmDerived
import JvmDerived.Pilot.@@N@@Statement
import JvmDerived.Pilot.@@N@@Code
set_option linter.unusedVariables false
set_option linter.unusedSimpArgs false
namespace Jvm.RoadKit
open Sem ClassFile Op Lib Jvm.Stand Jvm.Free Jvm.LawKit
section New
variable {p : Program} {l : Launch} {e : Env} {R : Room} {s : State} {m : MethodId} {args : Array Value} {below : List Frame} {meth : Method} {c : Code} {T : State} {locs : List Loc} {cells slots : Nat}
theorem retI (X : Stand p l e R s m args below meth c T locs cells slots) (hx : p.tables.exec = Jvm.exec) {pc : Nat} {Ls : Array Slot} {z : Int32} {rest : List Value} (hret : meth.sig.returnType = some .int) (hd : decode c.code pc = .ok (.ireturn, 1)) {fs : List Frame}
    (hl : ∀ (f : JFrame) (acts : List Action), f.method = m → f.locked = none → f.entered = [] → (doReturn e (T.setTop f) acts (some (.int z))).1 = T.setFrames fs) : Steps p.tables e below (T.setTop (mkF m pc Ls (.int z :: rest))) (T.setFrames fs) := by
  have hm' : T.vm.method? m = some meth := X.method'
  have hn : narrow .int (.int z) = .int z := rfl
  show Steps p.tables e below (T.setTop { method := m, pc := pc, locals := Ls, stack := _ :: rest, locked := none }) _
  jvm_step X.here [X.here.top, hx, hd, hm', hret, hn]
  first | (intro acts; rw [hl _ acts rfl rfl rfl]) | rw [hl _ _ rfl rfl rfl]
  exact Steps.refl _
end New
end Jvm.RoadKit
/- laws to paste: Road.backArv (cut by pick.py; bodies as the Statement names them) -/
namespace Jvm.Pilot.@@N@@
namespace StrChars
open Jvm Sem ClassFile Op Lib Jvm.Stand Jvm.Free.XT Jvm.Free.ALB Jvm.Free.JM Jvm.Free
open Jvm.Lib.Cold (StaticIs)
/-- a char array whose places are chars -/
def Ch (a : Addr) (A : Cell) (U : State) : Prop := Arr .char a A U ∧ Typed .char A
theorem Ch.mv {a : Addr} {A : Cell} {U U' : State} (h : Ch a A U) (hal : U.vm.Alike U'.vm) (hh : U'.heap = U.heap) : Ch a A U' := ⟨h.1.mv hal hh, h.2⟩
theorem Ch.keep {a : Addr} {A : Cell} {U U' : State} (h : Ch a A U) (hal : U.vm.Alike U'.vm) (hk : U'.heap[a]? = some A) : Ch a A U' := ⟨h.1.keep hal hk, h.2⟩
/-- what place i of a char[]'s cell holds -/
def cv (A : Cell) (i : Nat) : Int32 := match A.slots[i]? with | some (.int x) => x | _ => 0
theorem Ch.get {a : Addr} {A : Cell} {U : State} (h : Ch a A U) {i : Nat} (hi : i < A.slots.size) : A.slots[i]? = some (.int (cv A i)) := by
  have e := Array.getElem?_eq_getElem hi
  have f := h.2 i _ e
  unfold cv; rw [e]
  generalize A.slots[i] = v at f
  cases v <;> simp [fits] at f ⊢
/-- the byte that i2b leaves of a char -/
def lo8 (x : Int32) : Int32 := x.toInt8.toInt32
theorem fits_lo8 (y : Int32) : fits .byte (.int (lo8 y)) = true := by
  have h1 := y.toInt8.le_toInt
  have h2 := y.toInt8.toInt_lt
  simp only [lo8, fits, Bool.and_eq_true, decide_eq_true_eq, Int32.le_iff_toInt_le, Int8.toInt_toInt32, show (-128 : Int32).toInt = -128 from by decide, show (127 : Int32).toInt = 127 from by decide]
  omega
/-- A' is A but that each place j of lo .. hi - 1 holds f j -/
def Laid (A A' : Cell) (lo hi : Nat) (f : Nat → Value) : Prop := A'.cls = A.cls ∧ A'.vm = A.vm ∧ A'.slots.size = A.slots.size ∧ ∀ i, A'.slots[i]? = if lo ≤ i ∧ i < hi then some (f i) else A.slots[i]?
theorem Laid.zero (A : Cell) (lo : Nat) (f : Nat → Value) : Laid A A lo (lo + 0) f := ⟨rfl, rfl, rfl, fun i => by rw [if_neg (by omega)]⟩
theorem Laid.step {A Ak : Cell} {lo k : Nat} {f : Nat → Value} {v : Value} (h : Laid A Ak lo k f) (hlo : lo ≤ k) (hk : k < Ak.slots.size) (hv : v = f k) : Laid A (Ak.setSlot k v) lo (k + 1) f := by
  refine ⟨h.1, h.2.1, by simpa [Cell.setSlot] using h.2.2.1, fun i => ?_⟩
  by_cases e : k = i
  · subst e; rw [Cell.slots_setSlot_self v hk, if_pos (by omega), hv]
  · rw [Cell.slots_setSlot_ne v e, h.2.2.2 i]
    by_cases q : lo ≤ i ∧ i < k
    · rw [if_pos q, if_pos (by omega)]
    · rw [if_neg q, if_neg (by omega)]
def U16 : String := "java/lang/StringUTF16"
namespace Cmp5
def yN : MethodName := ⟨"java/lang/StringUTF16", "compress", "([CI[BII)I"⟩
abbrev yB : ByteArray := jdk_52_method_21_code
theorem d0 : decode yB 0 = .ok (.iconst 0, 1) := by decide +kernel
theorem d1 : decode yB 1 = .ok (.istore 5, 2) := by decide +kernel
theorem d3 : decode yB 3 = .ok (.iload 5, 2) := by decide +kernel
theorem d5 : decode yB 5 = .ok (.iload 4, 2) := by decide +kernel
theorem d7 : decode yB 7 = .ok (.if_icmp (.ge) 37, 3) := by decide +kernel
theorem d10 : decode yB 10 = .ok (.aload_n 0, 1) := by decide +kernel
theorem d11 : decode yB 11 = .ok (.iload_n 1, 1) := by decide +kernel
theorem d12 : decode yB 12 = .ok (.caload, 1) := by decide +kernel
theorem d13 : decode yB 13 = .ok (.istore 6, 2) := by decide +kernel
theorem d15 : decode yB 15 = .ok (.iload 6, 2) := by decide +kernel
theorem d17 : decode yB 17 = .ok (.sipush 255, 3) := by decide +kernel
theorem d20 : decode yB 20 = .ok (.if_icmp (.le) 6, 3) := by decide +kernel
theorem d26 : decode yB 26 = .ok (.aload_n 2, 1) := by decide +kernel
theorem d27 : decode yB 27 = .ok (.iload_n 3, 1) := by decide +kernel
theorem d28 : decode yB 28 = .ok (.iload 6, 2) := by decide +kernel
theorem d30 : decode yB 30 = .ok (.i2b, 1) := by decide +kernel
theorem d31 : decode yB 31 = .ok (.bastore, 1) := by decide +kernel
theorem d32 : decode yB 32 = .ok (.iinc 1 1, 3) := by decide +kernel
theorem d35 : decode yB 35 = .ok (.iinc 3 1, 3) := by decide +kernel
theorem d38 : decode yB 38 = .ok (.iinc 5 1, 3) := by decide +kernel
theorem d41 : decode yB 41 = .ok (.goto (-38), 3) := by decide +kernel
theorem d44 : decode yB 44 = .ok (.iload 4, 2) := by decide +kernel
theorem d46 : decode yB 46 = .ok (.ireturn, 1) := by decide +kernel
def site : List Cond := []
def tab : Cond := tabOf yN yB 7 (some .int) site
def P (b : Addr) (A : Cell) (d : Addr) (B : Cell) (o q len : Nat) (args : Array Value) (s : State) : Prop := args = #[.ref b, .int (Int32.ofNat o), .ref d, .int (Int32.ofNat q), .int (Int32.ofNat len)] ∧ Ch b A s ∧ Arr .byte d B s ∧ b ≠ d ∧ o + len ≤ A.slots.size ∧ q + len ≤ B.slots.size ∧ ∀ i, i < len → ¬ 255 < cv A (o + i)
def E (b : Addr) (A : Cell) (d : Addr) (B : Cell) (o q len : Nat) (r : Option Value) (s u : State) : Prop := r = some (.int (Int32.ofNat len)) ∧ ∃ B', Put d B' s u ∧ Laid B B' q (q + len) (fun j => Value.int (lo8 (cv A (o + (j - q)))))
/-- no char of the range above 255: len; the places written hold each char's low byte -/
theorem law (l : Launch) (b : Addr) (A : Cell) (d : Addr) (B : Cell) (o q len : Nat) : Law l yN 5 5 0 0 yB 7 (some .int) site (P b A d B o q len) (E b A d B o q len) (copyLocs d q len) 0 0 := by
  refine Law.of_walk (plainFor_of_name (by decide +kernel)) (by decide +kernel) (by decide +kernel) (by decide) (fun _ _ h => by rw [h.1]; rfl) (fun _ U U' hal hh h => ⟨h.1, h.2.1.mv hal hh, h.2.2.1.mv hal hh, h.2.2.2⟩) (fun r U U' V V' h1 hal h2 h => ⟨h.1, h.2.elim fun B' q => ⟨B', q.1.mv h1 h2, q.2⟩⟩) ?_
  intro p e s m args below meth c s₁ X0 hexec hbytes hml hret hlk hnm hown hh0 W hP
  obtain ⟨rfl, hA, hB, hne, l1, l2, hp⟩ := hP
  have c1 : Steps p.tables e below (s₁.setTop (entryFrame m #[.ref b, .int (Int32.ofNat o), .ref d, .int (Int32.ofNat q), .int (Int32.ofNat len)] 7)) (s₁.setTop (mkF m 0 #[.val (.ref b), .val (.int (Int32.ofNat o)), .val (.ref d), .val (.int (Int32.ofNat q)), .val (.int (Int32.ofNat len)), .unset, .unset] [])) := entry rfl
  have hA0 := hA.1.mv X0.warmed.alike hh0
  have hB0 := hB.mv X0.warmed.alike hh0
  have a31 := hA.1.2.2.2
  have c2 : Steps p.tables e below (s₁.setTop (entryFrame m #[.ref b, .int (Int32.ofNat o), .ref d, .int (Int32.ofNat q), .int (Int32.ofNat len)] 7)) (s₁.setTop (mkF m 3 #[.val (.ref b), .val (.int (Int32.ofNat o)), .val (.ref d), .val (.int (Int32.ofNat q)), .val (.int (Int32.ofNat len)), .val (.int 0), .unset] [])) := c1.trans (by
    refine iconstV X0.here hexec rfl 0 (hb hbytes d0) (by decide) ?_
    refine XS.istore X0.here hexec rfl (hb hbytes d1) rfl rfl ?_
    exact Steps.refl _)
  have loop : ∀ (r i : Nat), i + r = len → ∀ (z : Slot), (z = .unset ∨ ∃ w, z = .val w ∧ w.category = 1) → ∀ (Tl : State) (Bk : Cell), Stand p l e { frames := 0, locals := 0, cells := 0, slots := 0 } s m #[.ref b, .int (Int32.ofNat o), .ref d, .int (Int32.ofNat q), .int (Int32.ofNat len)] below meth c Tl ([] ++ copyLocs d q i) 0 0 → Put d Bk s₁ Tl → Laid B Bk q (q + i) (fun j => Value.int (lo8 (cv A (o + (j - q))))) →
      Steps p.tables e below (s₁.setTop (entryFrame m #[.ref b, .int (Int32.ofNat o), .ref d, .int (Int32.ofNat q), .int (Int32.ofNat len)] 7)) (Tl.setTop (mkF m 3 #[.val (.ref b), .val (.int (Int32.ofNat (o + i))), .val (.ref d), .val (.int (Int32.ofNat (q + i))), .val (.int (Int32.ofNat len)), .val (.int (Int32.ofNat i)), z] [])) → ∃ (T' : State) (B' : Cell) (z' : Slot), Stand p l e { frames := 0, locals := 0, cells := 0, slots := 0 } s m #[.ref b, .int (Int32.ofNat o), .ref d, .int (Int32.ofNat q), .int (Int32.ofNat len)] below meth c T' ([] ++ copyLocs d q len) 0 0 ∧ Put d B' s₁ T' ∧ Laid B B' q (q + len) (fun j => Value.int (lo8 (cv A (o + (j - q))))) ∧
      Steps p.tables e below (s₁.setTop (entryFrame m #[.ref b, .int (Int32.ofNat o), .ref d, .int (Int32.ofNat q), .int (Int32.ofNat len)] 7)) (T'.setTop (mkF m 3 #[.val (.ref b), .val (.int (Int32.ofNat (o + len))), .val (.ref d), .val (.int (Int32.ofNat (q + len))), .val (.int (Int32.ofNat len)), .val (.int (Int32.ofNat len)), z'] [])) := by
    intro r
    induction r with
    | zero =>
      intro i hi z hz Tl Bk Xl pl fl cl
      have hil : i = len := by omega
      rw [hil] at Xl fl cl
      exact ⟨Tl, Bk, z, Xl, pl, fl, cl⟩
    | succ r ih =>
      intro i hi z hz Tl Bk Xl pl fl cl
      have all := X0.warmed.alike.symm.trans Xl.warmed.alike
      have hAl := hA0.keep all (pl.other hne hA0.1)
      have hBk := hB0.like all pl.1 fl.1 fl.2.1 fl.2.2.1
      have hlt : q + i < Bk.slots.size := by rw [fl.2.2.1]; omega
      have c3 : Steps p.tables e below (s₁.setTop (entryFrame m #[.ref b, .int (Int32.ofNat o), .ref d, .int (Int32.ofNat q), .int (Int32.ofNat len)] 7)) (Tl.setTop (mkF m 12 #[.val (.ref b), .val (.int (Int32.ofNat (o + i))), .val (.ref d), .val (.int (Int32.ofNat (q + i))), .val (.int (Int32.ofNat len)), .val (.int (Int32.ofNat i)), z] [.int (Int32.ofNat (o + i)), .ref b])) := cl.trans (by
        refine XS.iload Xl.here hexec rfl (hb hbytes d3) rfl ?_
        refine XS.iload Xl.here hexec rfl (hb hbytes d5) rfl ?_
        refine XS.icmpNo Xl.here hexec rfl (hb hbytes d7) rfl (ii_ge_f (lt32 (by omega) (by omega))) ?_
        refine XS.aloadN Xl.here hexec rfl (hb hbytes d10) rfl rfl ?_
        refine XS.iloadN Xl.here hexec rfl (hb hbytes d11) rfl ?_
        exact Steps.refl _)
      have c4 : Steps p.tables e below (s₁.setTop (entryFrame m #[.ref b, .int (Int32.ofNat o), .ref d, .int (Int32.ofNat q), .int (Int32.ofNat len)] 7)) (Tl.setTop (mkF m 13 #[.val (.ref b), .val (.int (Int32.ofNat (o + i))), .val (.ref d), .val (.int (Int32.ofNat (q + i))), .val (.int (Int32.ofNat len)), .val (.int (Int32.ofNat i)), z] [.int (cv A (o + i))])) := c3.trans (by
        refine Xl.aget hexec hAl rfl (hA.get (i := o + i) (by omega)) rfl rfl (hb hbytes d12) ?_
        exact Steps.refl _)
      have c5 : Steps p.tables e below (s₁.setTop (entryFrame m #[.ref b, .int (Int32.ofNat o), .ref d, .int (Int32.ofNat q), .int (Int32.ofNat len)] 7)) (Tl.setTop (mkF m 15 #[.val (.ref b), .val (.int (Int32.ofNat (o + i))), .val (.ref d), .val (.int (Int32.ofNat (q + i))), .val (.int (Int32.ofNat len)), .val (.int (Int32.ofNat i)), .val (.int (cv A (o + i)))] [])) := c4.trans (by
        refine XS.istoreS Xl.here hexec rfl (hb hbytes d13) rfl rfl hz ?_
        exact Steps.refl _)
      have c6 : Steps p.tables e below (s₁.setTop (entryFrame m #[.ref b, .int (Int32.ofNat o), .ref d, .int (Int32.ofNat q), .int (Int32.ofNat len)] 7)) (Tl.setTop (mkF m 31 #[.val (.ref b), .val (.int (Int32.ofNat (o + i))), .val (.ref d), .val (.int (Int32.ofNat (q + i))), .val (.int (Int32.ofNat len)), .val (.int (Int32.ofNat i)), .val (.int (cv A (o + i)))] [.int (lo8 (cv A (o + i))), .int (Int32.ofNat (q + i)), .ref d])) := c5.trans (by
        refine XS.iload Xl.here hexec rfl (hb hbytes d15) rfl ?_
        refine sipushV Xl.here hexec rfl 255 (hb hbytes d17) (by decide) ?_
        refine XS.icmpYes Xl.here hexec rfl (pc0 := 20) rfl (hb hbytes d20) rfl (ii_le_t (hp i (by omega))) (by decide) rfl ?_
        refine XS.aloadN Xl.here hexec rfl (hb hbytes d26) rfl rfl ?_
        refine XS.iloadN Xl.here hexec rfl (hb hbytes d27) rfl ?_
        refine XS.iload Xl.here hexec rfl (hb hbytes d28) rfl ?_
        refine i2b Xl.here hexec rfl (hb hbytes d30) rfl ?_
        exact Steps.refl _)
      obtain ⟨T7, X7, p7, st7⟩ := Xl.aput hexec hBk rfl hlt rfl (fits_lo8 (cv A (o + i))) (g := (mkF m 31 #[.val (.ref b), .val (.int (Int32.ofNat (o + i))), .val (.ref d), .val (.int (Int32.ofNat (q + i))), .val (.int (Int32.ofNat len)), .val (.int (Int32.ofNat i)), .val (.int (cv A (o + i)))] [.int (lo8 (cv A (o + i))), .int (Int32.ofNat (q + i)), .ref d])) rfl (rest := []) rfl (hb hbytes d31)
      have c8 : Steps p.tables e below (s₁.setTop (entryFrame m #[.ref b, .int (Int32.ofNat o), .ref d, .int (Int32.ofNat q), .int (Int32.ofNat len)] 7)) (T7.setTop (mkF m 32 #[.val (.ref b), .val (.int (Int32.ofNat (o + i))), .val (.ref d), .val (.int (Int32.ofNat (q + i))), .val (.int (Int32.ofNat len)), .val (.int (Int32.ofNat i)), .val (.int (cv A (o + i)))] [])) := c6.trans (st7 _ (Steps.refl _))
      have c9 : Steps p.tables e below (s₁.setTop (entryFrame m #[.ref b, .int (Int32.ofNat o), .ref d, .int (Int32.ofNat q), .int (Int32.ofNat len)] 7)) (T7.setTop (mkF m 3 #[.val (.ref b), .val (.int (Int32.ofNat (o + i) + 1)), .val (.ref d), .val (.int (Int32.ofNat (q + i) + 1)), .val (.int (Int32.ofNat len)), .val (.int (Int32.ofNat i + 1)), .val (.int (cv A (o + i)))] [])) := c8.trans (by
        refine iincV X7.here hexec rfl 1 (hb hbytes d32) (by decide) rfl rfl ?_
        refine iincV X7.here hexec rfl 1 (hb hbytes d35) (by decide) rfl rfl ?_
        refine iincV X7.here hexec rfl 1 (hb hbytes d38) (by decide) rfl rfl ?_
        refine XS.goto X7.here hexec rfl (pc0 := 41) rfl (hb hbytes d41) (by decide) rfl ?_
        exact Steps.refl _)
      have c10 : Steps p.tables e below (s₁.setTop (entryFrame m #[.ref b, .int (Int32.ofNat o), .ref d, .int (Int32.ofNat q), .int (Int32.ofNat len)] 7)) (T7.setTop (mkF m 3 #[.val (.ref b), .val (.int (Int32.ofNat (o + (i + 1)))), .val (.ref d), .val (.int (Int32.ofNat (q + (i + 1)))), .val (.int (Int32.ofNat len)), .val (.int (Int32.ofNat (i + 1))), .val (.int (cv A (o + i)))] [])) := by
        have := c9
        rw [succ32, succ32, succ32] at this
        exact this
      exact ih (i + 1) (by omega) _ (Or.inr ⟨_, rfl, rfl⟩) T7 _ (by rw [copyLocs_step, ← List.append_assoc]; exact X7) (pl.trans p7) (fl.step (by omega) hlt (by simp)) c10
  obtain ⟨T9, B9, z9, X9, p9, f9, g9⟩ := loop len 0 (by omega) .unset (Or.inl rfl) s₁ B (by simpa [copyLocs] using X0) ⟨hB0.1, fun _ _ => rfl, rfl⟩ (Laid.zero _ _ _) c2
  have c11 : Steps p.tables e below (s₁.setTop (entryFrame m #[.ref b, .int (Int32.ofNat o), .ref d, .int (Int32.ofNat q), .int (Int32.ofNat len)] 7)) (T9.setTop (mkF m 46 #[.val (.ref b), .val (.int (Int32.ofNat (o + len))), .val (.ref d), .val (.int (Int32.ofNat (q + len))), .val (.int (Int32.ofNat len)), .val (.int (Int32.ofNat len)), z9] [.int (Int32.ofNat len)])) := g9.trans (by
    refine XS.iload X9.here hexec rfl (hb hbytes d3) rfl ?_
    refine XS.iload X9.here hexec rfl (hb hbytes d5) rfl ?_
    refine XS.icmpYes X9.here hexec rfl (pc0 := 7) rfl (hb hbytes d7) rfl (ii_ge_t (nlt32 (by omega) (Nat.le_refl _))) (by decide) rfl ?_
    refine XS.iload X9.here hexec rfl (hb hbytes d44) rfl ?_
    exact Steps.refl _)
  exact ⟨T9, some (.int (Int32.ofNat len)), _, _, _, X9, by simp, rfl, rfl, (fun h => by cases h), ⟨rfl, B9, p9.from hh0, f9⟩, fun fs hl => c11.trans (X9.ireturnOut hexec hret rfl (Or.inl rfl) (hb hbytes d46) hl)⟩
end Cmp5
namespace Cmp3
def yN : MethodName := ⟨"java/lang/StringUTF16", "compress", "([CII)[B"⟩
abbrev yB : ByteArray := jdk_52_method_16_code
theorem d0 : decode yB 0 = .ok (.iload_n 2, 1) := by decide +kernel
theorem d1 : decode yB 1 = .ok (.newarray .byte, 2) := by decide +kernel
theorem d3 : decode yB 3 = .ok (.astore_n 3, 1) := by decide +kernel
theorem d4 : decode yB 4 = .ok (.aload_n 0, 1) := by decide +kernel
theorem d5 : decode yB 5 = .ok (.iload_n 1, 1) := by decide +kernel
theorem d6 : decode yB 6 = .ok (.aload_n 3, 1) := by decide +kernel
theorem d7 : decode yB 7 = .ok (.iconst 0, 1) := by decide +kernel
theorem d8 : decode yB 8 = .ok (.iload_n 2, 1) := by decide +kernel
theorem d9 : decode yB 9 = .ok (.invokestatic 115, 3) := by decide +kernel
theorem d12 : decode yB 12 = .ok (.istore 4, 2) := by decide +kernel
theorem d14 : decode yB 14 = .ok (.iload 4, 2) := by decide +kernel
theorem d16 : decode yB 16 = .ok (.iload_n 2, 1) := by decide +kernel
theorem d17 : decode yB 17 = .ok (.if_icmp (.eq) 40, 3) := by decide +kernel
theorem d57 : decode yB 57 = .ok (.aload_n 3, 1) := by decide +kernel
theorem d58 : decode yB 58 = .ok (.areturn, 1) := by decide +kernel
def site : List Cond := [.arrayClass .byte, Cmp5.tab] ++ staticW U16 115 Cmp5.yN
def tab : Cond := tabOf yN yB 6 (some (.array .byte)) site
def P (b : Addr) (A : Cell) (o len : Nat) (args : Array Value) (s : State) : Prop := args = #[.ref b, .int (Int32.ofNat o), .int (Int32.ofNat len)] ∧ Ch b A s ∧ o + len ≤ A.slots.size ∧ len ≤ 536870912 ∧ ∀ i, i < len → ¬ 255 < cv A (o + i)
def E (b : Addr) (A : Cell) (o len : Nat) (r : Option Value) (s u : State) : Prop := NewArr .byte "[B" len (fun j => .int (lo8 (cv A (o + j)))) r s u ∧ u.heap.size = s.heap.size + 1
/-- no char of the range above 255: a new byte[] of their low bytes -/
theorem law (l : Launch) (b : Addr) (A : Cell) (o len : Nat) : Law l yN 3 3 1 18 yB 6 (some (.array .byte)) site (P b A o len) (E b A o len) [] 1 len := by
  refine Law.of_walk (plainFor_of_name (by decide +kernel)) (by decide +kernel) (by decide +kernel) (by decide) (fun _ _ h => by rw [h.1]; rfl) (fun _ U U' hal hh h => ⟨h.1, h.2.1.mv hal hh, h.2.2⟩) (fun r U U' V V' h1 hal h2 h => ⟨NewArr.mv r U U' V V' h1 hal h2 h.1, by rw [h1, h2]; exact h.2⟩) ?_
  intro p e s m args below meth c s₁ X0 hexec hbytes hml hret hlk hnm hown hh0 W hP
  obtain ⟨rfl, hA, l1, l2, hp⟩ := hP
  have a31 := hA.1.2.2.2
  have c1 : Steps p.tables e below (s₁.setTop (entryFrame m #[.ref b, .int (Int32.ofNat o), .int (Int32.ofNat len)] 6)) (s₁.setTop (mkF m 0 #[.val (.ref b), .val (.int (Int32.ofNat o)), .val (.int (Int32.ofNat len)), .unset, .unset, .unset] [])) := entry rfl
  have c2 : Steps p.tables e below (s₁.setTop (entryFrame m #[.ref b, .int (Int32.ofNat o), .int (Int32.ofNat len)] 6)) (s₁.setTop (mkF m 1 #[.val (.ref b), .val (.int (Int32.ofNat o)), .val (.int (Int32.ofNat len)), .unset, .unset, .unset] [.int (Int32.ofNat len)])) := c1.trans (by
    refine XS.iloadN X0.here hexec rfl (hb hbytes d0) rfl ?_
    exact Steps.refl _)
  obtain ⟨T3, B3, X3, ba3, bs3, bv3, bh3, bf3, st3⟩ := X0.anew hexec (atype := .byte) (wk W (.arrayClass .byte)) rfl (by show len * 1 ≤ _; omega) (by omega) (g := (mkF m 1 #[.val (.ref b), .val (.int (Int32.ofNat o)), .val (.int (Int32.ofNat len)), .unset, .unset, .unset] [.int (Int32.ofNat len)])) rfl (hb hbytes d1) (rest := []) rfl (Nat.le_refl _) (by show 0 + len ≤ len; omega)
  rw [hh0] at ba3 st3
  have kp3 : XT.Kept s T3 := (XT.Kept.of_eq hh0).push bh3
  have hA3 := hA.keep X3.warmed.alike (kp3 _ _ hA.1.1)
  have hne : b ≠ s.heap.size := hA.1.ne
  have c4 : Steps p.tables e below (s₁.setTop (entryFrame m #[.ref b, .int (Int32.ofNat o), .int (Int32.ofNat len)] 6)) (T3.setTop (mkF m 3 #[.val (.ref b), .val (.int (Int32.ofNat o)), .val (.int (Int32.ofNat len)), .unset, .unset, .unset] [.ref s.heap.size])) := c2.trans (st3 _ (Steps.refl _))
  have c5 : Steps p.tables e below (s₁.setTop (entryFrame m #[.ref b, .int (Int32.ofNat o), .int (Int32.ofNat len)] 6)) (T3.setTop (mkF m 9 #[.val (.ref b), .val (.int (Int32.ofNat o)), .val (.int (Int32.ofNat len)), .val (.ref s.heap.size), .unset, .unset] [.int (Int32.ofNat len), .int 0, .ref s.heap.size, .int (Int32.ofNat o), .ref b])) := c4.trans (by
    refine XS.astoreN X3.here hexec rfl (hb hbytes d3) rfl rfl rfl ?_
    refine XS.aloadN X3.here hexec rfl (hb hbytes d4) rfl rfl ?_
    refine XS.iloadN X3.here hexec rfl (hb hbytes d5) rfl ?_
    refine XS.aloadN X3.here hexec rfl (hb hbytes d6) rfl rfl ?_
    refine iconstV X3.here hexec rfl 0 (hb hbytes d7) (by decide) ?_
    refine XS.iloadN X3.here hexec rfl (hb hbytes d8) rfl ?_
    exact Steps.refl _)
  obtain ⟨v6, T6, X6, E6, g6⟩ := X3.callS hexec (Cmp5.law l b A s.heap.size B3 o 0 len) hown (wks W (staticW U16 115 Cmp5.yN)) (wk W Cmp5.tab) (W := 0) (Nat.le_of_ble_eq_true rfl) (Nat.le_of_ble_eq_true rfl) (Nat.le_refl _) (by show 0 + len + 0 ≤ len; omega) (g := (mkF m 9 #[.val (.ref b), .val (.int (Int32.ofNat o)), .val (.int (Int32.ofNat len)), .val (.ref s.heap.size), .unset, .unset] [.int (Int32.ofNat len), .int (Int32.ofNat 0), .ref s.heap.size, .int (Int32.ofNat o), .ref b])) rfl (by rw [hml]; rfl) c5 (argsL := [.ref b, .int (Int32.ofNat o), .ref s.heap.size, .int (Int32.ofNat 0), .int (Int32.ofNat len)]) (rest := []) rfl rfl (by show 2 * 0 + 0 ≤ _; decide) (hb hbytes d9) (⟨rfl, hA3, ba3, hne, l1, by rw [bs3]; simp, hp⟩)
  obtain ⟨rfl, B6, p6, f6⟩ := E6
  have c7 : Steps p.tables e below (s₁.setTop (entryFrame m #[.ref b, .int (Int32.ofNat o), .int (Int32.ofNat len)] 6)) (T6.setTop (mkF m 12 #[.val (.ref b), .val (.int (Int32.ofNat o)), .val (.int (Int32.ofNat len)), .val (.ref s.heap.size), .unset, .unset] [.int (Int32.ofNat len)])) := g6
  have c8 : Steps p.tables e below (s₁.setTop (entryFrame m #[.ref b, .int (Int32.ofNat o), .int (Int32.ofNat len)] 6)) (T6.setTop (mkF m 58 #[.val (.ref b), .val (.int (Int32.ofNat o)), .val (.int (Int32.ofNat len)), .val (.ref s.heap.size), .val (.int (Int32.ofNat len)), .unset] [.ref s.heap.size])) := c7.trans (by
    refine XS.istore X6.here hexec rfl (hb hbytes d12) rfl rfl ?_
    refine XS.iload X6.here hexec rfl (hb hbytes d14) rfl ?_
    refine XS.iloadN X6.here hexec rfl (hb hbytes d16) rfl ?_
    refine XS.icmpYes X6.here hexec rfl (pc0 := 17) rfl (hb hbytes d17) rfl (ii_eq_t rfl) (by decide) rfl ?_
    refine XS.aloadN X6.here hexec rfl (hb hbytes d57) rfl rfl ?_
    exact Steps.refl _)
  have X8 := X6.wide (L' := []) (cells' := 1) (slots' := len) (fun x hx hlt => by
    simp only [List.nil_append, copyLocs, List.mem_map, List.mem_range] at hx
    obtain ⟨i, -, rfl⟩ := hx
    exact absurd hlt (Nat.lt_irrefl _)) (Nat.le_refl _) (by omega)
  exact ⟨T6, some (.ref s.heap.size), _, _, _, X8, rfl, rfl, rfl, (fun h => by cases h), ⟨⟨rfl, B6, ba3.like (X3.warmed.alike.symm.trans X6.warmed.alike) p6.1 f6.1 f6.2.1 f6.2.2.1, f6.2.1.trans bv3, by rw [X6.warmed.alike.findClass, f6.1]; exact bf3, by rw [f6.2.2.1, bs3]; simp, fun j hj => by rw [f6.2.2.2 j, if_pos (by omega)]; rfl, kp3.put p6 (Nat.le_refl _)⟩, by rw [p6.2.2, bh3, hh0]; simp⟩, fun fs hl => c8.trans (X8.areturnOut hexec rfl hret rfl (hb hbytes d58) hl)⟩
end Cmp3
namespace CodL
def yN : MethodName := ⟨"java/lang/StringUTF16", "coderFromArrayLen", "([BI)B"⟩
abbrev yB : ByteArray := jdk_52_method_15_code
theorem d0 : decode yB 0 = .ok (.iload_n 1, 1) := by decide +kernel
theorem d1 : decode yB 1 = .ok (.aload_n 0, 1) := by decide +kernel
theorem d2 : decode yB 2 = .ok (.arraylength, 1) := by decide +kernel
theorem d3 : decode yB 3 = .ok (.isub, 1) := by decide +kernel
theorem d4 : decode yB 4 = .ok (.bipush 31, 2) := by decide +kernel
theorem d6 : decode yB 6 = .ok (.iushr, 1) := by decide +kernel
theorem d7 : decode yB 7 = .ok (.i2b, 1) := by decide +kernel
theorem d8 : decode yB 8 = .ok (.ireturn, 1) := by decide +kernel
def site : List Cond := []
def tab : Cond := tabOf yN yB 2 (some .byte) site
def P (d : Addr) (B : Cell) (args : Array Value) (s : State) : Prop := args = #[.ref d, .int (Int32.ofNat B.slots.size)] ∧ Arr .byte d B s
def E (r : Option Value) (s u : State) : Prop := XT.PureE (some (.int 0)) r s u
/-- an array as long as the number of chars: LATIN1 -/
theorem law (l : Launch) (d : Addr) (B : Cell) : Law l yN 2 2 0 0 yB 2 (some .byte) site (P d B) E [] 0 0 := by
  refine Law.of_walk (plainFor_of_name (by decide +kernel)) (by decide +kernel) (by decide +kernel) (by decide) (fun _ _ h => by rw [h.1]; rfl) (fun _ U U' hal hh h => ⟨h.1, h.2.mv hal hh⟩) (fun r U U' V V' h1 hal h2 h => XT.PureE.mv r U U' V V' h1 hal h2 h) ?_
  intro p e s m args below meth c s₁ X0 hexec hbytes hml hret hlk hnm hown hh0 W hP
  obtain ⟨rfl, hB⟩ := hP
  have hB0 := hB.mv X0.warmed.alike hh0
  have c1 : Steps p.tables e below (s₁.setTop (entryFrame m #[.ref d, .int (Int32.ofNat B.slots.size)] 2)) (s₁.setTop (mkF m 0 #[.val (.ref d), .val (.int (Int32.ofNat B.slots.size))] [])) := entry rfl
  have c2 : Steps p.tables e below (s₁.setTop (entryFrame m #[.ref d, .int (Int32.ofNat B.slots.size)] 2)) (s₁.setTop (mkF m 2 #[.val (.ref d), .val (.int (Int32.ofNat B.slots.size))] [.ref d, .int (Int32.ofNat B.slots.size)])) := c1.trans (by
    refine XS.iloadN X0.here hexec rfl (hb hbytes d0) rfl ?_
    refine XS.aloadN X0.here hexec rfl (hb hbytes d1) rfl rfl ?_
    exact Steps.refl _)
  have c3 : Steps p.tables e below (s₁.setTop (entryFrame m #[.ref d, .int (Int32.ofNat B.slots.size)] 2)) (s₁.setTop (mkF m 8 #[.val (.ref d), .val (.int (Int32.ofNat B.slots.size))] [.int (lo8 (ushr (Int32.ofNat B.slots.size - Int32.ofNat B.slots.size) 31))])) := c2.trans (by
    refine X0.alen hexec hB0 rfl rfl (hb hbytes d2) ?_
    refine XS.isub X0.here hexec rfl (hb hbytes d3) rfl ?_
    refine bipushV X0.here hexec rfl 31 (hb hbytes d4) (by decide) ?_
    refine iushr X0.here hexec rfl (hb hbytes d6) rfl ?_
    refine i2b X0.here hexec rfl (hb hbytes d7) rfl ?_
    exact Steps.refl _)
  have e0 : lo8 (ushr (Int32.ofNat B.slots.size - Int32.ofNat B.slots.size) 31) = 0 := by rw [Int32.sub_self]; decide
  rw [e0] at c3
  exact ⟨s₁, some (.int 0), _, _, _, X0, rfl, rfl, rfl, (fun h => by cases h), ⟨rfl, hh0⟩, fun fs hl => c3.trans (X0.ireturnOut hexec hret rfl (Or.inr (Or.inr (Or.inl rfl))) (hb hbytes d8) hl)⟩
end CodL
/-- the String at a is Latin-1 over a new byte[] (the heap's one new cell): the low bytes of the len chars of A from o on; every cell but a is kept -/
def Got (a : Addr) (D : Cell) (fV fC : Field) (A : Cell) (o len : Nat) (r : Option Value) (s u : State) : Prop := r = none ∧ ∃ D' V : Cell, Blank "java/lang/String" a D' u ∧ Same D D' [fV.slot, fC.slot] ∧ D'.slots[fV.slot]? = some (.ref s.heap.size) ∧ D'.slots[fC.slot]? = some (.int 0) ∧ Arr .byte s.heap.size V u ∧ V.vm = .none ∧ u.vm.findClass "[B" = some V.cls ∧ V.slots.size = len ∧ (∀ j, j < len → V.slots[j]? = some (.int (lo8 (cv A (o + j))))) ∧ (∀ (y : Addr) (c : Cell), y ≠ a → s.heap[y]? = some c → u.heap[y]? = some c) ∧ u.heap.size = s.heap.size + 1
theorem Got.mv {a : Addr} {D A : Cell} {fV fC : Field} {o len : Nat} : ∀ r (U U' V V' : State), U'.heap = U.heap → V.vm.Alike V'.vm → V'.heap = V.heap → Got a D fV fC A o len r U V → Got a D fV fC A o len r U' V' :=
  fun r U U' V V' h1 hal h2 ⟨e0, D', X, a1, a2, a3, a4, a5, a6, a7, a8, a9, a10, a11⟩ => ⟨e0, D', X, a1.mv hal h2, a2, by rw [h1]; exact a3, a4, by rw [h1]; exact a5.mv hal h2, a6, by rw [hal.findClass]; exact a7, a8, a9, by rw [h1, h2]; exact a10, by rw [h1, h2]; exact a11⟩
namespace New4
def yN : MethodName := ⟨"java/lang/String", "<init>", "([CIILjava/lang/Void;)V"⟩
abbrev yB : ByteArray := jdk_42_method_149_code
theorem d0 : decode yB 0 = .ok (.aload_n 0, 1) := by decide +kernel
theorem d1 : decode yB 1 = .ok (.invokespecial 1, 3) := by decide +kernel
theorem d4 : decode yB 4 = .ok (.iload_n 3, 1) := by decide +kernel
theorem d5 : decode yB 5 = .ok (.ifCond (.ne) 22, 3) := by decide +kernel
theorem d27 : decode yB 27 = .ok (.getstatic 38, 3) := by decide +kernel
theorem d30 : decode yB 30 = .ok (.ifCond (.eq) 28, 3) := by decide +kernel
theorem d33 : decode yB 33 = .ok (.aload_n 1, 1) := by decide +kernel
theorem d34 : decode yB 34 = .ok (.iload_n 2, 1) := by decide +kernel
theorem d35 : decode yB 35 = .ok (.iload_n 3, 1) := by decide +kernel
theorem d36 : decode yB 36 = .ok (.invokestatic 177, 3) := by decide +kernel
theorem d39 : decode yB 39 = .ok (.astore 5, 2) := by decide +kernel
theorem d41 : decode yB 41 = .ok (.aload_n 0, 1) := by decide +kernel
theorem d42 : decode yB 42 = .ok (.aload 5, 2) := by decide +kernel
theorem d44 : decode yB 44 = .ok (.iload_n 3, 1) := by decide +kernel
theorem d45 : decode yB 45 = .ok (.invokestatic 47, 3) := by decide +kernel
theorem d48 : decode yB 48 = .ok (.putfield 15, 3) := by decide +kernel
theorem d51 : decode yB 51 = .ok (.aload_n 0, 1) := by decide +kernel
theorem d52 : decode yB 52 = .ok (.aload 5, 2) := by decide +kernel
theorem d54 : decode yB 54 = .ok (.putfield 9, 3) := by decide +kernel
theorem d57 : decode yB 57 = .ok (.return_, 1) := by decide +kernel
def site : List Cond := [.fieldLink "java/lang/String" 38 "java/lang/String" "COMPACT_STRINGS" "Z", Cmp3.tab, CodL.tab, .laysFinal "java/lang/String" "java/lang/String" "value" "[B", .fieldLink "java/lang/String" 9 "java/lang/String" "value" "[B", .laysFinal "java/lang/String" "java/lang/String" "coder" "B", .fieldLink "java/lang/String" 15 "java/lang/String" "coder" "B"] ++ objW "java/lang/String" 1 ++ staticW "java/lang/String" 177 Cmp3.yN ++ staticW "java/lang/String" 47 CodL.yN
def tab : Cond := tabOf yN yB 6 none site
def P (a : Addr) (D : Cell) (fV fC : Field) (b : Addr) (A : Cell) (z : Int32) (o len : Nat) (args : Array Value) (s : State) : Prop := args = #[.ref a, .ref b, .int (Int32.ofNat o), .int (Int32.ofNat len), .null] ∧ Blank "java/lang/String" a D s ∧ Found "java/lang/String" "value" "[B" fV s ∧ Found "java/lang/String" "coder" "B" fC s ∧ Ch b A s ∧ StaticIs s "java/lang/String" "COMPACT_STRINGS" "Z" (.int z) ∧ ¬ z = 0 ∧ 0 < len ∧ o + len ≤ A.slots.size ∧ len ≤ 536870912 ∧ ∀ i, i < len → ¬ 255 < cv A (o + i)
def E (a : Addr) (D : Cell) (fV fC : Field) (A : Cell) (o len : Nat) (r : Option Value) (s u : State) : Prop := Got a D fV fC A o len r s u
/-- len > 0, no char of the range above 255: a Latin-1 String of their low bytes -/
theorem law (l : Launch) (a : Addr) (D : Cell) (fV fC : Field) (b : Addr) (A : Cell) (z : Int32) (o len : Nat) : Law l yN 5 4 2 35 yB 6 none site (P a D fV fC b A z o len) (E a D fV fC A o len) [⟨a, fC.slot⟩, ⟨a, fV.slot⟩] 1 len := by
  refine Law.of_walk (plainFor_of_name (by decide +kernel)) (by decide +kernel) (by decide +kernel) (by decide) (fun _ _ h => by rw [h.1]; rfl) (fun _ U U' hal hh h => ⟨h.1, h.2.1.mv hal hh, h.2.2.1.al hal, h.2.2.2.1.al hal, h.2.2.2.2.1.mv hal hh, h.2.2.2.2.2.1.there hal hh, h.2.2.2.2.2.2⟩) (fun r U U' V V' h1 hal h2 h => Got.mv r U U' V V' h1 hal h2 h) ?_
  intro p e s m args below meth c s₁ X0 hexec hbytes hml hret hlk hnm hown hh0 W hP
  obtain ⟨rfl, hB, f1, f2, hA, s1, hz, l0, l1, l2, hp⟩ := hP
  have a31 := hA.1.2.2.2
  have c1 : Steps p.tables e below (s₁.setTop (entryFrame m #[.ref a, .ref b, .int (Int32.ofNat o), .int (Int32.ofNat len), .null] 6)) (s₁.setTop (mkF m 0 #[.val (.ref a), .val (.ref b), .val (.int (Int32.ofNat o)), .val (.int (Int32.ofNat len)), .val .null, .unset] [])) := entry rfl
  have c2 : Steps p.tables e below (s₁.setTop (entryFrame m #[.ref a, .ref b, .int (Int32.ofNat o), .int (Int32.ofNat len), .null] 6)) (s₁.setTop (mkF m 1 #[.val (.ref a), .val (.ref b), .val (.int (Int32.ofNat o)), .val (.int (Int32.ofNat len)), .val .null, .unset] [.ref a])) := c1.trans (by
    refine XS.aloadN X0.here hexec rfl (hb hbytes d0) rfl rfl ?_
    exact Steps.refl _)
  obtain ⟨T3, X3, q3, st3⟩ := X0.oinit hexec hown (wks W (objW "java/lang/String" 1)) (g := (mkF m 1 #[.val (.ref a), .val (.ref b), .val (.int (Int32.ofNat o)), .val (.int (Int32.ofNat len)), .val .null, .unset] [.ref a])) rfl (by rw [hml]; rfl) (rest := []) rfl (hb hbytes d1) (W := 0) (by show 2 * 0 + 0 ≤ _; decide) (Nat.le_of_ble_eq_true rfl) (Nat.le_of_ble_eq_true rfl)
  have hh3 := q3.trans hh0
  have c4 : Steps p.tables e below (s₁.setTop (entryFrame m #[.ref a, .ref b, .int (Int32.ofNat o), .int (Int32.ofNat len), .null] 6)) (T3.setTop (mkF m 27 #[.val (.ref a), .val (.ref b), .val (.int (Int32.ofNat o)), .val (.int (Int32.ofNat len)), .val .null, .unset] [])) := (c2.trans (st3 _ (Steps.refl _))).trans (by
    refine XS.iloadN X3.here hexec rfl (hb hbytes d4) rfl ?_
    refine XS.ifYes X3.here hexec rfl (pc0 := 5) rfl (hb hbytes d5) rfl (i0_ne_t (nz32 (by omega) l0)) (by decide) rfl ?_
    exact Steps.refl _)
  obtain ⟨T5, X5, q5, st5⟩ := X3.sget hexec hown (wk W (.fieldLink "java/lang/String" 38 "java/lang/String" "COMPACT_STRINGS" "Z")) s1 (fun _ _ h => by rw [hh3]; exact h) (g := (mkF m 27 #[.val (.ref a), .val (.ref b), .val (.int (Int32.ofNat o)), .val (.int (Int32.ofNat len)), .val .null, .unset] [])) rfl (hb hbytes d27)
  have hh5 := q5.trans hh3
  have c6 : Steps p.tables e below (s₁.setTop (entryFrame m #[.ref a, .ref b, .int (Int32.ofNat o), .int (Int32.ofNat len), .null] 6)) (T5.setTop (mkF m 30 #[.val (.ref a), .val (.ref b), .val (.int (Int32.ofNat o)), .val (.int (Int32.ofNat len)), .val .null, .unset] [.int z])) := c4.trans (st5 _ (Steps.refl _))
  have c7 : Steps p.tables e below (s₁.setTop (entryFrame m #[.ref a, .ref b, .int (Int32.ofNat o), .int (Int32.ofNat len), .null] 6)) (T5.setTop (mkF m 36 #[.val (.ref a), .val (.ref b), .val (.int (Int32.ofNat o)), .val (.int (Int32.ofNat len)), .val .null, .unset] [.int (Int32.ofNat len), .int (Int32.ofNat o), .ref b])) := c6.trans (by
    refine XS.ifNo X5.here hexec rfl (hb hbytes d30) rfl (i0_eq_f hz) ?_
    refine XS.aloadN X5.here hexec rfl (hb hbytes d33) rfl rfl ?_
    refine XS.iloadN X5.here hexec rfl (hb hbytes d34) rfl ?_
    refine XS.iloadN X5.here hexec rfl (hb hbytes d35) rfl ?_
    exact Steps.refl _)
  obtain ⟨v8, T8, X8, E8, g8⟩ := X5.callS hexec (Cmp3.law l b A o len) hown (wks W (staticW "java/lang/String" 177 Cmp3.yN)) (wk W Cmp3.tab) (W := 0) (Nat.le_of_ble_eq_true rfl) (Nat.le_of_ble_eq_true rfl) (Nat.le_refl _) (by show 0 + len ≤ len; omega) (g := (mkF m 36 #[.val (.ref a), .val (.ref b), .val (.int (Int32.ofNat o)), .val (.int (Int32.ofNat len)), .val .null, .unset] [.int (Int32.ofNat len), .int (Int32.ofNat o), .ref b])) rfl (by rw [hml]; rfl) c7 (argsL := [.ref b, .int (Int32.ofNat o), .int (Int32.ofNat len)]) (rest := []) rfl rfl (by show 2 * 0 + 0 ≤ _; decide) (hb hbytes d36) (⟨rfl, hA.mv X5.warmed.alike hh5, l1, l2, hp⟩)
  obtain ⟨e8, z8⟩ := E8
  obtain ⟨rfl, N, n1, n2, n3, n4, n5, n6⟩ := NewArr.mv _ T5 s _ _ hh5.symm (Vm.Alike.refl _) rfl e8
  rw [hh5] at z8
  have hB1 := hB.keep X8.warmed.alike (n6 _ _ hB.1)
  have hne : s.heap.size ≠ a := (Nat.ne_of_lt (Array.getElem?_eq_some_iff.mp hB.1).1).symm
  have c9 : Steps p.tables e below (s₁.setTop (entryFrame m #[.ref a, .ref b, .int (Int32.ofNat o), .int (Int32.ofNat len), .null] 6)) (T8.setTop (mkF m 39 #[.val (.ref a), .val (.ref b), .val (.int (Int32.ofNat o)), .val (.int (Int32.ofNat len)), .val .null, .unset] [.ref s.heap.size])) := g8
  have c10 : Steps p.tables e below (s₁.setTop (entryFrame m #[.ref a, .ref b, .int (Int32.ofNat o), .int (Int32.ofNat len), .null] 6)) (T8.setTop (mkF m 45 #[.val (.ref a), .val (.ref b), .val (.int (Int32.ofNat o)), .val (.int (Int32.ofNat len)), .val .null, .val (.ref s.heap.size)] [.int (Int32.ofNat N.slots.size), .ref s.heap.size, .ref a])) := by
    have hc : Steps p.tables e below (s₁.setTop (entryFrame m #[.ref a, .ref b, .int (Int32.ofNat o), .int (Int32.ofNat len), .null] 6)) (T8.setTop (mkF m 45 #[.val (.ref a), .val (.ref b), .val (.int (Int32.ofNat o)), .val (.int (Int32.ofNat len)), .val .null, .val (.ref s.heap.size)] [.int (Int32.ofNat len), .ref s.heap.size, .ref a])) := c9.trans (by
      refine XS.astore X8.here hexec rfl (hb hbytes d39) rfl rfl rfl ?_
      refine XS.aloadN X8.here hexec rfl (hb hbytes d41) rfl rfl ?_
      refine XS.aload X8.here hexec rfl (hb hbytes d42) rfl rfl ?_
      refine XS.iloadN X8.here hexec rfl (hb hbytes d44) rfl ?_
      exact Steps.refl _)
    rw [n4]; exact hc
  obtain ⟨v11, T11, X11, E11, g11⟩ := X8.callS hexec (CodL.law l s.heap.size N) hown (wks W (staticW "java/lang/String" 47 CodL.yN)) (wk W CodL.tab) (W := 1) (Nat.le_of_ble_eq_true rfl) (Nat.le_of_ble_eq_true rfl) (Nat.le_refl _) (by show 0 + len + 0 ≤ len; omega) (g := (mkF m 45 #[.val (.ref a), .val (.ref b), .val (.int (Int32.ofNat o)), .val (.int (Int32.ofNat len)), .val .null, .val (.ref s.heap.size)] [.int (Int32.ofNat N.slots.size), .ref s.heap.size, .ref a])) rfl (by rw [hml]; rfl) c10 (argsL := [.ref s.heap.size, .int (Int32.ofNat N.slots.size)]) (rest := [.ref a]) rfl rfl (by show 2 * 0 + (1 + 0) ≤ _; decide) (hb hbytes d45) (⟨rfl, n1⟩)
  obtain ⟨rfl, q11⟩ := E11
  have hB11 := hB1.mv (X8.warmed.alike.symm.trans X11.warmed.alike) q11
  have c12 : Steps p.tables e below (s₁.setTop (entryFrame m #[.ref a, .ref b, .int (Int32.ofNat o), .int (Int32.ofNat len), .null] 6)) (T11.setTop (mkF m 48 #[.val (.ref a), .val (.ref b), .val (.int (Int32.ofNat o)), .val (.int (Int32.ofNat len)), .val .null, .val (.ref s.heap.size)] [.int 0, .ref a])) := g11
  obtain ⟨T13, X13, p13, bl13, sl13, st13⟩ := X11.finit hexec hown (wk W (.fieldLink "java/lang/String" 15 "java/lang/String" "coder" "B")) (Or.inr ⟨_, (wk W (.laysFinal "java/lang/String" "java/lang/String" "coder" "B"))⟩) (Or.inl ⟨rfl, hnm⟩) f2 (Or.inl rfl) hB11 (t := .byte) (by decide +kernel) rfl (g := (mkF m 48 #[.val (.ref a), .val (.ref b), .val (.int (Int32.ofNat o)), .val (.int (Int32.ofNat len)), .val .null, .val (.ref s.heap.size)] [.int 0, .ref a])) rfl (rest := []) rfl (hb hbytes d48)
  have c14 : Steps p.tables e below (s₁.setTop (entryFrame m #[.ref a, .ref b, .int (Int32.ofNat o), .int (Int32.ofNat len), .null] 6)) (T13.setTop (mkF m 54 #[.val (.ref a), .val (.ref b), .val (.int (Int32.ofNat o)), .val (.int (Int32.ofNat len)), .val .null, .val (.ref s.heap.size)] [.ref s.heap.size, .ref a])) := (c12.trans (st13 _ (Steps.refl _))).trans (by
    refine XS.aloadN X13.here hexec rfl (hb hbytes d51) rfl rfl ?_
    refine XS.aload X13.here hexec rfl (hb hbytes d52) rfl rfl ?_
    exact Steps.refl _)
  obtain ⟨T15, X15, p15, bl15, sl15, st15⟩ := X13.finit hexec hown (wk W (.fieldLink "java/lang/String" 9 "java/lang/String" "value" "[B")) (Or.inr ⟨_, (wk W (.laysFinal "java/lang/String" "java/lang/String" "value" "[B"))⟩) (Or.inl ⟨rfl, hnm⟩) f1 (Or.inl rfl) bl13 (t := (.array .byte)) (by decide +kernel) rfl (g := (mkF m 54 #[.val (.ref a), .val (.ref b), .val (.int (Int32.ofNat o)), .val (.int (Int32.ofNat len)), .val .null, .val (.ref s.heap.size)] [.ref s.heap.size, .ref a])) rfl (rest := []) rfl (hb hbytes d54)
  have c16 : Steps p.tables e below (s₁.setTop (entryFrame m #[.ref a, .ref b, .int (Int32.ofNat o), .int (Int32.ofNat len), .null] 6)) (T15.setTop (mkF m 57 #[.val (.ref a), .val (.ref b), .val (.int (Int32.ofNat o)), .val (.int (Int32.ofNat len)), .val .null, .val (.ref s.heap.size)] [])) := c14.trans (st15 _ (Steps.refl _))
  have ap := apart (Or.inr ⟨_, (wk W (.laysFinal "java/lang/String" "java/lang/String" "value" "[B"))⟩) (Or.inr ⟨_, (wk W (.laysFinal "java/lang/String" "java/lang/String" "coder" "B"))⟩) f1 f2 (t₁ := .array .byte) (t₂ := .byte) (by decide +kernel) (by decide +kernel) (by decide)
  have al := X8.warmed.alike.symm.trans X15.warmed.alike
  have n7 : T11.heap[s.heap.size]? = some N := by rw [q11]; exact n1.1
  exact ⟨T15, none, _, _, _, X15, by simp, rfl, by omega, (fun _ => rfl), ⟨rfl, _, N, bl15, ((Same.refl D _).set _ (by simp)).set _ (by simp), sl15, (Cell.slots_setSlot_ne _ ap).trans sl13, n1.keep al (p15.other hne (p13.other hne n7)), n2, by rw [al.findClass]; exact n3, n4, n5, fun y c h1 h2 => p15.other h1 (p13.other h1 (by rw [q11]; exact n6 y c h2)), by rw [p15.2.2, p13.2.2, q11]; exact z8⟩, fun fs hl => c16.trans (X15.returnOut hexec hret (hb hbytes d57) hl)⟩
end New4
namespace New1
def yN : MethodName := ⟨"java/lang/String", "<init>", "([C)V"⟩
abbrev yB : ByteArray := jdk_42_method_3_code
theorem d0 : decode yB 0 = .ok (.aload_n 0, 1) := by decide +kernel
theorem d1 : decode yB 1 = .ok (.aload_n 1, 1) := by decide +kernel
theorem d2 : decode yB 2 = .ok (.iconst 0, 1) := by decide +kernel
theorem d3 : decode yB 3 = .ok (.aload_n 1, 1) := by decide +kernel
theorem d4 : decode yB 4 = .ok (.arraylength, 1) := by decide +kernel
theorem d5 : decode yB 5 = .ok (.aconst_null, 1) := by decide +kernel
theorem d6 : decode yB 6 = .ok (.invokespecial 27, 3) := by decide +kernel
theorem d9 : decode yB 9 = .ok (.return_, 1) := by decide +kernel
def site : List Cond := [New4.tab] ++ initW "java/lang/String" 27 New4.yN
def tab : Cond := tabOf yN yB 2 none site
def P (a : Addr) (D : Cell) (fV fC : Field) (b : Addr) (A : Cell) (z : Int32) (args : Array Value) (s : State) : Prop := args = #[.ref a, .ref b] ∧ Blank "java/lang/String" a D s ∧ Found "java/lang/String" "value" "[B" fV s ∧ Found "java/lang/String" "coder" "B" fC s ∧ Ch b A s ∧ StaticIs s "java/lang/String" "COMPACT_STRINGS" "Z" (.int z) ∧ ¬ z = 0 ∧ 0 < A.slots.size ∧ A.slots.size ≤ 536870912 ∧ ∀ i, i < A.slots.size → ¬ 255 < cv A i
def E (a : Addr) (D : Cell) (fV fC : Field) (A : Cell) (r : Option Value) (s u : State) : Prop := Got a D fV fC A 0 A.slots.size r s u
/-- new String(chars), not empty, no char above 255: a Latin-1 String of their low bytes -/
theorem law (l : Launch) (a : Addr) (D : Cell) (fV fC : Field) (b : Addr) (A : Cell) (z : Int32) : Law l yN 2 1 3 52 yB 2 none site (P a D fV fC b A z) (E a D fV fC A) [⟨a, fC.slot⟩, ⟨a, fV.slot⟩] 1 A.slots.size := by
  refine Law.of_walk (plainFor_of_name (by decide +kernel)) (by decide +kernel) (by decide +kernel) (by decide) (fun _ _ h => by rw [h.1]; rfl) (fun _ U U' hal hh h => ⟨h.1, h.2.1.mv hal hh, h.2.2.1.al hal, h.2.2.2.1.al hal, h.2.2.2.2.1.mv hal hh, h.2.2.2.2.2.1.there hal hh, h.2.2.2.2.2.2⟩) (fun r U U' V V' h1 hal h2 h => Got.mv r U U' V V' h1 hal h2 h) ?_
  intro p e s m args below meth c s₁ X0 hexec hbytes hml hret hlk hnm hown hh0 W hP
  obtain ⟨rfl, hB, f1, f2, hA, s1, hz, l0, l2, hp⟩ := hP
  have c1 : Steps p.tables e below (s₁.setTop (entryFrame m #[.ref a, .ref b] 2)) (s₁.setTop (mkF m 0 #[.val (.ref a), .val (.ref b)] [])) := entry rfl
  have c2 : Steps p.tables e below (s₁.setTop (entryFrame m #[.ref a, .ref b] 2)) (s₁.setTop (mkF m 6 #[.val (.ref a), .val (.ref b)] [.null, .int (Int32.ofNat A.slots.size), .int 0, .ref b, .ref a])) := c1.trans (by
    refine XS.aloadN X0.here hexec rfl (hb hbytes d0) rfl rfl ?_
    refine XS.aloadN X0.here hexec rfl (hb hbytes d1) rfl rfl ?_
    refine iconstV X0.here hexec rfl 0 (hb hbytes d2) (by decide) ?_
    refine XS.aloadN X0.here hexec rfl (hb hbytes d3) rfl rfl ?_
    refine X0.alen hexec (hA.1.mv X0.warmed.alike hh0) rfl rfl (hb hbytes d4) ?_
    refine XS.aconstNull X0.here hexec rfl (hb hbytes d5) ?_
    exact Steps.refl _)
  obtain ⟨v3, T3, X3, E3, g3⟩ := X0.callN hexec (New4.law l a D fV fC b A z 0 A.slots.size) rfl hown (wks W (initW "java/lang/String" 27 New4.yN)) (W New4.tab (by simp only [site, List.mem_cons, List.mem_append, true_or, or_true])) (W := 0) (Nat.le_of_ble_eq_true rfl) (Nat.le_of_ble_eq_true rfl) (Nat.le_refl _) (by show 0 + A.slots.size ≤ A.slots.size; omega) (g := (mkF m 6 #[.val (.ref a), .val (.ref b)] [.null, .int (Int32.ofNat A.slots.size), .int (Int32.ofNat 0), .ref b, .ref a])) rfl (by rw [hml]; rfl) c2 (argsL := [.ref b, .int (Int32.ofNat 0), .int (Int32.ofNat A.slots.size), .null]) (rest := []) rfl rfl (by show 2 * 0 + 0 ≤ _; decide) (hb hbytes d6) (⟨rfl, hB.mv X0.warmed.alike hh0, f1.al X0.warmed.alike, f2.al X0.warmed.alike, hA.mv X0.warmed.alike hh0, s1.there X0.warmed.alike hh0, hz, l0, by omega, l2, fun i hi => by rw [Nat.zero_add]; exact hp i hi⟩)
  have e0 := Got.mv _ s₁ s _ _ hh0.symm (Vm.Alike.refl _) rfl E3
  obtain rfl := e0.1
  have c4 : Steps p.tables e below (s₁.setTop (entryFrame m #[.ref a, .ref b] 2)) (T3.setTop (mkF m 9 #[.val (.ref a), .val (.ref b)] [])) := g3
  exact ⟨T3, none, _, _, _, X3, by simp, rfl, by omega, (fun _ => rfl), e0, fun fs hl => c4.trans (X3.returnOut hexec hret (hb hbytes d9) hl)⟩
theorem pays {l : Launch} {R : Room} {p : Program} {e : Env} {below : List Frame} {s : State} {sargs : Array Value} {len W : Nat} (a : Addr) (D : Cell) (fV fC : Field) (b : Addr) (A : Cell) (z : Int32) (htab : tab.before sargs s = true) (hfr : 4 ≤ R.frames) (hlo : W + 65 ≤ R.locals) :
    Back l R p e below s sargs yN len W (fun A₁ a₁ => A₁.cells + 1 ≤ R.cells ∧ A₁.slots + A.slots.size ≤ R.slots ∧ P a D fV fC b A z a₁ A₁.U) (fun A₁ _ v₁ B₁ => E a D fV fC A v₁ A₁.U B₁.U ∧ B₁.locs = A₁.locs ++ [⟨a, fC.slot⟩, ⟨a, fV.slot⟩] ∧ B₁.cells = A₁.cells + 1 ∧ B₁.slots = A₁.slots + A.slots.size) :=
  (law l a D fV fC b A z).pays htab hfr (by omega)
end New1
end StrChars
namespace StrChars.Road
open Jvm Sem ClassFile Op Lib Jvm.Stand Jvm.Free Jvm.Free.XT
open Jvm.Lib.Cold (StaticIs)
abbrev ST : String := "java/lang/String"
/-- every table word that New1's law asks, flat -/
abbrev words : List Jvm.Cond := [.code New1.yN New1.yB 2 none, .initialized ST, .methodLink ST 27 New4.yN, .instanceMethod New4.yN,
  .code New4.yN New4.yB 6 none, .fieldLink ST 38 ST "COMPACT_STRINGS" "Z", .laysFinal ST ST "value" "[B", .fieldLink ST 9 ST "value" "[B", .laysFinal ST ST "coder" "B", .fieldLink ST 15 ST "coder" "B",
  .methodLink ST 1 Lib.objectInit, .instanceMethod Lib.objectInit, .code Lib.objectInit ⟨#[0xb1]⟩ 1 none, .methodLink ST 177 Cmp3.yN, .static Cmp3.yN, .methodLink ST 47 CodL.yN, .static CodL.yN,
  .code Cmp3.yN Cmp3.yB 6 (some (.array .byte)), .initialized U16, .arrayClass .byte, .methodLink U16 115 Cmp5.yN, .static Cmp5.yN, .code Cmp5.yN Cmp5.yB 7 (some .int), .code CodL.yN CodL.yB 2 (some .byte)]
theorem tab_of {a : Array Value} {s : State} (h : ∀ w ∈ words, w.before a s = true) : New1.tab.before a s = true := by
  have h5 : Cmp5.tab.before a s = true := unparts (wk h (.code Cmp5.yN Cmp5.yB 7 (some .int))) (wks h (.initialized Cmp5.yN.cls :: Cmp5.site))
  have hc : CodL.tab.before a s = true := unparts (wk h (.code CodL.yN CodL.yB 2 (some .byte))) (wks h (.initialized CodL.yN.cls :: CodL.site))
  have q5 : ∀ w ∈ Cmp5.tab :: words, w.before a s = true := fun w hw => (List.mem_cons.mp hw).elim (fun e => e ▸ h5) (h w)
  have h3 : Cmp3.tab.before a s = true := unparts (wk q5 (.code Cmp3.yN Cmp3.yB 6 (some (.array .byte)))) (wks q5 (.initialized Cmp3.yN.cls :: Cmp3.site))
  have q3 : ∀ w ∈ Cmp3.tab :: CodL.tab :: words, w.before a s = true := fun w hw => (List.mem_cons.mp hw).elim (fun e => e ▸ h3) fun hw => (List.mem_cons.mp hw).elim (fun e => e ▸ hc) (h w)
  have h4 : New4.tab.before a s = true := unparts (wk q3 (.code New4.yN New4.yB 6 none)) (wks q3 (.initialized New4.yN.cls :: New4.site))
  have q4 : ∀ w ∈ New4.tab :: words, w.before a s = true := fun w hw => (List.mem_cons.mp hw).elim (fun e => e ▸ h4) (h w)
  exact unparts (wk q4 (.code New1.yN New1.yB 2 none)) (wks q4 (.initialized New1.yN.cls :: New1.site))
/-- the words ride from the start Z to the walk's own state -/
theorem moved {Z s : State} {a0 args : Array Value} (hZ : Z.Warmed39 s.vm) (hw : ∀ d ∈ words, d.before a0 Z = true) : ∀ d ∈ words, d.before args s = true := fun d hd => by
  have q := hw d hd
  have t : ∀ d ∈ words, d = .arrayClass .byte ∨ (d.onTables && d.keepsFace) = true := by decide +kernel
  rcases t d hd with rfl | t
  · exact RoadKit.mvA hZ q
  · exact RoadKit.mv hZ q t
/-- WHAT COMES BACK, over the tables of the start Z: h the heap at the call, h' behind it -/
def Q (Z : State) (x : Addr) (A : Cell) (h : Heap) (v : Option Value) (h' : Heap) (L : List Loc) : Prop := v = none ∧ (∀ y ∈ L, y.base = x) ∧ RoadKit.Keep h h' [x] ∧ h'.size = h.size + 1 ∧ RoadKit.Exa Z h' x ST ∧ RoadKit.Fld Z h' x ST "value" "[B" (.ref h.size) ∧ RoadKit.Fld Z h' x ST "coder" "B" (.int 0) ∧
  (∃ V : Cell, RoadKit.Arr Z h' h.size V .byte ∧ V.vm = .none ∧ Z.vm.findClass "[B" = some V.cls ∧ V.slots.size = A.slots.size ∧ ∀ j, j < A.slots.size → V.slots[j]? = some (.int (lo8 (cv A j)))) ∧
  ∀ (O n d : String) (w : Value), RoadKit.Fld Z h x O n d w → RoadKit.slotOf Z O n d ≠ RoadKit.slotOf Z ST "value" "[B" → RoadKit.slotOf Z O n d ≠ RoadKit.slotOf Z ST "coder" "B" → RoadKit.Fld Z h' x O n d w
/-- **new String(chars) AT A CALL, IN THE ROAD'S FORM**: for specialBack behind newO: x the fresh String, b the char[] with the cell A -/
theorem back {p : Program} {l : Launch} {e : Env} {R : Room} {s : State} {args : Array Value} {below : List Frame} {len W : Nat} {Z : State} {a0 : Array Value} {h : Heap} (hZ : Z.Warmed39 s.vm) (hw : ∀ d ∈ words, d.before a0 Z = true) {kI : Nat} (wi : (Jvm.Cond.instantiable ST kI).before a0 Z = true)
    {x b : Addr} {A : Cell} {z : Int32} {v0 c0 : Value} (E : RoadKit.Exa Z h x ST) (V : RoadKit.Fld Z h x ST "value" "[B" v0) (C : RoadKit.Fld Z h x ST "coder" "B" c0) (K : RoadKit.Arr Z h b A .char) (hty : Typed .char A) (S : RoadKit.Sta Z h ST "COMPACT_STRINGS" "Z" (.int z)) (hz : ¬ z = 0)
    (l0 : 0 < A.slots.size) (l2 : A.slots.size ≤ 536870912) (hp : ∀ i, i < A.slots.size → ¬ 255 < cv A i) (hfr : 4 ≤ R.frames) (hlo : W + 65 ≤ R.locals) :
    Back l R p e below s args New1.yN len W (fun P a => a = #[.ref x, .ref b] ∧ P.U.heap = h ∧ P.cells + 1 ≤ R.cells ∧ P.slots + A.slots.size ≤ R.slots)
      (fun P _ v B => ∃ L, Q Z x A h v B.U.heap L ∧ B.locs = P.locs ++ L ∧ B.cells = P.cells + 1 ∧ B.slots = P.slots + A.slots.size) := by
  intro m meth c P g ig mk a X hg hsize hdg hW hn hp'
  obtain ⟨rfl, rfl, r1, r2⟩ := hp'
  have al : Z.vm.Alike P.U.vm := hZ.alike.trans X.warmed.alike
  obtain ⟨D, cfV, kV, iV, fV, hD, gV, stV, knV, obV, asV, slV⟩ := id V
  obtain ⟨D', cfC, kC, iC, fC, hD', gC, stC, -, -, asC, slC⟩ := id C
  cases hD.symm.trans hD'
  obtain ⟨D2, kD, e1, e2, e3, e4, e5⟩ := id E
  cases hD.symm.trans e1
  obtain ⟨c2, k2, i1, i2, i3, -⟩ := Cond.instantiable_spec wi
  cases e2.symm.trans i1
  cases e3.symm.trans i2
  obtain ⟨kU, u1, u2⟩ := al.2.2 _ _ e3
  have hB : Blank ST x D P.U := ⟨hD, ⟨knV, fun q hq => by rw [hq] at obV; cases obV⟩, by rw [al.findClass]; exact e2, kU, u1, by rw [u2]; exact i3, by rw [u2]; exact e5 i3⟩
  have F1 : Found ST "value" "[B" fV P.U := ⟨SBG.found_only al ⟨cfV, kV, iV, gV⟩, stV⟩
  have F2 : Found ST "coder" "B" fC P.U := ⟨SBG.found_only al ⟨cfC, kC, iC, gC⟩, stC⟩
  have hA : Ch b A P.U := ⟨⟨K.1, State.isArrayOf_alike al K.2.1, K.2.2, by omega⟩, hty⟩
  have hS : StaticIs P.U ST "COMPACT_STRINGS" "Z" (.int z) := by
    obtain ⟨cfS, iS, kS, fS, st, cS, t1, t2, t3, t4, t5, t6, t7⟩ := S
    exact StaticIs.there (s := { Z with heap := P.U.heap }) ⟨cfS, iS, kS, fS, st, cS, t1, t2, t3, t4, t5, (fun q => by rw [q] at t6; cases t6), t7⟩ al rfl
  obtain ⟨v, B, X', ⟨⟨hv, E', V', q1, q2, q3, q4, q5, q6, q7, q8, q9, q10, q11⟩, hl, hc, hs⟩, st⟩ := New1.pays x D fV fC b A z (tab_of (moved hZ hw)) hfr hlo m meth c P g ig mk _ X hg hsize hdg hW hn ⟨r1, r2, rfl, hB, F1, F2, hA, hS, hz, l0, l2, hp⟩
  have al' : Z.vm.Alike B.U.vm := hZ.alike.trans X'.warmed.alike
  have hsz : E'.slots.size = D.slots.size := by
    obtain ⟨-, -, -, kB, w1, w2, w3⟩ := q1
    obtain ⟨kB', y1, y2⟩ := al'.2.2 _ _ e3
    rw [q2.2.1] at w1
    cases w1.symm.trans y1
    rw [w3, e5 i3, y2]
  refine ⟨v, B, X', ⟨_, ⟨hv, ?_, ⟨by omega, fun y cy hy hn' => q10 y cy (by simpa using hn') hy, fun y cy hy => ?_⟩, q11, ⟨E', _, q1.1, by rw [q2.2.1]; exact e2, by rw [q2.2.1]; exact e3, by rw [q2.1]; exact obV, fun _ => by rw [hsz]; exact e5 i3⟩,
    ⟨E', cfV, kV, iV, fV, q1.1, gV, stV, by rw [q2.1]; exact knV, by rw [q2.1]; exact obV, by rw [q2.2.1]; exact asV, q3⟩, ⟨E', cfC, kC, iC, fC, q1.1, gC, stC, by rw [q2.1]; exact knV, by rw [q2.1]; exact obV, by rw [q2.2.1]; exact asC, q4⟩,
    ⟨V', ⟨q5.1, State.isArrayOf_alike al'.symm q5.2.1, q5.2.2.1⟩, q6, by rw [← al'.findClass]; exact q7, q8, fun j hj => by have := q9 j hj; rwa [Nat.zero_add] at this⟩, fun O n d w F n1 n2 => ?_⟩, hl, hc, hs⟩, st⟩
  · intro y hy
    simp only [List.mem_cons, List.not_mem_nil, or_false] at hy
    rcases hy with rfl | rfl <;> rfl
  · by_cases q : y = x
    · subst q
      cases hD.symm.trans hy
      exact ⟨E', q1.1, q2.2.1, q2.1, hsz⟩
    · exact ⟨cy, q10 y cy q hy, rfl, rfl, rfl⟩
  · obtain ⟨D3, cf, k, i, f, g1, g2, g3, g4, g5, g6, g7⟩ := F
    cases hD.symm.trans g1
    simp only [RoadKit.slotOf, g2, gV, gC, Option.map_some, Option.getD_some] at n1 n2
    exact ⟨E', cf, k, i, f, q1.1, g2, g3, by rw [q2.1]; exact g4, by rw [q2.1]; exact g5, by rw [q2.2.1]; exact g6, by rw [q2.2.2 f.slot (by simp [n1, n2])]; exact g7⟩
end StrChars.Road
namespace StrChars.Road
open Jvm Sem ClassFile Op Lib Jvm.Stand Jvm.Free Jvm.Free.XT
/-- WHAT COMES BACK, the byte[] as a list of values -/
def QA (Z : State) (x : Addr) (zn : Int32) (cs : List Int32) (h : Heap) (v : Option Value) (h' : Heap) (L : List Loc) : Prop := v = none ∧ (∀ y ∈ L, y.base = x) ∧ RoadKit.Keep h h' [x] ∧ h'.size = h.size + 1 ∧ RoadKit.Exa Z h' x ST ∧ RoadKit.Fld Z h' x ST "value" "[B" (.ref h.size) ∧ RoadKit.Fld Z h' x ST "coder" "B" (.int 0) ∧
  (∃ kb, Z.vm.findClass "[B" = some kb ∧ RoadKit.Arv Z h' h.size kb .byte zn (cs.map fun c => .int (lo8 c)) (.int 0)) ∧
  ∀ (O n d : String) (w : Value), RoadKit.Fld Z h x O n d w → RoadKit.slotOf Z O n d ≠ RoadKit.slotOf Z ST "value" "[B" → RoadKit.slotOf Z O n d ≠ RoadKit.slotOf Z ST "coder" "B" → RoadKit.Fld Z h' x O n d w
/-- **new String(chars) AT A CALL, THE ARRAYS AS LISTS**: the char[] at b holds cs, not empty, no char above 255 -/
theorem backArv {p : Program} {l : Launch} {e : Env} {R : Room} {s : State} {args : Array Value} {below : List Frame} {len W : Nat} {Z : State} {a0 : Array Value} {h : Heap} (hZ : Z.Warmed39 s.vm) (hw : ∀ d ∈ words, d.before a0 Z = true) {kI : Nat} (wi : (Jvm.Cond.instantiable ST kI).before a0 Z = true)
    {x b : Addr} {k : ClassId} {zn z : Int32} {cs : List Int32} {dv v0 c0 : Value} (E : RoadKit.Exa Z h x ST) (V : RoadKit.Fld Z h x ST "value" "[B" v0) (C : RoadKit.Fld Z h x ST "coder" "B" c0) (K : RoadKit.Arv Z h b k .char zn (cs.map Value.int) dv) (S : RoadKit.Sta Z h ST "COMPACT_STRINGS" "Z" (.int z)) (hz : ¬ z = 0)
    (hlen : zn.toNatClampNeg = cs.length) (h0 : 0 < cs.length) (hbig : cs.length ≤ 536870912) (hall : ∀ c ∈ cs, ¬ 255 < c) (hfr : 4 ≤ R.frames) (hlo : W + 65 ≤ R.locals) :
    Back l R p e below s args New1.yN len W (fun P a => a = #[.ref x, .ref b] ∧ P.U.heap = h ∧ P.cells + 1 ≤ R.cells ∧ P.slots + cs.length ≤ R.slots)
      (fun P _ v B => ∃ L, QA Z x zn cs h v B.U.heap L ∧ B.locs = P.locs ++ L ∧ B.cells = P.cells + 1 ∧ B.slots = P.slots + cs.length) := by
  obtain ⟨A, K1, K2, K3, K4, K5, K6⟩ := K
  have e : A.slots.size = cs.length := K3.trans hlen
  have hat : ∀ (i : Nat) (hi : i < cs.length), A.slots[i]? = some (.int cs[i]) := fun i hi => by rw [K5 i (by omega)]; simp [List.getD_eq_getElem?_getD, hi]
  have hcv : ∀ (i : Nat) (hi : i < cs.length), cv A i = cs[i] := fun i hi => by unfold cv; rw [hat i hi]
  have hty : Typed .char A := fun i v hv => by
    have hi : i < A.slots.size := (Array.getElem?_eq_some_iff.mp hv).1
    have q := K5 i hi
    rw [hv] at q
    rw [Option.some.inj q]
    exact K6 i hi
  refine Back.mono (back hZ hw wi E V C K1 hty S hz (by omega) (by omega) (fun i hi => by rw [hcv i (by omega)]; exact hall _ (List.getElem_mem _)) hfr hlo) (fun P a hp => ⟨hp.1, hp.2.1, hp.2.2.1, by rw [e]; exact hp.2.2.2⟩) (fun P a v B hp hq => ?_)
  obtain ⟨L, ⟨q1, q2, q3, q4, q5, q6, q7, ⟨V', v1, v2, v3, v4, v5⟩, q9⟩, hl, hc, hs⟩ := hq
  refine ⟨L, ⟨q1, q2, q3, q4, q5, q6, q7, ⟨V'.cls, v3, V', v1, rfl, by rw [v4, e, hlen], K4, fun i hi => ?_, fun i hi => ?_⟩, q9⟩, hl, hc, by rw [hs, e]⟩
  · have hi' : i < cs.length := by omega
    rw [v5 i (by omega), hcv i hi']; simp [List.getD_eq_getElem?_getD, hi']
  · have hi' : i < cs.length := by omega
    simp only [List.getD_eq_getElem?_getD, List.getElem?_map, List.getElem?_eq_getElem hi', Option.map_some, Option.getD_some]
    exact fits_lo8 _
end StrChars.Road
end Jvm.Pilot.@@N@@

namespace Jvm.Pilot.@@N@@
open Jvm Jvm.ClassFile Sem Op Lib Jvm.Free Jvm.Stand Jvm.LawKit Jvm.RoadKit Bundle Jvm.Pilot.@@N@@.Jvm.D
def own_Go (tb : Tables) (e : Env) (below : List Frame) (K : State → Outcome → Prop) (S : State) : Prop := ∃ t o, Steps tb e below S t ∧ K t o
theorem own_Go.by {tb : Tables} {e : Env} {below : List Frame} {K : State → Outcome → Prop} {S S' : State} (h : ∀ t, Steps tb e below S' t → Steps tb e below S t) (g : own_Go tb e below K S') : own_Go tb e below K S := by
  obtain ⟨t, o, a, b⟩ := g
  exact ⟨t, o, h t a, b⟩
theorem own_Go.fin {tb : Tables} {e : Env} {below : List Frame} {K : State → Outcome → Prop} {S t : State} {o : Outcome} (h : Steps tb e below S t) (k : K t o) : own_Go tb e below K S := ⟨t, o, h, k⟩
theorem own_merge {α : Type} {P : α → Prop} {F : α → State} {tb : Tables} {e : Env} {below : List Frame} {K : State → Outcome → Prop} {S : State} (g : ∀ v, P v → own_Go tb e below K (F v)) (h : (∀ v, P v → own_Go tb e below K (F v)) → own_Go tb e below K S) : own_Go tb e below K S := h g
theorem own_old_le {Z : State} {n0 : Nat} {h : Heap} (O : Old Z n0 h) : n0 ≤ h.size := O.1 ▸ O.2.1
theorem own_rew {s t : State} {o : Outcome} {L : List Loc} {k n k' n' : Nat} (h : ReturnedEndW s o t L k n) (hk : k ≤ k') (hn : n ≤ n') : ReturnedEndW s o t L k' n' := ⟨h.1, h.2.1, h.2.2.1, h.2.2.2.mono hk hn⟩
theorem own_privsel {s : State} {a1 a2 args : Array Value} {y : MethodName} {n : Nat} (wi : (Jvm.Cond.instantiable y.cls n).before a1 s = true) (wp : (Jvm.Cond.privateMethod y).before a2 s = true) (wm : (Jvm.Cond.instanceMethod y).before args s = true) (hy : y.cls ≠ "java/lang/invoke/MethodHandle" ∧ y.cls ≠ "java/lang/invoke/VarHandle") : (Jvm.Cond.selects y.cls y y).before args s = true := by
  obtain ⟨c, k, h1, h2, -, h4, -⟩ := Cond.instantiable_spec wi
  simp only [Bool.or_eq_false_iff] at h4
  exact selects_self_of_private h1 h2 h4.1 (Cond.privateMethod_at wp) wm hy
theorem own_arr_keep {Z : State} {h h' : Heap} {a : Addr} {c : Cell} {ty : FieldType} {ws : List Addr} (A : Arr Z h a c ty) (K : Keep h h' ws) (q : a ∉ ws) : Arr Z h' a c ty := ⟨K.2.1 a c A.1 q, A.2⟩

theorem own_hws : ∀ d ∈ StrChars.Road.words, d ∈ tables_1 := by decide +kernel
theorem own_arvExa {Z : State} {h : Heap} {a : Addr} {k : ClassId} {ty : FieldType} {n : Int32} {vs : List Value} {d : Value} {C : String} (V : Arv Z h a k ty n vs d) (hc : Z.vm.findClass C = some k) : Exa Z h a C := by
  obtain ⟨c, A, q1, -⟩ := V
  obtain ⟨-, kk, h2, comp, h3⟩ := A.2.1
  exact ⟨c, kk, A.1, q1 ▸ hc, h2, A.plain, fun q => by rw [h3] at q; cases q⟩
theorem own_i2c {y : Int32} (h0 : 0 ≤ y.toInt) (h1 : y.toInt < 65536) : y.toUInt32.toUInt16.toUInt32.toInt32 = y := by
  have q := c_i2c y
  exact Int32.toInt_inj.mp (by omega)
theorem own_i2b {y : Int32} (h0 : -128 ≤ y.toInt) (h1 : y.toInt < 128) : y.toInt8.toInt32 = y := by
  have q := c_i2b y
  exact Int32.toInt_inj.mp (by omega)
theorem own_modn {x y z : Int32} (d : Int) (hy : y.toInt = d) (hd : 0 < d) (h : ((x &&& (2147483647 : Int32)) % y) = z) : 0 ≤ z.toInt ∧ z.toInt < d := by
  have q := c_and x (2147483647 : Int32) (by decide)
  have r := (c_irem (x &&& (2147483647 : Int32)) y d hy).1 q.1
  rw [h] at r
  rw [r]
  exact ⟨Int.emod_nonneg _ (by omega), Int.emod_lt_of_pos _ hd⟩
theorem own_lit {z : Int32} {k : Int32} (h : z.toInt = k.toInt) : z = k := Int32.toInt_inj.mp h
theorem own_mod3 {x z : Int32} (h : ((x &&& (2147483647 : Int32)) % (3 : Int32)) = z) : z = (0 : Int32) ∨ z = (1 : Int32) ∨ z = (2 : Int32) := by
  have q := own_modn 3 (by rfl) (by decide) h
  have e0 : (0 : Int32).toInt = 0 := rfl
  have e1 : (1 : Int32).toInt = 1 := rfl
  have e2 : (2 : Int32).toInt = 2 := rfl
  have w : z.toInt = 0 ∨ z.toInt = 1 ∨ z.toInt = 2 := by omega
  rcases w with w | w | w
  · exact Or.inl (own_lit w)
  · exact Or.inr (Or.inl (own_lit w))
  · exact Or.inr (Or.inr (own_lit w))

theorem own_fitC {x : Int32} (h : nar .char x = x) : fits .char (.int x) = true := h ▸ fits_nar_char x
theorem own_dr (x : Int32) : ((¬ (nar .char ((x &&& (127 : Int32)).toUInt32.toUInt16.toUInt32.toInt32)) < 0 ∧ ¬ (255 : Int32) < (nar .char ((x &&& (127 : Int32)).toUInt32.toUInt16.toUInt32.toInt32))) ∧ nar .char (nar .char ((x &&& (127 : Int32)).toUInt32.toUInt16.toUInt32.toInt32)) = nar .char ((x &&& (127 : Int32)).toUInt32.toUInt16.toUInt32.toInt32)) ∧ (nar .char ((x &&& (127 : Int32)).toUInt32.toUInt16.toUInt32.toInt32)).toInt8.toInt32 = nar .char ((x &&& (127 : Int32)).toUInt32.toUInt16.toUInt32.toInt32) := by
  have q := c_and x (127 : Int32) (by decide)
  have e7 : (127 : Int32).toInt = 127 := rfl
  have e2 : (255 : Int32).toInt = 255 := rfl
  have e0 : (0 : Int32).toInt = 0 := rfl
  have c : (x &&& (127 : Int32)).toUInt32.toUInt16.toUInt32.toInt32 = (x &&& (127 : Int32)) := own_i2c (by omega) (by omega)
  have d : nar .char (x &&& (127 : Int32)) = (x &&& (127 : Int32)) := c
  have b : (x &&& (127 : Int32)).toInt8.toInt32 = (x &&& (127 : Int32)) := own_i2b (by omega) (by omega)
  rw [c, d, d, b]
  refine ⟨⟨⟨fun r => ?_, fun r => ?_⟩, rfl⟩, rfl⟩
  · rw [Int32.lt_iff_toInt_lt] at r; omega
  · rw [Int32.lt_iff_toInt_lt] at r; omega

theorem d1_0 : decode method_2_code 0 = .ok (.iload_n 0, 1) := by decide +kernel
theorem d1_1 : decode method_2_code 1 = .ok (.bipush 127, 2) := by decide +kernel
theorem d1_3 : decode method_2_code 3 = .ok (.iand, 1) := by decide +kernel
theorem d1_4 : decode method_2_code 4 = .ok (.istore_n 1, 1) := by decide +kernel
theorem d1_5 : decode method_2_code 5 = .ok (.iload_n 1, 1) := by decide +kernel
theorem d1_6 : decode method_2_code 6 = .ok (.bipush 27, 2) := by decide +kernel
theorem d1_8 : decode method_2_code 8 = .ok (.if_icmp .ne 6, 3) := by decide +kernel
theorem d1_11 : decode method_2_code 11 = .ok (.bipush 28, 2) := by decide +kernel
theorem d1_13 : decode method_2_code 13 = .ok (.istore_n 1, 1) := by decide +kernel
theorem d1_14 : decode method_2_code 14 = .ok (.iload_n 1, 1) := by decide +kernel
theorem d1_15 : decode method_2_code 15 = .ok (.i2c, 1) := by decide +kernel
theorem d1_16 : decode method_2_code 16 = .ok (.ireturn, 1) := by decide +kernel
theorem own_pn_com_example_plain_bastion_plainbastion_ssh_MarkMatchedPinLaw : plainName "com/example/plain_bastion/plainbastion/ssh/MarkMatchedPinLaw" = true := by first | (simp [plainName, overriddenIn]; done) | decide +kernel
theorem own_ef_1 (m : MethodId) (p1 : Int32) : entryFrame m #[(Value.int p1)] 2 = mkF m 0 #[.val (Value.int p1), .unset] [] := by first | (simp [entryFrame, mkF, argsToLocals, Value.category]; done) | rfl
def Q1 (Z : State) (p1 : Int32) (h0 : Heap) (n0 : Nat) (v : Option Value) (h : Heap) (L : List Loc) : Prop := ∃ (r : Int32), v = some (Value.int r) ∧ Fr n0 L ∧ h = h0 ∧ (((¬ r < 0 ∧ ¬ (255 : Int32) < r) ∧ nar .char r = r) ∧ r.toInt8.toInt32 = r)
set_option maxRecDepth 65536 in
set_option maxHeartbeats 40000000 in
theorem rm1 (l : Launch) (Z : State) (a0 : Array Value) (hw : ∀ d ∈ tables_1, d.before a0 Z = true) (ws : List Jvm.Cond) (p1 : Int32) (h0 : Heap) (n0 : Nat) (O0 : Old Z n0 h0) :
    MetFree l (⟨"com/example/plain_bastion/plainbastion/ssh/MarkMatchedPinLaw", "drawn", "(I)C"⟩ : MethodName) (head1 (Jvm.Cond.code (⟨"com/example/plain_bastion/plainbastion/ssh/MarkMatchedPinLaw", "drawn", "(I)C"⟩ : MethodName) method_2_code 2 (some .char) :: ws) ({ frames := 0, cells := 0, slots := 0, locals := 0 } : Room)) (fun a U => a = #[(Value.int p1)] ∧ Z.Warmed39 U.vm ∧ U.heap = h0) (fun _ _ _ _ _ => True) (fun _ U o U' => ∃ v L, o = .returned v ∧ Q1 Z p1 h0 n0 v U'.heap L ∧ FrameEnd U o U' L ({ frames := 0, cells := 0, slots := 0, locals := 0 } : Room).cells ({ frames := 0, cells := 0, slots := 0, locals := 0 } : Room).slots) := by
  refine MetFree.of_bodySF (plainFor_of_name own_pn_com_example_plain_bastion_plainbastion_ssh_MarkMatchedPinLaw) hisR ?_
  intro p e s m args below meth c s₁ Bd hml0 hP hK
  obtain ⟨rfl, hZ, hh⟩ := hP
  have hx := Bd.exec
  have hby := Bd.bytes
  have hml : c.maxLocals = 2 := hml0
  have hown : s.vm.findClass "com/example/plain_bastion/plainbastion/ssh/MarkMatchedPinLaw" = some m.cls := findClass_of_methodNamed Bd.named
  have hnm := (name_of_methodNamed Bd.named Bd.method).1
  have X0 : Stand p l e ({ frames := 0, cells := 0, slots := 0, locals := 0 } : Room) s m #[(Value.int p1)] below meth c s₁ [] 0 0 := Stand.of_body Bd
  have e0 : s₁.heap = h0 := by rw [← hh, Bd.state]; rfl
  have N0 := Fr.nil n0
  have K0 : Keep h0 h0 [] := Keep.refl h0 []
  show own_Go p.tables e below _ (s₁.setTop (entryFrame m #[(Value.int p1)] 2))
  refine own_Go.by (fun tq kq => castTop (own_ef_1 m p1) kq) ?_
  show own_Go p.tables e below _ (s₁.setTop (mkF m 0 #[.val (Value.int p1), .unset] []))
  refine own_Go.by (fun tq kq => XS.iloadN X0.here hx rfl (hb hby d1_0) rfl kq) ?_
  show own_Go p.tables e below _ (s₁.setTop (mkF m 1 #[.val (Value.int p1), .unset] [(Value.int p1)]))
  refine own_Go.by (fun tq kq => XS.bipush X0.here hx rfl (hb hby d1_1) kq) ?_
  show own_Go p.tables e below _ (s₁.setTop (mkF m 3 #[.val (Value.int p1), .unset] [(Value.int (127 : Int32)), (Value.int p1)]))
  refine own_Go.by (fun tq kq => XS.iand X0.here hx rfl (hb hby d1_3) rfl kq) ?_
  show own_Go p.tables e below _ (s₁.setTop (mkF m 4 #[.val (Value.int p1), .unset] [(Value.int (p1 &&& (127 : Int32)))]))
  refine own_Go.by (fun tq kq => XS.istoreN X0.here hx rfl (hb hby d1_4) rfl (l' := #[.val (Value.int p1), .val (Value.int (p1 &&& (127 : Int32)))]) rfl kq) ?_
  show own_Go p.tables e below _ (s₁.setTop (mkF m 5 #[.val (Value.int p1), .val (Value.int (p1 &&& (127 : Int32)))] []))
  refine own_Go.by (fun tq kq => XS.iloadN X0.here hx rfl (hb hby d1_5) rfl kq) ?_
  show own_Go p.tables e below _ (s₁.setTop (mkF m 6 #[.val (Value.int p1), .val (Value.int (p1 &&& (127 : Int32)))] [(Value.int (p1 &&& (127 : Int32)))]))
  refine own_Go.by (fun tq kq => XS.bipush X0.here hx rfl (hb hby d1_6) kq) ?_
  show own_Go p.tables e below _ (s₁.setTop (mkF m 8 #[.val (Value.int p1), .val (Value.int (p1 &&& (127 : Int32)))] [(Value.int (27 : Int32)), (Value.int (p1 &&& (127 : Int32)))]))
  by_cases hc8_1 : (p1 &&& (127 : Int32)) = (27 : Int32)
  ·
    refine own_Go.by (fun tq kq => XS.icmpNo X0.here hx rfl (hb hby d1_8) rfl (teq hc8_1).2 kq) ?_
    show own_Go p.tables e below _ (s₁.setTop (mkF m 11 #[.val (Value.int p1), .val (Value.int (p1 &&& (127 : Int32)))] []))
    refine own_Go.by (fun tq kq => XS.bipush X0.here hx rfl (hb hby d1_11) kq) ?_
    show own_Go p.tables e below _ (s₁.setTop (mkF m 13 #[.val (Value.int p1), .val (Value.int (p1 &&& (127 : Int32)))] [(Value.int (28 : Int32))]))
    refine own_Go.by (fun tq kq => XS.istoreN X0.here hx rfl (hb hby d1_13) rfl (l' := #[.val (Value.int p1), .val (Value.int (28 : Int32))]) rfl kq) ?_
    show own_Go p.tables e below _ (s₁.setTop (mkF m 14 #[.val (Value.int p1), .val (Value.int (28 : Int32))] []))
    refine own_Go.by (fun tq kq => XS.iloadN X0.here hx rfl (hb hby d1_14) rfl kq) ?_
    show own_Go p.tables e below _ (s₁.setTop (mkF m 15 #[.val (Value.int p1), .val (Value.int (28 : Int32))] [(Value.int (28 : Int32))]))
    refine own_Go.by (fun tq kq => XS.i2c X0.here hx rfl (hb hby d1_15) rfl kq) ?_
    show own_Go p.tables e below _ (s₁.setTop (mkF m 16 #[.val (Value.int p1), .val (Value.int (28 : Int32))] [(Value.int ((28 : Int32).toUInt32.toUInt16.toUInt32.toInt32))]))
    obtain ⟨fs, hr, hrun, hended, hW, hsame⟩ := X0.leave (v := some (Value.int (nar .char ((28 : Int32).toUInt32.toUInt16.toUInt32.toInt32)))) (fun h => by rw [Bd.returns] at h; cases h)
    refine own_Go.fin (retN X0 hx (t := .char) Bd.returns (by simp) (hb hby d1_16) hr) ⟨hrun, hended, _, _, rfl, ?_, ⟨_, rfl⟩, hW, hsame.mono (by decide) (by decide)⟩
    show Q1 Z p1 h0 n0 _ s₁.heap _
    rw [e0]
    exact ⟨(nar .char ((28 : Int32).toUInt32.toUInt16.toUInt32.toInt32)), rfl, N0, rfl, (by decide)⟩
  ·
    refine own_Go.by (fun tq kq => XS.icmpYes X0.here hx rfl (pc0 := 8) (pc' := 14) rfl (hb hby d1_8) rfl (feq hc8_1).2 (by decide) (by decide) kq) ?_
    show own_Go p.tables e below _ (s₁.setTop (mkF m 14 #[.val (Value.int p1), .val (Value.int (p1 &&& (127 : Int32)))] []))
    refine own_Go.by (fun tq kq => XS.iloadN X0.here hx rfl (hb hby d1_14) rfl kq) ?_
    show own_Go p.tables e below _ (s₁.setTop (mkF m 15 #[.val (Value.int p1), .val (Value.int (p1 &&& (127 : Int32)))] [(Value.int (p1 &&& (127 : Int32)))]))
    refine own_Go.by (fun tq kq => XS.i2c X0.here hx rfl (hb hby d1_15) rfl kq) ?_
    show own_Go p.tables e below _ (s₁.setTop (mkF m 16 #[.val (Value.int p1), .val (Value.int (p1 &&& (127 : Int32)))] [(Value.int ((p1 &&& (127 : Int32)).toUInt32.toUInt16.toUInt32.toInt32))]))
    obtain ⟨fs, hr, hrun, hended, hW, hsame⟩ := X0.leave (v := some (Value.int (nar .char ((p1 &&& (127 : Int32)).toUInt32.toUInt16.toUInt32.toInt32)))) (fun h => by rw [Bd.returns] at h; cases h)
    refine own_Go.fin (retN X0 hx (t := .char) Bd.returns (by simp) (hb hby d1_16) hr) ⟨hrun, hended, _, _, rfl, ?_, ⟨_, rfl⟩, hW, hsame.mono (by decide) (by decide)⟩
    show Q1 Z p1 h0 n0 _ s₁.heap _
    rw [e0]
    exact ⟨(nar .char ((p1 &&& (127 : Int32)).toUInt32.toUInt16.toUInt32.toInt32)), rfl, N0, rfl, (own_dr p1)⟩

theorem d13_0 : decode jdk_123_method_3_code 0 = .ok (.iload_n 1, 1) := by decide +kernel
theorem d13_1 : decode jdk_123_method_3_code 1 = .ok (.iload_n 2, 1) := by decide +kernel
theorem d13_2 : decode jdk_123_method_3_code 2 = .ok (.iadd, 1) := by decide +kernel
theorem d13_3 : decode jdk_123_method_3_code 3 = .ok (.istore_n 3, 1) := by decide +kernel
theorem d13_4 : decode jdk_123_method_3_code 4 = .ok (.iload_n 1, 1) := by decide +kernel
theorem d13_5 : decode jdk_123_method_3_code 5 = .ok (.istore 4, 2) := by decide +kernel
theorem d13_7 : decode jdk_123_method_3_code 7 = .ok (.iload 4, 2) := by decide +kernel
theorem d13_9 : decode jdk_123_method_3_code 9 = .ok (.iload_n 3, 1) := by decide +kernel
theorem d13_10 : decode jdk_123_method_3_code 10 = .ok (.if_icmp .ge 21, 3) := by decide +kernel
theorem d13_13 : decode jdk_123_method_3_code 13 = .ok (.aload_n 0, 1) := by decide +kernel
theorem d13_14 : decode jdk_123_method_3_code 14 = .ok (.iload 4, 2) := by decide +kernel
theorem d13_16 : decode jdk_123_method_3_code 16 = .ok (.baload, 1) := by decide +kernel
theorem d13_17 : decode jdk_123_method_3_code 17 = .ok (.ifCond .ge 8, 3) := by decide +kernel
theorem d13_25 : decode jdk_123_method_3_code 25 = .ok (.iinc 4 1, 3) := by decide +kernel
theorem d13_28 : decode jdk_123_method_3_code 28 = .ok (.goto (-21), 3) := by decide +kernel
theorem d13_31 : decode jdk_123_method_3_code 31 = .ok (.iload_n 2, 1) := by decide +kernel
theorem d13_32 : decode jdk_123_method_3_code 32 = .ok (.ireturn, 1) := by decide +kernel
theorem own_pn_java_lang_StringCoding : plainName "java/lang/StringCoding" = true := by first | (simp [plainName, overriddenIn]; done) | decide +kernel
theorem own_ef_13 (m : MethodId) (a1 : Addr) : entryFrame m #[(Value.ref a1), (Value.int (0 : Int32)), (Value.int (3 : Int32))] 5 = mkF m 0 #[.val (Value.ref a1), .val (Value.int (0 : Int32)), .val (Value.int (3 : Int32)), .unset, .unset] [] := by first | (simp [entryFrame, mkF, argsToLocals, Value.category]; done) | rfl
def Q13 (Z : State) (a1 : Addr) (kB : ClassId) (v0 : Int32) (v1 : Int32) (v2 : Int32) (h0 : Heap) (n0 : Nat) (v : Option Value) (h : Heap) (L : List Loc) : Prop := v = some (Value.int (3 : Int32)) ∧ Fr n0 L ∧ h = h0
set_option maxRecDepth 65536 in
set_option maxHeartbeats 40000000 in
theorem rm13 (l : Launch) (Z : State) (a0 : Array Value) (hw : ∀ d ∈ tables_1, d.before a0 Z = true) (ws : List Jvm.Cond) (a1 : Addr) (kB : ClassId) (v0 : Int32) (v1 : Int32) (v2 : Int32) (h0 : Heap) (n0 : Nat) (O0 : Old Z n0 h0) (H0 : Arv Z h0 a1 kB .byte (3 : Int32) [(Value.int v0), (Value.int v1), (Value.int v2)] (Value.int (0 : Int32))) (hps0 : ¬ (v0 < (0 : Int32))) (hps1 : ¬ (v1 < (0 : Int32))) (hps2 : ¬ (v2 < (0 : Int32))) :
    MetFree l (⟨"java/lang/StringCoding", "countPositives", "([BII)I"⟩ : MethodName) (head1 (Jvm.Cond.code (⟨"java/lang/StringCoding", "countPositives", "([BII)I"⟩ : MethodName) jdk_123_method_3_code 5 (some .int) :: ws) ({ frames := 0, cells := 0, slots := 0, locals := 0 } : Room)) (fun a U => a = #[(Value.ref a1), (Value.int (0 : Int32)), (Value.int (3 : Int32))] ∧ Z.Warmed39 U.vm ∧ U.heap = h0) (fun _ _ _ _ _ => True) (fun _ U o U' => ∃ v L, o = .returned v ∧ Q13 Z a1 kB v0 v1 v2 h0 n0 v U'.heap L ∧ FrameEnd U o U' L ({ frames := 0, cells := 0, slots := 0, locals := 0 } : Room).cells ({ frames := 0, cells := 0, slots := 0, locals := 0 } : Room).slots) := by
  refine MetFree.of_bodySF (plainFor_of_name own_pn_java_lang_StringCoding) hisR ?_
  intro p e s m args below meth c s₁ Bd hml0 hP hK
  obtain ⟨rfl, hZ, hh⟩ := hP
  have hx := Bd.exec
  have hby := Bd.bytes
  have hml : c.maxLocals = 5 := hml0
  have hown : s.vm.findClass "java/lang/StringCoding" = some m.cls := findClass_of_methodNamed Bd.named
  have hnm := (name_of_methodNamed Bd.named Bd.method).1
  have X0 : Stand p l e ({ frames := 0, cells := 0, slots := 0, locals := 0 } : Room) s m #[(Value.ref a1), (Value.int (0 : Int32)), (Value.int (3 : Int32))] below meth c s₁ [] 0 0 := Stand.of_body Bd
  have e0 : s₁.heap = h0 := by rw [← hh, Bd.state]; rfl
  have N0 := Fr.nil n0
  have K0 : Keep h0 h0 [] := Keep.refl h0 []
  show own_Go p.tables e below _ (s₁.setTop (entryFrame m #[(Value.ref a1), (Value.int (0 : Int32)), (Value.int (3 : Int32))] 5))
  refine own_Go.by (fun tq kq => castTop (own_ef_13 m a1) kq) ?_
  show own_Go p.tables e below _ (s₁.setTop (mkF m 0 #[.val (Value.ref a1), .val (Value.int (0 : Int32)), .val (Value.int (3 : Int32)), .unset, .unset] []))
  refine own_Go.by (fun tq kq => XS.iloadN X0.here hx rfl (hb hby d13_0) rfl kq) ?_
  show own_Go p.tables e below _ (s₁.setTop (mkF m 1 #[.val (Value.ref a1), .val (Value.int (0 : Int32)), .val (Value.int (3 : Int32)), .unset, .unset] [(Value.int (0 : Int32))]))
  refine own_Go.by (fun tq kq => XS.iloadN X0.here hx rfl (hb hby d13_1) rfl kq) ?_
  show own_Go p.tables e below _ (s₁.setTop (mkF m 2 #[.val (Value.ref a1), .val (Value.int (0 : Int32)), .val (Value.int (3 : Int32)), .unset, .unset] [(Value.int (3 : Int32)), (Value.int (0 : Int32))]))
  refine own_Go.by (fun tq kq => XS.iadd X0.here hx rfl (hb hby d13_2) rfl kq) ?_
  show own_Go p.tables e below _ (s₁.setTop (mkF m 3 #[.val (Value.ref a1), .val (Value.int (0 : Int32)), .val (Value.int (3 : Int32)), .unset, .unset] [(Value.int (3 : Int32))]))
  refine own_Go.by (fun tq kq => XS.istoreN X0.here hx rfl (hb hby d13_3) rfl (l' := #[.val (Value.ref a1), .val (Value.int (0 : Int32)), .val (Value.int (3 : Int32)), .val (Value.int (3 : Int32)), .unset]) rfl kq) ?_
  show own_Go p.tables e below _ (s₁.setTop (mkF m 4 #[.val (Value.ref a1), .val (Value.int (0 : Int32)), .val (Value.int (3 : Int32)), .val (Value.int (3 : Int32)), .unset] []))
  refine own_Go.by (fun tq kq => XS.iloadN X0.here hx rfl (hb hby d13_4) rfl kq) ?_
  show own_Go p.tables e below _ (s₁.setTop (mkF m 5 #[.val (Value.ref a1), .val (Value.int (0 : Int32)), .val (Value.int (3 : Int32)), .val (Value.int (3 : Int32)), .unset] [(Value.int (0 : Int32))]))
  refine own_Go.by (fun tq kq => XS.istore X0.here hx rfl (hb hby d13_5) rfl (l' := #[.val (Value.ref a1), .val (Value.int (0 : Int32)), .val (Value.int (3 : Int32)), .val (Value.int (3 : Int32)), .val (Value.int (0 : Int32))]) rfl kq) ?_
  show own_Go p.tables e below _ (s₁.setTop (mkF m 7 #[.val (Value.ref a1), .val (Value.int (0 : Int32)), .val (Value.int (3 : Int32)), .val (Value.int (3 : Int32)), .val (Value.int (0 : Int32))] []))
  refine own_Go.by (fun tq kq => XS.iload X0.here hx rfl (hb hby d13_7) rfl kq) ?_
  show own_Go p.tables e below _ (s₁.setTop (mkF m 9 #[.val (Value.ref a1), .val (Value.int (0 : Int32)), .val (Value.int (3 : Int32)), .val (Value.int (3 : Int32)), .val (Value.int (0 : Int32))] [(Value.int (0 : Int32))]))
  refine own_Go.by (fun tq kq => XS.iloadN X0.here hx rfl (hb hby d13_9) rfl kq) ?_
  show own_Go p.tables e below _ (s₁.setTop (mkF m 10 #[.val (Value.ref a1), .val (Value.int (0 : Int32)), .val (Value.int (3 : Int32)), .val (Value.int (3 : Int32)), .val (Value.int (0 : Int32))] [(Value.int (3 : Int32)), (Value.int (0 : Int32))]))
  refine own_Go.by (fun tq kq => XS.icmpNo X0.here hx rfl (hb hby d13_10) rfl (tlt (by decide : (0 : Int32) < (3 : Int32))).2.1 kq) ?_
  show own_Go p.tables e below _ (s₁.setTop (mkF m 13 #[.val (Value.ref a1), .val (Value.int (0 : Int32)), .val (Value.int (3 : Int32)), .val (Value.int (3 : Int32)), .val (Value.int (0 : Int32))] []))
  refine own_Go.by (fun tq kq => XS.aloadN X0.here hx rfl (hb hby d13_13) rfl rfl kq) ?_
  show own_Go p.tables e below _ (s₁.setTop (mkF m 14 #[.val (Value.ref a1), .val (Value.int (0 : Int32)), .val (Value.int (3 : Int32)), .val (Value.int (3 : Int32)), .val (Value.int (0 : Int32))] [(Value.ref a1)]))
  refine own_Go.by (fun tq kq => XS.iload X0.here hx rfl (hb hby d13_14) rfl kq) ?_
  show own_Go p.tables e below _ (s₁.setTop (mkF m 16 #[.val (Value.ref a1), .val (Value.int (0 : Int32)), .val (Value.int (3 : Int32)), .val (Value.int (3 : Int32)), .val (Value.int (0 : Int32))] [(Value.int (0 : Int32)), (Value.ref a1)]))
  obtain ⟨cl1, Ar1, q1, S1, M1, Hh1, G1⟩ := id H0
  refine own_Go.by (fun tq kq => X0.baloadBytes hx (j := (0 : Int32)) (v := (Value.int v0)) (by rw [e0]; exact Ar1.1) (State.isArrayOf_alike hZ.alike Ar1.2.1) Ar1.2.2 (inb_of S1 ⟨(by decide : ¬ ((0 : Int32) < (0 : Int32))), (by decide : (0 : Int32) < (3 : Int32))⟩) (Has.at Hh1 (inb_of S1 ⟨(by decide : ¬ ((0 : Int32) < (0 : Int32))), (by decide : (0 : Int32) < (3 : Int32))⟩) (rfl : _ = (Value.int v0))) (g := (mkF m 16 #[.val (Value.ref a1), .val (Value.int (0 : Int32)), .val (Value.int (3 : Int32)), .val (Value.int (3 : Int32)), .val (Value.int (0 : Int32))] [(Value.int (0 : Int32)), (Value.ref a1)])) rfl rfl (hb hby d13_16) _ kq) ?_
  show own_Go p.tables e below _ (s₁.setTop (mkF m 17 #[.val (Value.ref a1), .val (Value.int (0 : Int32)), .val (Value.int (3 : Int32)), .val (Value.int (3 : Int32)), .val (Value.int (0 : Int32))] [(Value.int v0)]))
  refine own_Go.by (fun tq kq => XS.ifYes X0.here hx rfl (pc0 := 17) (pc' := 25) rfl (hb hby d13_17) rfl ((if0 _ _).trans (flt hps0).2.1) (by decide) (by decide) kq) ?_
  show own_Go p.tables e below _ (s₁.setTop (mkF m 25 #[.val (Value.ref a1), .val (Value.int (0 : Int32)), .val (Value.int (3 : Int32)), .val (Value.int (3 : Int32)), .val (Value.int (0 : Int32))] []))
  refine own_Go.by (fun tq kq => XS.iinc X0.here hx rfl (hb hby d13_25) rfl (l' := #[.val (Value.ref a1), .val (Value.int (0 : Int32)), .val (Value.int (3 : Int32)), .val (Value.int (3 : Int32)), .val (Value.int (1 : Int32))]) rfl kq) ?_
  show own_Go p.tables e below _ (s₁.setTop (mkF m 28 #[.val (Value.ref a1), .val (Value.int (0 : Int32)), .val (Value.int (3 : Int32)), .val (Value.int (3 : Int32)), .val (Value.int (1 : Int32))] []))
  refine own_Go.by (fun tq kq => XS.goto X0.here hx rfl (pc0 := 28) (pc' := 7) rfl (hb hby d13_28) (by decide) (by decide) kq) ?_
  show own_Go p.tables e below _ (s₁.setTop (mkF m 7 #[.val (Value.ref a1), .val (Value.int (0 : Int32)), .val (Value.int (3 : Int32)), .val (Value.int (3 : Int32)), .val (Value.int (1 : Int32))] []))
  refine own_Go.by (fun tq kq => XS.iload X0.here hx rfl (hb hby d13_7) rfl kq) ?_
  show own_Go p.tables e below _ (s₁.setTop (mkF m 9 #[.val (Value.ref a1), .val (Value.int (0 : Int32)), .val (Value.int (3 : Int32)), .val (Value.int (3 : Int32)), .val (Value.int (1 : Int32))] [(Value.int (1 : Int32))]))
  refine own_Go.by (fun tq kq => XS.iloadN X0.here hx rfl (hb hby d13_9) rfl kq) ?_
  show own_Go p.tables e below _ (s₁.setTop (mkF m 10 #[.val (Value.ref a1), .val (Value.int (0 : Int32)), .val (Value.int (3 : Int32)), .val (Value.int (3 : Int32)), .val (Value.int (1 : Int32))] [(Value.int (3 : Int32)), (Value.int (1 : Int32))]))
  refine own_Go.by (fun tq kq => XS.icmpNo X0.here hx rfl (hb hby d13_10) rfl (tlt (by decide : (1 : Int32) < (3 : Int32))).2.1 kq) ?_
  show own_Go p.tables e below _ (s₁.setTop (mkF m 13 #[.val (Value.ref a1), .val (Value.int (0 : Int32)), .val (Value.int (3 : Int32)), .val (Value.int (3 : Int32)), .val (Value.int (1 : Int32))] []))
  refine own_Go.by (fun tq kq => XS.aloadN X0.here hx rfl (hb hby d13_13) rfl rfl kq) ?_
  show own_Go p.tables e below _ (s₁.setTop (mkF m 14 #[.val (Value.ref a1), .val (Value.int (0 : Int32)), .val (Value.int (3 : Int32)), .val (Value.int (3 : Int32)), .val (Value.int (1 : Int32))] [(Value.ref a1)]))
  refine own_Go.by (fun tq kq => XS.iload X0.here hx rfl (hb hby d13_14) rfl kq) ?_
  show own_Go p.tables e below _ (s₁.setTop (mkF m 16 #[.val (Value.ref a1), .val (Value.int (0 : Int32)), .val (Value.int (3 : Int32)), .val (Value.int (3 : Int32)), .val (Value.int (1 : Int32))] [(Value.int (1 : Int32)), (Value.ref a1)]))
  obtain ⟨cl2, Ar2, q2, S2, M2, Hh2, G2⟩ := id H0
  refine own_Go.by (fun tq kq => X0.baloadBytes hx (j := (1 : Int32)) (v := (Value.int v1)) (by rw [e0]; exact Ar2.1) (State.isArrayOf_alike hZ.alike Ar2.2.1) Ar2.2.2 (inb_of S2 ⟨(by decide : ¬ ((1 : Int32) < (0 : Int32))), (by decide : (1 : Int32) < (3 : Int32))⟩) (Has.at Hh2 (inb_of S2 ⟨(by decide : ¬ ((1 : Int32) < (0 : Int32))), (by decide : (1 : Int32) < (3 : Int32))⟩) (rfl : _ = (Value.int v1))) (g := (mkF m 16 #[.val (Value.ref a1), .val (Value.int (0 : Int32)), .val (Value.int (3 : Int32)), .val (Value.int (3 : Int32)), .val (Value.int (1 : Int32))] [(Value.int (1 : Int32)), (Value.ref a1)])) rfl rfl (hb hby d13_16) _ kq) ?_
  show own_Go p.tables e below _ (s₁.setTop (mkF m 17 #[.val (Value.ref a1), .val (Value.int (0 : Int32)), .val (Value.int (3 : Int32)), .val (Value.int (3 : Int32)), .val (Value.int (1 : Int32))] [(Value.int v1)]))
  refine own_Go.by (fun tq kq => XS.ifYes X0.here hx rfl (pc0 := 17) (pc' := 25) rfl (hb hby d13_17) rfl ((if0 _ _).trans (flt hps1).2.1) (by decide) (by decide) kq) ?_
  show own_Go p.tables e below _ (s₁.setTop (mkF m 25 #[.val (Value.ref a1), .val (Value.int (0 : Int32)), .val (Value.int (3 : Int32)), .val (Value.int (3 : Int32)), .val (Value.int (1 : Int32))] []))
  refine own_Go.by (fun tq kq => XS.iinc X0.here hx rfl (hb hby d13_25) rfl (l' := #[.val (Value.ref a1), .val (Value.int (0 : Int32)), .val (Value.int (3 : Int32)), .val (Value.int (3 : Int32)), .val (Value.int (2 : Int32))]) rfl kq) ?_
  show own_Go p.tables e below _ (s₁.setTop (mkF m 28 #[.val (Value.ref a1), .val (Value.int (0 : Int32)), .val (Value.int (3 : Int32)), .val (Value.int (3 : Int32)), .val (Value.int (2 : Int32))] []))
  refine own_Go.by (fun tq kq => XS.goto X0.here hx rfl (pc0 := 28) (pc' := 7) rfl (hb hby d13_28) (by decide) (by decide) kq) ?_
  show own_Go p.tables e below _ (s₁.setTop (mkF m 7 #[.val (Value.ref a1), .val (Value.int (0 : Int32)), .val (Value.int (3 : Int32)), .val (Value.int (3 : Int32)), .val (Value.int (2 : Int32))] []))
  refine own_Go.by (fun tq kq => XS.iload X0.here hx rfl (hb hby d13_7) rfl kq) ?_
  show own_Go p.tables e below _ (s₁.setTop (mkF m 9 #[.val (Value.ref a1), .val (Value.int (0 : Int32)), .val (Value.int (3 : Int32)), .val (Value.int (3 : Int32)), .val (Value.int (2 : Int32))] [(Value.int (2 : Int32))]))
  refine own_Go.by (fun tq kq => XS.iloadN X0.here hx rfl (hb hby d13_9) rfl kq) ?_
  show own_Go p.tables e below _ (s₁.setTop (mkF m 10 #[.val (Value.ref a1), .val (Value.int (0 : Int32)), .val (Value.int (3 : Int32)), .val (Value.int (3 : Int32)), .val (Value.int (2 : Int32))] [(Value.int (3 : Int32)), (Value.int (2 : Int32))]))
  refine own_Go.by (fun tq kq => XS.icmpNo X0.here hx rfl (hb hby d13_10) rfl (tlt (by decide : (2 : Int32) < (3 : Int32))).2.1 kq) ?_
  show own_Go p.tables e below _ (s₁.setTop (mkF m 13 #[.val (Value.ref a1), .val (Value.int (0 : Int32)), .val (Value.int (3 : Int32)), .val (Value.int (3 : Int32)), .val (Value.int (2 : Int32))] []))
  refine own_Go.by (fun tq kq => XS.aloadN X0.here hx rfl (hb hby d13_13) rfl rfl kq) ?_
  show own_Go p.tables e below _ (s₁.setTop (mkF m 14 #[.val (Value.ref a1), .val (Value.int (0 : Int32)), .val (Value.int (3 : Int32)), .val (Value.int (3 : Int32)), .val (Value.int (2 : Int32))] [(Value.ref a1)]))
  refine own_Go.by (fun tq kq => XS.iload X0.here hx rfl (hb hby d13_14) rfl kq) ?_
  show own_Go p.tables e below _ (s₁.setTop (mkF m 16 #[.val (Value.ref a1), .val (Value.int (0 : Int32)), .val (Value.int (3 : Int32)), .val (Value.int (3 : Int32)), .val (Value.int (2 : Int32))] [(Value.int (2 : Int32)), (Value.ref a1)]))
  obtain ⟨cl3, Ar3, q3, S3, M3, Hh3, G3⟩ := id H0
  refine own_Go.by (fun tq kq => X0.baloadBytes hx (j := (2 : Int32)) (v := (Value.int v2)) (by rw [e0]; exact Ar3.1) (State.isArrayOf_alike hZ.alike Ar3.2.1) Ar3.2.2 (inb_of S3 ⟨(by decide : ¬ ((2 : Int32) < (0 : Int32))), (by decide : (2 : Int32) < (3 : Int32))⟩) (Has.at Hh3 (inb_of S3 ⟨(by decide : ¬ ((2 : Int32) < (0 : Int32))), (by decide : (2 : Int32) < (3 : Int32))⟩) (rfl : _ = (Value.int v2))) (g := (mkF m 16 #[.val (Value.ref a1), .val (Value.int (0 : Int32)), .val (Value.int (3 : Int32)), .val (Value.int (3 : Int32)), .val (Value.int (2 : Int32))] [(Value.int (2 : Int32)), (Value.ref a1)])) rfl rfl (hb hby d13_16) _ kq) ?_
  show own_Go p.tables e below _ (s₁.setTop (mkF m 17 #[.val (Value.ref a1), .val (Value.int (0 : Int32)), .val (Value.int (3 : Int32)), .val (Value.int (3 : Int32)), .val (Value.int (2 : Int32))] [(Value.int v2)]))
  refine own_Go.by (fun tq kq => XS.ifYes X0.here hx rfl (pc0 := 17) (pc' := 25) rfl (hb hby d13_17) rfl ((if0 _ _).trans (flt hps2).2.1) (by decide) (by decide) kq) ?_
  show own_Go p.tables e below _ (s₁.setTop (mkF m 25 #[.val (Value.ref a1), .val (Value.int (0 : Int32)), .val (Value.int (3 : Int32)), .val (Value.int (3 : Int32)), .val (Value.int (2 : Int32))] []))
  refine own_Go.by (fun tq kq => XS.iinc X0.here hx rfl (hb hby d13_25) rfl (l' := #[.val (Value.ref a1), .val (Value.int (0 : Int32)), .val (Value.int (3 : Int32)), .val (Value.int (3 : Int32)), .val (Value.int (3 : Int32))]) rfl kq) ?_
  show own_Go p.tables e below _ (s₁.setTop (mkF m 28 #[.val (Value.ref a1), .val (Value.int (0 : Int32)), .val (Value.int (3 : Int32)), .val (Value.int (3 : Int32)), .val (Value.int (3 : Int32))] []))
  refine own_Go.by (fun tq kq => XS.goto X0.here hx rfl (pc0 := 28) (pc' := 7) rfl (hb hby d13_28) (by decide) (by decide) kq) ?_
  show own_Go p.tables e below _ (s₁.setTop (mkF m 7 #[.val (Value.ref a1), .val (Value.int (0 : Int32)), .val (Value.int (3 : Int32)), .val (Value.int (3 : Int32)), .val (Value.int (3 : Int32))] []))
  refine own_Go.by (fun tq kq => XS.iload X0.here hx rfl (hb hby d13_7) rfl kq) ?_
  show own_Go p.tables e below _ (s₁.setTop (mkF m 9 #[.val (Value.ref a1), .val (Value.int (0 : Int32)), .val (Value.int (3 : Int32)), .val (Value.int (3 : Int32)), .val (Value.int (3 : Int32))] [(Value.int (3 : Int32))]))
  refine own_Go.by (fun tq kq => XS.iloadN X0.here hx rfl (hb hby d13_9) rfl kq) ?_
  show own_Go p.tables e below _ (s₁.setTop (mkF m 10 #[.val (Value.ref a1), .val (Value.int (0 : Int32)), .val (Value.int (3 : Int32)), .val (Value.int (3 : Int32)), .val (Value.int (3 : Int32))] [(Value.int (3 : Int32)), (Value.int (3 : Int32))]))
  refine own_Go.by (fun tq kq => XS.icmpYes X0.here hx rfl (pc0 := 10) (pc' := 31) rfl (hb hby d13_10) rfl (flt (by decide : ¬ ((3 : Int32) < (3 : Int32)))).2.1 (by decide) (by decide) kq) ?_
  show own_Go p.tables e below _ (s₁.setTop (mkF m 31 #[.val (Value.ref a1), .val (Value.int (0 : Int32)), .val (Value.int (3 : Int32)), .val (Value.int (3 : Int32)), .val (Value.int (3 : Int32))] []))
  refine own_Go.by (fun tq kq => XS.iloadN X0.here hx rfl (hb hby d13_31) rfl kq) ?_
  show own_Go p.tables e below _ (s₁.setTop (mkF m 32 #[.val (Value.ref a1), .val (Value.int (0 : Int32)), .val (Value.int (3 : Int32)), .val (Value.int (3 : Int32)), .val (Value.int (3 : Int32))] [(Value.int (3 : Int32))]))
  obtain ⟨fs, hr, hrun, hended, hW, hsame⟩ := X0.leave (v := some (Value.int (3 : Int32))) (fun h => by rw [Bd.returns] at h; cases h)
  refine own_Go.fin (retI X0 hx Bd.returns (hb hby d13_32) hr) ⟨hrun, hended, _, _, rfl, ?_, ⟨_, rfl⟩, hW, hsame.mono (by decide) (by decide)⟩
  show Q13 Z a1 kB v0 v1 v2 h0 n0 _ s₁.heap _
  rw [e0]
  exact ⟨rfl, N0, rfl⟩

theorem own_pd0 : parseMethodDescriptor "([BII)I" = some ⟨[(.array .byte), .int, .int], some .int⟩ := by decide +kernel
theorem d12_0 : decode jdk_42_method_24_code 0 = .ok (.iload_n 0, 1) := by decide +kernel
theorem d12_1 : decode jdk_42_method_24_code 1 = .ok (.ifCond .ne 32, 3) := by decide +kernel
theorem d12_4 : decode jdk_42_method_24_code 4 = .ok (.aload_n 1, 1) := by decide +kernel
theorem d12_5 : decode jdk_42_method_24_code 5 = .ok (.iconst 0, 1) := by decide +kernel
theorem d12_6 : decode jdk_42_method_24_code 6 = .ok (.aload_n 1, 1) := by decide +kernel
theorem d12_7 : decode jdk_42_method_24_code 7 = .ok (.arraylength, 1) := by decide +kernel
theorem d12_8 : decode jdk_42_method_24_code 8 = .ok (.invokestatic 92, 3) := by decide +kernel
theorem d12_11 : decode jdk_42_method_24_code 11 = .ok (.istore_n 2, 1) := by decide +kernel
theorem d12_12 : decode jdk_42_method_24_code 12 = .ok (.aload_n 1, 1) := by decide +kernel
theorem d12_13 : decode jdk_42_method_24_code 13 = .ok (.invokevirtual 279, 3) := by decide +kernel
theorem d12_16 : decode jdk_42_method_24_code 16 = .ok (.checkcast 280, 3) := by decide +kernel
theorem d12_19 : decode jdk_42_method_24_code 19 = .ok (.astore_n 3, 1) := by decide +kernel
theorem d12_20 : decode jdk_42_method_24_code 20 = .ok (.iload_n 2, 1) := by decide +kernel
theorem d12_21 : decode jdk_42_method_24_code 21 = .ok (.aload_n 3, 1) := by decide +kernel
theorem d12_22 : decode jdk_42_method_24_code 22 = .ok (.arraylength, 1) := by decide +kernel
theorem d12_23 : decode jdk_42_method_24_code 23 = .ok (.if_icmp .ge 8, 3) := by decide +kernel
theorem d12_31 : decode jdk_42_method_24_code 31 = .ok (.aload_n 3, 1) := by decide +kernel
theorem d12_32 : decode jdk_42_method_24_code 32 = .ok (.areturn, 1) := by decide +kernel
theorem own_pn_java_lang_String : plainName "java/lang/String" = true := by first | (simp [plainName, overriddenIn]; done) | decide +kernel
theorem own_ef_12 (m : MethodId) (a1 : Addr) : entryFrame m #[(Value.int (0 : Int32)), (Value.ref a1)] 7 = mkF m 0 #[.val (Value.int (0 : Int32)), .val (Value.ref a1), .unset, .unset, .unset, .unset, .unset] [] := by first | (simp [entryFrame, mkF, argsToLocals, Value.category]; done) | rfl
def Q12 (Z : State) (a1 : Addr) (kB : ClassId) (v0 : Int32) (v1 : Int32) (v2 : Int32) (h0 : Heap) (n0 : Nat) (v : Option Value) (h : Heap) (L : List Loc) : Prop := ∃ (b : Addr), v = some (Value.ref b) ∧ Fr n0 L ∧ Keep h0 h [] ∧ (h0.size ≤ b) ∧ (Exa Z h b "[B") ∧ (Arv Z h b kB .byte (3 : Int32) [(Value.int v0), (Value.int v1), (Value.int v2)] (Value.int (0 : Int32)))
set_option maxRecDepth 65536 in
set_option maxHeartbeats 40000000 in
theorem rm12 (l : Launch) (Z : State) (a0 : Array Value) (hw : ∀ d ∈ tables_1, d.before a0 Z = true) (ws : List Jvm.Cond) (a1 : Addr) (kB : ClassId) (v0 : Int32) (v1 : Int32) (v2 : Int32) (h0 : Heap) (n0 : Nat) (O0 : Old Z n0 h0) (H0 : Arv Z h0 a1 kB .byte (3 : Int32) [(Value.int v0), (Value.int v1), (Value.int v2)] (Value.int (0 : Int32))) (H1 : Exa Z h0 a1 "[B") (hps0 : ¬ (v0 < (0 : Int32))) (hps1 : ¬ (v1 < (0 : Int32))) (hps2 : ¬ (v2 < (0 : Int32))) :
    MetFree l (⟨"java/lang/String", "encodeASCII", "(B[B)[B"⟩ : MethodName) (head1 (Jvm.Cond.code (⟨"java/lang/String", "encodeASCII", "(B[B)[B"⟩ : MethodName) jdk_42_method_24_code 7 (some (.array .byte)) :: ws) ({ frames := 1, cells := 1, slots := 3, locals := 16 } : Room)) (fun a U => a = #[(Value.int (0 : Int32)), (Value.ref a1)] ∧ Z.Warmed39 U.vm ∧ U.heap = h0) (fun _ _ _ _ _ => True) (fun _ U o U' => ∃ v L, o = .returned v ∧ Q12 Z a1 kB v0 v1 v2 h0 n0 v U'.heap L ∧ FrameEnd U o U' L ({ frames := 1, cells := 1, slots := 3, locals := 16 } : Room).cells ({ frames := 1, cells := 1, slots := 3, locals := 16 } : Room).slots) := by
  refine MetFree.of_bodySF (plainFor_of_name own_pn_java_lang_String) hisR ?_
  intro p e s m args below meth c s₁ Bd hml0 hP hK
  obtain ⟨rfl, hZ, hh⟩ := hP
  have hx := Bd.exec
  have hby := Bd.bytes
  have hml : c.maxLocals = 7 := hml0
  have hown : s.vm.findClass "java/lang/String" = some m.cls := findClass_of_methodNamed Bd.named
  have hnm := (name_of_methodNamed Bd.named Bd.method).1
  have X0 : Stand p l e ({ frames := 1, cells := 1, slots := 3, locals := 16 } : Room) s m #[(Value.int (0 : Int32)), (Value.ref a1)] below meth c s₁ [] 0 0 := Stand.of_body Bd
  have e0 : s₁.heap = h0 := by rw [← hh, Bd.state]; rfl
  have N0 := Fr.nil n0
  have K0 : Keep h0 h0 [] := Keep.refl h0 []
  show own_Go p.tables e below _ (s₁.setTop (entryFrame m #[(Value.int (0 : Int32)), (Value.ref a1)] 7))
  refine own_Go.by (fun tq kq => castTop (own_ef_12 m a1) kq) ?_
  show own_Go p.tables e below _ (s₁.setTop (mkF m 0 #[.val (Value.int (0 : Int32)), .val (Value.ref a1), .unset, .unset, .unset, .unset, .unset] []))
  refine own_Go.by (fun tq kq => XS.iloadN X0.here hx rfl (hb hby d12_0) rfl kq) ?_
  show own_Go p.tables e below _ (s₁.setTop (mkF m 1 #[.val (Value.int (0 : Int32)), .val (Value.ref a1), .unset, .unset, .unset, .unset, .unset] [(Value.int (0 : Int32))]))
  refine own_Go.by (fun tq kq => XS.ifNo X0.here hx rfl (hb hby d12_1) rfl ((if0 _ _).trans (teq (by decide : (0 : Int32) = (0 : Int32))).2) kq) ?_
  show own_Go p.tables e below _ (s₁.setTop (mkF m 4 #[.val (Value.int (0 : Int32)), .val (Value.ref a1), .unset, .unset, .unset, .unset, .unset] []))
  refine own_Go.by (fun tq kq => XS.aloadN X0.here hx rfl (hb hby d12_4) rfl rfl kq) ?_
  show own_Go p.tables e below _ (s₁.setTop (mkF m 5 #[.val (Value.int (0 : Int32)), .val (Value.ref a1), .unset, .unset, .unset, .unset, .unset] [(Value.ref a1)]))
  refine own_Go.by (fun tq kq => XS.iconst X0.here hx rfl (hb hby d12_5) kq) ?_
  show own_Go p.tables e below _ (s₁.setTop (mkF m 6 #[.val (Value.int (0 : Int32)), .val (Value.ref a1), .unset, .unset, .unset, .unset, .unset] [(Value.int (0 : Int32)), (Value.ref a1)]))
  refine own_Go.by (fun tq kq => XS.aloadN X0.here hx rfl (hb hby d12_6) rfl rfl kq) ?_
  show own_Go p.tables e below _ (s₁.setTop (mkF m 7 #[.val (Value.int (0 : Int32)), .val (Value.ref a1), .unset, .unset, .unset, .unset, .unset] [(Value.ref a1), (Value.int (0 : Int32)), (Value.ref a1)]))
  obtain ⟨cl1, Ar1, q1, S1, M1, Hh1, G1⟩ := id H0
  refine own_Go.by (fun tq kq => X0.arraylength hx (by rw [e0]; exact Ar1.1) (State.isArrayOf_alike hZ.alike Ar1.2.1) (g := (mkF m 7 #[.val (Value.int (0 : Int32)), .val (Value.ref a1), .unset, .unset, .unset, .unset, .unset] [(Value.ref a1), (Value.int (0 : Int32)), (Value.ref a1)])) rfl rfl (hb hby d12_7) _ kq) ?_
  rw [len_of S1 M1]
  show own_Go p.tables e below _ (s₁.setTop (mkF m 8 #[.val (Value.int (0 : Int32)), .val (Value.ref a1), .unset, .unset, .unset, .unset, .unset] [(Value.int (3 : Int32)), (Value.int (0 : Int32)), (Value.ref a1)]))
  obtain ⟨_, _, ⟨T2, L2, k2, n2⟩, -, X2, ⟨Lc2, hQ2, l2, y2, z2⟩, st2⟩ := Jvm.LawKit.callS X0 hx (y := (⟨"java/lang/StringCoding", "countPositives", "([BII)I"⟩ : MethodName)) hown (mvT hZ (hw _ (List.mem_of_getElem? (i := 65) rfl))) (mvT hZ (hw _ (List.mem_of_getElem? (i := 66) rfl))) (mvT hZ (hw _ (List.mem_of_getElem? (i := 67) rfl))) (mvT hZ (hw _ (List.mem_of_getElem? (i := 68) rfl))) (by decide) (backOf (W := 0) (rm13 l Z a0 hw [] a1 kB v0 v1 v2 h0 n0 O0 H0 hps0 hps1 hps2) hZ (hw _ (List.mem_of_getElem? (i := 68) rfl)) (hw _ (List.mem_of_getElem? (i := 67) rfl)) (by decide) (by decide)) (g := (mkF m 8 #[.val (Value.int (0 : Int32)), .val (Value.ref a1), .unset, .unset, .unset, .unset, .unset] [(Value.int (3 : Int32)), (Value.int (0 : Int32)), (Value.ref a1)])) rfl (by rw [hml]; rfl) (argsL := [(Value.ref a1), (Value.int (0 : Int32)), (Value.int (3 : Int32))]) (rest := []) (lenOf own_pd0 rfl) rfl (by show 2 * 0 + _ ≤ _; exact Nat.le_of_eq rfl) (hb hby d12_8) (fun _ _ => ⟨rfl, e0, (by decide : 0 + 0 ≤ _), (by decide : 0 + 0 ≤ _)⟩)
  dsimp only [Pt.U, Pt.locs, Pt.cells, Pt.slots] at X2 l2 y2 z2 st2 hQ2
  subst l2 y2 z2
  refine own_Go.by st2 ?_
  obtain ⟨rfl, N2q, e2⟩ := hQ2
  have N2 := Fr.app N0 N2q
  show own_Go p.tables e below _ (T2.setTop (mkF m 11 #[.val (Value.int (0 : Int32)), .val (Value.ref a1), .unset, .unset, .unset, .unset, .unset] [(Value.int (3 : Int32))]))
  refine own_Go.by (fun tq kq => XS.istoreN X2.here hx rfl (hb hby d12_11) rfl (l' := #[.val (Value.int (0 : Int32)), .val (Value.ref a1), .val (Value.int (3 : Int32)), .unset, .unset, .unset, .unset]) rfl kq) ?_
  show own_Go p.tables e below _ (T2.setTop (mkF m 12 #[.val (Value.int (0 : Int32)), .val (Value.ref a1), .val (Value.int (3 : Int32)), .unset, .unset, .unset, .unset] []))
  refine own_Go.by (fun tq kq => XS.aloadN X2.here hx rfl (hb hby d12_12) rfl rfl kq) ?_
  show own_Go p.tables e below _ (T2.setTop (mkF m 13 #[.val (Value.int (0 : Int32)), .val (Value.ref a1), .val (Value.int (3 : Int32)), .unset, .unset, .unset, .unset] [(Value.ref a1)]))
  obtain ⟨T3, h3, X3, e3, E3, A3, Ea3, st3⟩ := cloneH X2 hx hZ hown (hw _ (List.mem_of_getElem? (i := 69) rfl)) (hw _ (List.mem_of_getElem? (i := 70) rfl)) (hw _ (List.mem_of_getElem? (i := 74) rfl)) (hw _ (List.mem_of_getElem? (i := 72) rfl)) (hw _ (List.mem_of_getElem? (i := 73) rfl)) (hw _ (List.mem_of_getElem? (i := 75) rfl)) e2 (Arv.arh H0) H1 (g := (mkF m 13 #[.val (Value.int (0 : Int32)), .val (Value.ref a1), .val (Value.int (3 : Int32)), .unset, .unset, .unset, .unset] [(Value.ref a1)])) rfl (by rw [hml]; rfl) rfl (hb hby d12_13) (by decide) (W := 0) (cap := 3) (by show 2 * 0 + _ ≤ _; exact Nat.le_of_eq rfl) (by decide) (by decide) (by decide) (by decide)
  obtain ⟨ob3, y3⟩ : ∃ z, z = h0.size := ⟨_, rfl⟩
  rw [← y3] at A3 Ea3 st3
  refine own_Go.by st3 ?_
  have O4 := O0.ext E3
  have K4 := K0.ext E3
  have g5 : n0 ≤ ob3 := Nat.le_trans (own_old_le O0) (Nat.le_of_eq y3.symm)
  have z5 : h0.size ≤ ob3 := Nat.le_trans K0.1 (Nat.le_of_eq y3.symm)
  have V3 : Arv Z h3 ob3 kB .byte (3 : Int32) [(Value.int v0), (Value.int v1), (Value.int v2)] (Value.int (0 : Int32)) := A3
  show own_Go p.tables e below _ (T3.setTop (mkF m 16 #[.val (Value.int (0 : Int32)), .val (Value.ref a1), .val (Value.int (3 : Int32)), .unset, .unset, .unset, .unset] [(Value.ref ob3)]))
  obtain ⟨T6, X6, e6, st6⟩ := castY X3 hx hZ hown (hw _ (List.mem_of_getElem? (i := 76) rfl)) e3 (Ins.self Ea3) (g := (mkF m 16 #[.val (Value.int (0 : Int32)), .val (Value.ref a1), .val (Value.int (3 : Int32)), .unset, .unset, .unset, .unset] [(Value.ref ob3)])) rfl rfl (hb hby d12_16)
  refine own_Go.by st6 ?_
  show own_Go p.tables e below _ (T6.setTop (mkF m 19 #[.val (Value.int (0 : Int32)), .val (Value.ref a1), .val (Value.int (3 : Int32)), .unset, .unset, .unset, .unset] [(Value.ref ob3)]))
  refine own_Go.by (fun tq kq => XS.astoreN X6.here hx rfl (hb hby d12_19) rfl rfl (l' := #[.val (Value.int (0 : Int32)), .val (Value.ref a1), .val (Value.int (3 : Int32)), .val (Value.ref ob3), .unset, .unset, .unset]) rfl kq) ?_
  show own_Go p.tables e below _ (T6.setTop (mkF m 20 #[.val (Value.int (0 : Int32)), .val (Value.ref a1), .val (Value.int (3 : Int32)), .val (Value.ref ob3), .unset, .unset, .unset] []))
  refine own_Go.by (fun tq kq => XS.iloadN X6.here hx rfl (hb hby d12_20) rfl kq) ?_
  show own_Go p.tables e below _ (T6.setTop (mkF m 21 #[.val (Value.int (0 : Int32)), .val (Value.ref a1), .val (Value.int (3 : Int32)), .val (Value.ref ob3), .unset, .unset, .unset] [(Value.int (3 : Int32))]))
  refine own_Go.by (fun tq kq => XS.aloadN X6.here hx rfl (hb hby d12_21) rfl rfl kq) ?_
  show own_Go p.tables e below _ (T6.setTop (mkF m 22 #[.val (Value.int (0 : Int32)), .val (Value.ref a1), .val (Value.int (3 : Int32)), .val (Value.ref ob3), .unset, .unset, .unset] [(Value.ref ob3), (Value.int (3 : Int32))]))
  obtain ⟨cl7, Ar7, q7, S7, M7, Hh7, G7⟩ := id V3
  refine own_Go.by (fun tq kq => X6.arraylength hx (by rw [e6]; exact Ar7.1) (State.isArrayOf_alike hZ.alike Ar7.2.1) (g := (mkF m 22 #[.val (Value.int (0 : Int32)), .val (Value.ref a1), .val (Value.int (3 : Int32)), .val (Value.ref ob3), .unset, .unset, .unset] [(Value.ref ob3), (Value.int (3 : Int32))])) rfl rfl (hb hby d12_22) _ kq) ?_
  rw [len_of S7 M7]
  show own_Go p.tables e below _ (T6.setTop (mkF m 23 #[.val (Value.int (0 : Int32)), .val (Value.ref a1), .val (Value.int (3 : Int32)), .val (Value.ref ob3), .unset, .unset, .unset] [(Value.int (3 : Int32)), (Value.int (3 : Int32))]))
  refine own_Go.by (fun tq kq => XS.icmpYes X6.here hx rfl (pc0 := 23) (pc' := 31) rfl (hb hby d12_23) rfl (flt (by decide : ¬ ((3 : Int32) < (3 : Int32)))).2.1 (by decide) (by decide) kq) ?_
  show own_Go p.tables e below _ (T6.setTop (mkF m 31 #[.val (Value.int (0 : Int32)), .val (Value.ref a1), .val (Value.int (3 : Int32)), .val (Value.ref ob3), .unset, .unset, .unset] []))
  refine own_Go.by (fun tq kq => XS.aloadN X6.here hx rfl (hb hby d12_31) rfl rfl kq) ?_
  show own_Go p.tables e below _ (T6.setTop (mkF m 32 #[.val (Value.int (0 : Int32)), .val (Value.ref a1), .val (Value.int (3 : Int32)), .val (Value.ref ob3), .unset, .unset, .unset] [(Value.ref ob3)]))
  obtain ⟨fs, hr, hrun, hended, hW, hsame⟩ := X6.leave (v := some (Value.ref ob3)) (fun h => by rw [Bd.returns] at h; cases h)
  refine own_Go.fin (retOut X6 hx Bd.returns rfl (Or.inr (Or.inr (Or.inr (Or.inr ⟨rfl, rfl, rfl⟩)))) (hb hby d12_32) hr) ⟨hrun, hended, _, _, rfl, ?_, ⟨_, rfl⟩, hW, hsame.mono (by decide) (by decide)⟩
  show Q12 Z a1 kB v0 v1 v2 h0 n0 _ T6.heap _
  rw [e6]
  exact ⟨ob3, rfl, N2, K4, z5, Ea3, V3⟩

theorem own_pd1 : parseMethodDescriptor "(B[B)[B" = some ⟨[.byte, (.array .byte)], some (.array .byte)⟩ := by decide +kernel
theorem d11_0 : decode jdk_42_method_18_code 0 = .ok (.aload_n 0, 1) := by decide +kernel
theorem d11_1 : decode jdk_42_method_18_code 1 = .ok (.getstatic 86, 3) := by decide +kernel
theorem d11_4 : decode jdk_42_method_18_code 4 = .ok (.if_acmp .ne 10, 3) := by decide +kernel
theorem d11_14 : decode jdk_42_method_18_code 14 = .ok (.aload_n 0, 1) := by decide +kernel
theorem d11_15 : decode jdk_42_method_18_code 15 = .ok (.getstatic 116, 3) := by decide +kernel
theorem d11_18 : decode jdk_42_method_18_code 18 = .ok (.if_acmp .ne 9, 3) := by decide +kernel
theorem d11_27 : decode jdk_42_method_18_code 27 = .ok (.aload_n 0, 1) := by decide +kernel
theorem d11_28 : decode jdk_42_method_18_code 28 = .ok (.getstatic 123, 3) := by decide +kernel
theorem d11_31 : decode jdk_42_method_18_code 31 = .ok (.if_acmp .ne 9, 3) := by decide +kernel
theorem d11_34 : decode jdk_42_method_18_code 34 = .ok (.iload_n 1, 1) := by decide +kernel
theorem d11_35 : decode jdk_42_method_18_code 35 = .ok (.aload_n 2, 1) := by decide +kernel
theorem d11_36 : decode jdk_42_method_18_code 36 = .ok (.invokestatic 260, 3) := by decide +kernel
theorem d11_39 : decode jdk_42_method_18_code 39 = .ok (.areturn, 1) := by decide +kernel
theorem own_ef_11 (m : MethodId) (aC : Addr) (a1 : Addr) : entryFrame m #[(Value.ref aC), (Value.int (0 : Int32)), (Value.ref a1)] 3 = mkF m 0 #[.val (Value.ref aC), .val (Value.int (0 : Int32)), .val (Value.ref a1)] [] := by first | (simp [entryFrame, mkF, argsToLocals, Value.category]; done) | rfl
def Q11 (Z : State) (aC : Addr) (a1 : Addr) (kB : ClassId) (aU : Addr) (aI : Addr) (v0 : Int32) (v1 : Int32) (v2 : Int32) (h0 : Heap) (n0 : Nat) (v : Option Value) (h : Heap) (L : List Loc) : Prop := ∃ (b : Addr), v = some (Value.ref b) ∧ Fr n0 L ∧ Keep h0 h [] ∧ (h0.size ≤ b) ∧ (Exa Z h b "[B") ∧ (Arv Z h b kB .byte (3 : Int32) [(Value.int v0), (Value.int v1), (Value.int v2)] (Value.int (0 : Int32)))
set_option maxRecDepth 65536 in
set_option maxHeartbeats 40000000 in
theorem rm11 (l : Launch) (Z : State) (a0 : Array Value) (hw : ∀ d ∈ tables_1, d.before a0 Z = true) (ws : List Jvm.Cond) (aC : Addr) (a1 : Addr) (kB : ClassId) (aU : Addr) (aI : Addr) (v0 : Int32) (v1 : Int32) (v2 : Int32) (h0 : Heap) (n0 : Nat) (O0 : Old Z n0 h0) (H0 : Arv Z h0 a1 kB .byte (3 : Int32) [(Value.int v0), (Value.int v1), (Value.int v2)] (Value.int (0 : Int32))) (H1 : Exa Z h0 a1 "[B") (H2 : Sta Z Z.heap "sun/nio/cs/UTF_8" "INSTANCE" "Lsun/nio/cs/UTF_8;" (Value.ref aU)) (H3 : Sta Z Z.heap "sun/nio/cs/ISO_8859_1" "INSTANCE" "Lsun/nio/cs/ISO_8859_1;" (Value.ref aI)) (H4 : Sta Z Z.heap "sun/nio/cs/US_ASCII" "INSTANCE" "Lsun/nio/cs/US_ASCII;" (Value.ref aC)) (H5 : aC ≠ aU) (H6 : aC ≠ aI) (hps0 : ¬ (v0 < (0 : Int32))) (hps1 : ¬ (v1 < (0 : Int32))) (hps2 : ¬ (v2 < (0 : Int32))) :
    MetFree l (⟨"java/lang/String", "encode", "(Ljava/nio/charset/Charset;B[B)[B"⟩ : MethodName) (head1 (Jvm.Cond.code (⟨"java/lang/String", "encode", "(Ljava/nio/charset/Charset;B[B)[B"⟩ : MethodName) jdk_42_method_18_code 3 (some (.array .byte)) :: ws) ({ frames := 2, cells := 1, slots := 3, locals := 34 } : Room)) (fun a U => a = #[(Value.ref aC), (Value.int (0 : Int32)), (Value.ref a1)] ∧ Z.Warmed39 U.vm ∧ U.heap = h0) (fun _ _ _ _ _ => True) (fun _ U o U' => ∃ v L, o = .returned v ∧ Q11 Z aC a1 kB aU aI v0 v1 v2 h0 n0 v U'.heap L ∧ FrameEnd U o U' L ({ frames := 2, cells := 1, slots := 3, locals := 34 } : Room).cells ({ frames := 2, cells := 1, slots := 3, locals := 34 } : Room).slots) := by
  refine MetFree.of_bodySF (plainFor_of_name own_pn_java_lang_String) hisR ?_
  intro p e s m args below meth c s₁ Bd hml0 hP hK
  obtain ⟨rfl, hZ, hh⟩ := hP
  have hx := Bd.exec
  have hby := Bd.bytes
  have hml : c.maxLocals = 3 := hml0
  have hown : s.vm.findClass "java/lang/String" = some m.cls := findClass_of_methodNamed Bd.named
  have hnm := (name_of_methodNamed Bd.named Bd.method).1
  have X0 : Stand p l e ({ frames := 2, cells := 1, slots := 3, locals := 34 } : Room) s m #[(Value.ref aC), (Value.int (0 : Int32)), (Value.ref a1)] below meth c s₁ [] 0 0 := Stand.of_body Bd
  have e0 : s₁.heap = h0 := by rw [← hh, Bd.state]; rfl
  have N0 := Fr.nil n0
  have K0 : Keep h0 h0 [] := Keep.refl h0 []
  show own_Go p.tables e below _ (s₁.setTop (entryFrame m #[(Value.ref aC), (Value.int (0 : Int32)), (Value.ref a1)] 3))
  refine own_Go.by (fun tq kq => castTop (own_ef_11 m aC a1) kq) ?_
  show own_Go p.tables e below _ (s₁.setTop (mkF m 0 #[.val (Value.ref aC), .val (Value.int (0 : Int32)), .val (Value.ref a1)] []))
  refine own_Go.by (fun tq kq => XS.aloadN X0.here hx rfl (hb hby d11_0) rfl rfl kq) ?_
  show own_Go p.tables e below _ (s₁.setTop (mkF m 1 #[.val (Value.ref aC), .val (Value.int (0 : Int32)), .val (Value.ref a1)] [(Value.ref aC)]))
  obtain ⟨T1, X1, e1, st1⟩ := getS2 X0 hx hZ hown (host := "") (Or.inl (hw _ (List.mem_of_getElem? (i := 56) rfl))) Via.refl e0 (H2.ext O0.2) (g := (mkF m 1 #[.val (Value.ref aC), .val (Value.int (0 : Int32)), .val (Value.ref a1)] [(Value.ref aC)])) rfl (hb hby d11_1)
  refine own_Go.by st1 ?_
  show own_Go p.tables e below _ (T1.setTop (mkF m 4 #[.val (Value.ref aC), .val (Value.int (0 : Int32)), .val (Value.ref a1)] [(Value.ref aU), (Value.ref aC)]))
  refine own_Go.by (fun tq kq => Jvm.RoadKit.acmp (g := (mkF m 4 #[.val (Value.ref aC), .val (Value.int (0 : Int32)), .val (Value.ref a1)] [(Value.ref aU), (Value.ref aC)])) X1 hx rfl rfl rfl (pc0 := 4) (pc' := 14) (same := false) rfl (hb hby d11_4) rfl (decide_eq_false fun q => H5 (Value.ref.inj q)) (by decide) (by decide) kq) ?_
  show own_Go p.tables e below _ (T1.setTop (mkF m 14 #[.val (Value.ref aC), .val (Value.int (0 : Int32)), .val (Value.ref a1)] []))
  refine own_Go.by (fun tq kq => XS.aloadN X1.here hx rfl (hb hby d11_14) rfl rfl kq) ?_
  show own_Go p.tables e below _ (T1.setTop (mkF m 15 #[.val (Value.ref aC), .val (Value.int (0 : Int32)), .val (Value.ref a1)] [(Value.ref aC)]))
  obtain ⟨T2, X2, e2, st2⟩ := getS2 X1 hx hZ hown (host := "") (Or.inl (hw _ (List.mem_of_getElem? (i := 58) rfl))) Via.refl e1 (H3.ext O0.2) (g := (mkF m 15 #[.val (Value.ref aC), .val (Value.int (0 : Int32)), .val (Value.ref a1)] [(Value.ref aC)])) rfl (hb hby d11_15)
  refine own_Go.by st2 ?_
  show own_Go p.tables e below _ (T2.setTop (mkF m 18 #[.val (Value.ref aC), .val (Value.int (0 : Int32)), .val (Value.ref a1)] [(Value.ref aI), (Value.ref aC)]))
  refine own_Go.by (fun tq kq => Jvm.RoadKit.acmp (g := (mkF m 18 #[.val (Value.ref aC), .val (Value.int (0 : Int32)), .val (Value.ref a1)] [(Value.ref aI), (Value.ref aC)])) X2 hx rfl rfl rfl (pc0 := 18) (pc' := 27) (same := false) rfl (hb hby d11_18) rfl (decide_eq_false fun q => H6 (Value.ref.inj q)) (by decide) (by decide) kq) ?_
  show own_Go p.tables e below _ (T2.setTop (mkF m 27 #[.val (Value.ref aC), .val (Value.int (0 : Int32)), .val (Value.ref a1)] []))
  refine own_Go.by (fun tq kq => XS.aloadN X2.here hx rfl (hb hby d11_27) rfl rfl kq) ?_
  show own_Go p.tables e below _ (T2.setTop (mkF m 28 #[.val (Value.ref aC), .val (Value.int (0 : Int32)), .val (Value.ref a1)] [(Value.ref aC)]))
  obtain ⟨T3, X3, e3, st3⟩ := getS2 X2 hx hZ hown (host := "") (Or.inl (hw _ (List.mem_of_getElem? (i := 60) rfl))) Via.refl e2 (H4.ext O0.2) (g := (mkF m 28 #[.val (Value.ref aC), .val (Value.int (0 : Int32)), .val (Value.ref a1)] [(Value.ref aC)])) rfl (hb hby d11_28)
  refine own_Go.by st3 ?_
  show own_Go p.tables e below _ (T3.setTop (mkF m 31 #[.val (Value.ref aC), .val (Value.int (0 : Int32)), .val (Value.ref a1)] [(Value.ref aC), (Value.ref aC)]))
  refine own_Go.by (fun tq kq => Jvm.RoadKit.acmp (g := (mkF m 31 #[.val (Value.ref aC), .val (Value.int (0 : Int32)), .val (Value.ref a1)] [(Value.ref aC), (Value.ref aC)])) X3 hx rfl rfl rfl (pc0 := 31) (pc' := 34) (same := true) rfl (hb hby d11_31) rfl (decide_eq_true rfl) (by decide) (by decide) kq) ?_
  show own_Go p.tables e below _ (T3.setTop (mkF m 34 #[.val (Value.ref aC), .val (Value.int (0 : Int32)), .val (Value.ref a1)] []))
  refine own_Go.by (fun tq kq => XS.iloadN X3.here hx rfl (hb hby d11_34) rfl kq) ?_
  show own_Go p.tables e below _ (T3.setTop (mkF m 35 #[.val (Value.ref aC), .val (Value.int (0 : Int32)), .val (Value.ref a1)] [(Value.int (0 : Int32))]))
  refine own_Go.by (fun tq kq => XS.aloadN X3.here hx rfl (hb hby d11_35) rfl rfl kq) ?_
  show own_Go p.tables e below _ (T3.setTop (mkF m 36 #[.val (Value.ref aC), .val (Value.int (0 : Int32)), .val (Value.ref a1)] [(Value.ref a1), (Value.int (0 : Int32))]))
  obtain ⟨_, _, ⟨T4, L4, k4, n4⟩, -, X4, ⟨Lc4, hQ4, l4, y4, z4⟩, st4⟩ := Jvm.LawKit.callS X3 hx (y := (⟨"java/lang/String", "encodeASCII", "(B[B)[B"⟩ : MethodName)) hown (mvT hZ (hw _ (List.mem_of_getElem? (i := 62) rfl))) (mvT hZ (hw _ (List.mem_of_getElem? (i := 63) rfl))) (mvT hZ (hw _ (List.mem_of_getElem? (i := 10) rfl))) (mvT hZ (hw _ (List.mem_of_getElem? (i := 64) rfl))) (by decide) (backOf (W := 0) (rm12 l Z a0 hw [] a1 kB v0 v1 v2 h0 n0 O0 H0 H1 hps0 hps1 hps2) hZ (hw _ (List.mem_of_getElem? (i := 64) rfl)) (hw _ (List.mem_of_getElem? (i := 10) rfl)) (by decide) (by decide)) (g := (mkF m 36 #[.val (Value.ref aC), .val (Value.int (0 : Int32)), .val (Value.ref a1)] [(Value.ref a1), (Value.int (0 : Int32))])) rfl (by rw [hml]; rfl) (argsL := [(Value.int (0 : Int32)), (Value.ref a1)]) (rest := []) (lenOf own_pd1 rfl) rfl (by show 2 * 0 + _ ≤ _; exact Nat.le_of_eq rfl) (hb hby d11_36) (fun _ _ => ⟨rfl, e3, (by decide : 0 + 1 ≤ _), (by decide : 0 + 3 ≤ _)⟩)
  dsimp only [Pt.U, Pt.locs, Pt.cells, Pt.slots] at X4 l4 y4 z4 st4 hQ4
  subst l4 y4 z4
  refine own_Go.by st4 ?_
  obtain ⟨b_4, rfl, N4q, K4q, p4_0, p4_1, p4_2⟩ := hQ4
  have N4 := Fr.app N0 N4q
  have O5 := O0.keep K4q all0
  have K5 := K0.trans K4q all0
  have g6 : n0 ≤ b_4 := Nat.le_trans (own_old_le O0) p4_0
  have z6 : h0.size ≤ b_4 := Nat.le_trans K0.1 p4_0
  show own_Go p.tables e below _ (T4.setTop (mkF m 39 #[.val (Value.ref aC), .val (Value.int (0 : Int32)), .val (Value.ref a1)] [(Value.ref b_4)]))
  obtain ⟨fs, hr, hrun, hended, hW, hsame⟩ := X4.leave (v := some (Value.ref b_4)) (fun h => by rw [Bd.returns] at h; cases h)
  refine own_Go.fin (retOut X4 hx Bd.returns rfl (Or.inr (Or.inr (Or.inr (Or.inr ⟨rfl, rfl, rfl⟩)))) (hb hby d11_39) hr) ⟨hrun, hended, _, _, rfl, ?_, ⟨_, rfl⟩, hW, hsame.mono (by decide) (by decide)⟩
  show Q11 Z aC a1 kB aU aI v0 v1 v2 h0 n0 _ T4.heap _
  exact ⟨b_4, rfl, N4, K5, z6, p4_1, p4_2⟩

theorem d10_0 : decode jdk_42_method_152_code 0 = .ok (.getstatic 38, 3) := by decide +kernel
theorem d10_3 : decode jdk_42_method_152_code 3 = .ok (.ifCond .eq 10, 3) := by decide +kernel
theorem d10_6 : decode jdk_42_method_152_code 6 = .ok (.aload_n 0, 1) := by decide +kernel
theorem d10_7 : decode jdk_42_method_152_code 7 = .ok (.getfield 15, 3) := by decide +kernel
theorem d10_10 : decode jdk_42_method_152_code 10 = .ok (.goto 4, 3) := by decide +kernel
theorem d10_14 : decode jdk_42_method_152_code 14 = .ok (.ireturn, 1) := by decide +kernel
theorem own_ef_10 (m : MethodId) (a0s : Addr) : entryFrame m #[(Value.ref a0s)] 1 = mkF m 0 #[.val (Value.ref a0s)] [] := by first | (simp [entryFrame, mkF, argsToLocals, Value.category]; done) | rfl
def Q10 (Z : State) (a0s : Addr) (zc : Int32) (h0 : Heap) (n0 : Nat) (v : Option Value) (h : Heap) (L : List Loc) : Prop := v = some (Value.int (0 : Int32)) ∧ Fr n0 L ∧ h = h0
set_option maxRecDepth 65536 in
set_option maxHeartbeats 40000000 in
theorem rm10 (l : Launch) (Z : State) (a0 : Array Value) (hw : ∀ d ∈ tables_1, d.before a0 Z = true) (ws : List Jvm.Cond) (a0s : Addr) (zc : Int32) (h0 : Heap) (n0 : Nat) (O0 : Old Z n0 h0) (H0 : Fld Z h0 a0s "java/lang/String" "coder" "B" (Value.int (0 : Int32))) (H1 : Sta Z Z.heap "java/lang/String" "COMPACT_STRINGS" "Z" (Value.int zc)) (hzc : ¬ (zc = (0 : Int32))) :
    MetFree l (⟨"java/lang/String", "coder", "()B"⟩ : MethodName) (head1 (Jvm.Cond.code (⟨"java/lang/String", "coder", "()B"⟩ : MethodName) jdk_42_method_152_code 1 (some .byte) :: ws) ({ frames := 0, cells := 0, slots := 0, locals := 0 } : Room)) (fun a U => a = #[(Value.ref a0s)] ∧ Z.Warmed39 U.vm ∧ U.heap = h0) (fun _ _ _ _ _ => True) (fun _ U o U' => ∃ v L, o = .returned v ∧ Q10 Z a0s zc h0 n0 v U'.heap L ∧ FrameEnd U o U' L ({ frames := 0, cells := 0, slots := 0, locals := 0 } : Room).cells ({ frames := 0, cells := 0, slots := 0, locals := 0 } : Room).slots) := by
  refine MetFree.of_bodySF (plainFor_of_name own_pn_java_lang_String) hisR ?_
  intro p e s m args below meth c s₁ Bd hml0 hP hK
  obtain ⟨rfl, hZ, hh⟩ := hP
  have hx := Bd.exec
  have hby := Bd.bytes
  have hml : c.maxLocals = 1 := hml0
  have hown : s.vm.findClass "java/lang/String" = some m.cls := findClass_of_methodNamed Bd.named
  have hnm := (name_of_methodNamed Bd.named Bd.method).1
  have X0 : Stand p l e ({ frames := 0, cells := 0, slots := 0, locals := 0 } : Room) s m #[(Value.ref a0s)] below meth c s₁ [] 0 0 := Stand.of_body Bd
  have e0 : s₁.heap = h0 := by rw [← hh, Bd.state]; rfl
  have N0 := Fr.nil n0
  have K0 : Keep h0 h0 [] := Keep.refl h0 []
  show own_Go p.tables e below _ (s₁.setTop (entryFrame m #[(Value.ref a0s)] 1))
  refine own_Go.by (fun tq kq => castTop (own_ef_10 m a0s) kq) ?_
  show own_Go p.tables e below _ (s₁.setTop (mkF m 0 #[.val (Value.ref a0s)] []))
  obtain ⟨T1, X1, e1, st1⟩ := getS2 X0 hx hZ hown (host := "") (Or.inl (hw _ (List.mem_of_getElem? (i := 21) rfl))) Via.refl e0 (H1.ext O0.2) (g := (mkF m 0 #[.val (Value.ref a0s)] [])) rfl (hb hby d10_0)
  refine own_Go.by st1 ?_
  show own_Go p.tables e below _ (T1.setTop (mkF m 3 #[.val (Value.ref a0s)] [(Value.int zc)]))
  refine own_Go.by (fun tq kq => XS.ifNo X1.here hx rfl (hb hby d10_3) rfl ((if0 _ _).trans (feq hzc).1) kq) ?_
  show own_Go p.tables e below _ (T1.setTop (mkF m 6 #[.val (Value.ref a0s)] []))
  refine own_Go.by (fun tq kq => XS.aloadN X1.here hx rfl (hb hby d10_6) rfl rfl kq) ?_
  show own_Go p.tables e below _ (T1.setTop (mkF m 7 #[.val (Value.ref a0s)] [(Value.ref a0s)]))
  obtain ⟨T2, X2, e2, st2⟩ := getF X1 hx hZ hown (host := "") (Or.inl (hw _ (List.mem_of_getElem? (i := 33) rfl))) Via.refl e1 H0 (g := (mkF m 7 #[.val (Value.ref a0s)] [(Value.ref a0s)])) rfl rfl (hb hby d10_7)
  refine own_Go.by st2 ?_
  show own_Go p.tables e below _ (T2.setTop (mkF m 10 #[.val (Value.ref a0s)] [(Value.int (0 : Int32))]))
  refine own_Go.by (fun tq kq => XS.goto X2.here hx rfl (pc0 := 10) (pc' := 14) rfl (hb hby d10_10) (by decide) (by decide) kq) ?_
  show own_Go p.tables e below _ (T2.setTop (mkF m 14 #[.val (Value.ref a0s)] [(Value.int (0 : Int32))]))
  obtain ⟨fs, hr, hrun, hended, hW, hsame⟩ := X2.leave (v := some (Value.int (nar .byte (0 : Int32)))) (fun h => by rw [Bd.returns] at h; cases h)
  refine own_Go.fin (retN X2 hx (t := .byte) Bd.returns (by simp) (hb hby d10_14) hr) ⟨hrun, hended, _, _, rfl, ?_, ⟨_, rfl⟩, hW, hsame.mono (by decide) (by decide)⟩
  show Q10 Z a0s zc h0 n0 _ T2.heap _
  rw [e2]
  exact ⟨rfl, N0, rfl⟩

theorem own_pd2 : parseMethodDescriptor "()B" = some ⟨[], some .byte⟩ := by decide +kernel
theorem own_pd3 : parseMethodDescriptor "(Ljava/nio/charset/Charset;B[B)[B" = some ⟨[(.object "java/nio/charset/Charset"), .byte, (.array .byte)], some (.array .byte)⟩ := by decide +kernel
theorem d9_0 : decode jdk_42_method_64_code 0 = .ok (.aload_n 1, 1) := by decide +kernel
theorem d9_1 : decode jdk_42_method_64_code 1 = .ok (.ifnonnull 11, 3) := by decide +kernel
theorem d9_12 : decode jdk_42_method_64_code 12 = .ok (.aload_n 1, 1) := by decide +kernel
theorem d9_13 : decode jdk_42_method_64_code 13 = .ok (.aload_n 0, 1) := by decide +kernel
theorem d9_14 : decode jdk_42_method_64_code 14 = .ok (.invokevirtual 335, 3) := by decide +kernel
theorem d9_17 : decode jdk_42_method_64_code 17 = .ok (.aload_n 0, 1) := by decide +kernel
theorem d9_18 : decode jdk_42_method_64_code 18 = .ok (.getfield 9, 3) := by decide +kernel
theorem d9_21 : decode jdk_42_method_64_code 21 = .ok (.invokestatic 535, 3) := by decide +kernel
theorem d9_24 : decode jdk_42_method_64_code 24 = .ok (.areturn, 1) := by decide +kernel
theorem own_ef_9 (m : MethodId) (a0s : Addr) (aC : Addr) : entryFrame m #[(Value.ref a0s), (Value.ref aC)] 2 = mkF m 0 #[.val (Value.ref a0s), .val (Value.ref aC)] [] := by first | (simp [entryFrame, mkF, argsToLocals, Value.category]; done) | rfl
def Q9 (Z : State) (a0s : Addr) (aC : Addr) (a1 : Addr) (kB : ClassId) (aU : Addr) (aI : Addr) (zc : Int32) (v0 : Int32) (v1 : Int32) (v2 : Int32) (h0 : Heap) (n0 : Nat) (v : Option Value) (h : Heap) (L : List Loc) : Prop := ∃ (b : Addr), v = some (Value.ref b) ∧ Fr n0 L ∧ Keep h0 h [] ∧ (h0.size ≤ b) ∧ (Exa Z h b "[B") ∧ (Arv Z h b kB .byte (3 : Int32) [(Value.int v0), (Value.int v1), (Value.int v2)] (Value.int (0 : Int32)))
set_option maxRecDepth 65536 in
set_option maxHeartbeats 40000000 in
theorem rm9 (l : Launch) (Z : State) (a0 : Array Value) (hw : ∀ d ∈ tables_1, d.before a0 Z = true) (ws : List Jvm.Cond) (a0s : Addr) (aC : Addr) (a1 : Addr) (kB : ClassId) (aU : Addr) (aI : Addr) (zc : Int32) (v0 : Int32) (v1 : Int32) (v2 : Int32) (h0 : Heap) (n0 : Nat) (O0 : Old Z n0 h0) (H0 : Exa Z h0 a0s "java/lang/String") (H1 : Fld Z h0 a0s "java/lang/String" "value" "[B" (Value.ref a1)) (H2 : Fld Z h0 a0s "java/lang/String" "coder" "B" (Value.int (0 : Int32))) (H3 : Arv Z h0 a1 kB .byte (3 : Int32) [(Value.int v0), (Value.int v1), (Value.int v2)] (Value.int (0 : Int32))) (H4 : Exa Z h0 a1 "[B") (H5 : Sta Z Z.heap "java/lang/String" "COMPACT_STRINGS" "Z" (Value.int zc)) (hzc : ¬ (zc = (0 : Int32))) (H7 : Sta Z Z.heap "sun/nio/cs/UTF_8" "INSTANCE" "Lsun/nio/cs/UTF_8;" (Value.ref aU)) (H8 : Sta Z Z.heap "sun/nio/cs/ISO_8859_1" "INSTANCE" "Lsun/nio/cs/ISO_8859_1;" (Value.ref aI)) (H9 : Sta Z Z.heap "sun/nio/cs/US_ASCII" "INSTANCE" "Lsun/nio/cs/US_ASCII;" (Value.ref aC)) (H10 : aC ≠ aU) (H11 : aC ≠ aI) (hps0 : ¬ (v0 < (0 : Int32))) (hps1 : ¬ (v1 < (0 : Int32))) (hps2 : ¬ (v2 < (0 : Int32))) :
    MetFree l (⟨"java/lang/String", "getBytes", "(Ljava/nio/charset/Charset;)[B"⟩ : MethodName) (head1 (Jvm.Cond.code (⟨"java/lang/String", "getBytes", "(Ljava/nio/charset/Charset;)[B"⟩ : MethodName) jdk_42_method_64_code 2 (some (.array .byte)) :: ws) ({ frames := 3, cells := 1, slots := 3, locals := 48 } : Room)) (fun a U => a = #[(Value.ref a0s), (Value.ref aC)] ∧ Z.Warmed39 U.vm ∧ U.heap = h0) (fun _ _ _ _ _ => True) (fun _ U o U' => ∃ v L, o = .returned v ∧ Q9 Z a0s aC a1 kB aU aI zc v0 v1 v2 h0 n0 v U'.heap L ∧ FrameEnd U o U' L ({ frames := 3, cells := 1, slots := 3, locals := 48 } : Room).cells ({ frames := 3, cells := 1, slots := 3, locals := 48 } : Room).slots) := by
  refine MetFree.of_bodySF (plainFor_of_name own_pn_java_lang_String) hisR ?_
  intro p e s m args below meth c s₁ Bd hml0 hP hK
  obtain ⟨rfl, hZ, hh⟩ := hP
  have hx := Bd.exec
  have hby := Bd.bytes
  have hml : c.maxLocals = 2 := hml0
  have hown : s.vm.findClass "java/lang/String" = some m.cls := findClass_of_methodNamed Bd.named
  have hnm := (name_of_methodNamed Bd.named Bd.method).1
  have X0 : Stand p l e ({ frames := 3, cells := 1, slots := 3, locals := 48 } : Room) s m #[(Value.ref a0s), (Value.ref aC)] below meth c s₁ [] 0 0 := Stand.of_body Bd
  have e0 : s₁.heap = h0 := by rw [← hh, Bd.state]; rfl
  have N0 := Fr.nil n0
  have K0 : Keep h0 h0 [] := Keep.refl h0 []
  show own_Go p.tables e below _ (s₁.setTop (entryFrame m #[(Value.ref a0s), (Value.ref aC)] 2))
  refine own_Go.by (fun tq kq => castTop (own_ef_9 m a0s aC) kq) ?_
  show own_Go p.tables e below _ (s₁.setTop (mkF m 0 #[.val (Value.ref a0s), .val (Value.ref aC)] []))
  refine own_Go.by (fun tq kq => XS.aloadN X0.here hx rfl (hb hby d9_0) rfl rfl kq) ?_
  show own_Go p.tables e below _ (s₁.setTop (mkF m 1 #[.val (Value.ref a0s), .val (Value.ref aC)] [(Value.ref aC)]))
  refine own_Go.by (fun tq kq => XS.ifnonnullYes X0.here hx rfl (pc0 := 1) (pc' := 12) rfl (hb hby d9_1) rfl (by decide) (by decide) kq) ?_
  show own_Go p.tables e below _ (s₁.setTop (mkF m 12 #[.val (Value.ref a0s), .val (Value.ref aC)] []))
  refine own_Go.by (fun tq kq => XS.aloadN X0.here hx rfl (hb hby d9_12) rfl rfl kq) ?_
  show own_Go p.tables e below _ (s₁.setTop (mkF m 13 #[.val (Value.ref a0s), .val (Value.ref aC)] [(Value.ref aC)]))
  refine own_Go.by (fun tq kq => XS.aloadN X0.here hx rfl (hb hby d9_13) rfl rfl kq) ?_
  show own_Go p.tables e below _ (s₁.setTop (mkF m 14 #[.val (Value.ref a0s), .val (Value.ref aC)] [(Value.ref a0s), (Value.ref aC)]))
  obtain ⟨cq1, kq1, q1a, q1b, q1c⟩ := isOf hZ e0 H0
  obtain ⟨_, _, ⟨T1, L1, k1, n1⟩, -, X1, ⟨Lc1, hQ1, l1, y1, z1⟩, st1⟩ := X0.virtualBack hx (y := (⟨"java/lang/String", "coder", "()B"⟩ : MethodName)) (z := (⟨"java/lang/String", "coder", "()B"⟩ : MethodName)) hown (mvT hZ (hw _ (List.mem_of_getElem? (i := 48) rfl))) (mvT hZ (hw _ (List.mem_of_getElem? (i := 49) rfl))) (notFace_of_selects (args := #[]) (mvT hZ (hw _ (List.mem_of_getElem? (i := 51) rfl)))) (mvT hZ (hw _ (List.mem_of_getElem? (i := 51) rfl))) (mvT hZ (hw _ (List.mem_of_getElem? (i := 50) rfl))) (by decide) (backOf (W := 1) (rm10 l Z a0 hw [] a0s zc h0 n0 O0 H2 H5 hzc) hZ (hw _ (List.mem_of_getElem? (i := 52) rfl)) (hw _ (List.mem_of_getElem? (i := 10) rfl)) (by decide) (by decide)) q1a q1c (g := (mkF m 14 #[.val (Value.ref a0s), .val (Value.ref aC)] [(Value.ref a0s), (Value.ref aC)])) rfl (by rw [hml]; rfl) (Steps.refl _) (argsL := []) (rest := [(Value.ref aC)]) (lenOf own_pd2 rfl) rfl (by show 2 * 0 + _ ≤ _; exact Nat.le_of_eq rfl) (hb hby d9_14) (fun _ _ => ⟨rfl, e0, (by decide : 0 + 0 ≤ _), (by decide : 0 + 0 ≤ _)⟩)
  dsimp only [Pt.U, Pt.locs, Pt.cells, Pt.slots] at X1 l1 y1 z1 st1 hQ1
  subst l1 y1 z1
  refine own_Go.by (fun tq kq => st1.trans kq) ?_
  obtain ⟨rfl, N1q, e1⟩ := hQ1
  have N1 := Fr.app N0 N1q
  show own_Go p.tables e below _ (T1.setTop (mkF m 17 #[.val (Value.ref a0s), .val (Value.ref aC)] [(Value.int (0 : Int32)), (Value.ref aC)]))
  refine own_Go.by (fun tq kq => XS.aloadN X1.here hx rfl (hb hby d9_17) rfl rfl kq) ?_
  show own_Go p.tables e below _ (T1.setTop (mkF m 18 #[.val (Value.ref a0s), .val (Value.ref aC)] [(Value.ref a0s), (Value.int (0 : Int32)), (Value.ref aC)]))
  obtain ⟨T2, X2, e2, st2⟩ := getF X1 hx hZ hown (host := "") (Or.inl (hw _ (List.mem_of_getElem? (i := 35) rfl))) Via.refl e1 H1 (g := (mkF m 18 #[.val (Value.ref a0s), .val (Value.ref aC)] [(Value.ref a0s), (Value.int (0 : Int32)), (Value.ref aC)])) rfl rfl (hb hby d9_18)
  refine own_Go.by st2 ?_
  show own_Go p.tables e below _ (T2.setTop (mkF m 21 #[.val (Value.ref a0s), .val (Value.ref aC)] [(Value.ref a1), (Value.int (0 : Int32)), (Value.ref aC)]))
  obtain ⟨_, _, ⟨T3, L3, k3, n3⟩, -, X3, ⟨Lc3, hQ3, l3, y3, z3⟩, st3⟩ := Jvm.LawKit.callS X2 hx (y := (⟨"java/lang/String", "encode", "(Ljava/nio/charset/Charset;B[B)[B"⟩ : MethodName)) hown (mvT hZ (hw _ (List.mem_of_getElem? (i := 53) rfl))) (mvT hZ (hw _ (List.mem_of_getElem? (i := 54) rfl))) (mvT hZ (hw _ (List.mem_of_getElem? (i := 10) rfl))) (mvT hZ (hw _ (List.mem_of_getElem? (i := 55) rfl))) (by decide) (backOf (W := 0) (rm11 l Z a0 hw [] aC a1 kB aU aI v0 v1 v2 h0 n0 O0 H3 H4 H7 H8 H9 H10 H11 hps0 hps1 hps2) hZ (hw _ (List.mem_of_getElem? (i := 55) rfl)) (hw _ (List.mem_of_getElem? (i := 10) rfl)) (by decide) (by decide)) (g := (mkF m 21 #[.val (Value.ref a0s), .val (Value.ref aC)] [(Value.ref a1), (Value.int (0 : Int32)), (Value.ref aC)])) rfl (by rw [hml]; rfl) (argsL := [(Value.ref aC), (Value.int (0 : Int32)), (Value.ref a1)]) (rest := []) (lenOf own_pd3 rfl) rfl (by show 2 * 0 + _ ≤ _; exact Nat.le_of_eq rfl) (hb hby d9_21) (fun _ _ => ⟨rfl, e2, (by decide : 0 + 1 ≤ _), (by decide : 0 + 3 ≤ _)⟩)
  dsimp only [Pt.U, Pt.locs, Pt.cells, Pt.slots] at X3 l3 y3 z3 st3 hQ3
  subst l3 y3 z3
  refine own_Go.by st3 ?_
  obtain ⟨b_3, rfl, N3q, K3q, p3_0, p3_1, p3_2⟩ := hQ3
  have N3 := Fr.app N1 N3q
  have O4 := O0.keep K3q all0
  have K4 := K0.trans K3q all0
  have g5 : n0 ≤ b_3 := Nat.le_trans (own_old_le O0) p3_0
  have z5 : h0.size ≤ b_3 := Nat.le_trans K0.1 p3_0
  show own_Go p.tables e below _ (T3.setTop (mkF m 24 #[.val (Value.ref a0s), .val (Value.ref aC)] [(Value.ref b_3)]))
  obtain ⟨fs, hr, hrun, hended, hW, hsame⟩ := X3.leave (v := some (Value.ref b_3)) (fun h => by rw [Bd.returns] at h; cases h)
  refine own_Go.fin (retOut X3 hx Bd.returns rfl (Or.inr (Or.inr (Or.inr (Or.inr ⟨rfl, rfl, rfl⟩)))) (hb hby d9_24) hr) ⟨hrun, hended, _, _, rfl, ?_, ⟨_, rfl⟩, hW, hsame.mono (by decide) (by decide)⟩
  show Q9 Z a0s aC a1 kB aU aI zc v0 v1 v2 h0 n0 _ T3.heap _
  exact ⟨b_3, rfl, N3, K4, z5, p3_1, p3_2⟩

theorem own_pd4 : parseMethodDescriptor "(Ljava/nio/charset/Charset;)[B" = some ⟨[(.object "java/nio/charset/Charset")], some (.array .byte)⟩ := by decide +kernel
theorem d8_0 : decode prog_33_method_1_code 0 = .ok (.aload_n 0, 1) := by decide +kernel
theorem d8_1 : decode prog_33_method_1_code 1 = .ok (.invokespecial 1, 3) := by decide +kernel
theorem d8_4 : decode prog_33_method_1_code 4 = .ok (.aload_n 0, 1) := by decide +kernel
theorem d8_5 : decode prog_33_method_1_code 5 = .ok (.aload_n 1, 1) := by decide +kernel
theorem d8_6 : decode prog_33_method_1_code 6 = .ok (.getstatic 7, 3) := by decide +kernel
theorem d8_9 : decode prog_33_method_1_code 9 = .ok (.invokevirtual 13, 3) := by decide +kernel
theorem d8_12 : decode prog_33_method_1_code 12 = .ok (.putfield 19, 3) := by decide +kernel
theorem d8_15 : decode prog_33_method_1_code 15 = .ok (.return_, 1) := by decide +kernel
theorem own_pn_com_example_plain_bastion_plainbastion_ssh_Mark : plainName "com/example/plain_bastion/plainbastion/ssh/Mark" = true := by first | (simp [plainName, overriddenIn]; done) | decide +kernel
theorem own_ef_8 (m : MethodId) (am : Addr) (a0s : Addr) : entryFrame m #[(Value.ref am), (Value.ref a0s)] 2 = mkF m 0 #[.val (Value.ref am), .val (Value.ref a0s)] [] := by first | (simp [entryFrame, mkF, argsToLocals, Value.category]; done) | rfl
def Q8 (Z : State) (am : Addr) (a0s : Addr) (aC : Addr) (a1 : Addr) (kB : ClassId) (aU : Addr) (aI : Addr) (zc : Int32) (v0 : Int32) (v1 : Int32) (v2 : Int32) (h0 : Heap) (n0 : Nat) (v : Option Value) (h : Heap) (L : List Loc) : Prop := ∃ (b : Addr), v = none ∧ Fr n0 L ∧ Keep h0 h [am] ∧ (h0.size ≤ b) ∧ (Exa Z h am "com/example/plain_bastion/plainbastion/ssh/Mark") ∧ (Fld Z h am "com/example/plain_bastion/plainbastion/ssh/Mark" "bytes" "[B" (Value.ref b)) ∧ (Arv Z h b kB .byte (3 : Int32) [(Value.int v0), (Value.int v1), (Value.int v2)] (Value.int (0 : Int32)))
set_option maxRecDepth 65536 in
set_option maxHeartbeats 40000000 in
theorem rm8 (l : Launch) (Z : State) (a0 : Array Value) (hw : ∀ d ∈ tables_1, d.before a0 Z = true) (ws : List Jvm.Cond) (am : Addr) (a0s : Addr) (aC : Addr) (a1 : Addr) (kB : ClassId) (aU : Addr) (aI : Addr) (zc : Int32) (v0 : Int32) (v1 : Int32) (v2 : Int32) (h0 : Heap) (n0 : Nat) (O0 : Old Z n0 h0) (H0 : Exa Z h0 am "com/example/plain_bastion/plainbastion/ssh/Mark") (H1 : Fld Z h0 am "com/example/plain_bastion/plainbastion/ssh/Mark" "bytes" "[B" .null) (H2 : n0 ≤ am) (H3 : Sta Z Z.heap "java/nio/charset/StandardCharsets" "US_ASCII" "Ljava/nio/charset/Charset;" (Value.ref aC)) (H4 : Exa Z h0 a0s "java/lang/String") (H5 : Fld Z h0 a0s "java/lang/String" "value" "[B" (Value.ref a1)) (H6 : Fld Z h0 a0s "java/lang/String" "coder" "B" (Value.int (0 : Int32))) (H7 : Arv Z h0 a1 kB .byte (3 : Int32) [(Value.int v0), (Value.int v1), (Value.int v2)] (Value.int (0 : Int32))) (H8 : Exa Z h0 a1 "[B") (H9 : Sta Z Z.heap "java/lang/String" "COMPACT_STRINGS" "Z" (Value.int zc)) (hzc : ¬ (zc = (0 : Int32))) (H11 : Sta Z Z.heap "sun/nio/cs/UTF_8" "INSTANCE" "Lsun/nio/cs/UTF_8;" (Value.ref aU)) (H12 : Sta Z Z.heap "sun/nio/cs/ISO_8859_1" "INSTANCE" "Lsun/nio/cs/ISO_8859_1;" (Value.ref aI)) (H13 : Sta Z Z.heap "sun/nio/cs/US_ASCII" "INSTANCE" "Lsun/nio/cs/US_ASCII;" (Value.ref aC)) (H14 : aC ≠ aU) (H15 : aC ≠ aI) (hps0 : ¬ (v0 < (0 : Int32))) (hps1 : ¬ (v1 < (0 : Int32))) (hps2 : ¬ (v2 < (0 : Int32))) :
    MetFree l (⟨"com/example/plain_bastion/plainbastion/ssh/Mark", "<init>", "(Ljava/lang/String;)V"⟩ : MethodName) (head1 (Jvm.Cond.code (⟨"com/example/plain_bastion/plainbastion/ssh/Mark", "<init>", "(Ljava/lang/String;)V"⟩ : MethodName) prog_33_method_1_code 2 none :: ws) ({ frames := 4, cells := 1, slots := 3, locals := 62 } : Room)) (fun a U => a = #[(Value.ref am), (Value.ref a0s)] ∧ Z.Warmed39 U.vm ∧ U.heap = h0) (fun _ _ _ _ _ => True) (fun _ U o U' => ∃ v L, o = .returned v ∧ Q8 Z am a0s aC a1 kB aU aI zc v0 v1 v2 h0 n0 v U'.heap L ∧ FrameEnd U o U' L ({ frames := 4, cells := 1, slots := 3, locals := 62 } : Room).cells ({ frames := 4, cells := 1, slots := 3, locals := 62 } : Room).slots) := by
  refine MetFree.of_bodySF (plainFor_of_name own_pn_com_example_plain_bastion_plainbastion_ssh_Mark) hisR ?_
  intro p e s m args below meth c s₁ Bd hml0 hP hK
  obtain ⟨rfl, hZ, hh⟩ := hP
  have hx := Bd.exec
  have hby := Bd.bytes
  have hml : c.maxLocals = 2 := hml0
  have hown : s.vm.findClass "com/example/plain_bastion/plainbastion/ssh/Mark" = some m.cls := findClass_of_methodNamed Bd.named
  have hnm := (name_of_methodNamed Bd.named Bd.method).1
  have X0 : Stand p l e ({ frames := 4, cells := 1, slots := 3, locals := 62 } : Room) s m #[(Value.ref am), (Value.ref a0s)] below meth c s₁ [] 0 0 := Stand.of_body Bd
  have e0 : s₁.heap = h0 := by rw [← hh, Bd.state]; rfl
  have N0 := Fr.nil n0
  have K0 := Keep.refl h0 [am]
  show own_Go p.tables e below _ (s₁.setTop (entryFrame m #[(Value.ref am), (Value.ref a0s)] 2))
  refine own_Go.by (fun tq kq => castTop (own_ef_8 m am a0s) kq) ?_
  show own_Go p.tables e below _ (s₁.setTop (mkF m 0 #[.val (Value.ref am), .val (Value.ref a0s)] []))
  refine own_Go.by (fun tq kq => XS.aloadN X0.here hx rfl (hb hby d8_0) rfl rfl kq) ?_
  show own_Go p.tables e below _ (s₁.setTop (mkF m 1 #[.val (Value.ref am), .val (Value.ref a0s)] [(Value.ref am)]))
  obtain ⟨T1, X1, e1, st1⟩ := initO X0 hx hZ hown (hw _ (List.mem_of_getElem? (i := 40) rfl)) (hw _ (List.mem_of_getElem? (i := 19) rfl)) (hw _ (List.mem_of_getElem? (i := 20) rfl)) e0 (g := (mkF m 1 #[.val (Value.ref am), .val (Value.ref a0s)] [(Value.ref am)])) rfl (by rw [hml]; rfl) rfl (hb hby d8_1) (by decide) (W := 0) (by show 2 * 0 + _ ≤ _; exact Nat.le_of_eq rfl) (by decide)
  refine own_Go.by st1 ?_
  show own_Go p.tables e below _ (T1.setTop (mkF m 4 #[.val (Value.ref am), .val (Value.ref a0s)] []))
  refine own_Go.by (fun tq kq => XS.aloadN X1.here hx rfl (hb hby d8_4) rfl rfl kq) ?_
  show own_Go p.tables e below _ (T1.setTop (mkF m 5 #[.val (Value.ref am), .val (Value.ref a0s)] [(Value.ref am)]))
  refine own_Go.by (fun tq kq => XS.aloadN X1.here hx rfl (hb hby d8_5) rfl rfl kq) ?_
  show own_Go p.tables e below _ (T1.setTop (mkF m 6 #[.val (Value.ref am), .val (Value.ref a0s)] [(Value.ref a0s), (Value.ref am)]))
  obtain ⟨T2, X2, e2, st2⟩ := getS2 X1 hx hZ hown (host := "") (Or.inl (hw _ (List.mem_of_getElem? (i := 41) rfl))) Via.refl e1 (H3.ext O0.2) (g := (mkF m 6 #[.val (Value.ref am), .val (Value.ref a0s)] [(Value.ref a0s), (Value.ref am)])) rfl (hb hby d8_6)
  refine own_Go.by st2 ?_
  show own_Go p.tables e below _ (T2.setTop (mkF m 9 #[.val (Value.ref am), .val (Value.ref a0s)] [(Value.ref aC), (Value.ref a0s), (Value.ref am)]))
  obtain ⟨cq3, kq3, q3a, q3b, q3c⟩ := isOf hZ e2 H4
  obtain ⟨_, _, ⟨T3, L3, k3, n3⟩, -, X3, ⟨Lc3, hQ3, l3, y3, z3⟩, st3⟩ := X2.virtualBack hx (y := (⟨"java/lang/String", "getBytes", "(Ljava/nio/charset/Charset;)[B"⟩ : MethodName)) (z := (⟨"java/lang/String", "getBytes", "(Ljava/nio/charset/Charset;)[B"⟩ : MethodName)) hown (mvT hZ (hw _ (List.mem_of_getElem? (i := 43) rfl))) (mvT hZ (hw _ (List.mem_of_getElem? (i := 44) rfl))) (notFace_of_selects (args := #[]) (mvT hZ (hw _ (List.mem_of_getElem? (i := 46) rfl)))) (mvT hZ (hw _ (List.mem_of_getElem? (i := 46) rfl))) (mvT hZ (hw _ (List.mem_of_getElem? (i := 45) rfl))) (by decide) (backOf (W := 1) (rm9 l Z a0 hw [] a0s aC a1 kB aU aI zc v0 v1 v2 h0 n0 O0 H4 H5 H6 H7 H8 H9 hzc H11 H12 H13 H14 H15 hps0 hps1 hps2) hZ (hw _ (List.mem_of_getElem? (i := 47) rfl)) (hw _ (List.mem_of_getElem? (i := 10) rfl)) (by decide) (by decide)) q3a q3c (g := (mkF m 9 #[.val (Value.ref am), .val (Value.ref a0s)] [(Value.ref aC), (Value.ref a0s), (Value.ref am)])) rfl (by rw [hml]; rfl) (Steps.refl _) (argsL := [(Value.ref aC)]) (rest := [(Value.ref am)]) (lenOf own_pd4 rfl) rfl (by show 2 * 0 + _ ≤ _; exact Nat.le_of_eq rfl) (hb hby d8_9) (fun _ _ => ⟨rfl, e2, (by decide : 0 + 1 ≤ _), (by decide : 0 + 3 ≤ _)⟩)
  dsimp only [Pt.U, Pt.locs, Pt.cells, Pt.slots] at X3 l3 y3 z3 st3 hQ3
  subst l3 y3 z3
  refine own_Go.by (fun tq kq => st3.trans kq) ?_
  obtain ⟨b_3, rfl, N3q, K3q, p3_0, p3_1, p3_2⟩ := hQ3
  have N3 := Fr.app N0 N3q
  have O4 := O0.keep K3q all0
  have K4 := K0.trans K3q all0
  have g5 : n0 ≤ b_3 := Nat.le_trans (own_old_le O0) p3_0
  have z5 : h0.size ≤ b_3 := Nat.le_trans K0.1 p3_0
  show own_Go p.tables e below _ (T3.setTop (mkF m 12 #[.val (Value.ref am), .val (Value.ref a0s)] [(Value.ref b_3), (Value.ref am)]))
  have c6 := (H1.keep K3q nin0)
  have c7 := (H0.keep K3q)
  obtain ⟨T8, h8, X8, e8, W8, st8⟩ := putF X3 hx hZ hown (host := "") (Or.inl (hw _ (List.mem_of_getElem? (i := 78) rfl))) Via.refl rfl c6 c7 (Or.inr ⟨(hw _ (List.mem_of_getElem? (i := 79) rfl)), rfl, hnm⟩) (hw _ (List.mem_of_getElem? (i := 6) rfl)) (ty := (.array .byte)) (by decide) rfl rfl (g := (mkF m 12 #[.val (Value.ref am), .val (Value.ref a0s)] [(Value.ref b_3), (Value.ref am)])) rfl rfl (hb hby d8_12)
  refine own_Go.by st8 ?_
  have N8 := Fr.snoc X8 N3 H2
  have O9 := O4.wr W8 H2
  have K9 := K4.wr W8 (Or.inl (List.mem_of_getElem? (i := 0) rfl))
  have F8 := c6.same W8
  show own_Go p.tables e below _ (T8.setTop (mkF m 15 #[.val (Value.ref am), .val (Value.ref a0s)] []))
  have c10 := (c7.wr W8)
  have c11 := (p3_2.other W8 (Ne.symm (Nat.ne_of_lt (Nat.lt_of_lt_of_le H0.lt p3_0))))
  obtain ⟨fs, hr, hrun, hended, hW, hsame⟩ := X8.leave (v := none) (fun _ => rfl)
  refine own_Go.fin (X8.returnOut hx Bd.returns (hb hby d8_15) hr) ⟨hrun, hended, _, _, rfl, ?_, ⟨_, rfl⟩, hW, hsame.mono (by decide) (by decide)⟩
  show Q8 Z am a0s aC a1 kB aU aI zc v0 v1 v2 h0 n0 _ T8.heap _
  rw [e8]
  exact ⟨b_3, rfl, N8, K9, z5, c10, F8, c11⟩

theorem d14_0 : decode prog_33_method_4_code 0 = .ok (.iconst 0, 1) := by decide +kernel
theorem d14_1 : decode prog_33_method_4_code 1 = .ok (.istore_n 3, 1) := by decide +kernel
theorem d14_2 : decode prog_33_method_4_code 2 = .ok (.iload_n 2, 1) := by decide +kernel
theorem d14_3 : decode prog_33_method_4_code 3 = .ok (.aload_n 0, 1) := by decide +kernel
theorem d14_4 : decode prog_33_method_4_code 4 = .ok (.getfield 19, 3) := by decide +kernel
theorem d14_7 : decode prog_33_method_4_code 7 = .ok (.iload_n 1, 1) := by decide +kernel
theorem d14_8 : decode prog_33_method_4_code 8 = .ok (.baload, 1) := by decide +kernel
theorem d14_9 : decode prog_33_method_4_code 9 = .ok (.if_icmp .ne 10, 3) := by decide +kernel
theorem d14_12 : decode prog_33_method_4_code 12 = .ok (.iload_n 1, 1) := by decide +kernel
theorem d14_13 : decode prog_33_method_4_code 13 = .ok (.iconst 1, 1) := by decide +kernel
theorem d14_14 : decode prog_33_method_4_code 14 = .ok (.iadd, 1) := by decide +kernel
theorem d14_15 : decode prog_33_method_4_code 15 = .ok (.istore_n 3, 1) := by decide +kernel
theorem d14_16 : decode prog_33_method_4_code 16 = .ok (.goto 11, 3) := by decide +kernel
theorem d14_27 : decode prog_33_method_4_code 27 = .ok (.iload_n 3, 1) := by decide +kernel
theorem d14_28 : decode prog_33_method_4_code 28 = .ok (.ireturn, 1) := by decide +kernel
theorem own_ef_14_0_t (m : MethodId) (am : Addr) (p2 : Int32) : entryFrame m #[(Value.ref am), (Value.int (0 : Int32)), (Value.int p2)] 4 = mkF m 0 #[.val (Value.ref am), .val (Value.int (0 : Int32)), .val (Value.int p2), .unset] [] := by first | (simp [entryFrame, mkF, argsToLocals, Value.category]; done) | rfl
def Q14_0_t (Z : State) (am : Addr) (aB : Addr) (kB : ClassId) (v1 : Int32) (v2 : Int32) (p2 : Int32) (h0 : Heap) (n0 : Nat) (v : Option Value) (h : Heap) (L : List Loc) : Prop := v = some (Value.int (1 : Int32)) ∧ Fr n0 L ∧ h = h0
set_option maxRecDepth 65536 in
set_option maxHeartbeats 40000000 in
theorem rm14_0_t (l : Launch) (Z : State) (a0 : Array Value) (hw : ∀ d ∈ tables_1, d.before a0 Z = true) (ws : List Jvm.Cond) (am : Addr) (aB : Addr) (kB : ClassId) (v1 : Int32) (v2 : Int32) (p2 : Int32) (h0 : Heap) (n0 : Nat) (O0 : Old Z n0 h0) (H0 : Fld Z h0 am "com/example/plain_bastion/plainbastion/ssh/Mark" "bytes" "[B" (Value.ref aB)) (H1 : Arv Z h0 aB kB .byte (3 : Int32) [(Value.int (27 : Int32)), (Value.int v1), (Value.int v2)] (Value.int (0 : Int32))) (hd0 : p2 = (27 : Int32)) :
    MetFree l (⟨"com/example/plain_bastion/plainbastion/ssh/Mark", "matched", "(IB)I"⟩ : MethodName) (head1 (Jvm.Cond.code (⟨"com/example/plain_bastion/plainbastion/ssh/Mark", "matched", "(IB)I"⟩ : MethodName) prog_33_method_4_code 4 (some .int) :: ws) ({ frames := 0, cells := 0, slots := 0, locals := 0 } : Room)) (fun a U => a = #[(Value.ref am), (Value.int (0 : Int32)), (Value.int p2)] ∧ Z.Warmed39 U.vm ∧ U.heap = h0) (fun _ _ _ _ _ => True) (fun _ U o U' => ∃ v L, o = .returned v ∧ Q14_0_t Z am aB kB v1 v2 p2 h0 n0 v U'.heap L ∧ FrameEnd U o U' L ({ frames := 0, cells := 0, slots := 0, locals := 0 } : Room).cells ({ frames := 0, cells := 0, slots := 0, locals := 0 } : Room).slots) := by
  refine MetFree.of_bodySF (plainFor_of_name own_pn_com_example_plain_bastion_plainbastion_ssh_Mark) hisR ?_
  intro p e s m args below meth c s₁ Bd hml0 hP hK
  obtain ⟨rfl, hZ, hh⟩ := hP
  have hx := Bd.exec
  have hby := Bd.bytes
  have hml : c.maxLocals = 4 := hml0
  have hown : s.vm.findClass "com/example/plain_bastion/plainbastion/ssh/Mark" = some m.cls := findClass_of_methodNamed Bd.named
  have hnm := (name_of_methodNamed Bd.named Bd.method).1
  have X0 : Stand p l e ({ frames := 0, cells := 0, slots := 0, locals := 0 } : Room) s m #[(Value.ref am), (Value.int (0 : Int32)), (Value.int p2)] below meth c s₁ [] 0 0 := Stand.of_body Bd
  have e0 : s₁.heap = h0 := by rw [← hh, Bd.state]; rfl
  have N0 := Fr.nil n0
  have K0 : Keep h0 h0 [] := Keep.refl h0 []
  show own_Go p.tables e below _ (s₁.setTop (entryFrame m #[(Value.ref am), (Value.int (0 : Int32)), (Value.int p2)] 4))
  refine own_Go.by (fun tq kq => castTop (own_ef_14_0_t m am p2) kq) ?_
  show own_Go p.tables e below _ (s₁.setTop (mkF m 0 #[.val (Value.ref am), .val (Value.int (0 : Int32)), .val (Value.int p2), .unset] []))
  refine own_Go.by (fun tq kq => XS.iconst X0.here hx rfl (hb hby d14_0) kq) ?_
  show own_Go p.tables e below _ (s₁.setTop (mkF m 1 #[.val (Value.ref am), .val (Value.int (0 : Int32)), .val (Value.int p2), .unset] [(Value.int (0 : Int32))]))
  refine own_Go.by (fun tq kq => XS.istoreN X0.here hx rfl (hb hby d14_1) rfl (l' := #[.val (Value.ref am), .val (Value.int (0 : Int32)), .val (Value.int p2), .val (Value.int (0 : Int32))]) rfl kq) ?_
  show own_Go p.tables e below _ (s₁.setTop (mkF m 2 #[.val (Value.ref am), .val (Value.int (0 : Int32)), .val (Value.int p2), .val (Value.int (0 : Int32))] []))
  refine own_Go.by (fun tq kq => XS.iloadN X0.here hx rfl (hb hby d14_2) rfl kq) ?_
  show own_Go p.tables e below _ (s₁.setTop (mkF m 3 #[.val (Value.ref am), .val (Value.int (0 : Int32)), .val (Value.int p2), .val (Value.int (0 : Int32))] [(Value.int p2)]))
  refine own_Go.by (fun tq kq => XS.aloadN X0.here hx rfl (hb hby d14_3) rfl rfl kq) ?_
  show own_Go p.tables e below _ (s₁.setTop (mkF m 4 #[.val (Value.ref am), .val (Value.int (0 : Int32)), .val (Value.int p2), .val (Value.int (0 : Int32))] [(Value.ref am), (Value.int p2)]))
  obtain ⟨T1, X1, e1, st1⟩ := getF X0 hx hZ hown (host := "") (Or.inl (hw _ (List.mem_of_getElem? (i := 78) rfl))) Via.refl e0 H0 (g := (mkF m 4 #[.val (Value.ref am), .val (Value.int (0 : Int32)), .val (Value.int p2), .val (Value.int (0 : Int32))] [(Value.ref am), (Value.int p2)])) rfl rfl (hb hby d14_4)
  refine own_Go.by st1 ?_
  show own_Go p.tables e below _ (T1.setTop (mkF m 7 #[.val (Value.ref am), .val (Value.int (0 : Int32)), .val (Value.int p2), .val (Value.int (0 : Int32))] [(Value.ref aB), (Value.int p2)]))
  refine own_Go.by (fun tq kq => XS.iloadN X1.here hx rfl (hb hby d14_7) rfl kq) ?_
  show own_Go p.tables e below _ (T1.setTop (mkF m 8 #[.val (Value.ref am), .val (Value.int (0 : Int32)), .val (Value.int p2), .val (Value.int (0 : Int32))] [(Value.int (0 : Int32)), (Value.ref aB), (Value.int p2)]))
  obtain ⟨cl2, Ar2, q2, S2, M2, Hh2, G2⟩ := id H1
  refine own_Go.by (fun tq kq => X1.baloadBytes hx (j := (0 : Int32)) (v := (Value.int (27 : Int32))) (by rw [e1]; exact Ar2.1) (State.isArrayOf_alike hZ.alike Ar2.2.1) Ar2.2.2 (inb_of S2 ⟨(by decide : ¬ ((0 : Int32) < (0 : Int32))), (by decide : (0 : Int32) < (3 : Int32))⟩) (Has.at Hh2 (inb_of S2 ⟨(by decide : ¬ ((0 : Int32) < (0 : Int32))), (by decide : (0 : Int32) < (3 : Int32))⟩) (rfl : _ = (Value.int (27 : Int32)))) (g := (mkF m 8 #[.val (Value.ref am), .val (Value.int (0 : Int32)), .val (Value.int p2), .val (Value.int (0 : Int32))] [(Value.int (0 : Int32)), (Value.ref aB), (Value.int p2)])) rfl rfl (hb hby d14_8) _ kq) ?_
  show own_Go p.tables e below _ (T1.setTop (mkF m 9 #[.val (Value.ref am), .val (Value.int (0 : Int32)), .val (Value.int p2), .val (Value.int (0 : Int32))] [(Value.int (27 : Int32)), (Value.int p2)]))
  refine own_Go.by (fun tq kq => XS.icmpNo X1.here hx rfl (hb hby d14_9) rfl (teq hd0).2 kq) ?_
  show own_Go p.tables e below _ (T1.setTop (mkF m 12 #[.val (Value.ref am), .val (Value.int (0 : Int32)), .val (Value.int p2), .val (Value.int (0 : Int32))] []))
  refine own_Go.by (fun tq kq => XS.iloadN X1.here hx rfl (hb hby d14_12) rfl kq) ?_
  show own_Go p.tables e below _ (T1.setTop (mkF m 13 #[.val (Value.ref am), .val (Value.int (0 : Int32)), .val (Value.int p2), .val (Value.int (0 : Int32))] [(Value.int (0 : Int32))]))
  refine own_Go.by (fun tq kq => XS.iconst X1.here hx rfl (hb hby d14_13) kq) ?_
  show own_Go p.tables e below _ (T1.setTop (mkF m 14 #[.val (Value.ref am), .val (Value.int (0 : Int32)), .val (Value.int p2), .val (Value.int (0 : Int32))] [(Value.int (1 : Int32)), (Value.int (0 : Int32))]))
  refine own_Go.by (fun tq kq => XS.iadd X1.here hx rfl (hb hby d14_14) rfl kq) ?_
  show own_Go p.tables e below _ (T1.setTop (mkF m 15 #[.val (Value.ref am), .val (Value.int (0 : Int32)), .val (Value.int p2), .val (Value.int (0 : Int32))] [(Value.int (1 : Int32))]))
  refine own_Go.by (fun tq kq => XS.istoreN X1.here hx rfl (hb hby d14_15) rfl (l' := #[.val (Value.ref am), .val (Value.int (0 : Int32)), .val (Value.int p2), .val (Value.int (1 : Int32))]) rfl kq) ?_
  show own_Go p.tables e below _ (T1.setTop (mkF m 16 #[.val (Value.ref am), .val (Value.int (0 : Int32)), .val (Value.int p2), .val (Value.int (1 : Int32))] []))
  refine own_Go.by (fun tq kq => XS.goto X1.here hx rfl (pc0 := 16) (pc' := 27) rfl (hb hby d14_16) (by decide) (by decide) kq) ?_
  show own_Go p.tables e below _ (T1.setTop (mkF m 27 #[.val (Value.ref am), .val (Value.int (0 : Int32)), .val (Value.int p2), .val (Value.int (1 : Int32))] []))
  refine own_Go.by (fun tq kq => XS.iloadN X1.here hx rfl (hb hby d14_27) rfl kq) ?_
  show own_Go p.tables e below _ (T1.setTop (mkF m 28 #[.val (Value.ref am), .val (Value.int (0 : Int32)), .val (Value.int p2), .val (Value.int (1 : Int32))] [(Value.int (1 : Int32))]))
  obtain ⟨fs, hr, hrun, hended, hW, hsame⟩ := X1.leave (v := some (Value.int (1 : Int32))) (fun h => by rw [Bd.returns] at h; cases h)
  refine own_Go.fin (retI X1 hx Bd.returns (hb hby d14_28) hr) ⟨hrun, hended, _, _, rfl, ?_, ⟨_, rfl⟩, hW, hsame.mono (by decide) (by decide)⟩
  show Q14_0_t Z am aB kB v1 v2 p2 h0 n0 _ T1.heap _
  rw [e1]
  exact ⟨rfl, N0, rfl⟩

theorem d14_19 : decode prog_33_method_4_code 19 = .ok (.iload_n 2, 1) := by decide +kernel
theorem d14_20 : decode prog_33_method_4_code 20 = .ok (.bipush 27, 2) := by decide +kernel
theorem d14_22 : decode prog_33_method_4_code 22 = .ok (.if_icmp .ne 5, 3) := by decide +kernel
theorem own_ef_14_0_ff (m : MethodId) (am : Addr) (p2 : Int32) : entryFrame m #[(Value.ref am), (Value.int (0 : Int32)), (Value.int p2)] 4 = mkF m 0 #[.val (Value.ref am), .val (Value.int (0 : Int32)), .val (Value.int p2), .unset] [] := by first | (simp [entryFrame, mkF, argsToLocals, Value.category]; done) | rfl
def Q14_0_ff (Z : State) (am : Addr) (aB : Addr) (kB : ClassId) (v1 : Int32) (v2 : Int32) (p2 : Int32) (h0 : Heap) (n0 : Nat) (v : Option Value) (h : Heap) (L : List Loc) : Prop := v = some (Value.int (0 : Int32)) ∧ Fr n0 L ∧ h = h0
set_option maxRecDepth 65536 in
set_option maxHeartbeats 40000000 in
theorem rm14_0_ff (l : Launch) (Z : State) (a0 : Array Value) (hw : ∀ d ∈ tables_1, d.before a0 Z = true) (ws : List Jvm.Cond) (am : Addr) (aB : Addr) (kB : ClassId) (v1 : Int32) (v2 : Int32) (p2 : Int32) (h0 : Heap) (n0 : Nat) (O0 : Old Z n0 h0) (H0 : Fld Z h0 am "com/example/plain_bastion/plainbastion/ssh/Mark" "bytes" "[B" (Value.ref aB)) (H1 : Arv Z h0 aB kB .byte (3 : Int32) [(Value.int (27 : Int32)), (Value.int v1), (Value.int v2)] (Value.int (0 : Int32))) (hd0 : ¬ (p2 = (27 : Int32))) :
    MetFree l (⟨"com/example/plain_bastion/plainbastion/ssh/Mark", "matched", "(IB)I"⟩ : MethodName) (head1 (Jvm.Cond.code (⟨"com/example/plain_bastion/plainbastion/ssh/Mark", "matched", "(IB)I"⟩ : MethodName) prog_33_method_4_code 4 (some .int) :: ws) ({ frames := 0, cells := 0, slots := 0, locals := 0 } : Room)) (fun a U => a = #[(Value.ref am), (Value.int (0 : Int32)), (Value.int p2)] ∧ Z.Warmed39 U.vm ∧ U.heap = h0) (fun _ _ _ _ _ => True) (fun _ U o U' => ∃ v L, o = .returned v ∧ Q14_0_ff Z am aB kB v1 v2 p2 h0 n0 v U'.heap L ∧ FrameEnd U o U' L ({ frames := 0, cells := 0, slots := 0, locals := 0 } : Room).cells ({ frames := 0, cells := 0, slots := 0, locals := 0 } : Room).slots) := by
  refine MetFree.of_bodySF (plainFor_of_name own_pn_com_example_plain_bastion_plainbastion_ssh_Mark) hisR ?_
  intro p e s m args below meth c s₁ Bd hml0 hP hK
  obtain ⟨rfl, hZ, hh⟩ := hP
  have hx := Bd.exec
  have hby := Bd.bytes
  have hml : c.maxLocals = 4 := hml0
  have hown : s.vm.findClass "com/example/plain_bastion/plainbastion/ssh/Mark" = some m.cls := findClass_of_methodNamed Bd.named
  have hnm := (name_of_methodNamed Bd.named Bd.method).1
  have X0 : Stand p l e ({ frames := 0, cells := 0, slots := 0, locals := 0 } : Room) s m #[(Value.ref am), (Value.int (0 : Int32)), (Value.int p2)] below meth c s₁ [] 0 0 := Stand.of_body Bd
  have e0 : s₁.heap = h0 := by rw [← hh, Bd.state]; rfl
  have N0 := Fr.nil n0
  have K0 : Keep h0 h0 [] := Keep.refl h0 []
  show own_Go p.tables e below _ (s₁.setTop (entryFrame m #[(Value.ref am), (Value.int (0 : Int32)), (Value.int p2)] 4))
  refine own_Go.by (fun tq kq => castTop (own_ef_14_0_ff m am p2) kq) ?_
  show own_Go p.tables e below _ (s₁.setTop (mkF m 0 #[.val (Value.ref am), .val (Value.int (0 : Int32)), .val (Value.int p2), .unset] []))
  refine own_Go.by (fun tq kq => XS.iconst X0.here hx rfl (hb hby d14_0) kq) ?_
  show own_Go p.tables e below _ (s₁.setTop (mkF m 1 #[.val (Value.ref am), .val (Value.int (0 : Int32)), .val (Value.int p2), .unset] [(Value.int (0 : Int32))]))
  refine own_Go.by (fun tq kq => XS.istoreN X0.here hx rfl (hb hby d14_1) rfl (l' := #[.val (Value.ref am), .val (Value.int (0 : Int32)), .val (Value.int p2), .val (Value.int (0 : Int32))]) rfl kq) ?_
  show own_Go p.tables e below _ (s₁.setTop (mkF m 2 #[.val (Value.ref am), .val (Value.int (0 : Int32)), .val (Value.int p2), .val (Value.int (0 : Int32))] []))
  refine own_Go.by (fun tq kq => XS.iloadN X0.here hx rfl (hb hby d14_2) rfl kq) ?_
  show own_Go p.tables e below _ (s₁.setTop (mkF m 3 #[.val (Value.ref am), .val (Value.int (0 : Int32)), .val (Value.int p2), .val (Value.int (0 : Int32))] [(Value.int p2)]))
  refine own_Go.by (fun tq kq => XS.aloadN X0.here hx rfl (hb hby d14_3) rfl rfl kq) ?_
  show own_Go p.tables e below _ (s₁.setTop (mkF m 4 #[.val (Value.ref am), .val (Value.int (0 : Int32)), .val (Value.int p2), .val (Value.int (0 : Int32))] [(Value.ref am), (Value.int p2)]))
  obtain ⟨T1, X1, e1, st1⟩ := getF X0 hx hZ hown (host := "") (Or.inl (hw _ (List.mem_of_getElem? (i := 78) rfl))) Via.refl e0 H0 (g := (mkF m 4 #[.val (Value.ref am), .val (Value.int (0 : Int32)), .val (Value.int p2), .val (Value.int (0 : Int32))] [(Value.ref am), (Value.int p2)])) rfl rfl (hb hby d14_4)
  refine own_Go.by st1 ?_
  show own_Go p.tables e below _ (T1.setTop (mkF m 7 #[.val (Value.ref am), .val (Value.int (0 : Int32)), .val (Value.int p2), .val (Value.int (0 : Int32))] [(Value.ref aB), (Value.int p2)]))
  refine own_Go.by (fun tq kq => XS.iloadN X1.here hx rfl (hb hby d14_7) rfl kq) ?_
  show own_Go p.tables e below _ (T1.setTop (mkF m 8 #[.val (Value.ref am), .val (Value.int (0 : Int32)), .val (Value.int p2), .val (Value.int (0 : Int32))] [(Value.int (0 : Int32)), (Value.ref aB), (Value.int p2)]))
  obtain ⟨cl2, Ar2, q2, S2, M2, Hh2, G2⟩ := id H1
  refine own_Go.by (fun tq kq => X1.baloadBytes hx (j := (0 : Int32)) (v := (Value.int (27 : Int32))) (by rw [e1]; exact Ar2.1) (State.isArrayOf_alike hZ.alike Ar2.2.1) Ar2.2.2 (inb_of S2 ⟨(by decide : ¬ ((0 : Int32) < (0 : Int32))), (by decide : (0 : Int32) < (3 : Int32))⟩) (Has.at Hh2 (inb_of S2 ⟨(by decide : ¬ ((0 : Int32) < (0 : Int32))), (by decide : (0 : Int32) < (3 : Int32))⟩) (rfl : _ = (Value.int (27 : Int32)))) (g := (mkF m 8 #[.val (Value.ref am), .val (Value.int (0 : Int32)), .val (Value.int p2), .val (Value.int (0 : Int32))] [(Value.int (0 : Int32)), (Value.ref aB), (Value.int p2)])) rfl rfl (hb hby d14_8) _ kq) ?_
  show own_Go p.tables e below _ (T1.setTop (mkF m 9 #[.val (Value.ref am), .val (Value.int (0 : Int32)), .val (Value.int p2), .val (Value.int (0 : Int32))] [(Value.int (27 : Int32)), (Value.int p2)]))
  refine own_Go.by (fun tq kq => XS.icmpYes X1.here hx rfl (pc0 := 9) (pc' := 19) rfl (hb hby d14_9) rfl (feq hd0).2 (by decide) (by decide) kq) ?_
  show own_Go p.tables e below _ (T1.setTop (mkF m 19 #[.val (Value.ref am), .val (Value.int (0 : Int32)), .val (Value.int p2), .val (Value.int (0 : Int32))] []))
  refine own_Go.by (fun tq kq => XS.iloadN X1.here hx rfl (hb hby d14_19) rfl kq) ?_
  show own_Go p.tables e below _ (T1.setTop (mkF m 20 #[.val (Value.ref am), .val (Value.int (0 : Int32)), .val (Value.int p2), .val (Value.int (0 : Int32))] [(Value.int p2)]))
  refine own_Go.by (fun tq kq => XS.bipush X1.here hx rfl (hb hby d14_20) kq) ?_
  show own_Go p.tables e below _ (T1.setTop (mkF m 22 #[.val (Value.ref am), .val (Value.int (0 : Int32)), .val (Value.int p2), .val (Value.int (0 : Int32))] [(Value.int (27 : Int32)), (Value.int p2)]))
  refine own_Go.by (fun tq kq => XS.icmpYes X1.here hx rfl (pc0 := 22) (pc' := 27) rfl (hb hby d14_22) rfl (feq hd0).2 (by decide) (by decide) kq) ?_
  show own_Go p.tables e below _ (T1.setTop (mkF m 27 #[.val (Value.ref am), .val (Value.int (0 : Int32)), .val (Value.int p2), .val (Value.int (0 : Int32))] []))
  refine own_Go.by (fun tq kq => XS.iloadN X1.here hx rfl (hb hby d14_27) rfl kq) ?_
  show own_Go p.tables e below _ (T1.setTop (mkF m 28 #[.val (Value.ref am), .val (Value.int (0 : Int32)), .val (Value.int p2), .val (Value.int (0 : Int32))] [(Value.int (0 : Int32))]))
  obtain ⟨fs, hr, hrun, hended, hW, hsame⟩ := X1.leave (v := some (Value.int (0 : Int32))) (fun h => by rw [Bd.returns] at h; cases h)
  refine own_Go.fin (retI X1 hx Bd.returns (hb hby d14_28) hr) ⟨hrun, hended, _, _, rfl, ?_, ⟨_, rfl⟩, hW, hsame.mono (by decide) (by decide)⟩
  show Q14_0_ff Z am aB kB v1 v2 p2 h0 n0 _ T1.heap _
  rw [e1]
  exact ⟨rfl, N0, rfl⟩

theorem own_ef_14_1_t (m : MethodId) (am : Addr) (p2 : Int32) : entryFrame m #[(Value.ref am), (Value.int (1 : Int32)), (Value.int p2)] 4 = mkF m 0 #[.val (Value.ref am), .val (Value.int (1 : Int32)), .val (Value.int p2), .unset] [] := by first | (simp [entryFrame, mkF, argsToLocals, Value.category]; done) | rfl
def Q14_1_t (Z : State) (am : Addr) (aB : Addr) (kB : ClassId) (v1 : Int32) (v2 : Int32) (p2 : Int32) (h0 : Heap) (n0 : Nat) (v : Option Value) (h : Heap) (L : List Loc) : Prop := v = some (Value.int (2 : Int32)) ∧ Fr n0 L ∧ h = h0
set_option maxRecDepth 65536 in
set_option maxHeartbeats 40000000 in
theorem rm14_1_t (l : Launch) (Z : State) (a0 : Array Value) (hw : ∀ d ∈ tables_1, d.before a0 Z = true) (ws : List Jvm.Cond) (am : Addr) (aB : Addr) (kB : ClassId) (v1 : Int32) (v2 : Int32) (p2 : Int32) (h0 : Heap) (n0 : Nat) (O0 : Old Z n0 h0) (H0 : Fld Z h0 am "com/example/plain_bastion/plainbastion/ssh/Mark" "bytes" "[B" (Value.ref aB)) (H1 : Arv Z h0 aB kB .byte (3 : Int32) [(Value.int (27 : Int32)), (Value.int v1), (Value.int v2)] (Value.int (0 : Int32))) (hd0 : p2 = v1) :
    MetFree l (⟨"com/example/plain_bastion/plainbastion/ssh/Mark", "matched", "(IB)I"⟩ : MethodName) (head1 (Jvm.Cond.code (⟨"com/example/plain_bastion/plainbastion/ssh/Mark", "matched", "(IB)I"⟩ : MethodName) prog_33_method_4_code 4 (some .int) :: ws) ({ frames := 0, cells := 0, slots := 0, locals := 0 } : Room)) (fun a U => a = #[(Value.ref am), (Value.int (1 : Int32)), (Value.int p2)] ∧ Z.Warmed39 U.vm ∧ U.heap = h0) (fun _ _ _ _ _ => True) (fun _ U o U' => ∃ v L, o = .returned v ∧ Q14_1_t Z am aB kB v1 v2 p2 h0 n0 v U'.heap L ∧ FrameEnd U o U' L ({ frames := 0, cells := 0, slots := 0, locals := 0 } : Room).cells ({ frames := 0, cells := 0, slots := 0, locals := 0 } : Room).slots) := by
  refine MetFree.of_bodySF (plainFor_of_name own_pn_com_example_plain_bastion_plainbastion_ssh_Mark) hisR ?_
  intro p e s m args below meth c s₁ Bd hml0 hP hK
  obtain ⟨rfl, hZ, hh⟩ := hP
  have hx := Bd.exec
  have hby := Bd.bytes
  have hml : c.maxLocals = 4 := hml0
  have hown : s.vm.findClass "com/example/plain_bastion/plainbastion/ssh/Mark" = some m.cls := findClass_of_methodNamed Bd.named
  have hnm := (name_of_methodNamed Bd.named Bd.method).1
  have X0 : Stand p l e ({ frames := 0, cells := 0, slots := 0, locals := 0 } : Room) s m #[(Value.ref am), (Value.int (1 : Int32)), (Value.int p2)] below meth c s₁ [] 0 0 := Stand.of_body Bd
  have e0 : s₁.heap = h0 := by rw [← hh, Bd.state]; rfl
  have N0 := Fr.nil n0
  have K0 : Keep h0 h0 [] := Keep.refl h0 []
  show own_Go p.tables e below _ (s₁.setTop (entryFrame m #[(Value.ref am), (Value.int (1 : Int32)), (Value.int p2)] 4))
  refine own_Go.by (fun tq kq => castTop (own_ef_14_1_t m am p2) kq) ?_
  show own_Go p.tables e below _ (s₁.setTop (mkF m 0 #[.val (Value.ref am), .val (Value.int (1 : Int32)), .val (Value.int p2), .unset] []))
  refine own_Go.by (fun tq kq => XS.iconst X0.here hx rfl (hb hby d14_0) kq) ?_
  show own_Go p.tables e below _ (s₁.setTop (mkF m 1 #[.val (Value.ref am), .val (Value.int (1 : Int32)), .val (Value.int p2), .unset] [(Value.int (0 : Int32))]))
  refine own_Go.by (fun tq kq => XS.istoreN X0.here hx rfl (hb hby d14_1) rfl (l' := #[.val (Value.ref am), .val (Value.int (1 : Int32)), .val (Value.int p2), .val (Value.int (0 : Int32))]) rfl kq) ?_
  show own_Go p.tables e below _ (s₁.setTop (mkF m 2 #[.val (Value.ref am), .val (Value.int (1 : Int32)), .val (Value.int p2), .val (Value.int (0 : Int32))] []))
  refine own_Go.by (fun tq kq => XS.iloadN X0.here hx rfl (hb hby d14_2) rfl kq) ?_
  show own_Go p.tables e below _ (s₁.setTop (mkF m 3 #[.val (Value.ref am), .val (Value.int (1 : Int32)), .val (Value.int p2), .val (Value.int (0 : Int32))] [(Value.int p2)]))
  refine own_Go.by (fun tq kq => XS.aloadN X0.here hx rfl (hb hby d14_3) rfl rfl kq) ?_
  show own_Go p.tables e below _ (s₁.setTop (mkF m 4 #[.val (Value.ref am), .val (Value.int (1 : Int32)), .val (Value.int p2), .val (Value.int (0 : Int32))] [(Value.ref am), (Value.int p2)]))
  obtain ⟨T1, X1, e1, st1⟩ := getF X0 hx hZ hown (host := "") (Or.inl (hw _ (List.mem_of_getElem? (i := 78) rfl))) Via.refl e0 H0 (g := (mkF m 4 #[.val (Value.ref am), .val (Value.int (1 : Int32)), .val (Value.int p2), .val (Value.int (0 : Int32))] [(Value.ref am), (Value.int p2)])) rfl rfl (hb hby d14_4)
  refine own_Go.by st1 ?_
  show own_Go p.tables e below _ (T1.setTop (mkF m 7 #[.val (Value.ref am), .val (Value.int (1 : Int32)), .val (Value.int p2), .val (Value.int (0 : Int32))] [(Value.ref aB), (Value.int p2)]))
  refine own_Go.by (fun tq kq => XS.iloadN X1.here hx rfl (hb hby d14_7) rfl kq) ?_
  show own_Go p.tables e below _ (T1.setTop (mkF m 8 #[.val (Value.ref am), .val (Value.int (1 : Int32)), .val (Value.int p2), .val (Value.int (0 : Int32))] [(Value.int (1 : Int32)), (Value.ref aB), (Value.int p2)]))
  obtain ⟨cl2, Ar2, q2, S2, M2, Hh2, G2⟩ := id H1
  refine own_Go.by (fun tq kq => X1.baloadBytes hx (j := (1 : Int32)) (v := (Value.int v1)) (by rw [e1]; exact Ar2.1) (State.isArrayOf_alike hZ.alike Ar2.2.1) Ar2.2.2 (inb_of S2 ⟨(by decide : ¬ ((1 : Int32) < (0 : Int32))), (by decide : (1 : Int32) < (3 : Int32))⟩) (Has.at Hh2 (inb_of S2 ⟨(by decide : ¬ ((1 : Int32) < (0 : Int32))), (by decide : (1 : Int32) < (3 : Int32))⟩) (rfl : _ = (Value.int v1))) (g := (mkF m 8 #[.val (Value.ref am), .val (Value.int (1 : Int32)), .val (Value.int p2), .val (Value.int (0 : Int32))] [(Value.int (1 : Int32)), (Value.ref aB), (Value.int p2)])) rfl rfl (hb hby d14_8) _ kq) ?_
  show own_Go p.tables e below _ (T1.setTop (mkF m 9 #[.val (Value.ref am), .val (Value.int (1 : Int32)), .val (Value.int p2), .val (Value.int (0 : Int32))] [(Value.int v1), (Value.int p2)]))
  refine own_Go.by (fun tq kq => XS.icmpNo X1.here hx rfl (hb hby d14_9) rfl (teq hd0).2 kq) ?_
  show own_Go p.tables e below _ (T1.setTop (mkF m 12 #[.val (Value.ref am), .val (Value.int (1 : Int32)), .val (Value.int p2), .val (Value.int (0 : Int32))] []))
  refine own_Go.by (fun tq kq => XS.iloadN X1.here hx rfl (hb hby d14_12) rfl kq) ?_
  show own_Go p.tables e below _ (T1.setTop (mkF m 13 #[.val (Value.ref am), .val (Value.int (1 : Int32)), .val (Value.int p2), .val (Value.int (0 : Int32))] [(Value.int (1 : Int32))]))
  refine own_Go.by (fun tq kq => XS.iconst X1.here hx rfl (hb hby d14_13) kq) ?_
  show own_Go p.tables e below _ (T1.setTop (mkF m 14 #[.val (Value.ref am), .val (Value.int (1 : Int32)), .val (Value.int p2), .val (Value.int (0 : Int32))] [(Value.int (1 : Int32)), (Value.int (1 : Int32))]))
  refine own_Go.by (fun tq kq => XS.iadd X1.here hx rfl (hb hby d14_14) rfl kq) ?_
  show own_Go p.tables e below _ (T1.setTop (mkF m 15 #[.val (Value.ref am), .val (Value.int (1 : Int32)), .val (Value.int p2), .val (Value.int (0 : Int32))] [(Value.int (2 : Int32))]))
  refine own_Go.by (fun tq kq => XS.istoreN X1.here hx rfl (hb hby d14_15) rfl (l' := #[.val (Value.ref am), .val (Value.int (1 : Int32)), .val (Value.int p2), .val (Value.int (2 : Int32))]) rfl kq) ?_
  show own_Go p.tables e below _ (T1.setTop (mkF m 16 #[.val (Value.ref am), .val (Value.int (1 : Int32)), .val (Value.int p2), .val (Value.int (2 : Int32))] []))
  refine own_Go.by (fun tq kq => XS.goto X1.here hx rfl (pc0 := 16) (pc' := 27) rfl (hb hby d14_16) (by decide) (by decide) kq) ?_
  show own_Go p.tables e below _ (T1.setTop (mkF m 27 #[.val (Value.ref am), .val (Value.int (1 : Int32)), .val (Value.int p2), .val (Value.int (2 : Int32))] []))
  refine own_Go.by (fun tq kq => XS.iloadN X1.here hx rfl (hb hby d14_27) rfl kq) ?_
  show own_Go p.tables e below _ (T1.setTop (mkF m 28 #[.val (Value.ref am), .val (Value.int (1 : Int32)), .val (Value.int p2), .val (Value.int (2 : Int32))] [(Value.int (2 : Int32))]))
  obtain ⟨fs, hr, hrun, hended, hW, hsame⟩ := X1.leave (v := some (Value.int (2 : Int32))) (fun h => by rw [Bd.returns] at h; cases h)
  refine own_Go.fin (retI X1 hx Bd.returns (hb hby d14_28) hr) ⟨hrun, hended, _, _, rfl, ?_, ⟨_, rfl⟩, hW, hsame.mono (by decide) (by decide)⟩
  show Q14_1_t Z am aB kB v1 v2 p2 h0 n0 _ T1.heap _
  rw [e1]
  exact ⟨rfl, N0, rfl⟩

theorem d14_25 : decode prog_33_method_4_code 25 = .ok (.iconst 1, 1) := by decide +kernel
theorem d14_26 : decode prog_33_method_4_code 26 = .ok (.istore_n 3, 1) := by decide +kernel
theorem own_ef_14_1_ft (m : MethodId) (am : Addr) (p2 : Int32) : entryFrame m #[(Value.ref am), (Value.int (1 : Int32)), (Value.int p2)] 4 = mkF m 0 #[.val (Value.ref am), .val (Value.int (1 : Int32)), .val (Value.int p2), .unset] [] := by first | (simp [entryFrame, mkF, argsToLocals, Value.category]; done) | rfl
def Q14_1_ft (Z : State) (am : Addr) (aB : Addr) (kB : ClassId) (v1 : Int32) (v2 : Int32) (p2 : Int32) (h0 : Heap) (n0 : Nat) (v : Option Value) (h : Heap) (L : List Loc) : Prop := v = some (Value.int (1 : Int32)) ∧ Fr n0 L ∧ h = h0
set_option maxRecDepth 65536 in
set_option maxHeartbeats 40000000 in
theorem rm14_1_ft (l : Launch) (Z : State) (a0 : Array Value) (hw : ∀ d ∈ tables_1, d.before a0 Z = true) (ws : List Jvm.Cond) (am : Addr) (aB : Addr) (kB : ClassId) (v1 : Int32) (v2 : Int32) (p2 : Int32) (h0 : Heap) (n0 : Nat) (O0 : Old Z n0 h0) (H0 : Fld Z h0 am "com/example/plain_bastion/plainbastion/ssh/Mark" "bytes" "[B" (Value.ref aB)) (H1 : Arv Z h0 aB kB .byte (3 : Int32) [(Value.int (27 : Int32)), (Value.int v1), (Value.int v2)] (Value.int (0 : Int32))) (hd0 : ¬ (p2 = v1)) (hd1 : p2 = (27 : Int32)) :
    MetFree l (⟨"com/example/plain_bastion/plainbastion/ssh/Mark", "matched", "(IB)I"⟩ : MethodName) (head1 (Jvm.Cond.code (⟨"com/example/plain_bastion/plainbastion/ssh/Mark", "matched", "(IB)I"⟩ : MethodName) prog_33_method_4_code 4 (some .int) :: ws) ({ frames := 0, cells := 0, slots := 0, locals := 0 } : Room)) (fun a U => a = #[(Value.ref am), (Value.int (1 : Int32)), (Value.int p2)] ∧ Z.Warmed39 U.vm ∧ U.heap = h0) (fun _ _ _ _ _ => True) (fun _ U o U' => ∃ v L, o = .returned v ∧ Q14_1_ft Z am aB kB v1 v2 p2 h0 n0 v U'.heap L ∧ FrameEnd U o U' L ({ frames := 0, cells := 0, slots := 0, locals := 0 } : Room).cells ({ frames := 0, cells := 0, slots := 0, locals := 0 } : Room).slots) := by
  refine MetFree.of_bodySF (plainFor_of_name own_pn_com_example_plain_bastion_plainbastion_ssh_Mark) hisR ?_
  intro p e s m args below meth c s₁ Bd hml0 hP hK
  obtain ⟨rfl, hZ, hh⟩ := hP
  have hx := Bd.exec
  have hby := Bd.bytes
  have hml : c.maxLocals = 4 := hml0
  have hown : s.vm.findClass "com/example/plain_bastion/plainbastion/ssh/Mark" = some m.cls := findClass_of_methodNamed Bd.named
  have hnm := (name_of_methodNamed Bd.named Bd.method).1
  have X0 : Stand p l e ({ frames := 0, cells := 0, slots := 0, locals := 0 } : Room) s m #[(Value.ref am), (Value.int (1 : Int32)), (Value.int p2)] below meth c s₁ [] 0 0 := Stand.of_body Bd
  have e0 : s₁.heap = h0 := by rw [← hh, Bd.state]; rfl
  have N0 := Fr.nil n0
  have K0 : Keep h0 h0 [] := Keep.refl h0 []
  show own_Go p.tables e below _ (s₁.setTop (entryFrame m #[(Value.ref am), (Value.int (1 : Int32)), (Value.int p2)] 4))
  refine own_Go.by (fun tq kq => castTop (own_ef_14_1_ft m am p2) kq) ?_
  show own_Go p.tables e below _ (s₁.setTop (mkF m 0 #[.val (Value.ref am), .val (Value.int (1 : Int32)), .val (Value.int p2), .unset] []))
  refine own_Go.by (fun tq kq => XS.iconst X0.here hx rfl (hb hby d14_0) kq) ?_
  show own_Go p.tables e below _ (s₁.setTop (mkF m 1 #[.val (Value.ref am), .val (Value.int (1 : Int32)), .val (Value.int p2), .unset] [(Value.int (0 : Int32))]))
  refine own_Go.by (fun tq kq => XS.istoreN X0.here hx rfl (hb hby d14_1) rfl (l' := #[.val (Value.ref am), .val (Value.int (1 : Int32)), .val (Value.int p2), .val (Value.int (0 : Int32))]) rfl kq) ?_
  show own_Go p.tables e below _ (s₁.setTop (mkF m 2 #[.val (Value.ref am), .val (Value.int (1 : Int32)), .val (Value.int p2), .val (Value.int (0 : Int32))] []))
  refine own_Go.by (fun tq kq => XS.iloadN X0.here hx rfl (hb hby d14_2) rfl kq) ?_
  show own_Go p.tables e below _ (s₁.setTop (mkF m 3 #[.val (Value.ref am), .val (Value.int (1 : Int32)), .val (Value.int p2), .val (Value.int (0 : Int32))] [(Value.int p2)]))
  refine own_Go.by (fun tq kq => XS.aloadN X0.here hx rfl (hb hby d14_3) rfl rfl kq) ?_
  show own_Go p.tables e below _ (s₁.setTop (mkF m 4 #[.val (Value.ref am), .val (Value.int (1 : Int32)), .val (Value.int p2), .val (Value.int (0 : Int32))] [(Value.ref am), (Value.int p2)]))
  obtain ⟨T1, X1, e1, st1⟩ := getF X0 hx hZ hown (host := "") (Or.inl (hw _ (List.mem_of_getElem? (i := 78) rfl))) Via.refl e0 H0 (g := (mkF m 4 #[.val (Value.ref am), .val (Value.int (1 : Int32)), .val (Value.int p2), .val (Value.int (0 : Int32))] [(Value.ref am), (Value.int p2)])) rfl rfl (hb hby d14_4)
  refine own_Go.by st1 ?_
  show own_Go p.tables e below _ (T1.setTop (mkF m 7 #[.val (Value.ref am), .val (Value.int (1 : Int32)), .val (Value.int p2), .val (Value.int (0 : Int32))] [(Value.ref aB), (Value.int p2)]))
  refine own_Go.by (fun tq kq => XS.iloadN X1.here hx rfl (hb hby d14_7) rfl kq) ?_
  show own_Go p.tables e below _ (T1.setTop (mkF m 8 #[.val (Value.ref am), .val (Value.int (1 : Int32)), .val (Value.int p2), .val (Value.int (0 : Int32))] [(Value.int (1 : Int32)), (Value.ref aB), (Value.int p2)]))
  obtain ⟨cl2, Ar2, q2, S2, M2, Hh2, G2⟩ := id H1
  refine own_Go.by (fun tq kq => X1.baloadBytes hx (j := (1 : Int32)) (v := (Value.int v1)) (by rw [e1]; exact Ar2.1) (State.isArrayOf_alike hZ.alike Ar2.2.1) Ar2.2.2 (inb_of S2 ⟨(by decide : ¬ ((1 : Int32) < (0 : Int32))), (by decide : (1 : Int32) < (3 : Int32))⟩) (Has.at Hh2 (inb_of S2 ⟨(by decide : ¬ ((1 : Int32) < (0 : Int32))), (by decide : (1 : Int32) < (3 : Int32))⟩) (rfl : _ = (Value.int v1))) (g := (mkF m 8 #[.val (Value.ref am), .val (Value.int (1 : Int32)), .val (Value.int p2), .val (Value.int (0 : Int32))] [(Value.int (1 : Int32)), (Value.ref aB), (Value.int p2)])) rfl rfl (hb hby d14_8) _ kq) ?_
  show own_Go p.tables e below _ (T1.setTop (mkF m 9 #[.val (Value.ref am), .val (Value.int (1 : Int32)), .val (Value.int p2), .val (Value.int (0 : Int32))] [(Value.int v1), (Value.int p2)]))
  refine own_Go.by (fun tq kq => XS.icmpYes X1.here hx rfl (pc0 := 9) (pc' := 19) rfl (hb hby d14_9) rfl (feq hd0).2 (by decide) (by decide) kq) ?_
  show own_Go p.tables e below _ (T1.setTop (mkF m 19 #[.val (Value.ref am), .val (Value.int (1 : Int32)), .val (Value.int p2), .val (Value.int (0 : Int32))] []))
  refine own_Go.by (fun tq kq => XS.iloadN X1.here hx rfl (hb hby d14_19) rfl kq) ?_
  show own_Go p.tables e below _ (T1.setTop (mkF m 20 #[.val (Value.ref am), .val (Value.int (1 : Int32)), .val (Value.int p2), .val (Value.int (0 : Int32))] [(Value.int p2)]))
  refine own_Go.by (fun tq kq => XS.bipush X1.here hx rfl (hb hby d14_20) kq) ?_
  show own_Go p.tables e below _ (T1.setTop (mkF m 22 #[.val (Value.ref am), .val (Value.int (1 : Int32)), .val (Value.int p2), .val (Value.int (0 : Int32))] [(Value.int (27 : Int32)), (Value.int p2)]))
  refine own_Go.by (fun tq kq => XS.icmpNo X1.here hx rfl (hb hby d14_22) rfl (teq hd1).2 kq) ?_
  show own_Go p.tables e below _ (T1.setTop (mkF m 25 #[.val (Value.ref am), .val (Value.int (1 : Int32)), .val (Value.int p2), .val (Value.int (0 : Int32))] []))
  refine own_Go.by (fun tq kq => XS.iconst X1.here hx rfl (hb hby d14_25) kq) ?_
  show own_Go p.tables e below _ (T1.setTop (mkF m 26 #[.val (Value.ref am), .val (Value.int (1 : Int32)), .val (Value.int p2), .val (Value.int (0 : Int32))] [(Value.int (1 : Int32))]))
  refine own_Go.by (fun tq kq => XS.istoreN X1.here hx rfl (hb hby d14_26) rfl (l' := #[.val (Value.ref am), .val (Value.int (1 : Int32)), .val (Value.int p2), .val (Value.int (1 : Int32))]) rfl kq) ?_
  show own_Go p.tables e below _ (T1.setTop (mkF m 27 #[.val (Value.ref am), .val (Value.int (1 : Int32)), .val (Value.int p2), .val (Value.int (1 : Int32))] []))
  refine own_Go.by (fun tq kq => XS.iloadN X1.here hx rfl (hb hby d14_27) rfl kq) ?_
  show own_Go p.tables e below _ (T1.setTop (mkF m 28 #[.val (Value.ref am), .val (Value.int (1 : Int32)), .val (Value.int p2), .val (Value.int (1 : Int32))] [(Value.int (1 : Int32))]))
  obtain ⟨fs, hr, hrun, hended, hW, hsame⟩ := X1.leave (v := some (Value.int (1 : Int32))) (fun h => by rw [Bd.returns] at h; cases h)
  refine own_Go.fin (retI X1 hx Bd.returns (hb hby d14_28) hr) ⟨hrun, hended, _, _, rfl, ?_, ⟨_, rfl⟩, hW, hsame.mono (by decide) (by decide)⟩
  show Q14_1_ft Z am aB kB v1 v2 p2 h0 n0 _ T1.heap _
  rw [e1]
  exact ⟨rfl, N0, rfl⟩

theorem own_ef_14_1_ff (m : MethodId) (am : Addr) (p2 : Int32) : entryFrame m #[(Value.ref am), (Value.int (1 : Int32)), (Value.int p2)] 4 = mkF m 0 #[.val (Value.ref am), .val (Value.int (1 : Int32)), .val (Value.int p2), .unset] [] := by first | (simp [entryFrame, mkF, argsToLocals, Value.category]; done) | rfl
def Q14_1_ff (Z : State) (am : Addr) (aB : Addr) (kB : ClassId) (v1 : Int32) (v2 : Int32) (p2 : Int32) (h0 : Heap) (n0 : Nat) (v : Option Value) (h : Heap) (L : List Loc) : Prop := v = some (Value.int (0 : Int32)) ∧ Fr n0 L ∧ h = h0
set_option maxRecDepth 65536 in
set_option maxHeartbeats 40000000 in
theorem rm14_1_ff (l : Launch) (Z : State) (a0 : Array Value) (hw : ∀ d ∈ tables_1, d.before a0 Z = true) (ws : List Jvm.Cond) (am : Addr) (aB : Addr) (kB : ClassId) (v1 : Int32) (v2 : Int32) (p2 : Int32) (h0 : Heap) (n0 : Nat) (O0 : Old Z n0 h0) (H0 : Fld Z h0 am "com/example/plain_bastion/plainbastion/ssh/Mark" "bytes" "[B" (Value.ref aB)) (H1 : Arv Z h0 aB kB .byte (3 : Int32) [(Value.int (27 : Int32)), (Value.int v1), (Value.int v2)] (Value.int (0 : Int32))) (hd0 : ¬ (p2 = v1)) (hd1 : ¬ (p2 = (27 : Int32))) :
    MetFree l (⟨"com/example/plain_bastion/plainbastion/ssh/Mark", "matched", "(IB)I"⟩ : MethodName) (head1 (Jvm.Cond.code (⟨"com/example/plain_bastion/plainbastion/ssh/Mark", "matched", "(IB)I"⟩ : MethodName) prog_33_method_4_code 4 (some .int) :: ws) ({ frames := 0, cells := 0, slots := 0, locals := 0 } : Room)) (fun a U => a = #[(Value.ref am), (Value.int (1 : Int32)), (Value.int p2)] ∧ Z.Warmed39 U.vm ∧ U.heap = h0) (fun _ _ _ _ _ => True) (fun _ U o U' => ∃ v L, o = .returned v ∧ Q14_1_ff Z am aB kB v1 v2 p2 h0 n0 v U'.heap L ∧ FrameEnd U o U' L ({ frames := 0, cells := 0, slots := 0, locals := 0 } : Room).cells ({ frames := 0, cells := 0, slots := 0, locals := 0 } : Room).slots) := by
  refine MetFree.of_bodySF (plainFor_of_name own_pn_com_example_plain_bastion_plainbastion_ssh_Mark) hisR ?_
  intro p e s m args below meth c s₁ Bd hml0 hP hK
  obtain ⟨rfl, hZ, hh⟩ := hP
  have hx := Bd.exec
  have hby := Bd.bytes
  have hml : c.maxLocals = 4 := hml0
  have hown : s.vm.findClass "com/example/plain_bastion/plainbastion/ssh/Mark" = some m.cls := findClass_of_methodNamed Bd.named
  have hnm := (name_of_methodNamed Bd.named Bd.method).1
  have X0 : Stand p l e ({ frames := 0, cells := 0, slots := 0, locals := 0 } : Room) s m #[(Value.ref am), (Value.int (1 : Int32)), (Value.int p2)] below meth c s₁ [] 0 0 := Stand.of_body Bd
  have e0 : s₁.heap = h0 := by rw [← hh, Bd.state]; rfl
  have N0 := Fr.nil n0
  have K0 : Keep h0 h0 [] := Keep.refl h0 []
  show own_Go p.tables e below _ (s₁.setTop (entryFrame m #[(Value.ref am), (Value.int (1 : Int32)), (Value.int p2)] 4))
  refine own_Go.by (fun tq kq => castTop (own_ef_14_1_ff m am p2) kq) ?_
  show own_Go p.tables e below _ (s₁.setTop (mkF m 0 #[.val (Value.ref am), .val (Value.int (1 : Int32)), .val (Value.int p2), .unset] []))
  refine own_Go.by (fun tq kq => XS.iconst X0.here hx rfl (hb hby d14_0) kq) ?_
  show own_Go p.tables e below _ (s₁.setTop (mkF m 1 #[.val (Value.ref am), .val (Value.int (1 : Int32)), .val (Value.int p2), .unset] [(Value.int (0 : Int32))]))
  refine own_Go.by (fun tq kq => XS.istoreN X0.here hx rfl (hb hby d14_1) rfl (l' := #[.val (Value.ref am), .val (Value.int (1 : Int32)), .val (Value.int p2), .val (Value.int (0 : Int32))]) rfl kq) ?_
  show own_Go p.tables e below _ (s₁.setTop (mkF m 2 #[.val (Value.ref am), .val (Value.int (1 : Int32)), .val (Value.int p2), .val (Value.int (0 : Int32))] []))
  refine own_Go.by (fun tq kq => XS.iloadN X0.here hx rfl (hb hby d14_2) rfl kq) ?_
  show own_Go p.tables e below _ (s₁.setTop (mkF m 3 #[.val (Value.ref am), .val (Value.int (1 : Int32)), .val (Value.int p2), .val (Value.int (0 : Int32))] [(Value.int p2)]))
  refine own_Go.by (fun tq kq => XS.aloadN X0.here hx rfl (hb hby d14_3) rfl rfl kq) ?_
  show own_Go p.tables e below _ (s₁.setTop (mkF m 4 #[.val (Value.ref am), .val (Value.int (1 : Int32)), .val (Value.int p2), .val (Value.int (0 : Int32))] [(Value.ref am), (Value.int p2)]))
  obtain ⟨T1, X1, e1, st1⟩ := getF X0 hx hZ hown (host := "") (Or.inl (hw _ (List.mem_of_getElem? (i := 78) rfl))) Via.refl e0 H0 (g := (mkF m 4 #[.val (Value.ref am), .val (Value.int (1 : Int32)), .val (Value.int p2), .val (Value.int (0 : Int32))] [(Value.ref am), (Value.int p2)])) rfl rfl (hb hby d14_4)
  refine own_Go.by st1 ?_
  show own_Go p.tables e below _ (T1.setTop (mkF m 7 #[.val (Value.ref am), .val (Value.int (1 : Int32)), .val (Value.int p2), .val (Value.int (0 : Int32))] [(Value.ref aB), (Value.int p2)]))
  refine own_Go.by (fun tq kq => XS.iloadN X1.here hx rfl (hb hby d14_7) rfl kq) ?_
  show own_Go p.tables e below _ (T1.setTop (mkF m 8 #[.val (Value.ref am), .val (Value.int (1 : Int32)), .val (Value.int p2), .val (Value.int (0 : Int32))] [(Value.int (1 : Int32)), (Value.ref aB), (Value.int p2)]))
  obtain ⟨cl2, Ar2, q2, S2, M2, Hh2, G2⟩ := id H1
  refine own_Go.by (fun tq kq => X1.baloadBytes hx (j := (1 : Int32)) (v := (Value.int v1)) (by rw [e1]; exact Ar2.1) (State.isArrayOf_alike hZ.alike Ar2.2.1) Ar2.2.2 (inb_of S2 ⟨(by decide : ¬ ((1 : Int32) < (0 : Int32))), (by decide : (1 : Int32) < (3 : Int32))⟩) (Has.at Hh2 (inb_of S2 ⟨(by decide : ¬ ((1 : Int32) < (0 : Int32))), (by decide : (1 : Int32) < (3 : Int32))⟩) (rfl : _ = (Value.int v1))) (g := (mkF m 8 #[.val (Value.ref am), .val (Value.int (1 : Int32)), .val (Value.int p2), .val (Value.int (0 : Int32))] [(Value.int (1 : Int32)), (Value.ref aB), (Value.int p2)])) rfl rfl (hb hby d14_8) _ kq) ?_
  show own_Go p.tables e below _ (T1.setTop (mkF m 9 #[.val (Value.ref am), .val (Value.int (1 : Int32)), .val (Value.int p2), .val (Value.int (0 : Int32))] [(Value.int v1), (Value.int p2)]))
  refine own_Go.by (fun tq kq => XS.icmpYes X1.here hx rfl (pc0 := 9) (pc' := 19) rfl (hb hby d14_9) rfl (feq hd0).2 (by decide) (by decide) kq) ?_
  show own_Go p.tables e below _ (T1.setTop (mkF m 19 #[.val (Value.ref am), .val (Value.int (1 : Int32)), .val (Value.int p2), .val (Value.int (0 : Int32))] []))
  refine own_Go.by (fun tq kq => XS.iloadN X1.here hx rfl (hb hby d14_19) rfl kq) ?_
  show own_Go p.tables e below _ (T1.setTop (mkF m 20 #[.val (Value.ref am), .val (Value.int (1 : Int32)), .val (Value.int p2), .val (Value.int (0 : Int32))] [(Value.int p2)]))
  refine own_Go.by (fun tq kq => XS.bipush X1.here hx rfl (hb hby d14_20) kq) ?_
  show own_Go p.tables e below _ (T1.setTop (mkF m 22 #[.val (Value.ref am), .val (Value.int (1 : Int32)), .val (Value.int p2), .val (Value.int (0 : Int32))] [(Value.int (27 : Int32)), (Value.int p2)]))
  refine own_Go.by (fun tq kq => XS.icmpYes X1.here hx rfl (pc0 := 22) (pc' := 27) rfl (hb hby d14_22) rfl (feq hd1).2 (by decide) (by decide) kq) ?_
  show own_Go p.tables e below _ (T1.setTop (mkF m 27 #[.val (Value.ref am), .val (Value.int (1 : Int32)), .val (Value.int p2), .val (Value.int (0 : Int32))] []))
  refine own_Go.by (fun tq kq => XS.iloadN X1.here hx rfl (hb hby d14_27) rfl kq) ?_
  show own_Go p.tables e below _ (T1.setTop (mkF m 28 #[.val (Value.ref am), .val (Value.int (1 : Int32)), .val (Value.int p2), .val (Value.int (0 : Int32))] [(Value.int (0 : Int32))]))
  obtain ⟨fs, hr, hrun, hended, hW, hsame⟩ := X1.leave (v := some (Value.int (0 : Int32))) (fun h => by rw [Bd.returns] at h; cases h)
  refine own_Go.fin (retI X1 hx Bd.returns (hb hby d14_28) hr) ⟨hrun, hended, _, _, rfl, ?_, ⟨_, rfl⟩, hW, hsame.mono (by decide) (by decide)⟩
  show Q14_1_ff Z am aB kB v1 v2 p2 h0 n0 _ T1.heap _
  rw [e1]
  exact ⟨rfl, N0, rfl⟩

theorem own_ef_14_2_t (m : MethodId) (am : Addr) (p2 : Int32) : entryFrame m #[(Value.ref am), (Value.int (2 : Int32)), (Value.int p2)] 4 = mkF m 0 #[.val (Value.ref am), .val (Value.int (2 : Int32)), .val (Value.int p2), .unset] [] := by first | (simp [entryFrame, mkF, argsToLocals, Value.category]; done) | rfl
def Q14_2_t (Z : State) (am : Addr) (aB : Addr) (kB : ClassId) (v1 : Int32) (v2 : Int32) (p2 : Int32) (h0 : Heap) (n0 : Nat) (v : Option Value) (h : Heap) (L : List Loc) : Prop := v = some (Value.int (3 : Int32)) ∧ Fr n0 L ∧ h = h0
set_option maxRecDepth 65536 in
set_option maxHeartbeats 40000000 in
theorem rm14_2_t (l : Launch) (Z : State) (a0 : Array Value) (hw : ∀ d ∈ tables_1, d.before a0 Z = true) (ws : List Jvm.Cond) (am : Addr) (aB : Addr) (kB : ClassId) (v1 : Int32) (v2 : Int32) (p2 : Int32) (h0 : Heap) (n0 : Nat) (O0 : Old Z n0 h0) (H0 : Fld Z h0 am "com/example/plain_bastion/plainbastion/ssh/Mark" "bytes" "[B" (Value.ref aB)) (H1 : Arv Z h0 aB kB .byte (3 : Int32) [(Value.int (27 : Int32)), (Value.int v1), (Value.int v2)] (Value.int (0 : Int32))) (hd0 : p2 = v2) :
    MetFree l (⟨"com/example/plain_bastion/plainbastion/ssh/Mark", "matched", "(IB)I"⟩ : MethodName) (head1 (Jvm.Cond.code (⟨"com/example/plain_bastion/plainbastion/ssh/Mark", "matched", "(IB)I"⟩ : MethodName) prog_33_method_4_code 4 (some .int) :: ws) ({ frames := 0, cells := 0, slots := 0, locals := 0 } : Room)) (fun a U => a = #[(Value.ref am), (Value.int (2 : Int32)), (Value.int p2)] ∧ Z.Warmed39 U.vm ∧ U.heap = h0) (fun _ _ _ _ _ => True) (fun _ U o U' => ∃ v L, o = .returned v ∧ Q14_2_t Z am aB kB v1 v2 p2 h0 n0 v U'.heap L ∧ FrameEnd U o U' L ({ frames := 0, cells := 0, slots := 0, locals := 0 } : Room).cells ({ frames := 0, cells := 0, slots := 0, locals := 0 } : Room).slots) := by
  refine MetFree.of_bodySF (plainFor_of_name own_pn_com_example_plain_bastion_plainbastion_ssh_Mark) hisR ?_
  intro p e s m args below meth c s₁ Bd hml0 hP hK
  obtain ⟨rfl, hZ, hh⟩ := hP
  have hx := Bd.exec
  have hby := Bd.bytes
  have hml : c.maxLocals = 4 := hml0
  have hown : s.vm.findClass "com/example/plain_bastion/plainbastion/ssh/Mark" = some m.cls := findClass_of_methodNamed Bd.named
  have hnm := (name_of_methodNamed Bd.named Bd.method).1
  have X0 : Stand p l e ({ frames := 0, cells := 0, slots := 0, locals := 0 } : Room) s m #[(Value.ref am), (Value.int (2 : Int32)), (Value.int p2)] below meth c s₁ [] 0 0 := Stand.of_body Bd
  have e0 : s₁.heap = h0 := by rw [← hh, Bd.state]; rfl
  have N0 := Fr.nil n0
  have K0 : Keep h0 h0 [] := Keep.refl h0 []
  show own_Go p.tables e below _ (s₁.setTop (entryFrame m #[(Value.ref am), (Value.int (2 : Int32)), (Value.int p2)] 4))
  refine own_Go.by (fun tq kq => castTop (own_ef_14_2_t m am p2) kq) ?_
  show own_Go p.tables e below _ (s₁.setTop (mkF m 0 #[.val (Value.ref am), .val (Value.int (2 : Int32)), .val (Value.int p2), .unset] []))
  refine own_Go.by (fun tq kq => XS.iconst X0.here hx rfl (hb hby d14_0) kq) ?_
  show own_Go p.tables e below _ (s₁.setTop (mkF m 1 #[.val (Value.ref am), .val (Value.int (2 : Int32)), .val (Value.int p2), .unset] [(Value.int (0 : Int32))]))
  refine own_Go.by (fun tq kq => XS.istoreN X0.here hx rfl (hb hby d14_1) rfl (l' := #[.val (Value.ref am), .val (Value.int (2 : Int32)), .val (Value.int p2), .val (Value.int (0 : Int32))]) rfl kq) ?_
  show own_Go p.tables e below _ (s₁.setTop (mkF m 2 #[.val (Value.ref am), .val (Value.int (2 : Int32)), .val (Value.int p2), .val (Value.int (0 : Int32))] []))
  refine own_Go.by (fun tq kq => XS.iloadN X0.here hx rfl (hb hby d14_2) rfl kq) ?_
  show own_Go p.tables e below _ (s₁.setTop (mkF m 3 #[.val (Value.ref am), .val (Value.int (2 : Int32)), .val (Value.int p2), .val (Value.int (0 : Int32))] [(Value.int p2)]))
  refine own_Go.by (fun tq kq => XS.aloadN X0.here hx rfl (hb hby d14_3) rfl rfl kq) ?_
  show own_Go p.tables e below _ (s₁.setTop (mkF m 4 #[.val (Value.ref am), .val (Value.int (2 : Int32)), .val (Value.int p2), .val (Value.int (0 : Int32))] [(Value.ref am), (Value.int p2)]))
  obtain ⟨T1, X1, e1, st1⟩ := getF X0 hx hZ hown (host := "") (Or.inl (hw _ (List.mem_of_getElem? (i := 78) rfl))) Via.refl e0 H0 (g := (mkF m 4 #[.val (Value.ref am), .val (Value.int (2 : Int32)), .val (Value.int p2), .val (Value.int (0 : Int32))] [(Value.ref am), (Value.int p2)])) rfl rfl (hb hby d14_4)
  refine own_Go.by st1 ?_
  show own_Go p.tables e below _ (T1.setTop (mkF m 7 #[.val (Value.ref am), .val (Value.int (2 : Int32)), .val (Value.int p2), .val (Value.int (0 : Int32))] [(Value.ref aB), (Value.int p2)]))
  refine own_Go.by (fun tq kq => XS.iloadN X1.here hx rfl (hb hby d14_7) rfl kq) ?_
  show own_Go p.tables e below _ (T1.setTop (mkF m 8 #[.val (Value.ref am), .val (Value.int (2 : Int32)), .val (Value.int p2), .val (Value.int (0 : Int32))] [(Value.int (2 : Int32)), (Value.ref aB), (Value.int p2)]))
  obtain ⟨cl2, Ar2, q2, S2, M2, Hh2, G2⟩ := id H1
  refine own_Go.by (fun tq kq => X1.baloadBytes hx (j := (2 : Int32)) (v := (Value.int v2)) (by rw [e1]; exact Ar2.1) (State.isArrayOf_alike hZ.alike Ar2.2.1) Ar2.2.2 (inb_of S2 ⟨(by decide : ¬ ((2 : Int32) < (0 : Int32))), (by decide : (2 : Int32) < (3 : Int32))⟩) (Has.at Hh2 (inb_of S2 ⟨(by decide : ¬ ((2 : Int32) < (0 : Int32))), (by decide : (2 : Int32) < (3 : Int32))⟩) (rfl : _ = (Value.int v2))) (g := (mkF m 8 #[.val (Value.ref am), .val (Value.int (2 : Int32)), .val (Value.int p2), .val (Value.int (0 : Int32))] [(Value.int (2 : Int32)), (Value.ref aB), (Value.int p2)])) rfl rfl (hb hby d14_8) _ kq) ?_
  show own_Go p.tables e below _ (T1.setTop (mkF m 9 #[.val (Value.ref am), .val (Value.int (2 : Int32)), .val (Value.int p2), .val (Value.int (0 : Int32))] [(Value.int v2), (Value.int p2)]))
  refine own_Go.by (fun tq kq => XS.icmpNo X1.here hx rfl (hb hby d14_9) rfl (teq hd0).2 kq) ?_
  show own_Go p.tables e below _ (T1.setTop (mkF m 12 #[.val (Value.ref am), .val (Value.int (2 : Int32)), .val (Value.int p2), .val (Value.int (0 : Int32))] []))
  refine own_Go.by (fun tq kq => XS.iloadN X1.here hx rfl (hb hby d14_12) rfl kq) ?_
  show own_Go p.tables e below _ (T1.setTop (mkF m 13 #[.val (Value.ref am), .val (Value.int (2 : Int32)), .val (Value.int p2), .val (Value.int (0 : Int32))] [(Value.int (2 : Int32))]))
  refine own_Go.by (fun tq kq => XS.iconst X1.here hx rfl (hb hby d14_13) kq) ?_
  show own_Go p.tables e below _ (T1.setTop (mkF m 14 #[.val (Value.ref am), .val (Value.int (2 : Int32)), .val (Value.int p2), .val (Value.int (0 : Int32))] [(Value.int (1 : Int32)), (Value.int (2 : Int32))]))
  refine own_Go.by (fun tq kq => XS.iadd X1.here hx rfl (hb hby d14_14) rfl kq) ?_
  show own_Go p.tables e below _ (T1.setTop (mkF m 15 #[.val (Value.ref am), .val (Value.int (2 : Int32)), .val (Value.int p2), .val (Value.int (0 : Int32))] [(Value.int (3 : Int32))]))
  refine own_Go.by (fun tq kq => XS.istoreN X1.here hx rfl (hb hby d14_15) rfl (l' := #[.val (Value.ref am), .val (Value.int (2 : Int32)), .val (Value.int p2), .val (Value.int (3 : Int32))]) rfl kq) ?_
  show own_Go p.tables e below _ (T1.setTop (mkF m 16 #[.val (Value.ref am), .val (Value.int (2 : Int32)), .val (Value.int p2), .val (Value.int (3 : Int32))] []))
  refine own_Go.by (fun tq kq => XS.goto X1.here hx rfl (pc0 := 16) (pc' := 27) rfl (hb hby d14_16) (by decide) (by decide) kq) ?_
  show own_Go p.tables e below _ (T1.setTop (mkF m 27 #[.val (Value.ref am), .val (Value.int (2 : Int32)), .val (Value.int p2), .val (Value.int (3 : Int32))] []))
  refine own_Go.by (fun tq kq => XS.iloadN X1.here hx rfl (hb hby d14_27) rfl kq) ?_
  show own_Go p.tables e below _ (T1.setTop (mkF m 28 #[.val (Value.ref am), .val (Value.int (2 : Int32)), .val (Value.int p2), .val (Value.int (3 : Int32))] [(Value.int (3 : Int32))]))
  obtain ⟨fs, hr, hrun, hended, hW, hsame⟩ := X1.leave (v := some (Value.int (3 : Int32))) (fun h => by rw [Bd.returns] at h; cases h)
  refine own_Go.fin (retI X1 hx Bd.returns (hb hby d14_28) hr) ⟨hrun, hended, _, _, rfl, ?_, ⟨_, rfl⟩, hW, hsame.mono (by decide) (by decide)⟩
  show Q14_2_t Z am aB kB v1 v2 p2 h0 n0 _ T1.heap _
  rw [e1]
  exact ⟨rfl, N0, rfl⟩

theorem own_ef_14_2_ft (m : MethodId) (am : Addr) (p2 : Int32) : entryFrame m #[(Value.ref am), (Value.int (2 : Int32)), (Value.int p2)] 4 = mkF m 0 #[.val (Value.ref am), .val (Value.int (2 : Int32)), .val (Value.int p2), .unset] [] := by first | (simp [entryFrame, mkF, argsToLocals, Value.category]; done) | rfl
def Q14_2_ft (Z : State) (am : Addr) (aB : Addr) (kB : ClassId) (v1 : Int32) (v2 : Int32) (p2 : Int32) (h0 : Heap) (n0 : Nat) (v : Option Value) (h : Heap) (L : List Loc) : Prop := v = some (Value.int (1 : Int32)) ∧ Fr n0 L ∧ h = h0
set_option maxRecDepth 65536 in
set_option maxHeartbeats 40000000 in
theorem rm14_2_ft (l : Launch) (Z : State) (a0 : Array Value) (hw : ∀ d ∈ tables_1, d.before a0 Z = true) (ws : List Jvm.Cond) (am : Addr) (aB : Addr) (kB : ClassId) (v1 : Int32) (v2 : Int32) (p2 : Int32) (h0 : Heap) (n0 : Nat) (O0 : Old Z n0 h0) (H0 : Fld Z h0 am "com/example/plain_bastion/plainbastion/ssh/Mark" "bytes" "[B" (Value.ref aB)) (H1 : Arv Z h0 aB kB .byte (3 : Int32) [(Value.int (27 : Int32)), (Value.int v1), (Value.int v2)] (Value.int (0 : Int32))) (hd0 : ¬ (p2 = v2)) (hd1 : p2 = (27 : Int32)) :
    MetFree l (⟨"com/example/plain_bastion/plainbastion/ssh/Mark", "matched", "(IB)I"⟩ : MethodName) (head1 (Jvm.Cond.code (⟨"com/example/plain_bastion/plainbastion/ssh/Mark", "matched", "(IB)I"⟩ : MethodName) prog_33_method_4_code 4 (some .int) :: ws) ({ frames := 0, cells := 0, slots := 0, locals := 0 } : Room)) (fun a U => a = #[(Value.ref am), (Value.int (2 : Int32)), (Value.int p2)] ∧ Z.Warmed39 U.vm ∧ U.heap = h0) (fun _ _ _ _ _ => True) (fun _ U o U' => ∃ v L, o = .returned v ∧ Q14_2_ft Z am aB kB v1 v2 p2 h0 n0 v U'.heap L ∧ FrameEnd U o U' L ({ frames := 0, cells := 0, slots := 0, locals := 0 } : Room).cells ({ frames := 0, cells := 0, slots := 0, locals := 0 } : Room).slots) := by
  refine MetFree.of_bodySF (plainFor_of_name own_pn_com_example_plain_bastion_plainbastion_ssh_Mark) hisR ?_
  intro p e s m args below meth c s₁ Bd hml0 hP hK
  obtain ⟨rfl, hZ, hh⟩ := hP
  have hx := Bd.exec
  have hby := Bd.bytes
  have hml : c.maxLocals = 4 := hml0
  have hown : s.vm.findClass "com/example/plain_bastion/plainbastion/ssh/Mark" = some m.cls := findClass_of_methodNamed Bd.named
  have hnm := (name_of_methodNamed Bd.named Bd.method).1
  have X0 : Stand p l e ({ frames := 0, cells := 0, slots := 0, locals := 0 } : Room) s m #[(Value.ref am), (Value.int (2 : Int32)), (Value.int p2)] below meth c s₁ [] 0 0 := Stand.of_body Bd
  have e0 : s₁.heap = h0 := by rw [← hh, Bd.state]; rfl
  have N0 := Fr.nil n0
  have K0 : Keep h0 h0 [] := Keep.refl h0 []
  show own_Go p.tables e below _ (s₁.setTop (entryFrame m #[(Value.ref am), (Value.int (2 : Int32)), (Value.int p2)] 4))
  refine own_Go.by (fun tq kq => castTop (own_ef_14_2_ft m am p2) kq) ?_
  show own_Go p.tables e below _ (s₁.setTop (mkF m 0 #[.val (Value.ref am), .val (Value.int (2 : Int32)), .val (Value.int p2), .unset] []))
  refine own_Go.by (fun tq kq => XS.iconst X0.here hx rfl (hb hby d14_0) kq) ?_
  show own_Go p.tables e below _ (s₁.setTop (mkF m 1 #[.val (Value.ref am), .val (Value.int (2 : Int32)), .val (Value.int p2), .unset] [(Value.int (0 : Int32))]))
  refine own_Go.by (fun tq kq => XS.istoreN X0.here hx rfl (hb hby d14_1) rfl (l' := #[.val (Value.ref am), .val (Value.int (2 : Int32)), .val (Value.int p2), .val (Value.int (0 : Int32))]) rfl kq) ?_
  show own_Go p.tables e below _ (s₁.setTop (mkF m 2 #[.val (Value.ref am), .val (Value.int (2 : Int32)), .val (Value.int p2), .val (Value.int (0 : Int32))] []))
  refine own_Go.by (fun tq kq => XS.iloadN X0.here hx rfl (hb hby d14_2) rfl kq) ?_
  show own_Go p.tables e below _ (s₁.setTop (mkF m 3 #[.val (Value.ref am), .val (Value.int (2 : Int32)), .val (Value.int p2), .val (Value.int (0 : Int32))] [(Value.int p2)]))
  refine own_Go.by (fun tq kq => XS.aloadN X0.here hx rfl (hb hby d14_3) rfl rfl kq) ?_
  show own_Go p.tables e below _ (s₁.setTop (mkF m 4 #[.val (Value.ref am), .val (Value.int (2 : Int32)), .val (Value.int p2), .val (Value.int (0 : Int32))] [(Value.ref am), (Value.int p2)]))
  obtain ⟨T1, X1, e1, st1⟩ := getF X0 hx hZ hown (host := "") (Or.inl (hw _ (List.mem_of_getElem? (i := 78) rfl))) Via.refl e0 H0 (g := (mkF m 4 #[.val (Value.ref am), .val (Value.int (2 : Int32)), .val (Value.int p2), .val (Value.int (0 : Int32))] [(Value.ref am), (Value.int p2)])) rfl rfl (hb hby d14_4)
  refine own_Go.by st1 ?_
  show own_Go p.tables e below _ (T1.setTop (mkF m 7 #[.val (Value.ref am), .val (Value.int (2 : Int32)), .val (Value.int p2), .val (Value.int (0 : Int32))] [(Value.ref aB), (Value.int p2)]))
  refine own_Go.by (fun tq kq => XS.iloadN X1.here hx rfl (hb hby d14_7) rfl kq) ?_
  show own_Go p.tables e below _ (T1.setTop (mkF m 8 #[.val (Value.ref am), .val (Value.int (2 : Int32)), .val (Value.int p2), .val (Value.int (0 : Int32))] [(Value.int (2 : Int32)), (Value.ref aB), (Value.int p2)]))
  obtain ⟨cl2, Ar2, q2, S2, M2, Hh2, G2⟩ := id H1
  refine own_Go.by (fun tq kq => X1.baloadBytes hx (j := (2 : Int32)) (v := (Value.int v2)) (by rw [e1]; exact Ar2.1) (State.isArrayOf_alike hZ.alike Ar2.2.1) Ar2.2.2 (inb_of S2 ⟨(by decide : ¬ ((2 : Int32) < (0 : Int32))), (by decide : (2 : Int32) < (3 : Int32))⟩) (Has.at Hh2 (inb_of S2 ⟨(by decide : ¬ ((2 : Int32) < (0 : Int32))), (by decide : (2 : Int32) < (3 : Int32))⟩) (rfl : _ = (Value.int v2))) (g := (mkF m 8 #[.val (Value.ref am), .val (Value.int (2 : Int32)), .val (Value.int p2), .val (Value.int (0 : Int32))] [(Value.int (2 : Int32)), (Value.ref aB), (Value.int p2)])) rfl rfl (hb hby d14_8) _ kq) ?_
  show own_Go p.tables e below _ (T1.setTop (mkF m 9 #[.val (Value.ref am), .val (Value.int (2 : Int32)), .val (Value.int p2), .val (Value.int (0 : Int32))] [(Value.int v2), (Value.int p2)]))
  refine own_Go.by (fun tq kq => XS.icmpYes X1.here hx rfl (pc0 := 9) (pc' := 19) rfl (hb hby d14_9) rfl (feq hd0).2 (by decide) (by decide) kq) ?_
  show own_Go p.tables e below _ (T1.setTop (mkF m 19 #[.val (Value.ref am), .val (Value.int (2 : Int32)), .val (Value.int p2), .val (Value.int (0 : Int32))] []))
  refine own_Go.by (fun tq kq => XS.iloadN X1.here hx rfl (hb hby d14_19) rfl kq) ?_
  show own_Go p.tables e below _ (T1.setTop (mkF m 20 #[.val (Value.ref am), .val (Value.int (2 : Int32)), .val (Value.int p2), .val (Value.int (0 : Int32))] [(Value.int p2)]))
  refine own_Go.by (fun tq kq => XS.bipush X1.here hx rfl (hb hby d14_20) kq) ?_
  show own_Go p.tables e below _ (T1.setTop (mkF m 22 #[.val (Value.ref am), .val (Value.int (2 : Int32)), .val (Value.int p2), .val (Value.int (0 : Int32))] [(Value.int (27 : Int32)), (Value.int p2)]))
  refine own_Go.by (fun tq kq => XS.icmpNo X1.here hx rfl (hb hby d14_22) rfl (teq hd1).2 kq) ?_
  show own_Go p.tables e below _ (T1.setTop (mkF m 25 #[.val (Value.ref am), .val (Value.int (2 : Int32)), .val (Value.int p2), .val (Value.int (0 : Int32))] []))
  refine own_Go.by (fun tq kq => XS.iconst X1.here hx rfl (hb hby d14_25) kq) ?_
  show own_Go p.tables e below _ (T1.setTop (mkF m 26 #[.val (Value.ref am), .val (Value.int (2 : Int32)), .val (Value.int p2), .val (Value.int (0 : Int32))] [(Value.int (1 : Int32))]))
  refine own_Go.by (fun tq kq => XS.istoreN X1.here hx rfl (hb hby d14_26) rfl (l' := #[.val (Value.ref am), .val (Value.int (2 : Int32)), .val (Value.int p2), .val (Value.int (1 : Int32))]) rfl kq) ?_
  show own_Go p.tables e below _ (T1.setTop (mkF m 27 #[.val (Value.ref am), .val (Value.int (2 : Int32)), .val (Value.int p2), .val (Value.int (1 : Int32))] []))
  refine own_Go.by (fun tq kq => XS.iloadN X1.here hx rfl (hb hby d14_27) rfl kq) ?_
  show own_Go p.tables e below _ (T1.setTop (mkF m 28 #[.val (Value.ref am), .val (Value.int (2 : Int32)), .val (Value.int p2), .val (Value.int (1 : Int32))] [(Value.int (1 : Int32))]))
  obtain ⟨fs, hr, hrun, hended, hW, hsame⟩ := X1.leave (v := some (Value.int (1 : Int32))) (fun h => by rw [Bd.returns] at h; cases h)
  refine own_Go.fin (retI X1 hx Bd.returns (hb hby d14_28) hr) ⟨hrun, hended, _, _, rfl, ?_, ⟨_, rfl⟩, hW, hsame.mono (by decide) (by decide)⟩
  show Q14_2_ft Z am aB kB v1 v2 p2 h0 n0 _ T1.heap _
  rw [e1]
  exact ⟨rfl, N0, rfl⟩

theorem own_ef_14_2_ff (m : MethodId) (am : Addr) (p2 : Int32) : entryFrame m #[(Value.ref am), (Value.int (2 : Int32)), (Value.int p2)] 4 = mkF m 0 #[.val (Value.ref am), .val (Value.int (2 : Int32)), .val (Value.int p2), .unset] [] := by first | (simp [entryFrame, mkF, argsToLocals, Value.category]; done) | rfl
def Q14_2_ff (Z : State) (am : Addr) (aB : Addr) (kB : ClassId) (v1 : Int32) (v2 : Int32) (p2 : Int32) (h0 : Heap) (n0 : Nat) (v : Option Value) (h : Heap) (L : List Loc) : Prop := v = some (Value.int (0 : Int32)) ∧ Fr n0 L ∧ h = h0
set_option maxRecDepth 65536 in
set_option maxHeartbeats 40000000 in
theorem rm14_2_ff (l : Launch) (Z : State) (a0 : Array Value) (hw : ∀ d ∈ tables_1, d.before a0 Z = true) (ws : List Jvm.Cond) (am : Addr) (aB : Addr) (kB : ClassId) (v1 : Int32) (v2 : Int32) (p2 : Int32) (h0 : Heap) (n0 : Nat) (O0 : Old Z n0 h0) (H0 : Fld Z h0 am "com/example/plain_bastion/plainbastion/ssh/Mark" "bytes" "[B" (Value.ref aB)) (H1 : Arv Z h0 aB kB .byte (3 : Int32) [(Value.int (27 : Int32)), (Value.int v1), (Value.int v2)] (Value.int (0 : Int32))) (hd0 : ¬ (p2 = v2)) (hd1 : ¬ (p2 = (27 : Int32))) :
    MetFree l (⟨"com/example/plain_bastion/plainbastion/ssh/Mark", "matched", "(IB)I"⟩ : MethodName) (head1 (Jvm.Cond.code (⟨"com/example/plain_bastion/plainbastion/ssh/Mark", "matched", "(IB)I"⟩ : MethodName) prog_33_method_4_code 4 (some .int) :: ws) ({ frames := 0, cells := 0, slots := 0, locals := 0 } : Room)) (fun a U => a = #[(Value.ref am), (Value.int (2 : Int32)), (Value.int p2)] ∧ Z.Warmed39 U.vm ∧ U.heap = h0) (fun _ _ _ _ _ => True) (fun _ U o U' => ∃ v L, o = .returned v ∧ Q14_2_ff Z am aB kB v1 v2 p2 h0 n0 v U'.heap L ∧ FrameEnd U o U' L ({ frames := 0, cells := 0, slots := 0, locals := 0 } : Room).cells ({ frames := 0, cells := 0, slots := 0, locals := 0 } : Room).slots) := by
  refine MetFree.of_bodySF (plainFor_of_name own_pn_com_example_plain_bastion_plainbastion_ssh_Mark) hisR ?_
  intro p e s m args below meth c s₁ Bd hml0 hP hK
  obtain ⟨rfl, hZ, hh⟩ := hP
  have hx := Bd.exec
  have hby := Bd.bytes
  have hml : c.maxLocals = 4 := hml0
  have hown : s.vm.findClass "com/example/plain_bastion/plainbastion/ssh/Mark" = some m.cls := findClass_of_methodNamed Bd.named
  have hnm := (name_of_methodNamed Bd.named Bd.method).1
  have X0 : Stand p l e ({ frames := 0, cells := 0, slots := 0, locals := 0 } : Room) s m #[(Value.ref am), (Value.int (2 : Int32)), (Value.int p2)] below meth c s₁ [] 0 0 := Stand.of_body Bd
  have e0 : s₁.heap = h0 := by rw [← hh, Bd.state]; rfl
  have N0 := Fr.nil n0
  have K0 : Keep h0 h0 [] := Keep.refl h0 []
  show own_Go p.tables e below _ (s₁.setTop (entryFrame m #[(Value.ref am), (Value.int (2 : Int32)), (Value.int p2)] 4))
  refine own_Go.by (fun tq kq => castTop (own_ef_14_2_ff m am p2) kq) ?_
  show own_Go p.tables e below _ (s₁.setTop (mkF m 0 #[.val (Value.ref am), .val (Value.int (2 : Int32)), .val (Value.int p2), .unset] []))
  refine own_Go.by (fun tq kq => XS.iconst X0.here hx rfl (hb hby d14_0) kq) ?_
  show own_Go p.tables e below _ (s₁.setTop (mkF m 1 #[.val (Value.ref am), .val (Value.int (2 : Int32)), .val (Value.int p2), .unset] [(Value.int (0 : Int32))]))
  refine own_Go.by (fun tq kq => XS.istoreN X0.here hx rfl (hb hby d14_1) rfl (l' := #[.val (Value.ref am), .val (Value.int (2 : Int32)), .val (Value.int p2), .val (Value.int (0 : Int32))]) rfl kq) ?_
  show own_Go p.tables e below _ (s₁.setTop (mkF m 2 #[.val (Value.ref am), .val (Value.int (2 : Int32)), .val (Value.int p2), .val (Value.int (0 : Int32))] []))
  refine own_Go.by (fun tq kq => XS.iloadN X0.here hx rfl (hb hby d14_2) rfl kq) ?_
  show own_Go p.tables e below _ (s₁.setTop (mkF m 3 #[.val (Value.ref am), .val (Value.int (2 : Int32)), .val (Value.int p2), .val (Value.int (0 : Int32))] [(Value.int p2)]))
  refine own_Go.by (fun tq kq => XS.aloadN X0.here hx rfl (hb hby d14_3) rfl rfl kq) ?_
  show own_Go p.tables e below _ (s₁.setTop (mkF m 4 #[.val (Value.ref am), .val (Value.int (2 : Int32)), .val (Value.int p2), .val (Value.int (0 : Int32))] [(Value.ref am), (Value.int p2)]))
  obtain ⟨T1, X1, e1, st1⟩ := getF X0 hx hZ hown (host := "") (Or.inl (hw _ (List.mem_of_getElem? (i := 78) rfl))) Via.refl e0 H0 (g := (mkF m 4 #[.val (Value.ref am), .val (Value.int (2 : Int32)), .val (Value.int p2), .val (Value.int (0 : Int32))] [(Value.ref am), (Value.int p2)])) rfl rfl (hb hby d14_4)
  refine own_Go.by st1 ?_
  show own_Go p.tables e below _ (T1.setTop (mkF m 7 #[.val (Value.ref am), .val (Value.int (2 : Int32)), .val (Value.int p2), .val (Value.int (0 : Int32))] [(Value.ref aB), (Value.int p2)]))
  refine own_Go.by (fun tq kq => XS.iloadN X1.here hx rfl (hb hby d14_7) rfl kq) ?_
  show own_Go p.tables e below _ (T1.setTop (mkF m 8 #[.val (Value.ref am), .val (Value.int (2 : Int32)), .val (Value.int p2), .val (Value.int (0 : Int32))] [(Value.int (2 : Int32)), (Value.ref aB), (Value.int p2)]))
  obtain ⟨cl2, Ar2, q2, S2, M2, Hh2, G2⟩ := id H1
  refine own_Go.by (fun tq kq => X1.baloadBytes hx (j := (2 : Int32)) (v := (Value.int v2)) (by rw [e1]; exact Ar2.1) (State.isArrayOf_alike hZ.alike Ar2.2.1) Ar2.2.2 (inb_of S2 ⟨(by decide : ¬ ((2 : Int32) < (0 : Int32))), (by decide : (2 : Int32) < (3 : Int32))⟩) (Has.at Hh2 (inb_of S2 ⟨(by decide : ¬ ((2 : Int32) < (0 : Int32))), (by decide : (2 : Int32) < (3 : Int32))⟩) (rfl : _ = (Value.int v2))) (g := (mkF m 8 #[.val (Value.ref am), .val (Value.int (2 : Int32)), .val (Value.int p2), .val (Value.int (0 : Int32))] [(Value.int (2 : Int32)), (Value.ref aB), (Value.int p2)])) rfl rfl (hb hby d14_8) _ kq) ?_
  show own_Go p.tables e below _ (T1.setTop (mkF m 9 #[.val (Value.ref am), .val (Value.int (2 : Int32)), .val (Value.int p2), .val (Value.int (0 : Int32))] [(Value.int v2), (Value.int p2)]))
  refine own_Go.by (fun tq kq => XS.icmpYes X1.here hx rfl (pc0 := 9) (pc' := 19) rfl (hb hby d14_9) rfl (feq hd0).2 (by decide) (by decide) kq) ?_
  show own_Go p.tables e below _ (T1.setTop (mkF m 19 #[.val (Value.ref am), .val (Value.int (2 : Int32)), .val (Value.int p2), .val (Value.int (0 : Int32))] []))
  refine own_Go.by (fun tq kq => XS.iloadN X1.here hx rfl (hb hby d14_19) rfl kq) ?_
  show own_Go p.tables e below _ (T1.setTop (mkF m 20 #[.val (Value.ref am), .val (Value.int (2 : Int32)), .val (Value.int p2), .val (Value.int (0 : Int32))] [(Value.int p2)]))
  refine own_Go.by (fun tq kq => XS.bipush X1.here hx rfl (hb hby d14_20) kq) ?_
  show own_Go p.tables e below _ (T1.setTop (mkF m 22 #[.val (Value.ref am), .val (Value.int (2 : Int32)), .val (Value.int p2), .val (Value.int (0 : Int32))] [(Value.int (27 : Int32)), (Value.int p2)]))
  refine own_Go.by (fun tq kq => XS.icmpYes X1.here hx rfl (pc0 := 22) (pc' := 27) rfl (hb hby d14_22) rfl (feq hd1).2 (by decide) (by decide) kq) ?_
  show own_Go p.tables e below _ (T1.setTop (mkF m 27 #[.val (Value.ref am), .val (Value.int (2 : Int32)), .val (Value.int p2), .val (Value.int (0 : Int32))] []))
  refine own_Go.by (fun tq kq => XS.iloadN X1.here hx rfl (hb hby d14_27) rfl kq) ?_
  show own_Go p.tables e below _ (T1.setTop (mkF m 28 #[.val (Value.ref am), .val (Value.int (2 : Int32)), .val (Value.int p2), .val (Value.int (0 : Int32))] [(Value.int (0 : Int32))]))
  obtain ⟨fs, hr, hrun, hended, hW, hsame⟩ := X1.leave (v := some (Value.int (0 : Int32))) (fun h => by rw [Bd.returns] at h; cases h)
  refine own_Go.fin (retI X1 hx Bd.returns (hb hby d14_28) hr) ⟨hrun, hended, _, _, rfl, ?_, ⟨_, rfl⟩, hW, hsame.mono (by decide) (by decide)⟩
  show Q14_2_ff Z am aB kB v1 v2 p2 h0 n0 _ T1.heap _
  rw [e1]
  exact ⟨rfl, N0, rfl⟩

theorem d15_0 : decode prog_33_method_2_code 0 = .ok (.aload_n 0, 1) := by decide +kernel
theorem d15_1 : decode prog_33_method_2_code 1 = .ok (.getfield 19, 3) := by decide +kernel
theorem d15_4 : decode prog_33_method_2_code 4 = .ok (.arraylength, 1) := by decide +kernel
theorem d15_5 : decode prog_33_method_2_code 5 = .ok (.ireturn, 1) := by decide +kernel
theorem own_ef_15 (m : MethodId) (am : Addr) : entryFrame m #[(Value.ref am)] 1 = mkF m 0 #[.val (Value.ref am)] [] := by first | (simp [entryFrame, mkF, argsToLocals, Value.category]; done) | rfl
def Q15 (Z : State) (am : Addr) (aB : Addr) (kB : ClassId) (v1 : Int32) (v2 : Int32) (h0 : Heap) (n0 : Nat) (v : Option Value) (h : Heap) (L : List Loc) : Prop := v = some (Value.int (3 : Int32)) ∧ Fr n0 L ∧ h = h0
set_option maxRecDepth 65536 in
set_option maxHeartbeats 40000000 in
theorem rm15 (l : Launch) (Z : State) (a0 : Array Value) (hw : ∀ d ∈ tables_1, d.before a0 Z = true) (ws : List Jvm.Cond) (am : Addr) (aB : Addr) (kB : ClassId) (v1 : Int32) (v2 : Int32) (h0 : Heap) (n0 : Nat) (O0 : Old Z n0 h0) (H0 : Fld Z h0 am "com/example/plain_bastion/plainbastion/ssh/Mark" "bytes" "[B" (Value.ref aB)) (H1 : Arv Z h0 aB kB .byte (3 : Int32) [(Value.int (27 : Int32)), (Value.int v1), (Value.int v2)] (Value.int (0 : Int32))) :
    MetFree l (⟨"com/example/plain_bastion/plainbastion/ssh/Mark", "length", "()I"⟩ : MethodName) (head1 (Jvm.Cond.code (⟨"com/example/plain_bastion/plainbastion/ssh/Mark", "length", "()I"⟩ : MethodName) prog_33_method_2_code 1 (some .int) :: ws) ({ frames := 0, cells := 0, slots := 0, locals := 0 } : Room)) (fun a U => a = #[(Value.ref am)] ∧ Z.Warmed39 U.vm ∧ U.heap = h0) (fun _ _ _ _ _ => True) (fun _ U o U' => ∃ v L, o = .returned v ∧ Q15 Z am aB kB v1 v2 h0 n0 v U'.heap L ∧ FrameEnd U o U' L ({ frames := 0, cells := 0, slots := 0, locals := 0 } : Room).cells ({ frames := 0, cells := 0, slots := 0, locals := 0 } : Room).slots) := by
  refine MetFree.of_bodySF (plainFor_of_name own_pn_com_example_plain_bastion_plainbastion_ssh_Mark) hisR ?_
  intro p e s m args below meth c s₁ Bd hml0 hP hK
  obtain ⟨rfl, hZ, hh⟩ := hP
  have hx := Bd.exec
  have hby := Bd.bytes
  have hml : c.maxLocals = 1 := hml0
  have hown : s.vm.findClass "com/example/plain_bastion/plainbastion/ssh/Mark" = some m.cls := findClass_of_methodNamed Bd.named
  have hnm := (name_of_methodNamed Bd.named Bd.method).1
  have X0 : Stand p l e ({ frames := 0, cells := 0, slots := 0, locals := 0 } : Room) s m #[(Value.ref am)] below meth c s₁ [] 0 0 := Stand.of_body Bd
  have e0 : s₁.heap = h0 := by rw [← hh, Bd.state]; rfl
  have N0 := Fr.nil n0
  have K0 : Keep h0 h0 [] := Keep.refl h0 []
  show own_Go p.tables e below _ (s₁.setTop (entryFrame m #[(Value.ref am)] 1))
  refine own_Go.by (fun tq kq => castTop (own_ef_15 m am) kq) ?_
  show own_Go p.tables e below _ (s₁.setTop (mkF m 0 #[.val (Value.ref am)] []))
  refine own_Go.by (fun tq kq => XS.aloadN X0.here hx rfl (hb hby d15_0) rfl rfl kq) ?_
  show own_Go p.tables e below _ (s₁.setTop (mkF m 1 #[.val (Value.ref am)] [(Value.ref am)]))
  obtain ⟨T1, X1, e1, st1⟩ := getF X0 hx hZ hown (host := "") (Or.inl (hw _ (List.mem_of_getElem? (i := 78) rfl))) Via.refl e0 H0 (g := (mkF m 1 #[.val (Value.ref am)] [(Value.ref am)])) rfl rfl (hb hby d15_1)
  refine own_Go.by st1 ?_
  show own_Go p.tables e below _ (T1.setTop (mkF m 4 #[.val (Value.ref am)] [(Value.ref aB)]))
  obtain ⟨cl2, Ar2, q2, S2, M2, Hh2, G2⟩ := id H1
  refine own_Go.by (fun tq kq => X1.arraylength hx (by rw [e1]; exact Ar2.1) (State.isArrayOf_alike hZ.alike Ar2.2.1) (g := (mkF m 4 #[.val (Value.ref am)] [(Value.ref aB)])) rfl rfl (hb hby d15_4) _ kq) ?_
  rw [len_of S2 M2]
  show own_Go p.tables e below _ (T1.setTop (mkF m 5 #[.val (Value.ref am)] [(Value.int (3 : Int32))]))
  obtain ⟨fs, hr, hrun, hended, hW, hsame⟩ := X1.leave (v := some (Value.int (3 : Int32))) (fun h => by rw [Bd.returns] at h; cases h)
  refine own_Go.fin (retI X1 hx Bd.returns (hb hby d15_5) hr) ⟨hrun, hended, _, _, rfl, ?_, ⟨_, rfl⟩, hW, hsame.mono (by decide) (by decide)⟩
  show Q15 Z am aB kB v1 v2 h0 n0 _ T1.heap _
  rw [e1]
  exact ⟨rfl, N0, rfl⟩

theorem own_pd5 : parseMethodDescriptor "(I)C" = some ⟨[.int], some .char⟩ := by decide +kernel
theorem own_pd6 : parseMethodDescriptor "([C)V" = some ⟨[(.array .char)], none⟩ := by decide +kernel
theorem own_pd7 : parseMethodDescriptor "(Ljava/lang/String;)V" = some ⟨[(.object "java/lang/String")], none⟩ := by decide +kernel
theorem own_pd8 : parseMethodDescriptor "(IB)I" = some ⟨[.int, .byte], some .int⟩ := by decide +kernel
theorem own_pd9 : parseMethodDescriptor "()I" = some ⟨[], some .int⟩ := by decide +kernel
theorem own_ef_0 (m : MethodId) (p1 : Int32) (p2 : Int32) (p3 : Int32) (p4 : Int32) : entryFrame m #[(Value.int p1), (Value.int p2), (Value.int p3), (Value.int p4)] maxLocals = mkF m 0 #[.val (Value.int p1), .val (Value.int p2), .val (Value.int p3), .val (Value.int p4), .unset, .unset, .unset, .unset, .unset, .unset, .unset, .unset, .unset] [] := by first | (simp [entryFrame, mkF, argsToLocals, Value.category, maxLocals]; done) | rfl
def Q0 (Z : State) (p1 : Int32) (p2 : Int32) (p3 : Int32) (p4 : Int32) (zc : Int32) (aC : Addr) (aU : Addr) (aI : Addr) (h0 : Heap) (n0 : Nat) (v : Option Value) (h : Heap) (L : List Loc) : Prop := v = some (Value.int (1 : Int32)) ∧ Fr n0 L ∧ Keep h0 h []
set_option maxRecDepth 65536 in
set_option maxHeartbeats 40000000 in
theorem rm0 (l : Launch) (Z : State) (a0 : Array Value) (hw : ∀ d ∈ tables_1, d.before a0 Z = true) (ws : List Jvm.Cond) (p1 : Int32) (p2 : Int32) (p3 : Int32) (p4 : Int32) (zc : Int32) (aC : Addr) (aU : Addr) (aI : Addr) (h0 : Heap) (n0 : Nat) (O0 : Old Z n0 h0) (H0 : Sta Z Z.heap "java/lang/String" "COMPACT_STRINGS" "Z" (Value.int zc)) (hzc : ¬ (zc = (0 : Int32))) (H2 : Sta Z Z.heap "java/nio/charset/StandardCharsets" "US_ASCII" "Ljava/nio/charset/Charset;" (Value.ref aC)) (H3 : Sta Z Z.heap "sun/nio/cs/UTF_8" "INSTANCE" "Lsun/nio/cs/UTF_8;" (Value.ref aU)) (H4 : Sta Z Z.heap "sun/nio/cs/ISO_8859_1" "INSTANCE" "Lsun/nio/cs/ISO_8859_1;" (Value.ref aI)) (H5 : Sta Z Z.heap "sun/nio/cs/US_ASCII" "INSTANCE" "Lsun/nio/cs/US_ASCII;" (Value.ref aC)) (H6 : aC ≠ aU) (H7 : aC ≠ aI) :
    MetFree l x (head1 (Jvm.Cond.code x code maxLocals ret :: ws) room_1) (fun a U => a = #[(Value.int p1), (Value.int p2), (Value.int p3), (Value.int p4)] ∧ Z.Warmed39 U.vm ∧ U.heap = h0) (fun _ _ _ _ _ => True) (fun _ U o U' => ∃ v L, o = .returned v ∧ Q0 Z p1 p2 p3 p4 zc aC aU aI h0 n0 v U'.heap L ∧ FrameEnd U o U' L room_1.cells room_1.slots) := by
  refine MetFree.of_bodySF (plainFor_of_name own_pn_com_example_plain_bastion_plainbastion_ssh_MarkMatchedPinLaw) hisR ?_
  intro p e s m args below meth c s₁ Bd hml0 hP hK
  obtain ⟨rfl, hZ, hh⟩ := hP
  have hx := Bd.exec
  have hby := Bd.bytes
  have hml : c.maxLocals = 13 := hml0
  have hown : s.vm.findClass "com/example/plain_bastion/plainbastion/ssh/MarkMatchedPinLaw" = some m.cls := findClass_of_methodNamed Bd.named
  have hnm := (name_of_methodNamed Bd.named Bd.method).1
  have X0 : Stand p l e room_1 s m #[(Value.int p1), (Value.int p2), (Value.int p3), (Value.int p4)] below meth c s₁ [] 0 0 := Stand.of_body Bd
  have e0 : s₁.heap = h0 := by rw [← hh, Bd.state]; rfl
  have N0 := Fr.nil n0
  have K0 : Keep h0 h0 [] := Keep.refl h0 []
  show own_Go p.tables e below _ (s₁.setTop (entryFrame m #[(Value.int p1), (Value.int p2), (Value.int p3), (Value.int p4)] maxLocals))
  refine own_Go.by (fun tq kq => castTop (own_ef_0 m p1 p2 p3 p4) kq) ?_
  show own_Go p.tables e below _ (s₁.setTop (mkF m 0 #[.val (Value.int p1), .val (Value.int p2), .val (Value.int p3), .val (Value.int p4), .unset, .unset, .unset, .unset, .unset, .unset, .unset, .unset, .unset] []))
  refine own_Go.by (fun tq kq => XS.iloadN X0.here hx rfl (hb hby at_0) rfl kq) ?_
  show own_Go p.tables e below _ (s₁.setTop (mkF m 1 #[.val (Value.int p1), .val (Value.int p2), .val (Value.int p3), .val (Value.int p4), .unset, .unset, .unset, .unset, .unset, .unset, .unset, .unset, .unset] [(Value.int p1)]))
  obtain ⟨_, _, ⟨T1, L1, k1, n1⟩, -, X1, ⟨Lc1, hQ1, l1, y1, z1⟩, st1⟩ := Jvm.LawKit.callS X0 hx (y := (⟨"com/example/plain_bastion/plainbastion/ssh/MarkMatchedPinLaw", "drawn", "(I)C"⟩ : MethodName)) hown (mvT hZ (hw _ (List.mem_of_getElem? (i := 0) rfl))) (mvT hZ (hw _ (List.mem_of_getElem? (i := 1) rfl))) (mvT hZ (hw _ (List.mem_of_getElem? (i := 2) rfl))) (mvT hZ (hw _ (List.mem_of_getElem? (i := 3) rfl))) (by decide) (backOf (W := 0) (rm1 l Z a0 hw [] p1 h0 n0 O0 ) hZ (hw _ (List.mem_of_getElem? (i := 3) rfl)) (hw _ (List.mem_of_getElem? (i := 2) rfl)) (by decide) (by decide)) (g := (mkF m 1 #[.val (Value.int p1), .val (Value.int p2), .val (Value.int p3), .val (Value.int p4), .unset, .unset, .unset, .unset, .unset, .unset, .unset, .unset, .unset] [(Value.int p1)])) rfl (by rw [hml]; rfl) (argsL := [(Value.int p1)]) (rest := []) (lenOf own_pd5 rfl) rfl (by show 2 * 0 + _ ≤ _; exact Nat.le_of_eq rfl) (hb hby at_1) (fun _ _ => ⟨rfl, e0, (by decide : 0 + 0 ≤ _), (by decide : 0 + 0 ≤ _)⟩)
  dsimp only [Pt.U, Pt.locs, Pt.cells, Pt.slots] at X1 l1 y1 z1 st1 hQ1
  subst l1 y1 z1
  refine own_Go.by st1 ?_
  obtain ⟨r_1, rfl, N1q, e1, p1_0⟩ := hQ1
  have N1 := Fr.app N0 N1q
  show own_Go p.tables e below _ (T1.setTop (mkF m 4 #[.val (Value.int p1), .val (Value.int p2), .val (Value.int p3), .val (Value.int p4), .unset, .unset, .unset, .unset, .unset, .unset, .unset, .unset, .unset] [(Value.int r_1)]))
  refine own_Go.by (fun tq kq => XS.istore X1.here hx rfl (hb hby at_4) rfl (l' := #[.val (Value.int p1), .val (Value.int p2), .val (Value.int p3), .val (Value.int p4), .val (Value.int r_1), .unset, .unset, .unset, .unset, .unset, .unset, .unset, .unset]) rfl kq) ?_
  show own_Go p.tables e below _ (T1.setTop (mkF m 6 #[.val (Value.int p1), .val (Value.int p2), .val (Value.int p3), .val (Value.int p4), .val (Value.int r_1), .unset, .unset, .unset, .unset, .unset, .unset, .unset, .unset] []))
  refine own_Go.by (fun tq kq => XS.iloadN X1.here hx rfl (hb hby at_6) rfl kq) ?_
  show own_Go p.tables e below _ (T1.setTop (mkF m 7 #[.val (Value.int p1), .val (Value.int p2), .val (Value.int p3), .val (Value.int p4), .val (Value.int r_1), .unset, .unset, .unset, .unset, .unset, .unset, .unset, .unset] [(Value.int p2)]))
  obtain ⟨_, _, ⟨T2, L2, k2, n2⟩, -, X2, ⟨Lc2, hQ2, l2, y2, z2⟩, st2⟩ := Jvm.LawKit.callS X1 hx (y := (⟨"com/example/plain_bastion/plainbastion/ssh/MarkMatchedPinLaw", "drawn", "(I)C"⟩ : MethodName)) hown (mvT hZ (hw _ (List.mem_of_getElem? (i := 0) rfl))) (mvT hZ (hw _ (List.mem_of_getElem? (i := 1) rfl))) (mvT hZ (hw _ (List.mem_of_getElem? (i := 2) rfl))) (mvT hZ (hw _ (List.mem_of_getElem? (i := 3) rfl))) (by decide) (backOf (W := 0) (rm1 l Z a0 hw [] p2 h0 n0 O0 ) hZ (hw _ (List.mem_of_getElem? (i := 3) rfl)) (hw _ (List.mem_of_getElem? (i := 2) rfl)) (by decide) (by decide)) (g := (mkF m 7 #[.val (Value.int p1), .val (Value.int p2), .val (Value.int p3), .val (Value.int p4), .val (Value.int r_1), .unset, .unset, .unset, .unset, .unset, .unset, .unset, .unset] [(Value.int p2)])) rfl (by rw [hml]; rfl) (argsL := [(Value.int p2)]) (rest := []) (lenOf own_pd5 rfl) rfl (by show 2 * 0 + _ ≤ _; exact Nat.le_of_eq rfl) (hb hby at_7) (fun _ _ => ⟨rfl, e1, (by decide : 0 + 0 ≤ _), (by decide : 0 + 0 ≤ _)⟩)
  dsimp only [Pt.U, Pt.locs, Pt.cells, Pt.slots] at X2 l2 y2 z2 st2 hQ2
  subst l2 y2 z2
  refine own_Go.by st2 ?_
  obtain ⟨r_2, rfl, N2q, e2, p2_0⟩ := hQ2
  have N2 := Fr.app N1 N2q
  show own_Go p.tables e below _ (T2.setTop (mkF m 10 #[.val (Value.int p1), .val (Value.int p2), .val (Value.int p3), .val (Value.int p4), .val (Value.int r_1), .unset, .unset, .unset, .unset, .unset, .unset, .unset, .unset] [(Value.int r_2)]))
  refine own_Go.by (fun tq kq => XS.istore X2.here hx rfl (hb hby at_10) rfl (l' := #[.val (Value.int p1), .val (Value.int p2), .val (Value.int p3), .val (Value.int p4), .val (Value.int r_1), .val (Value.int r_2), .unset, .unset, .unset, .unset, .unset, .unset, .unset]) rfl kq) ?_
  show own_Go p.tables e below _ (T2.setTop (mkF m 12 #[.val (Value.int p1), .val (Value.int p2), .val (Value.int p3), .val (Value.int p4), .val (Value.int r_1), .val (Value.int r_2), .unset, .unset, .unset, .unset, .unset, .unset, .unset] []))
  refine own_Go.by (fun tq kq => XS.iconst X2.here hx rfl (hb hby at_12) kq) ?_
  show own_Go p.tables e below _ (T2.setTop (mkF m 13 #[.val (Value.int p1), .val (Value.int p2), .val (Value.int p3), .val (Value.int p4), .val (Value.int r_1), .val (Value.int r_2), .unset, .unset, .unset, .unset, .unset, .unset, .unset] [(Value.int (3 : Int32))]))
  obtain ⟨T3, h3, k3, X3, e3, E3, A3, Ea3, st3⟩ := newPE X2 hx hZ (hw _ (List.mem_of_getElem? (i := 4) rfl)) e2 (g := (mkF m 13 #[.val (Value.int p1), .val (Value.int p2), .val (Value.int p3), .val (Value.int p4), .val (Value.int r_1), .val (Value.int r_2), .unset, .unset, .unset, .unset, .unset, .unset, .unset] [(Value.int (3 : Int32))])) rfl (hb hby at_13) rfl (by decide : ¬ ((3 : Int32) < (0 : Int32))) (cap := 3) (by decide : (3 : Int32).toNatClampNeg ≤ 3) (by decide) (by decide) (by decide) (ad := "[C") rfl
  obtain ⟨ob3, y3⟩ : ∃ z, z = h0.size := ⟨_, rfl⟩
  rw [← y3] at A3 Ea3 st3
  refine own_Go.by st3 ?_
  have O4 := O0.ext E3
  have K4 := K0.ext E3
  have g5 : n0 ≤ ob3 := Nat.le_trans (own_old_le O0) (Nat.le_of_eq y3.symm)
  have z5 : h0.size ≤ ob3 := Nat.le_trans K0.1 (Nat.le_of_eq y3.symm)
  have V3 : Arv Z h3 ob3 k3 .char (3 : Int32) [(Value.int (0 : Int32)), (Value.int (0 : Int32)), (Value.int (0 : Int32))] (Value.int (0 : Int32)) := (Arv.new A3 (by decide : ¬ ((3 : Int32) < (0 : Int32)))).pad (pad_rep [] (Value.int (0 : Int32)) 3)
  show own_Go p.tables e below _ (T3.setTop (mkF m 15 #[.val (Value.int p1), .val (Value.int p2), .val (Value.int p3), .val (Value.int p4), .val (Value.int r_1), .val (Value.int r_2), .unset, .unset, .unset, .unset, .unset, .unset, .unset] [(Value.ref ob3)]))
  refine own_Go.by (fun tq kq => XS.astore X3.here hx rfl (hb hby at_15) rfl rfl (l' := #[.val (Value.int p1), .val (Value.int p2), .val (Value.int p3), .val (Value.int p4), .val (Value.int r_1), .val (Value.int r_2), .val (Value.ref ob3), .unset, .unset, .unset, .unset, .unset, .unset]) rfl kq) ?_
  show own_Go p.tables e below _ (T3.setTop (mkF m 17 #[.val (Value.int p1), .val (Value.int p2), .val (Value.int p3), .val (Value.int p4), .val (Value.int r_1), .val (Value.int r_2), .val (Value.ref ob3), .unset, .unset, .unset, .unset, .unset, .unset] []))
  refine own_Go.by (fun tq kq => XS.aload X3.here hx rfl (hb hby at_17) rfl rfl kq) ?_
  show own_Go p.tables e below _ (T3.setTop (mkF m 19 #[.val (Value.int p1), .val (Value.int p2), .val (Value.int p3), .val (Value.int p4), .val (Value.int r_1), .val (Value.int r_2), .val (Value.ref ob3), .unset, .unset, .unset, .unset, .unset, .unset] [(Value.ref ob3)]))
  refine own_Go.by (fun tq kq => XS.iconst X3.here hx rfl (hb hby at_19) kq) ?_
  show own_Go p.tables e below _ (T3.setTop (mkF m 20 #[.val (Value.int p1), .val (Value.int p2), .val (Value.int p3), .val (Value.int p4), .val (Value.int r_1), .val (Value.int r_2), .val (Value.ref ob3), .unset, .unset, .unset, .unset, .unset, .unset] [(Value.int (0 : Int32)), (Value.ref ob3)]))
  refine own_Go.by (fun tq kq => XS.bipush X3.here hx rfl (hb hby at_20) kq) ?_
  show own_Go p.tables e below _ (T3.setTop (mkF m 22 #[.val (Value.int p1), .val (Value.int p2), .val (Value.int p3), .val (Value.int p4), .val (Value.int r_1), .val (Value.int r_2), .val (Value.ref ob3), .unset, .unset, .unset, .unset, .unset, .unset] [(Value.int (27 : Int32)), (Value.int (0 : Int32)), (Value.ref ob3)]))
  obtain ⟨cl6, Ar6, q6, S6, M6, Hh6, G6⟩ := id V3
  obtain ⟨T7, h7, X7, e7, W7, st7⟩ := stC X3 hx hZ e3 Ar6 (j := (0 : Int32)) (inb_of S6 ⟨(by decide : ¬ ((0 : Int32) < (0 : Int32))), (by decide : (0 : Int32) < (3 : Int32))⟩) (g := (mkF m 22 #[.val (Value.int p1), .val (Value.int p2), .val (Value.int p3), .val (Value.int p4), .val (Value.int r_1), .val (Value.int r_2), .val (Value.ref ob3), .unset, .unset, .unset, .unset, .unset, .unset] [(Value.int (27 : Int32)), (Value.int (0 : Int32)), (Value.ref ob3)])) rfl rfl (hb hby at_22)
  refine own_Go.by st7 ?_
  have N7 := Fr.snoc X7 N2 g5
  have O8 := O4.wr W7 g5
  have K8 := K4.wr W7 (Or.inr z5)
  rw [show nar .char (27 : Int32) = (27 : Int32) from (rfl : nar .char (27 : Int32) = (27 : Int32))] at W7
  have V7 : Arv Z h7 ob3 k3 .char (3 : Int32) [(Value.int (27 : Int32)), (Value.int (0 : Int32)), (Value.int (0 : Int32))] (Value.int (0 : Int32)) := Arv.set Ar6 q6 S6 M6 Hh6 G6 (own_fitC (rfl : nar .char (27 : Int32) = (27 : Int32))) W7 0 rfl (Nat.le_of_ble_eq_true rfl)
  show own_Go p.tables e below _ (T7.setTop (mkF m 23 #[.val (Value.int p1), .val (Value.int p2), .val (Value.int p3), .val (Value.int p4), .val (Value.int r_1), .val (Value.int r_2), .val (Value.ref ob3), .unset, .unset, .unset, .unset, .unset, .unset] []))
  refine own_Go.by (fun tq kq => XS.aload X7.here hx rfl (hb hby at_23) rfl rfl kq) ?_
  show own_Go p.tables e below _ (T7.setTop (mkF m 25 #[.val (Value.int p1), .val (Value.int p2), .val (Value.int p3), .val (Value.int p4), .val (Value.int r_1), .val (Value.int r_2), .val (Value.ref ob3), .unset, .unset, .unset, .unset, .unset, .unset] [(Value.ref ob3)]))
  refine own_Go.by (fun tq kq => XS.iconst X7.here hx rfl (hb hby at_25) kq) ?_
  show own_Go p.tables e below _ (T7.setTop (mkF m 26 #[.val (Value.int p1), .val (Value.int p2), .val (Value.int p3), .val (Value.int p4), .val (Value.int r_1), .val (Value.int r_2), .val (Value.ref ob3), .unset, .unset, .unset, .unset, .unset, .unset] [(Value.int (1 : Int32)), (Value.ref ob3)]))
  refine own_Go.by (fun tq kq => XS.iload X7.here hx rfl (hb hby at_26) rfl kq) ?_
  show own_Go p.tables e below _ (T7.setTop (mkF m 28 #[.val (Value.int p1), .val (Value.int p2), .val (Value.int p3), .val (Value.int p4), .val (Value.int r_1), .val (Value.int r_2), .val (Value.ref ob3), .unset, .unset, .unset, .unset, .unset, .unset] [(Value.int r_1), (Value.int (1 : Int32)), (Value.ref ob3)]))
  obtain ⟨cl9, Ar9, q9, S9, M9, Hh9, G9⟩ := id V7
  obtain ⟨T10, h10, X10, e10, W10, st10⟩ := stC X7 hx hZ e7 Ar9 (j := (1 : Int32)) (inb_of S9 ⟨(by decide : ¬ ((1 : Int32) < (0 : Int32))), (by decide : (1 : Int32) < (3 : Int32))⟩) (g := (mkF m 28 #[.val (Value.int p1), .val (Value.int p2), .val (Value.int p3), .val (Value.int p4), .val (Value.int r_1), .val (Value.int r_2), .val (Value.ref ob3), .unset, .unset, .unset, .unset, .unset, .unset] [(Value.int r_1), (Value.int (1 : Int32)), (Value.ref ob3)])) rfl rfl (hb hby at_28)
  refine own_Go.by st10 ?_
  have N10 := Fr.snoc X10 N7 g5
  have O11 := O8.wr W10 g5
  have K11 := K8.wr W10 (Or.inr z5)
  rw [show nar .char r_1 = r_1 from p1_0.1.2] at W10
  have V10 : Arv Z h10 ob3 k3 .char (3 : Int32) [(Value.int (27 : Int32)), (Value.int r_1), (Value.int (0 : Int32))] (Value.int (0 : Int32)) := Arv.set Ar9 q9 S9 M9 Hh9 G9 (own_fitC p1_0.1.2) W10 1 rfl (Nat.le_of_ble_eq_true rfl)
  show own_Go p.tables e below _ (T10.setTop (mkF m 29 #[.val (Value.int p1), .val (Value.int p2), .val (Value.int p3), .val (Value.int p4), .val (Value.int r_1), .val (Value.int r_2), .val (Value.ref ob3), .unset, .unset, .unset, .unset, .unset, .unset] []))
  refine own_Go.by (fun tq kq => XS.aload X10.here hx rfl (hb hby at_29) rfl rfl kq) ?_
  show own_Go p.tables e below _ (T10.setTop (mkF m 31 #[.val (Value.int p1), .val (Value.int p2), .val (Value.int p3), .val (Value.int p4), .val (Value.int r_1), .val (Value.int r_2), .val (Value.ref ob3), .unset, .unset, .unset, .unset, .unset, .unset] [(Value.ref ob3)]))
  refine own_Go.by (fun tq kq => XS.iconst X10.here hx rfl (hb hby at_31) kq) ?_
  show own_Go p.tables e below _ (T10.setTop (mkF m 32 #[.val (Value.int p1), .val (Value.int p2), .val (Value.int p3), .val (Value.int p4), .val (Value.int r_1), .val (Value.int r_2), .val (Value.ref ob3), .unset, .unset, .unset, .unset, .unset, .unset] [(Value.int (2 : Int32)), (Value.ref ob3)]))
  refine own_Go.by (fun tq kq => XS.iload X10.here hx rfl (hb hby at_32) rfl kq) ?_
  show own_Go p.tables e below _ (T10.setTop (mkF m 34 #[.val (Value.int p1), .val (Value.int p2), .val (Value.int p3), .val (Value.int p4), .val (Value.int r_1), .val (Value.int r_2), .val (Value.ref ob3), .unset, .unset, .unset, .unset, .unset, .unset] [(Value.int r_2), (Value.int (2 : Int32)), (Value.ref ob3)]))
  obtain ⟨cl12, Ar12, q12, S12, M12, Hh12, G12⟩ := id V10
  obtain ⟨T13, h13, X13, e13, W13, st13⟩ := stC X10 hx hZ e10 Ar12 (j := (2 : Int32)) (inb_of S12 ⟨(by decide : ¬ ((2 : Int32) < (0 : Int32))), (by decide : (2 : Int32) < (3 : Int32))⟩) (g := (mkF m 34 #[.val (Value.int p1), .val (Value.int p2), .val (Value.int p3), .val (Value.int p4), .val (Value.int r_1), .val (Value.int r_2), .val (Value.ref ob3), .unset, .unset, .unset, .unset, .unset, .unset] [(Value.int r_2), (Value.int (2 : Int32)), (Value.ref ob3)])) rfl rfl (hb hby at_34)
  refine own_Go.by st13 ?_
  have N13 := Fr.snoc X13 N10 g5
  have O14 := O11.wr W13 g5
  have K14 := K11.wr W13 (Or.inr z5)
  rw [show nar .char r_2 = r_2 from p2_0.1.2] at W13
  have V13 : Arv Z h13 ob3 k3 .char (3 : Int32) [(Value.int (27 : Int32)), (Value.int r_1), (Value.int r_2)] (Value.int (0 : Int32)) := Arv.set Ar12 q12 S12 M12 Hh12 G12 (own_fitC p2_0.1.2) W13 2 rfl (Nat.le_of_ble_eq_true rfl)
  show own_Go p.tables e below _ (T13.setTop (mkF m 35 #[.val (Value.int p1), .val (Value.int p2), .val (Value.int p3), .val (Value.int p4), .val (Value.int r_1), .val (Value.int r_2), .val (Value.ref ob3), .unset, .unset, .unset, .unset, .unset, .unset] []))
  obtain ⟨T15, h15, X15, e15, E15, A15, D15, -, st15⟩ := newO X13 hx hZ hown (hw _ (List.mem_of_getElem? (i := 5) rfl)) (hw _ (List.mem_of_getElem? (i := 6) rfl)) (hw _ (List.mem_of_getElem? (i := 7) rfl)) e13 (g := (mkF m 35 #[.val (Value.int p1), .val (Value.int p2), .val (Value.int p3), .val (Value.int p4), .val (Value.int r_1), .val (Value.int r_2), .val (Value.ref ob3), .unset, .unset, .unset, .unset, .unset, .unset] [])) rfl (hb hby at_35) (by decide) (by decide)
  obtain ⟨ob15, y15⟩ : ∃ z, z = h13.size := ⟨_, rfl⟩
  rw [← y15] at A15 D15 st15
  refine own_Go.by st15 ?_
  have O16 := O14.ext E15
  have K16 := K14.ext E15
  have g17 : n0 ≤ ob15 := Nat.le_trans (own_old_le O14) (Nat.le_of_eq y15.symm)
  have z17 : h0.size ≤ ob15 := Nat.le_trans K14.1 (Nat.le_of_eq y15.symm)
  have F15_bytes : Fld Z h15 ob15 "com/example/plain_bastion/plainbastion/ssh/Mark" "bytes" "[B" .null := D15 (Or.inr (hw _ (List.mem_of_getElem? (i := 79) rfl))) (ty := (.array .byte)) (by decide)
  show own_Go p.tables e below _ (T15.setTop (mkF m 38 #[.val (Value.int p1), .val (Value.int p2), .val (Value.int p3), .val (Value.int p4), .val (Value.int r_1), .val (Value.int r_2), .val (Value.ref ob3), .unset, .unset, .unset, .unset, .unset, .unset] [(Value.ref ob15)]))
  refine own_Go.by (fun tq kq => XS.dup X15.here hx rfl (hb hby at_38) rfl rfl kq) ?_
  show own_Go p.tables e below _ (T15.setTop (mkF m 39 #[.val (Value.int p1), .val (Value.int p2), .val (Value.int p3), .val (Value.int p4), .val (Value.int r_1), .val (Value.int r_2), .val (Value.ref ob3), .unset, .unset, .unset, .unset, .unset, .unset] [(Value.ref ob15), (Value.ref ob15)]))
  obtain ⟨T18, h18, X18, e18, E18, A18, D18, -, st18⟩ := newO X15 hx hZ hown (hw _ (List.mem_of_getElem? (i := 8) rfl)) (hw _ (List.mem_of_getElem? (i := 9) rfl)) (hw _ (List.mem_of_getElem? (i := 10) rfl)) e15 (g := (mkF m 39 #[.val (Value.int p1), .val (Value.int p2), .val (Value.int p3), .val (Value.int p4), .val (Value.int r_1), .val (Value.int r_2), .val (Value.ref ob3), .unset, .unset, .unset, .unset, .unset, .unset] [(Value.ref ob15), (Value.ref ob15)])) rfl (hb hby at_39) (by decide) (by decide)
  obtain ⟨ob18, y18⟩ : ∃ z, z = h15.size := ⟨_, rfl⟩
  rw [← y18] at A18 D18 st18
  refine own_Go.by st18 ?_
  have O19 := O16.ext E18
  have K19 := K16.ext E18
  have g20 : n0 ≤ ob18 := Nat.le_trans (own_old_le O16) (Nat.le_of_eq y18.symm)
  have z20 : h0.size ≤ ob18 := Nat.le_trans K16.1 (Nat.le_of_eq y18.symm)
  have F18_coder : Fld Z h18 ob18 "java/lang/String" "coder" "B" (Value.int (0 : Int32)) := D18 (Or.inr (hw _ (List.mem_of_getElem? (i := 34) rfl))) (ty := .byte) (by decide)
  have F18_value : Fld Z h18 ob18 "java/lang/String" "value" "[B" .null := D18 (Or.inr (hw _ (List.mem_of_getElem? (i := 36) rfl))) (ty := (.array .byte)) (by decide)
  show own_Go p.tables e below _ (T18.setTop (mkF m 42 #[.val (Value.int p1), .val (Value.int p2), .val (Value.int p3), .val (Value.int p4), .val (Value.int r_1), .val (Value.int r_2), .val (Value.ref ob3), .unset, .unset, .unset, .unset, .unset, .unset] [(Value.ref ob18), (Value.ref ob15), (Value.ref ob15)]))
  refine own_Go.by (fun tq kq => XS.dup X18.here hx rfl (hb hby at_42) rfl rfl kq) ?_
  show own_Go p.tables e below _ (T18.setTop (mkF m 43 #[.val (Value.int p1), .val (Value.int p2), .val (Value.int p3), .val (Value.int p4), .val (Value.int r_1), .val (Value.int r_2), .val (Value.ref ob3), .unset, .unset, .unset, .unset, .unset, .unset] [(Value.ref ob18), (Value.ref ob18), (Value.ref ob15), (Value.ref ob15)]))
  refine own_Go.by (fun tq kq => XS.aload X18.here hx rfl (hb hby at_43) rfl rfl kq) ?_
  show own_Go p.tables e below _ (T18.setTop (mkF m 45 #[.val (Value.int p1), .val (Value.int p2), .val (Value.int p3), .val (Value.int p4), .val (Value.int r_1), .val (Value.int r_2), .val (Value.ref ob3), .unset, .unset, .unset, .unset, .unset, .unset] [(Value.ref ob3), (Value.ref ob18), (Value.ref ob18), (Value.ref ob15), (Value.ref ob15)]))
  have c22 := ((V13.ext E15).ext E18)
  have hp21 : ∀ c ∈ ([(27 : Int32), r_1, r_2] : List Int32), ¬ c < 0 ∧ ¬ (255 : Int32) < c := by
      intro c hc
      simp only [List.mem_cons, List.not_mem_nil, or_false] at hc
      rcases hc with rfl | rfl | rfl
      · decide
      · exact p1_0.1.1
      · exact p2_0.1.1
  obtain ⟨_, _, ⟨T21, L21, k21, n21⟩, -, X21, ⟨Lc21, hQ21, l21, y21, z21⟩, st21⟩ := X18.specialBack hx (y := (⟨"java/lang/String", "<init>", "([C)V"⟩ : MethodName)) rfl hown (mvT hZ (hw _ (List.mem_of_getElem? (i := 11) rfl))) (mvT hZ (hw _ (List.mem_of_getElem? (i := 12) rfl))) (mvT hZ (hw _ (List.mem_of_getElem? (i := 13) rfl))) (by decide) (StrChars.Road.backArv (W := 3) hZ (fun d hd => hw d (own_hws d hd)) (kI := 4) (hw _ (List.mem_of_getElem? (i := 9) rfl)) (cs := ([(27 : Int32), r_1, r_2] : List Int32)) A18 F18_value F18_coder c22 (H0.ext O19.2) hzc rfl (Nat.le_of_ble_eq_true rfl) (Nat.le_of_ble_eq_true rfl) (fun c hc => (hp21 c hc).2) (by decide) (by decide)) (g := (mkF m 45 #[.val (Value.int p1), .val (Value.int p2), .val (Value.int p3), .val (Value.int p4), .val (Value.int r_1), .val (Value.int r_2), .val (Value.ref ob3), .unset, .unset, .unset, .unset, .unset, .unset] [(Value.ref ob3), (Value.ref ob18), (Value.ref ob18), (Value.ref ob15), (Value.ref ob15)])) rfl (by rw [hml]; rfl) (Steps.refl _) (a := ob18) (argsL := [(Value.ref ob3)]) (rest := [(Value.ref ob18), (Value.ref ob15), (Value.ref ob15)]) (lenOf own_pd6 rfl) rfl (by show 2 * 0 + _ ≤ _; exact Nat.le_of_eq rfl) (hb hby at_45) (fun _ _ => ⟨rfl, e18, (by decide : 3 + 1 ≤ _), (by decide : 8 + 3 ≤ _)⟩)
  dsimp only [Pt.U, Pt.locs, Pt.cells, Pt.slots] at X21 l21 y21 z21 st21 hQ21
  simp only [List.length_cons, List.length_nil] at z21
  subst l21 y21 z21
  refine own_Go.by (fun tq kq => st21.trans kq) ?_
  obtain ⟨rfl, Ny21, K21q, sz21, E21q, V21q, C21q, ⟨kb21, fk21, A21q⟩, -⟩ := hQ21
  have N21q : Fr n0 Lc21 := fun y hy => by rw [Ny21 y hy]; exact g20
  obtain ⟨t21, yt21⟩ : ∃ z, z = h18.size := ⟨_, rfl⟩
  rw [← yt21] at V21q A21q
  have N21 := Fr.app N13 N21q
  have O23 := O19.keep K21q (allS g20 all0)
  have K23 := K19.trans K21q (allS (Or.inr z20) all0)
  have A21r : Arv Z T21.heap t21 kb21 .byte (3 : Int32) [(Value.int ((27 : Int32).toInt8.toInt32)), (Value.int (r_1.toInt8.toInt32)), (Value.int (r_2.toInt8.toInt32))] (Value.int (0 : Int32)) := A21q
  have A21s : Arv Z T21.heap t21 kb21 .byte (3 : Int32) [(Value.int (27 : Int32)), (Value.int r_1), (Value.int r_2)] (Value.int (0 : Int32)) := by
    rw [p1_0.2, p2_0.2] at A21r; exact A21r
  have g24 : n0 ≤ t21 := Nat.le_trans (own_old_le O19) (Nat.le_of_eq yt21.symm)
  have z24 : h0.size ≤ t21 := Nat.le_trans K19.1 (Nat.le_of_eq yt21.symm)
  have Ea21 := own_arvExa A21s fk21
  show own_Go p.tables e below _ (T21.setTop (mkF m 48 #[.val (Value.int p1), .val (Value.int p2), .val (Value.int p3), .val (Value.int p4), .val (Value.int r_1), .val (Value.int r_2), .val (Value.ref ob3), .unset, .unset, .unset, .unset, .unset, .unset] [(Value.ref ob18), (Value.ref ob15), (Value.ref ob15)]))
  have c26 := ((A15.ext E18).keep K21q)
  have c27 := ((F15_bytes.ext E18).keep K21q (ninS (Nat.ne_of_lt (Nat.lt_of_lt_of_le A15.lt (Nat.le_of_eq y18.symm))) nin0))
  obtain ⟨_, _, ⟨T25, L25, k25, n25⟩, -, X25, ⟨Lc25, hQ25, l25, y25, z25⟩, st25⟩ := X21.specialBack hx (y := (⟨"com/example/plain_bastion/plainbastion/ssh/Mark", "<init>", "(Ljava/lang/String;)V"⟩ : MethodName)) rfl hown (mvT hZ (hw _ (List.mem_of_getElem? (i := 37) rfl))) (mvT hZ (hw _ (List.mem_of_getElem? (i := 38) rfl))) (mvT hZ (hw _ (List.mem_of_getElem? (i := 39) rfl))) (by decide) (backOf (W := 1) (rm8 l Z a0 hw [] ob15 ob18 aC t21 kb21 aU aI zc (27 : Int32) r_1 r_2 T21.heap n0 O23 c26 c27 g17 H2 E21q V21q C21q A21s Ea21 H0 hzc H3 H4 H5 H6 H7 (by decide : ¬ ((27 : Int32) < (0 : Int32))) (p1_0.1.1.1 : ¬ (r_1 < (0 : Int32))) (p2_0.1.1.1 : ¬ (r_2 < (0 : Int32)))) hZ (hw _ (List.mem_of_getElem? (i := 39) rfl)) (hw _ (List.mem_of_getElem? (i := 7) rfl)) (by decide) (by decide)) (g := (mkF m 48 #[.val (Value.int p1), .val (Value.int p2), .val (Value.int p3), .val (Value.int p4), .val (Value.int r_1), .val (Value.int r_2), .val (Value.ref ob3), .unset, .unset, .unset, .unset, .unset, .unset] [(Value.ref ob18), (Value.ref ob15), (Value.ref ob15)])) rfl (by rw [hml]; rfl) (Steps.refl _) (a := ob15) (argsL := [(Value.ref ob18)]) (rest := [(Value.ref ob15)]) (lenOf own_pd7 rfl) rfl (by show 2 * 0 + _ ≤ _; exact Nat.le_of_eq rfl) (hb hby at_48) (fun _ _ => ⟨rfl, rfl, (by decide : 4 + 1 ≤ _), (by decide : 11 + 3 ≤ _)⟩)
  dsimp only [Pt.U, Pt.locs, Pt.cells, Pt.slots] at X25 l25 y25 z25 st25 hQ25
  subst l25 y25 z25
  refine own_Go.by (fun tq kq => st25.trans kq) ?_
  obtain ⟨b_25, rfl, N25q, K25q, p25_0, p25_1, p25_2, p25_3⟩ := hQ25
  have N25 := Fr.app N21 N25q
  have O28 := O23.keep K25q (allS g17 all0)
  have K28 := K23.trans K25q (allS (Or.inr z17) all0)
  have g29 : n0 ≤ b_25 := Nat.le_trans (own_old_le O23) p25_0
  have z29 : h0.size ≤ b_25 := Nat.le_trans K23.1 p25_0
  show own_Go p.tables e below _ (T25.setTop (mkF m 51 #[.val (Value.int p1), .val (Value.int p2), .val (Value.int p3), .val (Value.int p4), .val (Value.int r_1), .val (Value.int r_2), .val (Value.ref ob3), .unset, .unset, .unset, .unset, .unset, .unset] [(Value.ref ob15)]))
  refine own_Go.by (fun tq kq => XS.astore X25.here hx rfl (hb hby at_51) rfl rfl (l' := #[.val (Value.int p1), .val (Value.int p2), .val (Value.int p3), .val (Value.int p4), .val (Value.int r_1), .val (Value.int r_2), .val (Value.ref ob3), .val (Value.ref ob15), .unset, .unset, .unset, .unset, .unset]) rfl kq) ?_
  show own_Go p.tables e below _ (T25.setTop (mkF m 53 #[.val (Value.int p1), .val (Value.int p2), .val (Value.int p3), .val (Value.int p4), .val (Value.int r_1), .val (Value.int r_2), .val (Value.ref ob3), .val (Value.ref ob15), .unset, .unset, .unset, .unset, .unset] []))
  refine own_Go.by (fun tq kq => XS.iloadN X25.here hx rfl (hb hby at_53) rfl kq) ?_
  show own_Go p.tables e below _ (T25.setTop (mkF m 54 #[.val (Value.int p1), .val (Value.int p2), .val (Value.int p3), .val (Value.int p4), .val (Value.int r_1), .val (Value.int r_2), .val (Value.ref ob3), .val (Value.ref ob15), .unset, .unset, .unset, .unset, .unset] [(Value.int p3)]))
  refine own_Go.by (fun tq kq => X25.ldcInt hx hown (mvT hZ (hw _ (List.mem_of_getElem? (i := 80) rfl))) (g := (mkF m 54 #[.val (Value.int p1), .val (Value.int p2), .val (Value.int p3), .val (Value.int p4), .val (Value.int r_1), .val (Value.int r_2), .val (Value.ref ob3), .val (Value.ref ob15), .unset, .unset, .unset, .unset, .unset] [(Value.int p3)])) rfl (hb hby at_54) _ kq) ?_
  show own_Go p.tables e below _ (T25.setTop (mkF m 56 #[.val (Value.int p1), .val (Value.int p2), .val (Value.int p3), .val (Value.int p4), .val (Value.int r_1), .val (Value.int r_2), .val (Value.ref ob3), .val (Value.ref ob15), .unset, .unset, .unset, .unset, .unset] [(Value.int (2147483647 : Int32)), (Value.int p3)]))
  refine own_Go.by (fun tq kq => XS.iand X25.here hx rfl (hb hby at_56) rfl kq) ?_
  show own_Go p.tables e below _ (T25.setTop (mkF m 57 #[.val (Value.int p1), .val (Value.int p2), .val (Value.int p3), .val (Value.int p4), .val (Value.int r_1), .val (Value.int r_2), .val (Value.ref ob3), .val (Value.ref ob15), .unset, .unset, .unset, .unset, .unset] [(Value.int (p3 &&& (2147483647 : Int32)))]))
  refine own_Go.by (fun tq kq => XS.iconst X25.here hx rfl (hb hby at_57) kq) ?_
  show own_Go p.tables e below _ (T25.setTop (mkF m 58 #[.val (Value.int p1), .val (Value.int p2), .val (Value.int p3), .val (Value.int p4), .val (Value.int r_1), .val (Value.int r_2), .val (Value.ref ob3), .val (Value.ref ob15), .unset, .unset, .unset, .unset, .unset] [(Value.int (3 : Int32)), (Value.int (p3 &&& (2147483647 : Int32)))]))
  refine own_Go.by (fun tq kq => iremM (g := (mkF m 58 #[.val (Value.int p1), .val (Value.int p2), .val (Value.int p3), .val (Value.int p4), .val (Value.int r_1), .val (Value.int r_2), .val (Value.ref ob3), .val (Value.ref ob15), .unset, .unset, .unset, .unset, .unset] [(Value.int (3 : Int32)), (Value.int (p3 &&& (2147483647 : Int32)))])) X25 hx rfl (hb hby at_58) rfl (by decide) kq) ?_
  show own_Go p.tables e below _ (T25.setTop (mkF m 59 #[.val (Value.int p1), .val (Value.int p2), .val (Value.int p3), .val (Value.int p4), .val (Value.int r_1), .val (Value.int r_2), .val (Value.ref ob3), .val (Value.ref ob15), .unset, .unset, .unset, .unset, .unset] [(Value.int ((p3 &&& (2147483647 : Int32)) % (3 : Int32)))]))
  refine own_Go.by (fun tq kq => XS.istore X25.here hx rfl (hb hby at_59) rfl (l' := #[.val (Value.int p1), .val (Value.int p2), .val (Value.int p3), .val (Value.int p4), .val (Value.int r_1), .val (Value.int r_2), .val (Value.ref ob3), .val (Value.ref ob15), .val (Value.int ((p3 &&& (2147483647 : Int32)) % (3 : Int32))), .unset, .unset, .unset, .unset]) rfl kq) ?_
  show own_Go p.tables e below _ (T25.setTop (mkF m 61 #[.val (Value.int p1), .val (Value.int p2), .val (Value.int p3), .val (Value.int p4), .val (Value.int r_1), .val (Value.int r_2), .val (Value.ref ob3), .val (Value.ref ob15), .val (Value.int ((p3 &&& (2147483647 : Int32)) % (3 : Int32))), .unset, .unset, .unset, .unset] []))
  generalize hv_mm : ((p3 &&& (2147483647 : Int32)) % (3 : Int32)) = mm
  rcases own_mod3 hv_mm with hq_mm | hq_mm | hq_mm
  ·
    subst hq_mm
    show own_Go p.tables e below _ (T25.setTop (mkF m 61 #[.val (Value.int p1), .val (Value.int p2), .val (Value.int p3), .val (Value.int p4), .val (Value.int r_1), .val (Value.int r_2), .val (Value.ref ob3), .val (Value.ref ob15), .val (Value.int (0 : Int32)), .unset, .unset, .unset, .unset] []))
    refine own_Go.by (fun tq kq => XS.iloadN X25.here hx rfl (hb hby at_61) rfl kq) ?_
    show own_Go p.tables e below _ (T25.setTop (mkF m 62 #[.val (Value.int p1), .val (Value.int p2), .val (Value.int p3), .val (Value.int p4), .val (Value.int r_1), .val (Value.int r_2), .val (Value.ref ob3), .val (Value.ref ob15), .val (Value.int (0 : Int32)), .unset, .unset, .unset, .unset] [(Value.int p4)]))
    refine own_Go.by (fun tq kq => XS.i2b X25.here hx rfl (hb hby at_62) rfl kq) ?_
    show own_Go p.tables e below _ (T25.setTop (mkF m 63 #[.val (Value.int p1), .val (Value.int p2), .val (Value.int p3), .val (Value.int p4), .val (Value.int r_1), .val (Value.int r_2), .val (Value.ref ob3), .val (Value.ref ob15), .val (Value.int (0 : Int32)), .unset, .unset, .unset, .unset] [(Value.int (p4.toInt8.toInt32))]))
    refine own_Go.by (fun tq kq => XS.istore X25.here hx rfl (hb hby at_63) rfl (l' := #[.val (Value.int p1), .val (Value.int p2), .val (Value.int p3), .val (Value.int p4), .val (Value.int r_1), .val (Value.int r_2), .val (Value.ref ob3), .val (Value.ref ob15), .val (Value.int (0 : Int32)), .val (Value.int (p4.toInt8.toInt32)), .unset, .unset, .unset]) rfl kq) ?_
    show own_Go p.tables e below _ (T25.setTop (mkF m 65 #[.val (Value.int p1), .val (Value.int p2), .val (Value.int p3), .val (Value.int p4), .val (Value.int r_1), .val (Value.int r_2), .val (Value.ref ob3), .val (Value.ref ob15), .val (Value.int (0 : Int32)), .val (Value.int (p4.toInt8.toInt32)), .unset, .unset, .unset] []))
    generalize hv_bb : (p4.toInt8.toInt32) = bb
    by_cases hq1 : bb = (27 : Int32)
    ·
      show own_Go p.tables e below _ (T25.setTop (mkF m 65 #[.val (Value.int p1), .val (Value.int p2), .val (Value.int p3), .val (Value.int p4), .val (Value.int r_1), .val (Value.int r_2), .val (Value.ref ob3), .val (Value.ref ob15), .val (Value.int (0 : Int32)), .val (Value.int bb), .unset, .unset, .unset] []))
      refine own_Go.by (fun tq kq => XS.aload X25.here hx rfl (hb hby at_65) rfl rfl kq) ?_
      show own_Go p.tables e below _ (T25.setTop (mkF m 67 #[.val (Value.int p1), .val (Value.int p2), .val (Value.int p3), .val (Value.int p4), .val (Value.int r_1), .val (Value.int r_2), .val (Value.ref ob3), .val (Value.ref ob15), .val (Value.int (0 : Int32)), .val (Value.int bb), .unset, .unset, .unset] [(Value.ref ob15)]))
      refine own_Go.by (fun tq kq => XS.iload X25.here hx rfl (hb hby at_67) rfl kq) ?_
      show own_Go p.tables e below _ (T25.setTop (mkF m 69 #[.val (Value.int p1), .val (Value.int p2), .val (Value.int p3), .val (Value.int p4), .val (Value.int r_1), .val (Value.int r_2), .val (Value.ref ob3), .val (Value.ref ob15), .val (Value.int (0 : Int32)), .val (Value.int bb), .unset, .unset, .unset] [(Value.int (0 : Int32)), (Value.ref ob15)]))
      refine own_Go.by (fun tq kq => XS.iload X25.here hx rfl (hb hby at_69) rfl kq) ?_
      show own_Go p.tables e below _ (T25.setTop (mkF m 71 #[.val (Value.int p1), .val (Value.int p2), .val (Value.int p3), .val (Value.int p4), .val (Value.int r_1), .val (Value.int r_2), .val (Value.ref ob3), .val (Value.ref ob15), .val (Value.int (0 : Int32)), .val (Value.int bb), .unset, .unset, .unset] [(Value.int bb), (Value.int (0 : Int32)), (Value.ref ob15)]))
      obtain ⟨cq30, kq30, q30a, q30b, q30c⟩ := isOf hZ rfl p25_1
      obtain ⟨_, _, ⟨T30, L30, k30, n30⟩, -, X30, ⟨Lc30, hQ30, l30, y30, z30⟩, st30⟩ := X25.virtualBack hx (y := (⟨"com/example/plain_bastion/plainbastion/ssh/Mark", "matched", "(IB)I"⟩ : MethodName)) (z := (⟨"com/example/plain_bastion/plainbastion/ssh/Mark", "matched", "(IB)I"⟩ : MethodName)) hown (mvT hZ (hw _ (List.mem_of_getElem? (i := 81) rfl))) (mvT hZ (hw _ (List.mem_of_getElem? (i := 82) rfl))) (notFace_of_selects (args := #[]) (mvT hZ (hw _ (List.mem_of_getElem? (i := 84) rfl)))) (mvT hZ (hw _ (List.mem_of_getElem? (i := 84) rfl))) (mvT hZ (hw _ (List.mem_of_getElem? (i := 83) rfl))) (by decide) (backOf (W := 0) (rm14_0_t l Z a0 hw [] ob15 b_25 kb21 r_1 r_2 bb T25.heap n0 O28 p25_2 p25_3 hq1) hZ (hw _ (List.mem_of_getElem? (i := 85) rfl)) (hw _ (List.mem_of_getElem? (i := 7) rfl)) (by decide) (by decide)) q30a q30c (g := (mkF m 71 #[.val (Value.int p1), .val (Value.int p2), .val (Value.int p3), .val (Value.int p4), .val (Value.int r_1), .val (Value.int r_2), .val (Value.ref ob3), .val (Value.ref ob15), .val (Value.int (0 : Int32)), .val (Value.int bb), .unset, .unset, .unset] [(Value.int bb), (Value.int (0 : Int32)), (Value.ref ob15)])) rfl (by rw [hml]; rfl) (Steps.refl _) (argsL := [(Value.int (0 : Int32)), (Value.int bb)]) (rest := []) (lenOf own_pd8 rfl) rfl (by show 2 * 0 + _ ≤ _; exact Nat.le_of_eq rfl) (hb hby at_71) (fun _ _ => ⟨rfl, rfl, (by decide : 5 + 0 ≤ _), (by decide : 14 + 0 ≤ _)⟩)
      dsimp only [Pt.U, Pt.locs, Pt.cells, Pt.slots] at X30 l30 y30 z30 st30 hQ30
      subst l30 y30 z30
      refine own_Go.by (fun tq kq => st30.trans kq) ?_
      obtain ⟨rfl, N30q, e30⟩ := hQ30
      have N30 := Fr.app N25 N30q
      show own_Go p.tables e below _ (T30.setTop (mkF m 74 #[.val (Value.int p1), .val (Value.int p2), .val (Value.int p3), .val (Value.int p4), .val (Value.int r_1), .val (Value.int r_2), .val (Value.ref ob3), .val (Value.ref ob15), .val (Value.int (0 : Int32)), .val (Value.int bb), .unset, .unset, .unset] [(Value.int (1 : Int32))]))
      refine own_Go.by (fun tq kq => XS.istore X30.here hx rfl (hb hby at_74) rfl (l' := #[.val (Value.int p1), .val (Value.int p2), .val (Value.int p3), .val (Value.int p4), .val (Value.int r_1), .val (Value.int r_2), .val (Value.ref ob3), .val (Value.ref ob15), .val (Value.int (0 : Int32)), .val (Value.int bb), .val (Value.int (1 : Int32)), .unset, .unset]) rfl kq) ?_
      show own_Go p.tables e below _ (T30.setTop (mkF m 76 #[.val (Value.int p1), .val (Value.int p2), .val (Value.int p3), .val (Value.int p4), .val (Value.int r_1), .val (Value.int r_2), .val (Value.ref ob3), .val (Value.ref ob15), .val (Value.int (0 : Int32)), .val (Value.int bb), .val (Value.int (1 : Int32)), .unset, .unset] []))
      refine own_Go.by (fun tq kq => XS.iload X30.here hx rfl (hb hby at_76) rfl kq) ?_
      show own_Go p.tables e below _ (T30.setTop (mkF m 78 #[.val (Value.int p1), .val (Value.int p2), .val (Value.int p3), .val (Value.int p4), .val (Value.int r_1), .val (Value.int r_2), .val (Value.ref ob3), .val (Value.ref ob15), .val (Value.int (0 : Int32)), .val (Value.int bb), .val (Value.int (1 : Int32)), .unset, .unset] [(Value.int bb)]))
      refine own_Go.by (fun tq kq => XS.bipush X30.here hx rfl (hb hby at_78) kq) ?_
      show own_Go p.tables e below _ (T30.setTop (mkF m 80 #[.val (Value.int p1), .val (Value.int p2), .val (Value.int p3), .val (Value.int p4), .val (Value.int r_1), .val (Value.int r_2), .val (Value.ref ob3), .val (Value.ref ob15), .val (Value.int (0 : Int32)), .val (Value.int bb), .val (Value.int (1 : Int32)), .unset, .unset] [(Value.int (27 : Int32)), (Value.int bb)]))
      refine own_Go.by (fun tq kq => XS.icmpNo X30.here hx rfl (hb hby at_80) rfl (teq hq1).2 kq) ?_
      show own_Go p.tables e below _ (T30.setTop (mkF m 83 #[.val (Value.int p1), .val (Value.int p2), .val (Value.int p3), .val (Value.int p4), .val (Value.int r_1), .val (Value.int r_2), .val (Value.ref ob3), .val (Value.ref ob15), .val (Value.int (0 : Int32)), .val (Value.int bb), .val (Value.int (1 : Int32)), .unset, .unset] []))
      refine own_Go.by (fun tq kq => XS.iconst X30.here hx rfl (hb hby at_83) kq) ?_
      show own_Go p.tables e below _ (T30.setTop (mkF m 84 #[.val (Value.int p1), .val (Value.int p2), .val (Value.int p3), .val (Value.int p4), .val (Value.int r_1), .val (Value.int r_2), .val (Value.ref ob3), .val (Value.ref ob15), .val (Value.int (0 : Int32)), .val (Value.int bb), .val (Value.int (1 : Int32)), .unset, .unset] [(Value.int (1 : Int32))]))
      refine own_Go.by (fun tq kq => XS.goto X30.here hx rfl (pc0 := 84) (pc' := 88) rfl (hb hby at_84) (by decide) (by decide) kq) ?_
      show own_Go p.tables e below _ (T30.setTop (mkF m 88 #[.val (Value.int p1), .val (Value.int p2), .val (Value.int p3), .val (Value.int p4), .val (Value.int r_1), .val (Value.int r_2), .val (Value.ref ob3), .val (Value.ref ob15), .val (Value.int (0 : Int32)), .val (Value.int bb), .val (Value.int (1 : Int32)), .unset, .unset] [(Value.int (1 : Int32))]))
      refine own_Go.by (fun tq kq => XS.istore X30.here hx rfl (hb hby at_88) rfl (l' := #[.val (Value.int p1), .val (Value.int p2), .val (Value.int p3), .val (Value.int p4), .val (Value.int r_1), .val (Value.int r_2), .val (Value.ref ob3), .val (Value.ref ob15), .val (Value.int (0 : Int32)), .val (Value.int bb), .val (Value.int (1 : Int32)), .val (Value.int (1 : Int32)), .unset]) rfl kq) ?_
      show own_Go p.tables e below _ (T30.setTop (mkF m 90 #[.val (Value.int p1), .val (Value.int p2), .val (Value.int p3), .val (Value.int p4), .val (Value.int r_1), .val (Value.int r_2), .val (Value.ref ob3), .val (Value.ref ob15), .val (Value.int (0 : Int32)), .val (Value.int bb), .val (Value.int (1 : Int32)), .val (Value.int (1 : Int32)), .unset] []))
      refine own_Go.by (fun tq kq => XS.iload X30.here hx rfl (hb hby at_90) rfl kq) ?_
      show own_Go p.tables e below _ (T30.setTop (mkF m 92 #[.val (Value.int p1), .val (Value.int p2), .val (Value.int p3), .val (Value.int p4), .val (Value.int r_1), .val (Value.int r_2), .val (Value.ref ob3), .val (Value.ref ob15), .val (Value.int (0 : Int32)), .val (Value.int bb), .val (Value.int (1 : Int32)), .val (Value.int (1 : Int32)), .unset] [(Value.int (0 : Int32))]))
      refine own_Go.by (fun tq kq => XS.ifNo X30.here hx rfl (hb hby at_92) rfl ((if0 _ _).trans (teq (by decide : (0 : Int32) = (0 : Int32))).2) kq) ?_
      show own_Go p.tables e below _ (T30.setTop (mkF m 95 #[.val (Value.int p1), .val (Value.int p2), .val (Value.int p3), .val (Value.int p4), .val (Value.int r_1), .val (Value.int r_2), .val (Value.ref ob3), .val (Value.ref ob15), .val (Value.int (0 : Int32)), .val (Value.int bb), .val (Value.int (1 : Int32)), .val (Value.int (1 : Int32)), .unset] []))
      refine own_Go.by (fun tq kq => XS.iload X30.here hx rfl (hb hby at_95) rfl kq) ?_
      show own_Go p.tables e below _ (T30.setTop (mkF m 97 #[.val (Value.int p1), .val (Value.int p2), .val (Value.int p3), .val (Value.int p4), .val (Value.int r_1), .val (Value.int r_2), .val (Value.ref ob3), .val (Value.ref ob15), .val (Value.int (0 : Int32)), .val (Value.int bb), .val (Value.int (1 : Int32)), .val (Value.int (1 : Int32)), .unset] [(Value.int (1 : Int32))]))
      refine own_Go.by (fun tq kq => XS.istore X30.here hx rfl (hb hby at_97) rfl (l' := #[.val (Value.int p1), .val (Value.int p2), .val (Value.int p3), .val (Value.int p4), .val (Value.int r_1), .val (Value.int r_2), .val (Value.ref ob3), .val (Value.ref ob15), .val (Value.int (0 : Int32)), .val (Value.int bb), .val (Value.int (1 : Int32)), .val (Value.int (1 : Int32)), .val (Value.int (1 : Int32))]) rfl kq) ?_
      show own_Go p.tables e below _ (T30.setTop (mkF m 99 #[.val (Value.int p1), .val (Value.int p2), .val (Value.int p3), .val (Value.int p4), .val (Value.int r_1), .val (Value.int r_2), .val (Value.ref ob3), .val (Value.ref ob15), .val (Value.int (0 : Int32)), .val (Value.int bb), .val (Value.int (1 : Int32)), .val (Value.int (1 : Int32)), .val (Value.int (1 : Int32))] []))
      refine own_Go.by (fun tq kq => XS.goto X30.here hx rfl (pc0 := 99) (pc' := 141) rfl (hb hby at_99) (by decide) (by decide) kq) ?_
      show own_Go p.tables e below _ (T30.setTop (mkF m 141 #[.val (Value.int p1), .val (Value.int p2), .val (Value.int p3), .val (Value.int p4), .val (Value.int r_1), .val (Value.int r_2), .val (Value.ref ob3), .val (Value.ref ob15), .val (Value.int (0 : Int32)), .val (Value.int bb), .val (Value.int (1 : Int32)), .val (Value.int (1 : Int32)), .val (Value.int (1 : Int32))] []))
      refine own_Go.by (fun tq kq => XS.iload X30.here hx rfl (hb hby at_141) rfl kq) ?_
      show own_Go p.tables e below _ (T30.setTop (mkF m 143 #[.val (Value.int p1), .val (Value.int p2), .val (Value.int p3), .val (Value.int p4), .val (Value.int r_1), .val (Value.int r_2), .val (Value.ref ob3), .val (Value.ref ob15), .val (Value.int (0 : Int32)), .val (Value.int bb), .val (Value.int (1 : Int32)), .val (Value.int (1 : Int32)), .val (Value.int (1 : Int32))] [(Value.int (1 : Int32))]))
      refine own_Go.by (fun tq kq => XS.iload X30.here hx rfl (hb hby at_143) rfl kq) ?_
      show own_Go p.tables e below _ (T30.setTop (mkF m 145 #[.val (Value.int p1), .val (Value.int p2), .val (Value.int p3), .val (Value.int p4), .val (Value.int r_1), .val (Value.int r_2), .val (Value.ref ob3), .val (Value.ref ob15), .val (Value.int (0 : Int32)), .val (Value.int bb), .val (Value.int (1 : Int32)), .val (Value.int (1 : Int32)), .val (Value.int (1 : Int32))] [(Value.int (1 : Int32)), (Value.int (1 : Int32))]))
      refine own_Go.by (fun tq kq => XS.icmpNo X30.here hx rfl (hb hby at_145) rfl (teq (by decide : (1 : Int32) = (1 : Int32))).2 kq) ?_
      show own_Go p.tables e below _ (T30.setTop (mkF m 148 #[.val (Value.int p1), .val (Value.int p2), .val (Value.int p3), .val (Value.int p4), .val (Value.int r_1), .val (Value.int r_2), .val (Value.ref ob3), .val (Value.ref ob15), .val (Value.int (0 : Int32)), .val (Value.int bb), .val (Value.int (1 : Int32)), .val (Value.int (1 : Int32)), .val (Value.int (1 : Int32))] []))
      refine own_Go.by (fun tq kq => XS.aload X30.here hx rfl (hb hby at_148) rfl rfl kq) ?_
      show own_Go p.tables e below _ (T30.setTop (mkF m 150 #[.val (Value.int p1), .val (Value.int p2), .val (Value.int p3), .val (Value.int p4), .val (Value.int r_1), .val (Value.int r_2), .val (Value.ref ob3), .val (Value.ref ob15), .val (Value.int (0 : Int32)), .val (Value.int bb), .val (Value.int (1 : Int32)), .val (Value.int (1 : Int32)), .val (Value.int (1 : Int32))] [(Value.ref ob15)]))
      obtain ⟨cq31, kq31, q31a, q31b, q31c⟩ := isOf hZ e30 p25_1
      obtain ⟨_, _, ⟨T31, L31, k31, n31⟩, -, X31, ⟨Lc31, hQ31, l31, y31, z31⟩, st31⟩ := X30.virtualBack hx (y := (⟨"com/example/plain_bastion/plainbastion/ssh/Mark", "length", "()I"⟩ : MethodName)) (z := (⟨"com/example/plain_bastion/plainbastion/ssh/Mark", "length", "()I"⟩ : MethodName)) hown (mvT hZ (hw _ (List.mem_of_getElem? (i := 86) rfl))) (mvT hZ (hw _ (List.mem_of_getElem? (i := 87) rfl))) (notFace_of_selects (args := #[]) (mvT hZ (hw _ (List.mem_of_getElem? (i := 89) rfl)))) (mvT hZ (hw _ (List.mem_of_getElem? (i := 89) rfl))) (mvT hZ (hw _ (List.mem_of_getElem? (i := 88) rfl))) (by decide) (backOf (W := 0) (rm15 l Z a0 hw [] ob15 b_25 kb21 r_1 r_2 T25.heap n0 O28 p25_2 p25_3) hZ (hw _ (List.mem_of_getElem? (i := 90) rfl)) (hw _ (List.mem_of_getElem? (i := 7) rfl)) (by decide) (by decide)) q31a q31c (g := (mkF m 150 #[.val (Value.int p1), .val (Value.int p2), .val (Value.int p3), .val (Value.int p4), .val (Value.int r_1), .val (Value.int r_2), .val (Value.ref ob3), .val (Value.ref ob15), .val (Value.int (0 : Int32)), .val (Value.int bb), .val (Value.int (1 : Int32)), .val (Value.int (1 : Int32)), .val (Value.int (1 : Int32))] [(Value.ref ob15)])) rfl (by rw [hml]; rfl) (Steps.refl _) (argsL := []) (rest := []) (lenOf own_pd9 rfl) rfl (by show 2 * 0 + _ ≤ _; exact Nat.le_of_eq rfl) (hb hby at_150) (fun _ _ => ⟨rfl, e30, (by decide : 5 + 0 ≤ _), (by decide : 14 + 0 ≤ _)⟩)
      dsimp only [Pt.U, Pt.locs, Pt.cells, Pt.slots] at X31 l31 y31 z31 st31 hQ31
      subst l31 y31 z31
      refine own_Go.by (fun tq kq => st31.trans kq) ?_
      obtain ⟨rfl, N31q, e31⟩ := hQ31
      have N31 := Fr.app N30 N31q
      show own_Go p.tables e below _ (T31.setTop (mkF m 153 #[.val (Value.int p1), .val (Value.int p2), .val (Value.int p3), .val (Value.int p4), .val (Value.int r_1), .val (Value.int r_2), .val (Value.ref ob3), .val (Value.ref ob15), .val (Value.int (0 : Int32)), .val (Value.int bb), .val (Value.int (1 : Int32)), .val (Value.int (1 : Int32)), .val (Value.int (1 : Int32))] [(Value.int (3 : Int32))]))
      refine own_Go.by (fun tq kq => XS.iconst X31.here hx rfl (hb hby at_153) kq) ?_
      show own_Go p.tables e below _ (T31.setTop (mkF m 154 #[.val (Value.int p1), .val (Value.int p2), .val (Value.int p3), .val (Value.int p4), .val (Value.int r_1), .val (Value.int r_2), .val (Value.ref ob3), .val (Value.ref ob15), .val (Value.int (0 : Int32)), .val (Value.int bb), .val (Value.int (1 : Int32)), .val (Value.int (1 : Int32)), .val (Value.int (1 : Int32))] [(Value.int (3 : Int32)), (Value.int (3 : Int32))]))
      refine own_Go.by (fun tq kq => XS.icmpNo X31.here hx rfl (hb hby at_154) rfl (teq (by decide : (3 : Int32) = (3 : Int32))).2 kq) ?_
      show own_Go p.tables e below _ (T31.setTop (mkF m 157 #[.val (Value.int p1), .val (Value.int p2), .val (Value.int p3), .val (Value.int p4), .val (Value.int r_1), .val (Value.int r_2), .val (Value.ref ob3), .val (Value.ref ob15), .val (Value.int (0 : Int32)), .val (Value.int bb), .val (Value.int (1 : Int32)), .val (Value.int (1 : Int32)), .val (Value.int (1 : Int32))] []))
      refine own_Go.by (fun tq kq => XS.iconst X31.here hx rfl (hb hby at_157) kq) ?_
      show own_Go p.tables e below _ (T31.setTop (mkF m 158 #[.val (Value.int p1), .val (Value.int p2), .val (Value.int p3), .val (Value.int p4), .val (Value.int r_1), .val (Value.int r_2), .val (Value.ref ob3), .val (Value.ref ob15), .val (Value.int (0 : Int32)), .val (Value.int bb), .val (Value.int (1 : Int32)), .val (Value.int (1 : Int32)), .val (Value.int (1 : Int32))] [(Value.int (1 : Int32))]))
      refine own_Go.by (fun tq kq => XS.goto X31.here hx rfl (pc0 := 158) (pc' := 162) rfl (hb hby at_158) (by decide) (by decide) kq) ?_
      show own_Go p.tables e below _ (T31.setTop (mkF m 162 #[.val (Value.int p1), .val (Value.int p2), .val (Value.int p3), .val (Value.int p4), .val (Value.int r_1), .val (Value.int r_2), .val (Value.ref ob3), .val (Value.ref ob15), .val (Value.int (0 : Int32)), .val (Value.int bb), .val (Value.int (1 : Int32)), .val (Value.int (1 : Int32)), .val (Value.int (1 : Int32))] [(Value.int (1 : Int32))]))
      obtain ⟨fs, hr, hrun, hended, hW, hsame⟩ := X31.leave (v := some (Value.int (nar .boolean (1 : Int32)))) (fun h => by rw [Bd.returns] at h; cases h)
      refine own_Go.fin (retN X31 hx (t := .boolean) Bd.returns (by simp) (hb hby at_162) hr) ⟨hrun, hended, _, _, rfl, ?_, ⟨_, rfl⟩, hW, hsame.mono (by decide) (by decide)⟩
      show Q0 Z p1 p2 p3 p4 zc aC aU aI h0 n0 _ T31.heap _
      rw [e31]
      exact ⟨rfl, N31, K28⟩
    ·
      show own_Go p.tables e below _ (T25.setTop (mkF m 65 #[.val (Value.int p1), .val (Value.int p2), .val (Value.int p3), .val (Value.int p4), .val (Value.int r_1), .val (Value.int r_2), .val (Value.ref ob3), .val (Value.ref ob15), .val (Value.int (0 : Int32)), .val (Value.int bb), .unset, .unset, .unset] []))
      refine own_Go.by (fun tq kq => XS.aload X25.here hx rfl (hb hby at_65) rfl rfl kq) ?_
      show own_Go p.tables e below _ (T25.setTop (mkF m 67 #[.val (Value.int p1), .val (Value.int p2), .val (Value.int p3), .val (Value.int p4), .val (Value.int r_1), .val (Value.int r_2), .val (Value.ref ob3), .val (Value.ref ob15), .val (Value.int (0 : Int32)), .val (Value.int bb), .unset, .unset, .unset] [(Value.ref ob15)]))
      refine own_Go.by (fun tq kq => XS.iload X25.here hx rfl (hb hby at_67) rfl kq) ?_
      show own_Go p.tables e below _ (T25.setTop (mkF m 69 #[.val (Value.int p1), .val (Value.int p2), .val (Value.int p3), .val (Value.int p4), .val (Value.int r_1), .val (Value.int r_2), .val (Value.ref ob3), .val (Value.ref ob15), .val (Value.int (0 : Int32)), .val (Value.int bb), .unset, .unset, .unset] [(Value.int (0 : Int32)), (Value.ref ob15)]))
      refine own_Go.by (fun tq kq => XS.iload X25.here hx rfl (hb hby at_69) rfl kq) ?_
      show own_Go p.tables e below _ (T25.setTop (mkF m 71 #[.val (Value.int p1), .val (Value.int p2), .val (Value.int p3), .val (Value.int p4), .val (Value.int r_1), .val (Value.int r_2), .val (Value.ref ob3), .val (Value.ref ob15), .val (Value.int (0 : Int32)), .val (Value.int bb), .unset, .unset, .unset] [(Value.int bb), (Value.int (0 : Int32)), (Value.ref ob15)]))
      obtain ⟨cq32, kq32, q32a, q32b, q32c⟩ := isOf hZ rfl p25_1
      obtain ⟨_, _, ⟨T32, L32, k32, n32⟩, -, X32, ⟨Lc32, hQ32, l32, y32, z32⟩, st32⟩ := X25.virtualBack hx (y := (⟨"com/example/plain_bastion/plainbastion/ssh/Mark", "matched", "(IB)I"⟩ : MethodName)) (z := (⟨"com/example/plain_bastion/plainbastion/ssh/Mark", "matched", "(IB)I"⟩ : MethodName)) hown (mvT hZ (hw _ (List.mem_of_getElem? (i := 81) rfl))) (mvT hZ (hw _ (List.mem_of_getElem? (i := 82) rfl))) (notFace_of_selects (args := #[]) (mvT hZ (hw _ (List.mem_of_getElem? (i := 84) rfl)))) (mvT hZ (hw _ (List.mem_of_getElem? (i := 84) rfl))) (mvT hZ (hw _ (List.mem_of_getElem? (i := 83) rfl))) (by decide) (backOf (W := 0) (rm14_0_ff l Z a0 hw [] ob15 b_25 kb21 r_1 r_2 bb T25.heap n0 O28 p25_2 p25_3 hq1) hZ (hw _ (List.mem_of_getElem? (i := 85) rfl)) (hw _ (List.mem_of_getElem? (i := 7) rfl)) (by decide) (by decide)) q32a q32c (g := (mkF m 71 #[.val (Value.int p1), .val (Value.int p2), .val (Value.int p3), .val (Value.int p4), .val (Value.int r_1), .val (Value.int r_2), .val (Value.ref ob3), .val (Value.ref ob15), .val (Value.int (0 : Int32)), .val (Value.int bb), .unset, .unset, .unset] [(Value.int bb), (Value.int (0 : Int32)), (Value.ref ob15)])) rfl (by rw [hml]; rfl) (Steps.refl _) (argsL := [(Value.int (0 : Int32)), (Value.int bb)]) (rest := []) (lenOf own_pd8 rfl) rfl (by show 2 * 0 + _ ≤ _; exact Nat.le_of_eq rfl) (hb hby at_71) (fun _ _ => ⟨rfl, rfl, (by decide : 5 + 0 ≤ _), (by decide : 14 + 0 ≤ _)⟩)
      dsimp only [Pt.U, Pt.locs, Pt.cells, Pt.slots] at X32 l32 y32 z32 st32 hQ32
      subst l32 y32 z32
      refine own_Go.by (fun tq kq => st32.trans kq) ?_
      obtain ⟨rfl, N32q, e32⟩ := hQ32
      have N32 := Fr.app N25 N32q
      show own_Go p.tables e below _ (T32.setTop (mkF m 74 #[.val (Value.int p1), .val (Value.int p2), .val (Value.int p3), .val (Value.int p4), .val (Value.int r_1), .val (Value.int r_2), .val (Value.ref ob3), .val (Value.ref ob15), .val (Value.int (0 : Int32)), .val (Value.int bb), .unset, .unset, .unset] [(Value.int (0 : Int32))]))
      refine own_Go.by (fun tq kq => XS.istore X32.here hx rfl (hb hby at_74) rfl (l' := #[.val (Value.int p1), .val (Value.int p2), .val (Value.int p3), .val (Value.int p4), .val (Value.int r_1), .val (Value.int r_2), .val (Value.ref ob3), .val (Value.ref ob15), .val (Value.int (0 : Int32)), .val (Value.int bb), .val (Value.int (0 : Int32)), .unset, .unset]) rfl kq) ?_
      show own_Go p.tables e below _ (T32.setTop (mkF m 76 #[.val (Value.int p1), .val (Value.int p2), .val (Value.int p3), .val (Value.int p4), .val (Value.int r_1), .val (Value.int r_2), .val (Value.ref ob3), .val (Value.ref ob15), .val (Value.int (0 : Int32)), .val (Value.int bb), .val (Value.int (0 : Int32)), .unset, .unset] []))
      refine own_Go.by (fun tq kq => XS.iload X32.here hx rfl (hb hby at_76) rfl kq) ?_
      show own_Go p.tables e below _ (T32.setTop (mkF m 78 #[.val (Value.int p1), .val (Value.int p2), .val (Value.int p3), .val (Value.int p4), .val (Value.int r_1), .val (Value.int r_2), .val (Value.ref ob3), .val (Value.ref ob15), .val (Value.int (0 : Int32)), .val (Value.int bb), .val (Value.int (0 : Int32)), .unset, .unset] [(Value.int bb)]))
      refine own_Go.by (fun tq kq => XS.bipush X32.here hx rfl (hb hby at_78) kq) ?_
      show own_Go p.tables e below _ (T32.setTop (mkF m 80 #[.val (Value.int p1), .val (Value.int p2), .val (Value.int p3), .val (Value.int p4), .val (Value.int r_1), .val (Value.int r_2), .val (Value.ref ob3), .val (Value.ref ob15), .val (Value.int (0 : Int32)), .val (Value.int bb), .val (Value.int (0 : Int32)), .unset, .unset] [(Value.int (27 : Int32)), (Value.int bb)]))
      refine own_Go.by (fun tq kq => XS.icmpYes X32.here hx rfl (pc0 := 80) (pc' := 87) rfl (hb hby at_80) rfl (feq hq1).2 (by decide) (by decide) kq) ?_
      show own_Go p.tables e below _ (T32.setTop (mkF m 87 #[.val (Value.int p1), .val (Value.int p2), .val (Value.int p3), .val (Value.int p4), .val (Value.int r_1), .val (Value.int r_2), .val (Value.ref ob3), .val (Value.ref ob15), .val (Value.int (0 : Int32)), .val (Value.int bb), .val (Value.int (0 : Int32)), .unset, .unset] []))
      refine own_Go.by (fun tq kq => XS.iconst X32.here hx rfl (hb hby at_87) kq) ?_
      show own_Go p.tables e below _ (T32.setTop (mkF m 88 #[.val (Value.int p1), .val (Value.int p2), .val (Value.int p3), .val (Value.int p4), .val (Value.int r_1), .val (Value.int r_2), .val (Value.ref ob3), .val (Value.ref ob15), .val (Value.int (0 : Int32)), .val (Value.int bb), .val (Value.int (0 : Int32)), .unset, .unset] [(Value.int (0 : Int32))]))
      refine own_Go.by (fun tq kq => XS.istore X32.here hx rfl (hb hby at_88) rfl (l' := #[.val (Value.int p1), .val (Value.int p2), .val (Value.int p3), .val (Value.int p4), .val (Value.int r_1), .val (Value.int r_2), .val (Value.ref ob3), .val (Value.ref ob15), .val (Value.int (0 : Int32)), .val (Value.int bb), .val (Value.int (0 : Int32)), .val (Value.int (0 : Int32)), .unset]) rfl kq) ?_
      show own_Go p.tables e below _ (T32.setTop (mkF m 90 #[.val (Value.int p1), .val (Value.int p2), .val (Value.int p3), .val (Value.int p4), .val (Value.int r_1), .val (Value.int r_2), .val (Value.ref ob3), .val (Value.ref ob15), .val (Value.int (0 : Int32)), .val (Value.int bb), .val (Value.int (0 : Int32)), .val (Value.int (0 : Int32)), .unset] []))
      refine own_Go.by (fun tq kq => XS.iload X32.here hx rfl (hb hby at_90) rfl kq) ?_
      show own_Go p.tables e below _ (T32.setTop (mkF m 92 #[.val (Value.int p1), .val (Value.int p2), .val (Value.int p3), .val (Value.int p4), .val (Value.int r_1), .val (Value.int r_2), .val (Value.ref ob3), .val (Value.ref ob15), .val (Value.int (0 : Int32)), .val (Value.int bb), .val (Value.int (0 : Int32)), .val (Value.int (0 : Int32)), .unset] [(Value.int (0 : Int32))]))
      refine own_Go.by (fun tq kq => XS.ifNo X32.here hx rfl (hb hby at_92) rfl ((if0 _ _).trans (teq (by decide : (0 : Int32) = (0 : Int32))).2) kq) ?_
      show own_Go p.tables e below _ (T32.setTop (mkF m 95 #[.val (Value.int p1), .val (Value.int p2), .val (Value.int p3), .val (Value.int p4), .val (Value.int r_1), .val (Value.int r_2), .val (Value.ref ob3), .val (Value.ref ob15), .val (Value.int (0 : Int32)), .val (Value.int bb), .val (Value.int (0 : Int32)), .val (Value.int (0 : Int32)), .unset] []))
      refine own_Go.by (fun tq kq => XS.iload X32.here hx rfl (hb hby at_95) rfl kq) ?_
      show own_Go p.tables e below _ (T32.setTop (mkF m 97 #[.val (Value.int p1), .val (Value.int p2), .val (Value.int p3), .val (Value.int p4), .val (Value.int r_1), .val (Value.int r_2), .val (Value.ref ob3), .val (Value.ref ob15), .val (Value.int (0 : Int32)), .val (Value.int bb), .val (Value.int (0 : Int32)), .val (Value.int (0 : Int32)), .unset] [(Value.int (0 : Int32))]))
      refine own_Go.by (fun tq kq => XS.istore X32.here hx rfl (hb hby at_97) rfl (l' := #[.val (Value.int p1), .val (Value.int p2), .val (Value.int p3), .val (Value.int p4), .val (Value.int r_1), .val (Value.int r_2), .val (Value.ref ob3), .val (Value.ref ob15), .val (Value.int (0 : Int32)), .val (Value.int bb), .val (Value.int (0 : Int32)), .val (Value.int (0 : Int32)), .val (Value.int (0 : Int32))]) rfl kq) ?_
      show own_Go p.tables e below _ (T32.setTop (mkF m 99 #[.val (Value.int p1), .val (Value.int p2), .val (Value.int p3), .val (Value.int p4), .val (Value.int r_1), .val (Value.int r_2), .val (Value.ref ob3), .val (Value.ref ob15), .val (Value.int (0 : Int32)), .val (Value.int bb), .val (Value.int (0 : Int32)), .val (Value.int (0 : Int32)), .val (Value.int (0 : Int32))] []))
      refine own_Go.by (fun tq kq => XS.goto X32.here hx rfl (pc0 := 99) (pc' := 141) rfl (hb hby at_99) (by decide) (by decide) kq) ?_
      show own_Go p.tables e below _ (T32.setTop (mkF m 141 #[.val (Value.int p1), .val (Value.int p2), .val (Value.int p3), .val (Value.int p4), .val (Value.int r_1), .val (Value.int r_2), .val (Value.ref ob3), .val (Value.ref ob15), .val (Value.int (0 : Int32)), .val (Value.int bb), .val (Value.int (0 : Int32)), .val (Value.int (0 : Int32)), .val (Value.int (0 : Int32))] []))
      refine own_Go.by (fun tq kq => XS.iload X32.here hx rfl (hb hby at_141) rfl kq) ?_
      show own_Go p.tables e below _ (T32.setTop (mkF m 143 #[.val (Value.int p1), .val (Value.int p2), .val (Value.int p3), .val (Value.int p4), .val (Value.int r_1), .val (Value.int r_2), .val (Value.ref ob3), .val (Value.ref ob15), .val (Value.int (0 : Int32)), .val (Value.int bb), .val (Value.int (0 : Int32)), .val (Value.int (0 : Int32)), .val (Value.int (0 : Int32))] [(Value.int (0 : Int32))]))
      refine own_Go.by (fun tq kq => XS.iload X32.here hx rfl (hb hby at_143) rfl kq) ?_
      show own_Go p.tables e below _ (T32.setTop (mkF m 145 #[.val (Value.int p1), .val (Value.int p2), .val (Value.int p3), .val (Value.int p4), .val (Value.int r_1), .val (Value.int r_2), .val (Value.ref ob3), .val (Value.ref ob15), .val (Value.int (0 : Int32)), .val (Value.int bb), .val (Value.int (0 : Int32)), .val (Value.int (0 : Int32)), .val (Value.int (0 : Int32))] [(Value.int (0 : Int32)), (Value.int (0 : Int32))]))
      refine own_Go.by (fun tq kq => XS.icmpNo X32.here hx rfl (hb hby at_145) rfl (teq (by decide : (0 : Int32) = (0 : Int32))).2 kq) ?_
      show own_Go p.tables e below _ (T32.setTop (mkF m 148 #[.val (Value.int p1), .val (Value.int p2), .val (Value.int p3), .val (Value.int p4), .val (Value.int r_1), .val (Value.int r_2), .val (Value.ref ob3), .val (Value.ref ob15), .val (Value.int (0 : Int32)), .val (Value.int bb), .val (Value.int (0 : Int32)), .val (Value.int (0 : Int32)), .val (Value.int (0 : Int32))] []))
      refine own_Go.by (fun tq kq => XS.aload X32.here hx rfl (hb hby at_148) rfl rfl kq) ?_
      show own_Go p.tables e below _ (T32.setTop (mkF m 150 #[.val (Value.int p1), .val (Value.int p2), .val (Value.int p3), .val (Value.int p4), .val (Value.int r_1), .val (Value.int r_2), .val (Value.ref ob3), .val (Value.ref ob15), .val (Value.int (0 : Int32)), .val (Value.int bb), .val (Value.int (0 : Int32)), .val (Value.int (0 : Int32)), .val (Value.int (0 : Int32))] [(Value.ref ob15)]))
      obtain ⟨cq33, kq33, q33a, q33b, q33c⟩ := isOf hZ e32 p25_1
      obtain ⟨_, _, ⟨T33, L33, k33, n33⟩, -, X33, ⟨Lc33, hQ33, l33, y33, z33⟩, st33⟩ := X32.virtualBack hx (y := (⟨"com/example/plain_bastion/plainbastion/ssh/Mark", "length", "()I"⟩ : MethodName)) (z := (⟨"com/example/plain_bastion/plainbastion/ssh/Mark", "length", "()I"⟩ : MethodName)) hown (mvT hZ (hw _ (List.mem_of_getElem? (i := 86) rfl))) (mvT hZ (hw _ (List.mem_of_getElem? (i := 87) rfl))) (notFace_of_selects (args := #[]) (mvT hZ (hw _ (List.mem_of_getElem? (i := 89) rfl)))) (mvT hZ (hw _ (List.mem_of_getElem? (i := 89) rfl))) (mvT hZ (hw _ (List.mem_of_getElem? (i := 88) rfl))) (by decide) (backOf (W := 0) (rm15 l Z a0 hw [] ob15 b_25 kb21 r_1 r_2 T25.heap n0 O28 p25_2 p25_3) hZ (hw _ (List.mem_of_getElem? (i := 90) rfl)) (hw _ (List.mem_of_getElem? (i := 7) rfl)) (by decide) (by decide)) q33a q33c (g := (mkF m 150 #[.val (Value.int p1), .val (Value.int p2), .val (Value.int p3), .val (Value.int p4), .val (Value.int r_1), .val (Value.int r_2), .val (Value.ref ob3), .val (Value.ref ob15), .val (Value.int (0 : Int32)), .val (Value.int bb), .val (Value.int (0 : Int32)), .val (Value.int (0 : Int32)), .val (Value.int (0 : Int32))] [(Value.ref ob15)])) rfl (by rw [hml]; rfl) (Steps.refl _) (argsL := []) (rest := []) (lenOf own_pd9 rfl) rfl (by show 2 * 0 + _ ≤ _; exact Nat.le_of_eq rfl) (hb hby at_150) (fun _ _ => ⟨rfl, e32, (by decide : 5 + 0 ≤ _), (by decide : 14 + 0 ≤ _)⟩)
      dsimp only [Pt.U, Pt.locs, Pt.cells, Pt.slots] at X33 l33 y33 z33 st33 hQ33
      subst l33 y33 z33
      refine own_Go.by (fun tq kq => st33.trans kq) ?_
      obtain ⟨rfl, N33q, e33⟩ := hQ33
      have N33 := Fr.app N32 N33q
      show own_Go p.tables e below _ (T33.setTop (mkF m 153 #[.val (Value.int p1), .val (Value.int p2), .val (Value.int p3), .val (Value.int p4), .val (Value.int r_1), .val (Value.int r_2), .val (Value.ref ob3), .val (Value.ref ob15), .val (Value.int (0 : Int32)), .val (Value.int bb), .val (Value.int (0 : Int32)), .val (Value.int (0 : Int32)), .val (Value.int (0 : Int32))] [(Value.int (3 : Int32))]))
      refine own_Go.by (fun tq kq => XS.iconst X33.here hx rfl (hb hby at_153) kq) ?_
      show own_Go p.tables e below _ (T33.setTop (mkF m 154 #[.val (Value.int p1), .val (Value.int p2), .val (Value.int p3), .val (Value.int p4), .val (Value.int r_1), .val (Value.int r_2), .val (Value.ref ob3), .val (Value.ref ob15), .val (Value.int (0 : Int32)), .val (Value.int bb), .val (Value.int (0 : Int32)), .val (Value.int (0 : Int32)), .val (Value.int (0 : Int32))] [(Value.int (3 : Int32)), (Value.int (3 : Int32))]))
      refine own_Go.by (fun tq kq => XS.icmpNo X33.here hx rfl (hb hby at_154) rfl (teq (by decide : (3 : Int32) = (3 : Int32))).2 kq) ?_
      show own_Go p.tables e below _ (T33.setTop (mkF m 157 #[.val (Value.int p1), .val (Value.int p2), .val (Value.int p3), .val (Value.int p4), .val (Value.int r_1), .val (Value.int r_2), .val (Value.ref ob3), .val (Value.ref ob15), .val (Value.int (0 : Int32)), .val (Value.int bb), .val (Value.int (0 : Int32)), .val (Value.int (0 : Int32)), .val (Value.int (0 : Int32))] []))
      refine own_Go.by (fun tq kq => XS.iconst X33.here hx rfl (hb hby at_157) kq) ?_
      show own_Go p.tables e below _ (T33.setTop (mkF m 158 #[.val (Value.int p1), .val (Value.int p2), .val (Value.int p3), .val (Value.int p4), .val (Value.int r_1), .val (Value.int r_2), .val (Value.ref ob3), .val (Value.ref ob15), .val (Value.int (0 : Int32)), .val (Value.int bb), .val (Value.int (0 : Int32)), .val (Value.int (0 : Int32)), .val (Value.int (0 : Int32))] [(Value.int (1 : Int32))]))
      refine own_Go.by (fun tq kq => XS.goto X33.here hx rfl (pc0 := 158) (pc' := 162) rfl (hb hby at_158) (by decide) (by decide) kq) ?_
      show own_Go p.tables e below _ (T33.setTop (mkF m 162 #[.val (Value.int p1), .val (Value.int p2), .val (Value.int p3), .val (Value.int p4), .val (Value.int r_1), .val (Value.int r_2), .val (Value.ref ob3), .val (Value.ref ob15), .val (Value.int (0 : Int32)), .val (Value.int bb), .val (Value.int (0 : Int32)), .val (Value.int (0 : Int32)), .val (Value.int (0 : Int32))] [(Value.int (1 : Int32))]))
      obtain ⟨fs, hr, hrun, hended, hW, hsame⟩ := X33.leave (v := some (Value.int (nar .boolean (1 : Int32)))) (fun h => by rw [Bd.returns] at h; cases h)
      refine own_Go.fin (retN X33 hx (t := .boolean) Bd.returns (by simp) (hb hby at_162) hr) ⟨hrun, hended, _, _, rfl, ?_, ⟨_, rfl⟩, hW, hsame.mono (by decide) (by decide)⟩
      show Q0 Z p1 p2 p3 p4 zc aC aU aI h0 n0 _ T33.heap _
      rw [e33]
      exact ⟨rfl, N33, K28⟩
  ·
    subst hq_mm
    show own_Go p.tables e below _ (T25.setTop (mkF m 61 #[.val (Value.int p1), .val (Value.int p2), .val (Value.int p3), .val (Value.int p4), .val (Value.int r_1), .val (Value.int r_2), .val (Value.ref ob3), .val (Value.ref ob15), .val (Value.int (1 : Int32)), .unset, .unset, .unset, .unset] []))
    refine own_Go.by (fun tq kq => XS.iloadN X25.here hx rfl (hb hby at_61) rfl kq) ?_
    show own_Go p.tables e below _ (T25.setTop (mkF m 62 #[.val (Value.int p1), .val (Value.int p2), .val (Value.int p3), .val (Value.int p4), .val (Value.int r_1), .val (Value.int r_2), .val (Value.ref ob3), .val (Value.ref ob15), .val (Value.int (1 : Int32)), .unset, .unset, .unset, .unset] [(Value.int p4)]))
    refine own_Go.by (fun tq kq => XS.i2b X25.here hx rfl (hb hby at_62) rfl kq) ?_
    show own_Go p.tables e below _ (T25.setTop (mkF m 63 #[.val (Value.int p1), .val (Value.int p2), .val (Value.int p3), .val (Value.int p4), .val (Value.int r_1), .val (Value.int r_2), .val (Value.ref ob3), .val (Value.ref ob15), .val (Value.int (1 : Int32)), .unset, .unset, .unset, .unset] [(Value.int (p4.toInt8.toInt32))]))
    refine own_Go.by (fun tq kq => XS.istore X25.here hx rfl (hb hby at_63) rfl (l' := #[.val (Value.int p1), .val (Value.int p2), .val (Value.int p3), .val (Value.int p4), .val (Value.int r_1), .val (Value.int r_2), .val (Value.ref ob3), .val (Value.ref ob15), .val (Value.int (1 : Int32)), .val (Value.int (p4.toInt8.toInt32)), .unset, .unset, .unset]) rfl kq) ?_
    show own_Go p.tables e below _ (T25.setTop (mkF m 65 #[.val (Value.int p1), .val (Value.int p2), .val (Value.int p3), .val (Value.int p4), .val (Value.int r_1), .val (Value.int r_2), .val (Value.ref ob3), .val (Value.ref ob15), .val (Value.int (1 : Int32)), .val (Value.int (p4.toInt8.toInt32)), .unset, .unset, .unset] []))
    generalize hv_bb : (p4.toInt8.toInt32) = bb
    by_cases hq1 : bb = r_1
    ·
      show own_Go p.tables e below _ (T25.setTop (mkF m 65 #[.val (Value.int p1), .val (Value.int p2), .val (Value.int p3), .val (Value.int p4), .val (Value.int r_1), .val (Value.int r_2), .val (Value.ref ob3), .val (Value.ref ob15), .val (Value.int (1 : Int32)), .val (Value.int bb), .unset, .unset, .unset] []))
      refine own_Go.by (fun tq kq => XS.aload X25.here hx rfl (hb hby at_65) rfl rfl kq) ?_
      show own_Go p.tables e below _ (T25.setTop (mkF m 67 #[.val (Value.int p1), .val (Value.int p2), .val (Value.int p3), .val (Value.int p4), .val (Value.int r_1), .val (Value.int r_2), .val (Value.ref ob3), .val (Value.ref ob15), .val (Value.int (1 : Int32)), .val (Value.int bb), .unset, .unset, .unset] [(Value.ref ob15)]))
      refine own_Go.by (fun tq kq => XS.iload X25.here hx rfl (hb hby at_67) rfl kq) ?_
      show own_Go p.tables e below _ (T25.setTop (mkF m 69 #[.val (Value.int p1), .val (Value.int p2), .val (Value.int p3), .val (Value.int p4), .val (Value.int r_1), .val (Value.int r_2), .val (Value.ref ob3), .val (Value.ref ob15), .val (Value.int (1 : Int32)), .val (Value.int bb), .unset, .unset, .unset] [(Value.int (1 : Int32)), (Value.ref ob15)]))
      refine own_Go.by (fun tq kq => XS.iload X25.here hx rfl (hb hby at_69) rfl kq) ?_
      show own_Go p.tables e below _ (T25.setTop (mkF m 71 #[.val (Value.int p1), .val (Value.int p2), .val (Value.int p3), .val (Value.int p4), .val (Value.int r_1), .val (Value.int r_2), .val (Value.ref ob3), .val (Value.ref ob15), .val (Value.int (1 : Int32)), .val (Value.int bb), .unset, .unset, .unset] [(Value.int bb), (Value.int (1 : Int32)), (Value.ref ob15)]))
      obtain ⟨cq34, kq34, q34a, q34b, q34c⟩ := isOf hZ rfl p25_1
      obtain ⟨_, _, ⟨T34, L34, k34, n34⟩, -, X34, ⟨Lc34, hQ34, l34, y34, z34⟩, st34⟩ := X25.virtualBack hx (y := (⟨"com/example/plain_bastion/plainbastion/ssh/Mark", "matched", "(IB)I"⟩ : MethodName)) (z := (⟨"com/example/plain_bastion/plainbastion/ssh/Mark", "matched", "(IB)I"⟩ : MethodName)) hown (mvT hZ (hw _ (List.mem_of_getElem? (i := 81) rfl))) (mvT hZ (hw _ (List.mem_of_getElem? (i := 82) rfl))) (notFace_of_selects (args := #[]) (mvT hZ (hw _ (List.mem_of_getElem? (i := 84) rfl)))) (mvT hZ (hw _ (List.mem_of_getElem? (i := 84) rfl))) (mvT hZ (hw _ (List.mem_of_getElem? (i := 83) rfl))) (by decide) (backOf (W := 0) (rm14_1_t l Z a0 hw [] ob15 b_25 kb21 r_1 r_2 bb T25.heap n0 O28 p25_2 p25_3 hq1) hZ (hw _ (List.mem_of_getElem? (i := 85) rfl)) (hw _ (List.mem_of_getElem? (i := 7) rfl)) (by decide) (by decide)) q34a q34c (g := (mkF m 71 #[.val (Value.int p1), .val (Value.int p2), .val (Value.int p3), .val (Value.int p4), .val (Value.int r_1), .val (Value.int r_2), .val (Value.ref ob3), .val (Value.ref ob15), .val (Value.int (1 : Int32)), .val (Value.int bb), .unset, .unset, .unset] [(Value.int bb), (Value.int (1 : Int32)), (Value.ref ob15)])) rfl (by rw [hml]; rfl) (Steps.refl _) (argsL := [(Value.int (1 : Int32)), (Value.int bb)]) (rest := []) (lenOf own_pd8 rfl) rfl (by show 2 * 0 + _ ≤ _; exact Nat.le_of_eq rfl) (hb hby at_71) (fun _ _ => ⟨rfl, rfl, (by decide : 5 + 0 ≤ _), (by decide : 14 + 0 ≤ _)⟩)
      dsimp only [Pt.U, Pt.locs, Pt.cells, Pt.slots] at X34 l34 y34 z34 st34 hQ34
      subst l34 y34 z34
      refine own_Go.by (fun tq kq => st34.trans kq) ?_
      obtain ⟨rfl, N34q, e34⟩ := hQ34
      have N34 := Fr.app N25 N34q
      show own_Go p.tables e below _ (T34.setTop (mkF m 74 #[.val (Value.int p1), .val (Value.int p2), .val (Value.int p3), .val (Value.int p4), .val (Value.int r_1), .val (Value.int r_2), .val (Value.ref ob3), .val (Value.ref ob15), .val (Value.int (1 : Int32)), .val (Value.int bb), .unset, .unset, .unset] [(Value.int (2 : Int32))]))
      refine own_Go.by (fun tq kq => XS.istore X34.here hx rfl (hb hby at_74) rfl (l' := #[.val (Value.int p1), .val (Value.int p2), .val (Value.int p3), .val (Value.int p4), .val (Value.int r_1), .val (Value.int r_2), .val (Value.ref ob3), .val (Value.ref ob15), .val (Value.int (1 : Int32)), .val (Value.int bb), .val (Value.int (2 : Int32)), .unset, .unset]) rfl kq) ?_
      show own_Go p.tables e below _ (T34.setTop (mkF m 76 #[.val (Value.int p1), .val (Value.int p2), .val (Value.int p3), .val (Value.int p4), .val (Value.int r_1), .val (Value.int r_2), .val (Value.ref ob3), .val (Value.ref ob15), .val (Value.int (1 : Int32)), .val (Value.int bb), .val (Value.int (2 : Int32)), .unset, .unset] []))
      refine own_Go.by (fun tq kq => XS.iload X34.here hx rfl (hb hby at_76) rfl kq) ?_
      show own_Go p.tables e below _ (T34.setTop (mkF m 78 #[.val (Value.int p1), .val (Value.int p2), .val (Value.int p3), .val (Value.int p4), .val (Value.int r_1), .val (Value.int r_2), .val (Value.ref ob3), .val (Value.ref ob15), .val (Value.int (1 : Int32)), .val (Value.int bb), .val (Value.int (2 : Int32)), .unset, .unset] [(Value.int bb)]))
      refine own_Go.by (fun tq kq => XS.bipush X34.here hx rfl (hb hby at_78) kq) ?_
      show own_Go p.tables e below _ (T34.setTop (mkF m 80 #[.val (Value.int p1), .val (Value.int p2), .val (Value.int p3), .val (Value.int p4), .val (Value.int r_1), .val (Value.int r_2), .val (Value.ref ob3), .val (Value.ref ob15), .val (Value.int (1 : Int32)), .val (Value.int bb), .val (Value.int (2 : Int32)), .unset, .unset] [(Value.int (27 : Int32)), (Value.int bb)]))
      by_cases hc80_35 : bb = (27 : Int32)
      ·
        refine own_Go.by (fun tq kq => XS.icmpNo X34.here hx rfl (hb hby at_80) rfl (teq hc80_35).2 kq) ?_
        show own_Go p.tables e below _ (T34.setTop (mkF m 83 #[.val (Value.int p1), .val (Value.int p2), .val (Value.int p3), .val (Value.int p4), .val (Value.int r_1), .val (Value.int r_2), .val (Value.ref ob3), .val (Value.ref ob15), .val (Value.int (1 : Int32)), .val (Value.int bb), .val (Value.int (2 : Int32)), .unset, .unset] []))
        refine own_Go.by (fun tq kq => XS.iconst X34.here hx rfl (hb hby at_83) kq) ?_
        show own_Go p.tables e below _ (T34.setTop (mkF m 84 #[.val (Value.int p1), .val (Value.int p2), .val (Value.int p3), .val (Value.int p4), .val (Value.int r_1), .val (Value.int r_2), .val (Value.ref ob3), .val (Value.ref ob15), .val (Value.int (1 : Int32)), .val (Value.int bb), .val (Value.int (2 : Int32)), .unset, .unset] [(Value.int (1 : Int32))]))
        refine own_Go.by (fun tq kq => XS.goto X34.here hx rfl (pc0 := 84) (pc' := 88) rfl (hb hby at_84) (by decide) (by decide) kq) ?_
        show own_Go p.tables e below _ (T34.setTop (mkF m 88 #[.val (Value.int p1), .val (Value.int p2), .val (Value.int p3), .val (Value.int p4), .val (Value.int r_1), .val (Value.int r_2), .val (Value.ref ob3), .val (Value.ref ob15), .val (Value.int (1 : Int32)), .val (Value.int bb), .val (Value.int (2 : Int32)), .unset, .unset] [(Value.int (1 : Int32))]))
        refine own_Go.by (fun tq kq => XS.istore X34.here hx rfl (hb hby at_88) rfl (l' := #[.val (Value.int p1), .val (Value.int p2), .val (Value.int p3), .val (Value.int p4), .val (Value.int r_1), .val (Value.int r_2), .val (Value.ref ob3), .val (Value.ref ob15), .val (Value.int (1 : Int32)), .val (Value.int bb), .val (Value.int (2 : Int32)), .val (Value.int (1 : Int32)), .unset]) rfl kq) ?_
        show own_Go p.tables e below _ (T34.setTop (mkF m 90 #[.val (Value.int p1), .val (Value.int p2), .val (Value.int p3), .val (Value.int p4), .val (Value.int r_1), .val (Value.int r_2), .val (Value.ref ob3), .val (Value.ref ob15), .val (Value.int (1 : Int32)), .val (Value.int bb), .val (Value.int (2 : Int32)), .val (Value.int (1 : Int32)), .unset] []))
        refine own_Go.by (fun tq kq => XS.iload X34.here hx rfl (hb hby at_90) rfl kq) ?_
        show own_Go p.tables e below _ (T34.setTop (mkF m 92 #[.val (Value.int p1), .val (Value.int p2), .val (Value.int p3), .val (Value.int p4), .val (Value.int r_1), .val (Value.int r_2), .val (Value.ref ob3), .val (Value.ref ob15), .val (Value.int (1 : Int32)), .val (Value.int bb), .val (Value.int (2 : Int32)), .val (Value.int (1 : Int32)), .unset] [(Value.int (1 : Int32))]))
        refine own_Go.by (fun tq kq => XS.ifYes X34.here hx rfl (pc0 := 92) (pc' := 102) rfl (hb hby at_92) rfl ((if0 _ _).trans (feq (by decide : ¬ ((1 : Int32) = (0 : Int32)))).2) (by decide) (by decide) kq) ?_
        show own_Go p.tables e below _ (T34.setTop (mkF m 102 #[.val (Value.int p1), .val (Value.int p2), .val (Value.int p3), .val (Value.int p4), .val (Value.int r_1), .val (Value.int r_2), .val (Value.ref ob3), .val (Value.ref ob15), .val (Value.int (1 : Int32)), .val (Value.int bb), .val (Value.int (2 : Int32)), .val (Value.int (1 : Int32)), .unset] []))
        refine own_Go.by (fun tq kq => XS.iload X34.here hx rfl (hb hby at_102) rfl kq) ?_
        show own_Go p.tables e below _ (T34.setTop (mkF m 104 #[.val (Value.int p1), .val (Value.int p2), .val (Value.int p3), .val (Value.int p4), .val (Value.int r_1), .val (Value.int r_2), .val (Value.ref ob3), .val (Value.ref ob15), .val (Value.int (1 : Int32)), .val (Value.int bb), .val (Value.int (2 : Int32)), .val (Value.int (1 : Int32)), .unset] [(Value.int (1 : Int32))]))
        refine own_Go.by (fun tq kq => XS.iconst X34.here hx rfl (hb hby at_104) kq) ?_
        show own_Go p.tables e below _ (T34.setTop (mkF m 105 #[.val (Value.int p1), .val (Value.int p2), .val (Value.int p3), .val (Value.int p4), .val (Value.int r_1), .val (Value.int r_2), .val (Value.ref ob3), .val (Value.ref ob15), .val (Value.int (1 : Int32)), .val (Value.int bb), .val (Value.int (2 : Int32)), .val (Value.int (1 : Int32)), .unset] [(Value.int (1 : Int32)), (Value.int (1 : Int32))]))
        refine own_Go.by (fun tq kq => XS.icmpNo X34.here hx rfl (hb hby at_105) rfl (teq (by decide : (1 : Int32) = (1 : Int32))).2 kq) ?_
        show own_Go p.tables e below _ (T34.setTop (mkF m 108 #[.val (Value.int p1), .val (Value.int p2), .val (Value.int p3), .val (Value.int p4), .val (Value.int r_1), .val (Value.int r_2), .val (Value.ref ob3), .val (Value.ref ob15), .val (Value.int (1 : Int32)), .val (Value.int bb), .val (Value.int (2 : Int32)), .val (Value.int (1 : Int32)), .unset] []))
        refine own_Go.by (fun tq kq => XS.iload X34.here hx rfl (hb hby at_108) rfl kq) ?_
        show own_Go p.tables e below _ (T34.setTop (mkF m 110 #[.val (Value.int p1), .val (Value.int p2), .val (Value.int p3), .val (Value.int p4), .val (Value.int r_1), .val (Value.int r_2), .val (Value.ref ob3), .val (Value.ref ob15), .val (Value.int (1 : Int32)), .val (Value.int bb), .val (Value.int (2 : Int32)), .val (Value.int (1 : Int32)), .unset] [(Value.int bb)]))
        refine own_Go.by (fun tq kq => XS.iload X34.here hx rfl (hb hby at_110) rfl kq) ?_
        show own_Go p.tables e below _ (T34.setTop (mkF m 112 #[.val (Value.int p1), .val (Value.int p2), .val (Value.int p3), .val (Value.int p4), .val (Value.int r_1), .val (Value.int r_2), .val (Value.ref ob3), .val (Value.ref ob15), .val (Value.int (1 : Int32)), .val (Value.int bb), .val (Value.int (2 : Int32)), .val (Value.int (1 : Int32)), .unset] [(Value.int r_1), (Value.int bb)]))
        refine own_Go.by (fun tq kq => XS.icmpNo X34.here hx rfl (hb hby at_112) rfl (teq hq1).2 kq) ?_
        show own_Go p.tables e below _ (T34.setTop (mkF m 115 #[.val (Value.int p1), .val (Value.int p2), .val (Value.int p3), .val (Value.int p4), .val (Value.int r_1), .val (Value.int r_2), .val (Value.ref ob3), .val (Value.ref ob15), .val (Value.int (1 : Int32)), .val (Value.int bb), .val (Value.int (2 : Int32)), .val (Value.int (1 : Int32)), .unset] []))
        refine own_Go.by (fun tq kq => XS.iconst X34.here hx rfl (hb hby at_115) kq) ?_
        show own_Go p.tables e below _ (T34.setTop (mkF m 116 #[.val (Value.int p1), .val (Value.int p2), .val (Value.int p3), .val (Value.int p4), .val (Value.int r_1), .val (Value.int r_2), .val (Value.ref ob3), .val (Value.ref ob15), .val (Value.int (1 : Int32)), .val (Value.int bb), .val (Value.int (2 : Int32)), .val (Value.int (1 : Int32)), .unset] [(Value.int (2 : Int32))]))
        refine own_Go.by (fun tq kq => XS.goto X34.here hx rfl (pc0 := 116) (pc' := 121) rfl (hb hby at_116) (by decide) (by decide) kq) ?_
        show own_Go p.tables e below _ (T34.setTop (mkF m 121 #[.val (Value.int p1), .val (Value.int p2), .val (Value.int p3), .val (Value.int p4), .val (Value.int r_1), .val (Value.int r_2), .val (Value.ref ob3), .val (Value.ref ob15), .val (Value.int (1 : Int32)), .val (Value.int bb), .val (Value.int (2 : Int32)), .val (Value.int (1 : Int32)), .unset] [(Value.int (2 : Int32))]))
        refine own_Go.by (fun tq kq => XS.istore X34.here hx rfl (hb hby at_121) rfl (l' := #[.val (Value.int p1), .val (Value.int p2), .val (Value.int p3), .val (Value.int p4), .val (Value.int r_1), .val (Value.int r_2), .val (Value.ref ob3), .val (Value.ref ob15), .val (Value.int (1 : Int32)), .val (Value.int bb), .val (Value.int (2 : Int32)), .val (Value.int (1 : Int32)), .val (Value.int (2 : Int32))]) rfl kq) ?_
        show own_Go p.tables e below _ (T34.setTop (mkF m 123 #[.val (Value.int p1), .val (Value.int p2), .val (Value.int p3), .val (Value.int p4), .val (Value.int r_1), .val (Value.int r_2), .val (Value.ref ob3), .val (Value.ref ob15), .val (Value.int (1 : Int32)), .val (Value.int bb), .val (Value.int (2 : Int32)), .val (Value.int (1 : Int32)), .val (Value.int (2 : Int32))] []))
        refine own_Go.by (fun tq kq => XS.goto X34.here hx rfl (pc0 := 123) (pc' := 141) rfl (hb hby at_123) (by decide) (by decide) kq) ?_
        show own_Go p.tables e below _ (T34.setTop (mkF m 141 #[.val (Value.int p1), .val (Value.int p2), .val (Value.int p3), .val (Value.int p4), .val (Value.int r_1), .val (Value.int r_2), .val (Value.ref ob3), .val (Value.ref ob15), .val (Value.int (1 : Int32)), .val (Value.int bb), .val (Value.int (2 : Int32)), .val (Value.int (1 : Int32)), .val (Value.int (2 : Int32))] []))
        refine own_Go.by (fun tq kq => XS.iload X34.here hx rfl (hb hby at_141) rfl kq) ?_
        show own_Go p.tables e below _ (T34.setTop (mkF m 143 #[.val (Value.int p1), .val (Value.int p2), .val (Value.int p3), .val (Value.int p4), .val (Value.int r_1), .val (Value.int r_2), .val (Value.ref ob3), .val (Value.ref ob15), .val (Value.int (1 : Int32)), .val (Value.int bb), .val (Value.int (2 : Int32)), .val (Value.int (1 : Int32)), .val (Value.int (2 : Int32))] [(Value.int (2 : Int32))]))
        refine own_Go.by (fun tq kq => XS.iload X34.here hx rfl (hb hby at_143) rfl kq) ?_
        show own_Go p.tables e below _ (T34.setTop (mkF m 145 #[.val (Value.int p1), .val (Value.int p2), .val (Value.int p3), .val (Value.int p4), .val (Value.int r_1), .val (Value.int r_2), .val (Value.ref ob3), .val (Value.ref ob15), .val (Value.int (1 : Int32)), .val (Value.int bb), .val (Value.int (2 : Int32)), .val (Value.int (1 : Int32)), .val (Value.int (2 : Int32))] [(Value.int (2 : Int32)), (Value.int (2 : Int32))]))
        refine own_Go.by (fun tq kq => XS.icmpNo X34.here hx rfl (hb hby at_145) rfl (teq (by decide : (2 : Int32) = (2 : Int32))).2 kq) ?_
        show own_Go p.tables e below _ (T34.setTop (mkF m 148 #[.val (Value.int p1), .val (Value.int p2), .val (Value.int p3), .val (Value.int p4), .val (Value.int r_1), .val (Value.int r_2), .val (Value.ref ob3), .val (Value.ref ob15), .val (Value.int (1 : Int32)), .val (Value.int bb), .val (Value.int (2 : Int32)), .val (Value.int (1 : Int32)), .val (Value.int (2 : Int32))] []))
        refine own_Go.by (fun tq kq => XS.aload X34.here hx rfl (hb hby at_148) rfl rfl kq) ?_
        show own_Go p.tables e below _ (T34.setTop (mkF m 150 #[.val (Value.int p1), .val (Value.int p2), .val (Value.int p3), .val (Value.int p4), .val (Value.int r_1), .val (Value.int r_2), .val (Value.ref ob3), .val (Value.ref ob15), .val (Value.int (1 : Int32)), .val (Value.int bb), .val (Value.int (2 : Int32)), .val (Value.int (1 : Int32)), .val (Value.int (2 : Int32))] [(Value.ref ob15)]))
        obtain ⟨cq36, kq36, q36a, q36b, q36c⟩ := isOf hZ e34 p25_1
        obtain ⟨_, _, ⟨T36, L36, k36, n36⟩, -, X36, ⟨Lc36, hQ36, l36, y36, z36⟩, st36⟩ := X34.virtualBack hx (y := (⟨"com/example/plain_bastion/plainbastion/ssh/Mark", "length", "()I"⟩ : MethodName)) (z := (⟨"com/example/plain_bastion/plainbastion/ssh/Mark", "length", "()I"⟩ : MethodName)) hown (mvT hZ (hw _ (List.mem_of_getElem? (i := 86) rfl))) (mvT hZ (hw _ (List.mem_of_getElem? (i := 87) rfl))) (notFace_of_selects (args := #[]) (mvT hZ (hw _ (List.mem_of_getElem? (i := 89) rfl)))) (mvT hZ (hw _ (List.mem_of_getElem? (i := 89) rfl))) (mvT hZ (hw _ (List.mem_of_getElem? (i := 88) rfl))) (by decide) (backOf (W := 0) (rm15 l Z a0 hw [] ob15 b_25 kb21 r_1 r_2 T25.heap n0 O28 p25_2 p25_3) hZ (hw _ (List.mem_of_getElem? (i := 90) rfl)) (hw _ (List.mem_of_getElem? (i := 7) rfl)) (by decide) (by decide)) q36a q36c (g := (mkF m 150 #[.val (Value.int p1), .val (Value.int p2), .val (Value.int p3), .val (Value.int p4), .val (Value.int r_1), .val (Value.int r_2), .val (Value.ref ob3), .val (Value.ref ob15), .val (Value.int (1 : Int32)), .val (Value.int bb), .val (Value.int (2 : Int32)), .val (Value.int (1 : Int32)), .val (Value.int (2 : Int32))] [(Value.ref ob15)])) rfl (by rw [hml]; rfl) (Steps.refl _) (argsL := []) (rest := []) (lenOf own_pd9 rfl) rfl (by show 2 * 0 + _ ≤ _; exact Nat.le_of_eq rfl) (hb hby at_150) (fun _ _ => ⟨rfl, e34, (by decide : 5 + 0 ≤ _), (by decide : 14 + 0 ≤ _)⟩)
        dsimp only [Pt.U, Pt.locs, Pt.cells, Pt.slots] at X36 l36 y36 z36 st36 hQ36
        subst l36 y36 z36
        refine own_Go.by (fun tq kq => st36.trans kq) ?_
        obtain ⟨rfl, N36q, e36⟩ := hQ36
        have N36 := Fr.app N34 N36q
        show own_Go p.tables e below _ (T36.setTop (mkF m 153 #[.val (Value.int p1), .val (Value.int p2), .val (Value.int p3), .val (Value.int p4), .val (Value.int r_1), .val (Value.int r_2), .val (Value.ref ob3), .val (Value.ref ob15), .val (Value.int (1 : Int32)), .val (Value.int bb), .val (Value.int (2 : Int32)), .val (Value.int (1 : Int32)), .val (Value.int (2 : Int32))] [(Value.int (3 : Int32))]))
        refine own_Go.by (fun tq kq => XS.iconst X36.here hx rfl (hb hby at_153) kq) ?_
        show own_Go p.tables e below _ (T36.setTop (mkF m 154 #[.val (Value.int p1), .val (Value.int p2), .val (Value.int p3), .val (Value.int p4), .val (Value.int r_1), .val (Value.int r_2), .val (Value.ref ob3), .val (Value.ref ob15), .val (Value.int (1 : Int32)), .val (Value.int bb), .val (Value.int (2 : Int32)), .val (Value.int (1 : Int32)), .val (Value.int (2 : Int32))] [(Value.int (3 : Int32)), (Value.int (3 : Int32))]))
        refine own_Go.by (fun tq kq => XS.icmpNo X36.here hx rfl (hb hby at_154) rfl (teq (by decide : (3 : Int32) = (3 : Int32))).2 kq) ?_
        show own_Go p.tables e below _ (T36.setTop (mkF m 157 #[.val (Value.int p1), .val (Value.int p2), .val (Value.int p3), .val (Value.int p4), .val (Value.int r_1), .val (Value.int r_2), .val (Value.ref ob3), .val (Value.ref ob15), .val (Value.int (1 : Int32)), .val (Value.int bb), .val (Value.int (2 : Int32)), .val (Value.int (1 : Int32)), .val (Value.int (2 : Int32))] []))
        refine own_Go.by (fun tq kq => XS.iconst X36.here hx rfl (hb hby at_157) kq) ?_
        show own_Go p.tables e below _ (T36.setTop (mkF m 158 #[.val (Value.int p1), .val (Value.int p2), .val (Value.int p3), .val (Value.int p4), .val (Value.int r_1), .val (Value.int r_2), .val (Value.ref ob3), .val (Value.ref ob15), .val (Value.int (1 : Int32)), .val (Value.int bb), .val (Value.int (2 : Int32)), .val (Value.int (1 : Int32)), .val (Value.int (2 : Int32))] [(Value.int (1 : Int32))]))
        refine own_Go.by (fun tq kq => XS.goto X36.here hx rfl (pc0 := 158) (pc' := 162) rfl (hb hby at_158) (by decide) (by decide) kq) ?_
        show own_Go p.tables e below _ (T36.setTop (mkF m 162 #[.val (Value.int p1), .val (Value.int p2), .val (Value.int p3), .val (Value.int p4), .val (Value.int r_1), .val (Value.int r_2), .val (Value.ref ob3), .val (Value.ref ob15), .val (Value.int (1 : Int32)), .val (Value.int bb), .val (Value.int (2 : Int32)), .val (Value.int (1 : Int32)), .val (Value.int (2 : Int32))] [(Value.int (1 : Int32))]))
        obtain ⟨fs, hr, hrun, hended, hW, hsame⟩ := X36.leave (v := some (Value.int (nar .boolean (1 : Int32)))) (fun h => by rw [Bd.returns] at h; cases h)
        refine own_Go.fin (retN X36 hx (t := .boolean) Bd.returns (by simp) (hb hby at_162) hr) ⟨hrun, hended, _, _, rfl, ?_, ⟨_, rfl⟩, hW, hsame.mono (by decide) (by decide)⟩
        show Q0 Z p1 p2 p3 p4 zc aC aU aI h0 n0 _ T36.heap _
        rw [e36]
        exact ⟨rfl, N36, K28⟩
      ·
        refine own_Go.by (fun tq kq => XS.icmpYes X34.here hx rfl (pc0 := 80) (pc' := 87) rfl (hb hby at_80) rfl (feq hc80_35).2 (by decide) (by decide) kq) ?_
        show own_Go p.tables e below _ (T34.setTop (mkF m 87 #[.val (Value.int p1), .val (Value.int p2), .val (Value.int p3), .val (Value.int p4), .val (Value.int r_1), .val (Value.int r_2), .val (Value.ref ob3), .val (Value.ref ob15), .val (Value.int (1 : Int32)), .val (Value.int bb), .val (Value.int (2 : Int32)), .unset, .unset] []))
        refine own_Go.by (fun tq kq => XS.iconst X34.here hx rfl (hb hby at_87) kq) ?_
        show own_Go p.tables e below _ (T34.setTop (mkF m 88 #[.val (Value.int p1), .val (Value.int p2), .val (Value.int p3), .val (Value.int p4), .val (Value.int r_1), .val (Value.int r_2), .val (Value.ref ob3), .val (Value.ref ob15), .val (Value.int (1 : Int32)), .val (Value.int bb), .val (Value.int (2 : Int32)), .unset, .unset] [(Value.int (0 : Int32))]))
        refine own_Go.by (fun tq kq => XS.istore X34.here hx rfl (hb hby at_88) rfl (l' := #[.val (Value.int p1), .val (Value.int p2), .val (Value.int p3), .val (Value.int p4), .val (Value.int r_1), .val (Value.int r_2), .val (Value.ref ob3), .val (Value.ref ob15), .val (Value.int (1 : Int32)), .val (Value.int bb), .val (Value.int (2 : Int32)), .val (Value.int (0 : Int32)), .unset]) rfl kq) ?_
        show own_Go p.tables e below _ (T34.setTop (mkF m 90 #[.val (Value.int p1), .val (Value.int p2), .val (Value.int p3), .val (Value.int p4), .val (Value.int r_1), .val (Value.int r_2), .val (Value.ref ob3), .val (Value.ref ob15), .val (Value.int (1 : Int32)), .val (Value.int bb), .val (Value.int (2 : Int32)), .val (Value.int (0 : Int32)), .unset] []))
        refine own_Go.by (fun tq kq => XS.iload X34.here hx rfl (hb hby at_90) rfl kq) ?_
        show own_Go p.tables e below _ (T34.setTop (mkF m 92 #[.val (Value.int p1), .val (Value.int p2), .val (Value.int p3), .val (Value.int p4), .val (Value.int r_1), .val (Value.int r_2), .val (Value.ref ob3), .val (Value.ref ob15), .val (Value.int (1 : Int32)), .val (Value.int bb), .val (Value.int (2 : Int32)), .val (Value.int (0 : Int32)), .unset] [(Value.int (1 : Int32))]))
        refine own_Go.by (fun tq kq => XS.ifYes X34.here hx rfl (pc0 := 92) (pc' := 102) rfl (hb hby at_92) rfl ((if0 _ _).trans (feq (by decide : ¬ ((1 : Int32) = (0 : Int32)))).2) (by decide) (by decide) kq) ?_
        show own_Go p.tables e below _ (T34.setTop (mkF m 102 #[.val (Value.int p1), .val (Value.int p2), .val (Value.int p3), .val (Value.int p4), .val (Value.int r_1), .val (Value.int r_2), .val (Value.ref ob3), .val (Value.ref ob15), .val (Value.int (1 : Int32)), .val (Value.int bb), .val (Value.int (2 : Int32)), .val (Value.int (0 : Int32)), .unset] []))
        refine own_Go.by (fun tq kq => XS.iload X34.here hx rfl (hb hby at_102) rfl kq) ?_
        show own_Go p.tables e below _ (T34.setTop (mkF m 104 #[.val (Value.int p1), .val (Value.int p2), .val (Value.int p3), .val (Value.int p4), .val (Value.int r_1), .val (Value.int r_2), .val (Value.ref ob3), .val (Value.ref ob15), .val (Value.int (1 : Int32)), .val (Value.int bb), .val (Value.int (2 : Int32)), .val (Value.int (0 : Int32)), .unset] [(Value.int (1 : Int32))]))
        refine own_Go.by (fun tq kq => XS.iconst X34.here hx rfl (hb hby at_104) kq) ?_
        show own_Go p.tables e below _ (T34.setTop (mkF m 105 #[.val (Value.int p1), .val (Value.int p2), .val (Value.int p3), .val (Value.int p4), .val (Value.int r_1), .val (Value.int r_2), .val (Value.ref ob3), .val (Value.ref ob15), .val (Value.int (1 : Int32)), .val (Value.int bb), .val (Value.int (2 : Int32)), .val (Value.int (0 : Int32)), .unset] [(Value.int (1 : Int32)), (Value.int (1 : Int32))]))
        refine own_Go.by (fun tq kq => XS.icmpNo X34.here hx rfl (hb hby at_105) rfl (teq (by decide : (1 : Int32) = (1 : Int32))).2 kq) ?_
        show own_Go p.tables e below _ (T34.setTop (mkF m 108 #[.val (Value.int p1), .val (Value.int p2), .val (Value.int p3), .val (Value.int p4), .val (Value.int r_1), .val (Value.int r_2), .val (Value.ref ob3), .val (Value.ref ob15), .val (Value.int (1 : Int32)), .val (Value.int bb), .val (Value.int (2 : Int32)), .val (Value.int (0 : Int32)), .unset] []))
        refine own_Go.by (fun tq kq => XS.iload X34.here hx rfl (hb hby at_108) rfl kq) ?_
        show own_Go p.tables e below _ (T34.setTop (mkF m 110 #[.val (Value.int p1), .val (Value.int p2), .val (Value.int p3), .val (Value.int p4), .val (Value.int r_1), .val (Value.int r_2), .val (Value.ref ob3), .val (Value.ref ob15), .val (Value.int (1 : Int32)), .val (Value.int bb), .val (Value.int (2 : Int32)), .val (Value.int (0 : Int32)), .unset] [(Value.int bb)]))
        refine own_Go.by (fun tq kq => XS.iload X34.here hx rfl (hb hby at_110) rfl kq) ?_
        show own_Go p.tables e below _ (T34.setTop (mkF m 112 #[.val (Value.int p1), .val (Value.int p2), .val (Value.int p3), .val (Value.int p4), .val (Value.int r_1), .val (Value.int r_2), .val (Value.ref ob3), .val (Value.ref ob15), .val (Value.int (1 : Int32)), .val (Value.int bb), .val (Value.int (2 : Int32)), .val (Value.int (0 : Int32)), .unset] [(Value.int r_1), (Value.int bb)]))
        refine own_Go.by (fun tq kq => XS.icmpNo X34.here hx rfl (hb hby at_112) rfl (teq hq1).2 kq) ?_
        show own_Go p.tables e below _ (T34.setTop (mkF m 115 #[.val (Value.int p1), .val (Value.int p2), .val (Value.int p3), .val (Value.int p4), .val (Value.int r_1), .val (Value.int r_2), .val (Value.ref ob3), .val (Value.ref ob15), .val (Value.int (1 : Int32)), .val (Value.int bb), .val (Value.int (2 : Int32)), .val (Value.int (0 : Int32)), .unset] []))
        refine own_Go.by (fun tq kq => XS.iconst X34.here hx rfl (hb hby at_115) kq) ?_
        show own_Go p.tables e below _ (T34.setTop (mkF m 116 #[.val (Value.int p1), .val (Value.int p2), .val (Value.int p3), .val (Value.int p4), .val (Value.int r_1), .val (Value.int r_2), .val (Value.ref ob3), .val (Value.ref ob15), .val (Value.int (1 : Int32)), .val (Value.int bb), .val (Value.int (2 : Int32)), .val (Value.int (0 : Int32)), .unset] [(Value.int (2 : Int32))]))
        refine own_Go.by (fun tq kq => XS.goto X34.here hx rfl (pc0 := 116) (pc' := 121) rfl (hb hby at_116) (by decide) (by decide) kq) ?_
        show own_Go p.tables e below _ (T34.setTop (mkF m 121 #[.val (Value.int p1), .val (Value.int p2), .val (Value.int p3), .val (Value.int p4), .val (Value.int r_1), .val (Value.int r_2), .val (Value.ref ob3), .val (Value.ref ob15), .val (Value.int (1 : Int32)), .val (Value.int bb), .val (Value.int (2 : Int32)), .val (Value.int (0 : Int32)), .unset] [(Value.int (2 : Int32))]))
        refine own_Go.by (fun tq kq => XS.istore X34.here hx rfl (hb hby at_121) rfl (l' := #[.val (Value.int p1), .val (Value.int p2), .val (Value.int p3), .val (Value.int p4), .val (Value.int r_1), .val (Value.int r_2), .val (Value.ref ob3), .val (Value.ref ob15), .val (Value.int (1 : Int32)), .val (Value.int bb), .val (Value.int (2 : Int32)), .val (Value.int (0 : Int32)), .val (Value.int (2 : Int32))]) rfl kq) ?_
        show own_Go p.tables e below _ (T34.setTop (mkF m 123 #[.val (Value.int p1), .val (Value.int p2), .val (Value.int p3), .val (Value.int p4), .val (Value.int r_1), .val (Value.int r_2), .val (Value.ref ob3), .val (Value.ref ob15), .val (Value.int (1 : Int32)), .val (Value.int bb), .val (Value.int (2 : Int32)), .val (Value.int (0 : Int32)), .val (Value.int (2 : Int32))] []))
        refine own_Go.by (fun tq kq => XS.goto X34.here hx rfl (pc0 := 123) (pc' := 141) rfl (hb hby at_123) (by decide) (by decide) kq) ?_
        show own_Go p.tables e below _ (T34.setTop (mkF m 141 #[.val (Value.int p1), .val (Value.int p2), .val (Value.int p3), .val (Value.int p4), .val (Value.int r_1), .val (Value.int r_2), .val (Value.ref ob3), .val (Value.ref ob15), .val (Value.int (1 : Int32)), .val (Value.int bb), .val (Value.int (2 : Int32)), .val (Value.int (0 : Int32)), .val (Value.int (2 : Int32))] []))
        refine own_Go.by (fun tq kq => XS.iload X34.here hx rfl (hb hby at_141) rfl kq) ?_
        show own_Go p.tables e below _ (T34.setTop (mkF m 143 #[.val (Value.int p1), .val (Value.int p2), .val (Value.int p3), .val (Value.int p4), .val (Value.int r_1), .val (Value.int r_2), .val (Value.ref ob3), .val (Value.ref ob15), .val (Value.int (1 : Int32)), .val (Value.int bb), .val (Value.int (2 : Int32)), .val (Value.int (0 : Int32)), .val (Value.int (2 : Int32))] [(Value.int (2 : Int32))]))
        refine own_Go.by (fun tq kq => XS.iload X34.here hx rfl (hb hby at_143) rfl kq) ?_
        show own_Go p.tables e below _ (T34.setTop (mkF m 145 #[.val (Value.int p1), .val (Value.int p2), .val (Value.int p3), .val (Value.int p4), .val (Value.int r_1), .val (Value.int r_2), .val (Value.ref ob3), .val (Value.ref ob15), .val (Value.int (1 : Int32)), .val (Value.int bb), .val (Value.int (2 : Int32)), .val (Value.int (0 : Int32)), .val (Value.int (2 : Int32))] [(Value.int (2 : Int32)), (Value.int (2 : Int32))]))
        refine own_Go.by (fun tq kq => XS.icmpNo X34.here hx rfl (hb hby at_145) rfl (teq (by decide : (2 : Int32) = (2 : Int32))).2 kq) ?_
        show own_Go p.tables e below _ (T34.setTop (mkF m 148 #[.val (Value.int p1), .val (Value.int p2), .val (Value.int p3), .val (Value.int p4), .val (Value.int r_1), .val (Value.int r_2), .val (Value.ref ob3), .val (Value.ref ob15), .val (Value.int (1 : Int32)), .val (Value.int bb), .val (Value.int (2 : Int32)), .val (Value.int (0 : Int32)), .val (Value.int (2 : Int32))] []))
        refine own_Go.by (fun tq kq => XS.aload X34.here hx rfl (hb hby at_148) rfl rfl kq) ?_
        show own_Go p.tables e below _ (T34.setTop (mkF m 150 #[.val (Value.int p1), .val (Value.int p2), .val (Value.int p3), .val (Value.int p4), .val (Value.int r_1), .val (Value.int r_2), .val (Value.ref ob3), .val (Value.ref ob15), .val (Value.int (1 : Int32)), .val (Value.int bb), .val (Value.int (2 : Int32)), .val (Value.int (0 : Int32)), .val (Value.int (2 : Int32))] [(Value.ref ob15)]))
        obtain ⟨cq37, kq37, q37a, q37b, q37c⟩ := isOf hZ e34 p25_1
        obtain ⟨_, _, ⟨T37, L37, k37, n37⟩, -, X37, ⟨Lc37, hQ37, l37, y37, z37⟩, st37⟩ := X34.virtualBack hx (y := (⟨"com/example/plain_bastion/plainbastion/ssh/Mark", "length", "()I"⟩ : MethodName)) (z := (⟨"com/example/plain_bastion/plainbastion/ssh/Mark", "length", "()I"⟩ : MethodName)) hown (mvT hZ (hw _ (List.mem_of_getElem? (i := 86) rfl))) (mvT hZ (hw _ (List.mem_of_getElem? (i := 87) rfl))) (notFace_of_selects (args := #[]) (mvT hZ (hw _ (List.mem_of_getElem? (i := 89) rfl)))) (mvT hZ (hw _ (List.mem_of_getElem? (i := 89) rfl))) (mvT hZ (hw _ (List.mem_of_getElem? (i := 88) rfl))) (by decide) (backOf (W := 0) (rm15 l Z a0 hw [] ob15 b_25 kb21 r_1 r_2 T25.heap n0 O28 p25_2 p25_3) hZ (hw _ (List.mem_of_getElem? (i := 90) rfl)) (hw _ (List.mem_of_getElem? (i := 7) rfl)) (by decide) (by decide)) q37a q37c (g := (mkF m 150 #[.val (Value.int p1), .val (Value.int p2), .val (Value.int p3), .val (Value.int p4), .val (Value.int r_1), .val (Value.int r_2), .val (Value.ref ob3), .val (Value.ref ob15), .val (Value.int (1 : Int32)), .val (Value.int bb), .val (Value.int (2 : Int32)), .val (Value.int (0 : Int32)), .val (Value.int (2 : Int32))] [(Value.ref ob15)])) rfl (by rw [hml]; rfl) (Steps.refl _) (argsL := []) (rest := []) (lenOf own_pd9 rfl) rfl (by show 2 * 0 + _ ≤ _; exact Nat.le_of_eq rfl) (hb hby at_150) (fun _ _ => ⟨rfl, e34, (by decide : 5 + 0 ≤ _), (by decide : 14 + 0 ≤ _)⟩)
        dsimp only [Pt.U, Pt.locs, Pt.cells, Pt.slots] at X37 l37 y37 z37 st37 hQ37
        subst l37 y37 z37
        refine own_Go.by (fun tq kq => st37.trans kq) ?_
        obtain ⟨rfl, N37q, e37⟩ := hQ37
        have N37 := Fr.app N34 N37q
        show own_Go p.tables e below _ (T37.setTop (mkF m 153 #[.val (Value.int p1), .val (Value.int p2), .val (Value.int p3), .val (Value.int p4), .val (Value.int r_1), .val (Value.int r_2), .val (Value.ref ob3), .val (Value.ref ob15), .val (Value.int (1 : Int32)), .val (Value.int bb), .val (Value.int (2 : Int32)), .val (Value.int (0 : Int32)), .val (Value.int (2 : Int32))] [(Value.int (3 : Int32))]))
        refine own_Go.by (fun tq kq => XS.iconst X37.here hx rfl (hb hby at_153) kq) ?_
        show own_Go p.tables e below _ (T37.setTop (mkF m 154 #[.val (Value.int p1), .val (Value.int p2), .val (Value.int p3), .val (Value.int p4), .val (Value.int r_1), .val (Value.int r_2), .val (Value.ref ob3), .val (Value.ref ob15), .val (Value.int (1 : Int32)), .val (Value.int bb), .val (Value.int (2 : Int32)), .val (Value.int (0 : Int32)), .val (Value.int (2 : Int32))] [(Value.int (3 : Int32)), (Value.int (3 : Int32))]))
        refine own_Go.by (fun tq kq => XS.icmpNo X37.here hx rfl (hb hby at_154) rfl (teq (by decide : (3 : Int32) = (3 : Int32))).2 kq) ?_
        show own_Go p.tables e below _ (T37.setTop (mkF m 157 #[.val (Value.int p1), .val (Value.int p2), .val (Value.int p3), .val (Value.int p4), .val (Value.int r_1), .val (Value.int r_2), .val (Value.ref ob3), .val (Value.ref ob15), .val (Value.int (1 : Int32)), .val (Value.int bb), .val (Value.int (2 : Int32)), .val (Value.int (0 : Int32)), .val (Value.int (2 : Int32))] []))
        refine own_Go.by (fun tq kq => XS.iconst X37.here hx rfl (hb hby at_157) kq) ?_
        show own_Go p.tables e below _ (T37.setTop (mkF m 158 #[.val (Value.int p1), .val (Value.int p2), .val (Value.int p3), .val (Value.int p4), .val (Value.int r_1), .val (Value.int r_2), .val (Value.ref ob3), .val (Value.ref ob15), .val (Value.int (1 : Int32)), .val (Value.int bb), .val (Value.int (2 : Int32)), .val (Value.int (0 : Int32)), .val (Value.int (2 : Int32))] [(Value.int (1 : Int32))]))
        refine own_Go.by (fun tq kq => XS.goto X37.here hx rfl (pc0 := 158) (pc' := 162) rfl (hb hby at_158) (by decide) (by decide) kq) ?_
        show own_Go p.tables e below _ (T37.setTop (mkF m 162 #[.val (Value.int p1), .val (Value.int p2), .val (Value.int p3), .val (Value.int p4), .val (Value.int r_1), .val (Value.int r_2), .val (Value.ref ob3), .val (Value.ref ob15), .val (Value.int (1 : Int32)), .val (Value.int bb), .val (Value.int (2 : Int32)), .val (Value.int (0 : Int32)), .val (Value.int (2 : Int32))] [(Value.int (1 : Int32))]))
        obtain ⟨fs, hr, hrun, hended, hW, hsame⟩ := X37.leave (v := some (Value.int (nar .boolean (1 : Int32)))) (fun h => by rw [Bd.returns] at h; cases h)
        refine own_Go.fin (retN X37 hx (t := .boolean) Bd.returns (by simp) (hb hby at_162) hr) ⟨hrun, hended, _, _, rfl, ?_, ⟨_, rfl⟩, hW, hsame.mono (by decide) (by decide)⟩
        show Q0 Z p1 p2 p3 p4 zc aC aU aI h0 n0 _ T37.heap _
        rw [e37]
        exact ⟨rfl, N37, K28⟩
    ·
      by_cases hq2 : bb = (27 : Int32)
      ·
        show own_Go p.tables e below _ (T25.setTop (mkF m 65 #[.val (Value.int p1), .val (Value.int p2), .val (Value.int p3), .val (Value.int p4), .val (Value.int r_1), .val (Value.int r_2), .val (Value.ref ob3), .val (Value.ref ob15), .val (Value.int (1 : Int32)), .val (Value.int bb), .unset, .unset, .unset] []))
        refine own_Go.by (fun tq kq => XS.aload X25.here hx rfl (hb hby at_65) rfl rfl kq) ?_
        show own_Go p.tables e below _ (T25.setTop (mkF m 67 #[.val (Value.int p1), .val (Value.int p2), .val (Value.int p3), .val (Value.int p4), .val (Value.int r_1), .val (Value.int r_2), .val (Value.ref ob3), .val (Value.ref ob15), .val (Value.int (1 : Int32)), .val (Value.int bb), .unset, .unset, .unset] [(Value.ref ob15)]))
        refine own_Go.by (fun tq kq => XS.iload X25.here hx rfl (hb hby at_67) rfl kq) ?_
        show own_Go p.tables e below _ (T25.setTop (mkF m 69 #[.val (Value.int p1), .val (Value.int p2), .val (Value.int p3), .val (Value.int p4), .val (Value.int r_1), .val (Value.int r_2), .val (Value.ref ob3), .val (Value.ref ob15), .val (Value.int (1 : Int32)), .val (Value.int bb), .unset, .unset, .unset] [(Value.int (1 : Int32)), (Value.ref ob15)]))
        refine own_Go.by (fun tq kq => XS.iload X25.here hx rfl (hb hby at_69) rfl kq) ?_
        show own_Go p.tables e below _ (T25.setTop (mkF m 71 #[.val (Value.int p1), .val (Value.int p2), .val (Value.int p3), .val (Value.int p4), .val (Value.int r_1), .val (Value.int r_2), .val (Value.ref ob3), .val (Value.ref ob15), .val (Value.int (1 : Int32)), .val (Value.int bb), .unset, .unset, .unset] [(Value.int bb), (Value.int (1 : Int32)), (Value.ref ob15)]))
        obtain ⟨cq38, kq38, q38a, q38b, q38c⟩ := isOf hZ rfl p25_1
        obtain ⟨_, _, ⟨T38, L38, k38, n38⟩, -, X38, ⟨Lc38, hQ38, l38, y38, z38⟩, st38⟩ := X25.virtualBack hx (y := (⟨"com/example/plain_bastion/plainbastion/ssh/Mark", "matched", "(IB)I"⟩ : MethodName)) (z := (⟨"com/example/plain_bastion/plainbastion/ssh/Mark", "matched", "(IB)I"⟩ : MethodName)) hown (mvT hZ (hw _ (List.mem_of_getElem? (i := 81) rfl))) (mvT hZ (hw _ (List.mem_of_getElem? (i := 82) rfl))) (notFace_of_selects (args := #[]) (mvT hZ (hw _ (List.mem_of_getElem? (i := 84) rfl)))) (mvT hZ (hw _ (List.mem_of_getElem? (i := 84) rfl))) (mvT hZ (hw _ (List.mem_of_getElem? (i := 83) rfl))) (by decide) (backOf (W := 0) (rm14_1_ft l Z a0 hw [] ob15 b_25 kb21 r_1 r_2 bb T25.heap n0 O28 p25_2 p25_3 hq1 hq2) hZ (hw _ (List.mem_of_getElem? (i := 85) rfl)) (hw _ (List.mem_of_getElem? (i := 7) rfl)) (by decide) (by decide)) q38a q38c (g := (mkF m 71 #[.val (Value.int p1), .val (Value.int p2), .val (Value.int p3), .val (Value.int p4), .val (Value.int r_1), .val (Value.int r_2), .val (Value.ref ob3), .val (Value.ref ob15), .val (Value.int (1 : Int32)), .val (Value.int bb), .unset, .unset, .unset] [(Value.int bb), (Value.int (1 : Int32)), (Value.ref ob15)])) rfl (by rw [hml]; rfl) (Steps.refl _) (argsL := [(Value.int (1 : Int32)), (Value.int bb)]) (rest := []) (lenOf own_pd8 rfl) rfl (by show 2 * 0 + _ ≤ _; exact Nat.le_of_eq rfl) (hb hby at_71) (fun _ _ => ⟨rfl, rfl, (by decide : 5 + 0 ≤ _), (by decide : 14 + 0 ≤ _)⟩)
        dsimp only [Pt.U, Pt.locs, Pt.cells, Pt.slots] at X38 l38 y38 z38 st38 hQ38
        subst l38 y38 z38
        refine own_Go.by (fun tq kq => st38.trans kq) ?_
        obtain ⟨rfl, N38q, e38⟩ := hQ38
        have N38 := Fr.app N25 N38q
        show own_Go p.tables e below _ (T38.setTop (mkF m 74 #[.val (Value.int p1), .val (Value.int p2), .val (Value.int p3), .val (Value.int p4), .val (Value.int r_1), .val (Value.int r_2), .val (Value.ref ob3), .val (Value.ref ob15), .val (Value.int (1 : Int32)), .val (Value.int bb), .unset, .unset, .unset] [(Value.int (1 : Int32))]))
        refine own_Go.by (fun tq kq => XS.istore X38.here hx rfl (hb hby at_74) rfl (l' := #[.val (Value.int p1), .val (Value.int p2), .val (Value.int p3), .val (Value.int p4), .val (Value.int r_1), .val (Value.int r_2), .val (Value.ref ob3), .val (Value.ref ob15), .val (Value.int (1 : Int32)), .val (Value.int bb), .val (Value.int (1 : Int32)), .unset, .unset]) rfl kq) ?_
        show own_Go p.tables e below _ (T38.setTop (mkF m 76 #[.val (Value.int p1), .val (Value.int p2), .val (Value.int p3), .val (Value.int p4), .val (Value.int r_1), .val (Value.int r_2), .val (Value.ref ob3), .val (Value.ref ob15), .val (Value.int (1 : Int32)), .val (Value.int bb), .val (Value.int (1 : Int32)), .unset, .unset] []))
        refine own_Go.by (fun tq kq => XS.iload X38.here hx rfl (hb hby at_76) rfl kq) ?_
        show own_Go p.tables e below _ (T38.setTop (mkF m 78 #[.val (Value.int p1), .val (Value.int p2), .val (Value.int p3), .val (Value.int p4), .val (Value.int r_1), .val (Value.int r_2), .val (Value.ref ob3), .val (Value.ref ob15), .val (Value.int (1 : Int32)), .val (Value.int bb), .val (Value.int (1 : Int32)), .unset, .unset] [(Value.int bb)]))
        refine own_Go.by (fun tq kq => XS.bipush X38.here hx rfl (hb hby at_78) kq) ?_
        show own_Go p.tables e below _ (T38.setTop (mkF m 80 #[.val (Value.int p1), .val (Value.int p2), .val (Value.int p3), .val (Value.int p4), .val (Value.int r_1), .val (Value.int r_2), .val (Value.ref ob3), .val (Value.ref ob15), .val (Value.int (1 : Int32)), .val (Value.int bb), .val (Value.int (1 : Int32)), .unset, .unset] [(Value.int (27 : Int32)), (Value.int bb)]))
        refine own_Go.by (fun tq kq => XS.icmpNo X38.here hx rfl (hb hby at_80) rfl (teq hq2).2 kq) ?_
        show own_Go p.tables e below _ (T38.setTop (mkF m 83 #[.val (Value.int p1), .val (Value.int p2), .val (Value.int p3), .val (Value.int p4), .val (Value.int r_1), .val (Value.int r_2), .val (Value.ref ob3), .val (Value.ref ob15), .val (Value.int (1 : Int32)), .val (Value.int bb), .val (Value.int (1 : Int32)), .unset, .unset] []))
        refine own_Go.by (fun tq kq => XS.iconst X38.here hx rfl (hb hby at_83) kq) ?_
        show own_Go p.tables e below _ (T38.setTop (mkF m 84 #[.val (Value.int p1), .val (Value.int p2), .val (Value.int p3), .val (Value.int p4), .val (Value.int r_1), .val (Value.int r_2), .val (Value.ref ob3), .val (Value.ref ob15), .val (Value.int (1 : Int32)), .val (Value.int bb), .val (Value.int (1 : Int32)), .unset, .unset] [(Value.int (1 : Int32))]))
        refine own_Go.by (fun tq kq => XS.goto X38.here hx rfl (pc0 := 84) (pc' := 88) rfl (hb hby at_84) (by decide) (by decide) kq) ?_
        show own_Go p.tables e below _ (T38.setTop (mkF m 88 #[.val (Value.int p1), .val (Value.int p2), .val (Value.int p3), .val (Value.int p4), .val (Value.int r_1), .val (Value.int r_2), .val (Value.ref ob3), .val (Value.ref ob15), .val (Value.int (1 : Int32)), .val (Value.int bb), .val (Value.int (1 : Int32)), .unset, .unset] [(Value.int (1 : Int32))]))
        refine own_Go.by (fun tq kq => XS.istore X38.here hx rfl (hb hby at_88) rfl (l' := #[.val (Value.int p1), .val (Value.int p2), .val (Value.int p3), .val (Value.int p4), .val (Value.int r_1), .val (Value.int r_2), .val (Value.ref ob3), .val (Value.ref ob15), .val (Value.int (1 : Int32)), .val (Value.int bb), .val (Value.int (1 : Int32)), .val (Value.int (1 : Int32)), .unset]) rfl kq) ?_
        show own_Go p.tables e below _ (T38.setTop (mkF m 90 #[.val (Value.int p1), .val (Value.int p2), .val (Value.int p3), .val (Value.int p4), .val (Value.int r_1), .val (Value.int r_2), .val (Value.ref ob3), .val (Value.ref ob15), .val (Value.int (1 : Int32)), .val (Value.int bb), .val (Value.int (1 : Int32)), .val (Value.int (1 : Int32)), .unset] []))
        refine own_Go.by (fun tq kq => XS.iload X38.here hx rfl (hb hby at_90) rfl kq) ?_
        show own_Go p.tables e below _ (T38.setTop (mkF m 92 #[.val (Value.int p1), .val (Value.int p2), .val (Value.int p3), .val (Value.int p4), .val (Value.int r_1), .val (Value.int r_2), .val (Value.ref ob3), .val (Value.ref ob15), .val (Value.int (1 : Int32)), .val (Value.int bb), .val (Value.int (1 : Int32)), .val (Value.int (1 : Int32)), .unset] [(Value.int (1 : Int32))]))
        refine own_Go.by (fun tq kq => XS.ifYes X38.here hx rfl (pc0 := 92) (pc' := 102) rfl (hb hby at_92) rfl ((if0 _ _).trans (feq (by decide : ¬ ((1 : Int32) = (0 : Int32)))).2) (by decide) (by decide) kq) ?_
        show own_Go p.tables e below _ (T38.setTop (mkF m 102 #[.val (Value.int p1), .val (Value.int p2), .val (Value.int p3), .val (Value.int p4), .val (Value.int r_1), .val (Value.int r_2), .val (Value.ref ob3), .val (Value.ref ob15), .val (Value.int (1 : Int32)), .val (Value.int bb), .val (Value.int (1 : Int32)), .val (Value.int (1 : Int32)), .unset] []))
        refine own_Go.by (fun tq kq => XS.iload X38.here hx rfl (hb hby at_102) rfl kq) ?_
        show own_Go p.tables e below _ (T38.setTop (mkF m 104 #[.val (Value.int p1), .val (Value.int p2), .val (Value.int p3), .val (Value.int p4), .val (Value.int r_1), .val (Value.int r_2), .val (Value.ref ob3), .val (Value.ref ob15), .val (Value.int (1 : Int32)), .val (Value.int bb), .val (Value.int (1 : Int32)), .val (Value.int (1 : Int32)), .unset] [(Value.int (1 : Int32))]))
        refine own_Go.by (fun tq kq => XS.iconst X38.here hx rfl (hb hby at_104) kq) ?_
        show own_Go p.tables e below _ (T38.setTop (mkF m 105 #[.val (Value.int p1), .val (Value.int p2), .val (Value.int p3), .val (Value.int p4), .val (Value.int r_1), .val (Value.int r_2), .val (Value.ref ob3), .val (Value.ref ob15), .val (Value.int (1 : Int32)), .val (Value.int bb), .val (Value.int (1 : Int32)), .val (Value.int (1 : Int32)), .unset] [(Value.int (1 : Int32)), (Value.int (1 : Int32))]))
        refine own_Go.by (fun tq kq => XS.icmpNo X38.here hx rfl (hb hby at_105) rfl (teq (by decide : (1 : Int32) = (1 : Int32))).2 kq) ?_
        show own_Go p.tables e below _ (T38.setTop (mkF m 108 #[.val (Value.int p1), .val (Value.int p2), .val (Value.int p3), .val (Value.int p4), .val (Value.int r_1), .val (Value.int r_2), .val (Value.ref ob3), .val (Value.ref ob15), .val (Value.int (1 : Int32)), .val (Value.int bb), .val (Value.int (1 : Int32)), .val (Value.int (1 : Int32)), .unset] []))
        refine own_Go.by (fun tq kq => XS.iload X38.here hx rfl (hb hby at_108) rfl kq) ?_
        show own_Go p.tables e below _ (T38.setTop (mkF m 110 #[.val (Value.int p1), .val (Value.int p2), .val (Value.int p3), .val (Value.int p4), .val (Value.int r_1), .val (Value.int r_2), .val (Value.ref ob3), .val (Value.ref ob15), .val (Value.int (1 : Int32)), .val (Value.int bb), .val (Value.int (1 : Int32)), .val (Value.int (1 : Int32)), .unset] [(Value.int bb)]))
        refine own_Go.by (fun tq kq => XS.iload X38.here hx rfl (hb hby at_110) rfl kq) ?_
        show own_Go p.tables e below _ (T38.setTop (mkF m 112 #[.val (Value.int p1), .val (Value.int p2), .val (Value.int p3), .val (Value.int p4), .val (Value.int r_1), .val (Value.int r_2), .val (Value.ref ob3), .val (Value.ref ob15), .val (Value.int (1 : Int32)), .val (Value.int bb), .val (Value.int (1 : Int32)), .val (Value.int (1 : Int32)), .unset] [(Value.int r_1), (Value.int bb)]))
        refine own_Go.by (fun tq kq => XS.icmpYes X38.here hx rfl (pc0 := 112) (pc' := 119) rfl (hb hby at_112) rfl (feq hq1).2 (by decide) (by decide) kq) ?_
        show own_Go p.tables e below _ (T38.setTop (mkF m 119 #[.val (Value.int p1), .val (Value.int p2), .val (Value.int p3), .val (Value.int p4), .val (Value.int r_1), .val (Value.int r_2), .val (Value.ref ob3), .val (Value.ref ob15), .val (Value.int (1 : Int32)), .val (Value.int bb), .val (Value.int (1 : Int32)), .val (Value.int (1 : Int32)), .unset] []))
        refine own_Go.by (fun tq kq => XS.iload X38.here hx rfl (hb hby at_119) rfl kq) ?_
        show own_Go p.tables e below _ (T38.setTop (mkF m 121 #[.val (Value.int p1), .val (Value.int p2), .val (Value.int p3), .val (Value.int p4), .val (Value.int r_1), .val (Value.int r_2), .val (Value.ref ob3), .val (Value.ref ob15), .val (Value.int (1 : Int32)), .val (Value.int bb), .val (Value.int (1 : Int32)), .val (Value.int (1 : Int32)), .unset] [(Value.int (1 : Int32))]))
        refine own_Go.by (fun tq kq => XS.istore X38.here hx rfl (hb hby at_121) rfl (l' := #[.val (Value.int p1), .val (Value.int p2), .val (Value.int p3), .val (Value.int p4), .val (Value.int r_1), .val (Value.int r_2), .val (Value.ref ob3), .val (Value.ref ob15), .val (Value.int (1 : Int32)), .val (Value.int bb), .val (Value.int (1 : Int32)), .val (Value.int (1 : Int32)), .val (Value.int (1 : Int32))]) rfl kq) ?_
        show own_Go p.tables e below _ (T38.setTop (mkF m 123 #[.val (Value.int p1), .val (Value.int p2), .val (Value.int p3), .val (Value.int p4), .val (Value.int r_1), .val (Value.int r_2), .val (Value.ref ob3), .val (Value.ref ob15), .val (Value.int (1 : Int32)), .val (Value.int bb), .val (Value.int (1 : Int32)), .val (Value.int (1 : Int32)), .val (Value.int (1 : Int32))] []))
        refine own_Go.by (fun tq kq => XS.goto X38.here hx rfl (pc0 := 123) (pc' := 141) rfl (hb hby at_123) (by decide) (by decide) kq) ?_
        show own_Go p.tables e below _ (T38.setTop (mkF m 141 #[.val (Value.int p1), .val (Value.int p2), .val (Value.int p3), .val (Value.int p4), .val (Value.int r_1), .val (Value.int r_2), .val (Value.ref ob3), .val (Value.ref ob15), .val (Value.int (1 : Int32)), .val (Value.int bb), .val (Value.int (1 : Int32)), .val (Value.int (1 : Int32)), .val (Value.int (1 : Int32))] []))
        refine own_Go.by (fun tq kq => XS.iload X38.here hx rfl (hb hby at_141) rfl kq) ?_
        show own_Go p.tables e below _ (T38.setTop (mkF m 143 #[.val (Value.int p1), .val (Value.int p2), .val (Value.int p3), .val (Value.int p4), .val (Value.int r_1), .val (Value.int r_2), .val (Value.ref ob3), .val (Value.ref ob15), .val (Value.int (1 : Int32)), .val (Value.int bb), .val (Value.int (1 : Int32)), .val (Value.int (1 : Int32)), .val (Value.int (1 : Int32))] [(Value.int (1 : Int32))]))
        refine own_Go.by (fun tq kq => XS.iload X38.here hx rfl (hb hby at_143) rfl kq) ?_
        show own_Go p.tables e below _ (T38.setTop (mkF m 145 #[.val (Value.int p1), .val (Value.int p2), .val (Value.int p3), .val (Value.int p4), .val (Value.int r_1), .val (Value.int r_2), .val (Value.ref ob3), .val (Value.ref ob15), .val (Value.int (1 : Int32)), .val (Value.int bb), .val (Value.int (1 : Int32)), .val (Value.int (1 : Int32)), .val (Value.int (1 : Int32))] [(Value.int (1 : Int32)), (Value.int (1 : Int32))]))
        refine own_Go.by (fun tq kq => XS.icmpNo X38.here hx rfl (hb hby at_145) rfl (teq (by decide : (1 : Int32) = (1 : Int32))).2 kq) ?_
        show own_Go p.tables e below _ (T38.setTop (mkF m 148 #[.val (Value.int p1), .val (Value.int p2), .val (Value.int p3), .val (Value.int p4), .val (Value.int r_1), .val (Value.int r_2), .val (Value.ref ob3), .val (Value.ref ob15), .val (Value.int (1 : Int32)), .val (Value.int bb), .val (Value.int (1 : Int32)), .val (Value.int (1 : Int32)), .val (Value.int (1 : Int32))] []))
        refine own_Go.by (fun tq kq => XS.aload X38.here hx rfl (hb hby at_148) rfl rfl kq) ?_
        show own_Go p.tables e below _ (T38.setTop (mkF m 150 #[.val (Value.int p1), .val (Value.int p2), .val (Value.int p3), .val (Value.int p4), .val (Value.int r_1), .val (Value.int r_2), .val (Value.ref ob3), .val (Value.ref ob15), .val (Value.int (1 : Int32)), .val (Value.int bb), .val (Value.int (1 : Int32)), .val (Value.int (1 : Int32)), .val (Value.int (1 : Int32))] [(Value.ref ob15)]))
        obtain ⟨cq39, kq39, q39a, q39b, q39c⟩ := isOf hZ e38 p25_1
        obtain ⟨_, _, ⟨T39, L39, k39, n39⟩, -, X39, ⟨Lc39, hQ39, l39, y39, z39⟩, st39⟩ := X38.virtualBack hx (y := (⟨"com/example/plain_bastion/plainbastion/ssh/Mark", "length", "()I"⟩ : MethodName)) (z := (⟨"com/example/plain_bastion/plainbastion/ssh/Mark", "length", "()I"⟩ : MethodName)) hown (mvT hZ (hw _ (List.mem_of_getElem? (i := 86) rfl))) (mvT hZ (hw _ (List.mem_of_getElem? (i := 87) rfl))) (notFace_of_selects (args := #[]) (mvT hZ (hw _ (List.mem_of_getElem? (i := 89) rfl)))) (mvT hZ (hw _ (List.mem_of_getElem? (i := 89) rfl))) (mvT hZ (hw _ (List.mem_of_getElem? (i := 88) rfl))) (by decide) (backOf (W := 0) (rm15 l Z a0 hw [] ob15 b_25 kb21 r_1 r_2 T25.heap n0 O28 p25_2 p25_3) hZ (hw _ (List.mem_of_getElem? (i := 90) rfl)) (hw _ (List.mem_of_getElem? (i := 7) rfl)) (by decide) (by decide)) q39a q39c (g := (mkF m 150 #[.val (Value.int p1), .val (Value.int p2), .val (Value.int p3), .val (Value.int p4), .val (Value.int r_1), .val (Value.int r_2), .val (Value.ref ob3), .val (Value.ref ob15), .val (Value.int (1 : Int32)), .val (Value.int bb), .val (Value.int (1 : Int32)), .val (Value.int (1 : Int32)), .val (Value.int (1 : Int32))] [(Value.ref ob15)])) rfl (by rw [hml]; rfl) (Steps.refl _) (argsL := []) (rest := []) (lenOf own_pd9 rfl) rfl (by show 2 * 0 + _ ≤ _; exact Nat.le_of_eq rfl) (hb hby at_150) (fun _ _ => ⟨rfl, e38, (by decide : 5 + 0 ≤ _), (by decide : 14 + 0 ≤ _)⟩)
        dsimp only [Pt.U, Pt.locs, Pt.cells, Pt.slots] at X39 l39 y39 z39 st39 hQ39
        subst l39 y39 z39
        refine own_Go.by (fun tq kq => st39.trans kq) ?_
        obtain ⟨rfl, N39q, e39⟩ := hQ39
        have N39 := Fr.app N38 N39q
        show own_Go p.tables e below _ (T39.setTop (mkF m 153 #[.val (Value.int p1), .val (Value.int p2), .val (Value.int p3), .val (Value.int p4), .val (Value.int r_1), .val (Value.int r_2), .val (Value.ref ob3), .val (Value.ref ob15), .val (Value.int (1 : Int32)), .val (Value.int bb), .val (Value.int (1 : Int32)), .val (Value.int (1 : Int32)), .val (Value.int (1 : Int32))] [(Value.int (3 : Int32))]))
        refine own_Go.by (fun tq kq => XS.iconst X39.here hx rfl (hb hby at_153) kq) ?_
        show own_Go p.tables e below _ (T39.setTop (mkF m 154 #[.val (Value.int p1), .val (Value.int p2), .val (Value.int p3), .val (Value.int p4), .val (Value.int r_1), .val (Value.int r_2), .val (Value.ref ob3), .val (Value.ref ob15), .val (Value.int (1 : Int32)), .val (Value.int bb), .val (Value.int (1 : Int32)), .val (Value.int (1 : Int32)), .val (Value.int (1 : Int32))] [(Value.int (3 : Int32)), (Value.int (3 : Int32))]))
        refine own_Go.by (fun tq kq => XS.icmpNo X39.here hx rfl (hb hby at_154) rfl (teq (by decide : (3 : Int32) = (3 : Int32))).2 kq) ?_
        show own_Go p.tables e below _ (T39.setTop (mkF m 157 #[.val (Value.int p1), .val (Value.int p2), .val (Value.int p3), .val (Value.int p4), .val (Value.int r_1), .val (Value.int r_2), .val (Value.ref ob3), .val (Value.ref ob15), .val (Value.int (1 : Int32)), .val (Value.int bb), .val (Value.int (1 : Int32)), .val (Value.int (1 : Int32)), .val (Value.int (1 : Int32))] []))
        refine own_Go.by (fun tq kq => XS.iconst X39.here hx rfl (hb hby at_157) kq) ?_
        show own_Go p.tables e below _ (T39.setTop (mkF m 158 #[.val (Value.int p1), .val (Value.int p2), .val (Value.int p3), .val (Value.int p4), .val (Value.int r_1), .val (Value.int r_2), .val (Value.ref ob3), .val (Value.ref ob15), .val (Value.int (1 : Int32)), .val (Value.int bb), .val (Value.int (1 : Int32)), .val (Value.int (1 : Int32)), .val (Value.int (1 : Int32))] [(Value.int (1 : Int32))]))
        refine own_Go.by (fun tq kq => XS.goto X39.here hx rfl (pc0 := 158) (pc' := 162) rfl (hb hby at_158) (by decide) (by decide) kq) ?_
        show own_Go p.tables e below _ (T39.setTop (mkF m 162 #[.val (Value.int p1), .val (Value.int p2), .val (Value.int p3), .val (Value.int p4), .val (Value.int r_1), .val (Value.int r_2), .val (Value.ref ob3), .val (Value.ref ob15), .val (Value.int (1 : Int32)), .val (Value.int bb), .val (Value.int (1 : Int32)), .val (Value.int (1 : Int32)), .val (Value.int (1 : Int32))] [(Value.int (1 : Int32))]))
        obtain ⟨fs, hr, hrun, hended, hW, hsame⟩ := X39.leave (v := some (Value.int (nar .boolean (1 : Int32)))) (fun h => by rw [Bd.returns] at h; cases h)
        refine own_Go.fin (retN X39 hx (t := .boolean) Bd.returns (by simp) (hb hby at_162) hr) ⟨hrun, hended, _, _, rfl, ?_, ⟨_, rfl⟩, hW, hsame.mono (by decide) (by decide)⟩
        show Q0 Z p1 p2 p3 p4 zc aC aU aI h0 n0 _ T39.heap _
        rw [e39]
        exact ⟨rfl, N39, K28⟩
      ·
        show own_Go p.tables e below _ (T25.setTop (mkF m 65 #[.val (Value.int p1), .val (Value.int p2), .val (Value.int p3), .val (Value.int p4), .val (Value.int r_1), .val (Value.int r_2), .val (Value.ref ob3), .val (Value.ref ob15), .val (Value.int (1 : Int32)), .val (Value.int bb), .unset, .unset, .unset] []))
        refine own_Go.by (fun tq kq => XS.aload X25.here hx rfl (hb hby at_65) rfl rfl kq) ?_
        show own_Go p.tables e below _ (T25.setTop (mkF m 67 #[.val (Value.int p1), .val (Value.int p2), .val (Value.int p3), .val (Value.int p4), .val (Value.int r_1), .val (Value.int r_2), .val (Value.ref ob3), .val (Value.ref ob15), .val (Value.int (1 : Int32)), .val (Value.int bb), .unset, .unset, .unset] [(Value.ref ob15)]))
        refine own_Go.by (fun tq kq => XS.iload X25.here hx rfl (hb hby at_67) rfl kq) ?_
        show own_Go p.tables e below _ (T25.setTop (mkF m 69 #[.val (Value.int p1), .val (Value.int p2), .val (Value.int p3), .val (Value.int p4), .val (Value.int r_1), .val (Value.int r_2), .val (Value.ref ob3), .val (Value.ref ob15), .val (Value.int (1 : Int32)), .val (Value.int bb), .unset, .unset, .unset] [(Value.int (1 : Int32)), (Value.ref ob15)]))
        refine own_Go.by (fun tq kq => XS.iload X25.here hx rfl (hb hby at_69) rfl kq) ?_
        show own_Go p.tables e below _ (T25.setTop (mkF m 71 #[.val (Value.int p1), .val (Value.int p2), .val (Value.int p3), .val (Value.int p4), .val (Value.int r_1), .val (Value.int r_2), .val (Value.ref ob3), .val (Value.ref ob15), .val (Value.int (1 : Int32)), .val (Value.int bb), .unset, .unset, .unset] [(Value.int bb), (Value.int (1 : Int32)), (Value.ref ob15)]))
        obtain ⟨cq40, kq40, q40a, q40b, q40c⟩ := isOf hZ rfl p25_1
        obtain ⟨_, _, ⟨T40, L40, k40, n40⟩, -, X40, ⟨Lc40, hQ40, l40, y40, z40⟩, st40⟩ := X25.virtualBack hx (y := (⟨"com/example/plain_bastion/plainbastion/ssh/Mark", "matched", "(IB)I"⟩ : MethodName)) (z := (⟨"com/example/plain_bastion/plainbastion/ssh/Mark", "matched", "(IB)I"⟩ : MethodName)) hown (mvT hZ (hw _ (List.mem_of_getElem? (i := 81) rfl))) (mvT hZ (hw _ (List.mem_of_getElem? (i := 82) rfl))) (notFace_of_selects (args := #[]) (mvT hZ (hw _ (List.mem_of_getElem? (i := 84) rfl)))) (mvT hZ (hw _ (List.mem_of_getElem? (i := 84) rfl))) (mvT hZ (hw _ (List.mem_of_getElem? (i := 83) rfl))) (by decide) (backOf (W := 0) (rm14_1_ff l Z a0 hw [] ob15 b_25 kb21 r_1 r_2 bb T25.heap n0 O28 p25_2 p25_3 hq1 hq2) hZ (hw _ (List.mem_of_getElem? (i := 85) rfl)) (hw _ (List.mem_of_getElem? (i := 7) rfl)) (by decide) (by decide)) q40a q40c (g := (mkF m 71 #[.val (Value.int p1), .val (Value.int p2), .val (Value.int p3), .val (Value.int p4), .val (Value.int r_1), .val (Value.int r_2), .val (Value.ref ob3), .val (Value.ref ob15), .val (Value.int (1 : Int32)), .val (Value.int bb), .unset, .unset, .unset] [(Value.int bb), (Value.int (1 : Int32)), (Value.ref ob15)])) rfl (by rw [hml]; rfl) (Steps.refl _) (argsL := [(Value.int (1 : Int32)), (Value.int bb)]) (rest := []) (lenOf own_pd8 rfl) rfl (by show 2 * 0 + _ ≤ _; exact Nat.le_of_eq rfl) (hb hby at_71) (fun _ _ => ⟨rfl, rfl, (by decide : 5 + 0 ≤ _), (by decide : 14 + 0 ≤ _)⟩)
        dsimp only [Pt.U, Pt.locs, Pt.cells, Pt.slots] at X40 l40 y40 z40 st40 hQ40
        subst l40 y40 z40
        refine own_Go.by (fun tq kq => st40.trans kq) ?_
        obtain ⟨rfl, N40q, e40⟩ := hQ40
        have N40 := Fr.app N25 N40q
        show own_Go p.tables e below _ (T40.setTop (mkF m 74 #[.val (Value.int p1), .val (Value.int p2), .val (Value.int p3), .val (Value.int p4), .val (Value.int r_1), .val (Value.int r_2), .val (Value.ref ob3), .val (Value.ref ob15), .val (Value.int (1 : Int32)), .val (Value.int bb), .unset, .unset, .unset] [(Value.int (0 : Int32))]))
        refine own_Go.by (fun tq kq => XS.istore X40.here hx rfl (hb hby at_74) rfl (l' := #[.val (Value.int p1), .val (Value.int p2), .val (Value.int p3), .val (Value.int p4), .val (Value.int r_1), .val (Value.int r_2), .val (Value.ref ob3), .val (Value.ref ob15), .val (Value.int (1 : Int32)), .val (Value.int bb), .val (Value.int (0 : Int32)), .unset, .unset]) rfl kq) ?_
        show own_Go p.tables e below _ (T40.setTop (mkF m 76 #[.val (Value.int p1), .val (Value.int p2), .val (Value.int p3), .val (Value.int p4), .val (Value.int r_1), .val (Value.int r_2), .val (Value.ref ob3), .val (Value.ref ob15), .val (Value.int (1 : Int32)), .val (Value.int bb), .val (Value.int (0 : Int32)), .unset, .unset] []))
        refine own_Go.by (fun tq kq => XS.iload X40.here hx rfl (hb hby at_76) rfl kq) ?_
        show own_Go p.tables e below _ (T40.setTop (mkF m 78 #[.val (Value.int p1), .val (Value.int p2), .val (Value.int p3), .val (Value.int p4), .val (Value.int r_1), .val (Value.int r_2), .val (Value.ref ob3), .val (Value.ref ob15), .val (Value.int (1 : Int32)), .val (Value.int bb), .val (Value.int (0 : Int32)), .unset, .unset] [(Value.int bb)]))
        refine own_Go.by (fun tq kq => XS.bipush X40.here hx rfl (hb hby at_78) kq) ?_
        show own_Go p.tables e below _ (T40.setTop (mkF m 80 #[.val (Value.int p1), .val (Value.int p2), .val (Value.int p3), .val (Value.int p4), .val (Value.int r_1), .val (Value.int r_2), .val (Value.ref ob3), .val (Value.ref ob15), .val (Value.int (1 : Int32)), .val (Value.int bb), .val (Value.int (0 : Int32)), .unset, .unset] [(Value.int (27 : Int32)), (Value.int bb)]))
        refine own_Go.by (fun tq kq => XS.icmpYes X40.here hx rfl (pc0 := 80) (pc' := 87) rfl (hb hby at_80) rfl (feq hq2).2 (by decide) (by decide) kq) ?_
        show own_Go p.tables e below _ (T40.setTop (mkF m 87 #[.val (Value.int p1), .val (Value.int p2), .val (Value.int p3), .val (Value.int p4), .val (Value.int r_1), .val (Value.int r_2), .val (Value.ref ob3), .val (Value.ref ob15), .val (Value.int (1 : Int32)), .val (Value.int bb), .val (Value.int (0 : Int32)), .unset, .unset] []))
        refine own_Go.by (fun tq kq => XS.iconst X40.here hx rfl (hb hby at_87) kq) ?_
        show own_Go p.tables e below _ (T40.setTop (mkF m 88 #[.val (Value.int p1), .val (Value.int p2), .val (Value.int p3), .val (Value.int p4), .val (Value.int r_1), .val (Value.int r_2), .val (Value.ref ob3), .val (Value.ref ob15), .val (Value.int (1 : Int32)), .val (Value.int bb), .val (Value.int (0 : Int32)), .unset, .unset] [(Value.int (0 : Int32))]))
        refine own_Go.by (fun tq kq => XS.istore X40.here hx rfl (hb hby at_88) rfl (l' := #[.val (Value.int p1), .val (Value.int p2), .val (Value.int p3), .val (Value.int p4), .val (Value.int r_1), .val (Value.int r_2), .val (Value.ref ob3), .val (Value.ref ob15), .val (Value.int (1 : Int32)), .val (Value.int bb), .val (Value.int (0 : Int32)), .val (Value.int (0 : Int32)), .unset]) rfl kq) ?_
        show own_Go p.tables e below _ (T40.setTop (mkF m 90 #[.val (Value.int p1), .val (Value.int p2), .val (Value.int p3), .val (Value.int p4), .val (Value.int r_1), .val (Value.int r_2), .val (Value.ref ob3), .val (Value.ref ob15), .val (Value.int (1 : Int32)), .val (Value.int bb), .val (Value.int (0 : Int32)), .val (Value.int (0 : Int32)), .unset] []))
        refine own_Go.by (fun tq kq => XS.iload X40.here hx rfl (hb hby at_90) rfl kq) ?_
        show own_Go p.tables e below _ (T40.setTop (mkF m 92 #[.val (Value.int p1), .val (Value.int p2), .val (Value.int p3), .val (Value.int p4), .val (Value.int r_1), .val (Value.int r_2), .val (Value.ref ob3), .val (Value.ref ob15), .val (Value.int (1 : Int32)), .val (Value.int bb), .val (Value.int (0 : Int32)), .val (Value.int (0 : Int32)), .unset] [(Value.int (1 : Int32))]))
        refine own_Go.by (fun tq kq => XS.ifYes X40.here hx rfl (pc0 := 92) (pc' := 102) rfl (hb hby at_92) rfl ((if0 _ _).trans (feq (by decide : ¬ ((1 : Int32) = (0 : Int32)))).2) (by decide) (by decide) kq) ?_
        show own_Go p.tables e below _ (T40.setTop (mkF m 102 #[.val (Value.int p1), .val (Value.int p2), .val (Value.int p3), .val (Value.int p4), .val (Value.int r_1), .val (Value.int r_2), .val (Value.ref ob3), .val (Value.ref ob15), .val (Value.int (1 : Int32)), .val (Value.int bb), .val (Value.int (0 : Int32)), .val (Value.int (0 : Int32)), .unset] []))
        refine own_Go.by (fun tq kq => XS.iload X40.here hx rfl (hb hby at_102) rfl kq) ?_
        show own_Go p.tables e below _ (T40.setTop (mkF m 104 #[.val (Value.int p1), .val (Value.int p2), .val (Value.int p3), .val (Value.int p4), .val (Value.int r_1), .val (Value.int r_2), .val (Value.ref ob3), .val (Value.ref ob15), .val (Value.int (1 : Int32)), .val (Value.int bb), .val (Value.int (0 : Int32)), .val (Value.int (0 : Int32)), .unset] [(Value.int (1 : Int32))]))
        refine own_Go.by (fun tq kq => XS.iconst X40.here hx rfl (hb hby at_104) kq) ?_
        show own_Go p.tables e below _ (T40.setTop (mkF m 105 #[.val (Value.int p1), .val (Value.int p2), .val (Value.int p3), .val (Value.int p4), .val (Value.int r_1), .val (Value.int r_2), .val (Value.ref ob3), .val (Value.ref ob15), .val (Value.int (1 : Int32)), .val (Value.int bb), .val (Value.int (0 : Int32)), .val (Value.int (0 : Int32)), .unset] [(Value.int (1 : Int32)), (Value.int (1 : Int32))]))
        refine own_Go.by (fun tq kq => XS.icmpNo X40.here hx rfl (hb hby at_105) rfl (teq (by decide : (1 : Int32) = (1 : Int32))).2 kq) ?_
        show own_Go p.tables e below _ (T40.setTop (mkF m 108 #[.val (Value.int p1), .val (Value.int p2), .val (Value.int p3), .val (Value.int p4), .val (Value.int r_1), .val (Value.int r_2), .val (Value.ref ob3), .val (Value.ref ob15), .val (Value.int (1 : Int32)), .val (Value.int bb), .val (Value.int (0 : Int32)), .val (Value.int (0 : Int32)), .unset] []))
        refine own_Go.by (fun tq kq => XS.iload X40.here hx rfl (hb hby at_108) rfl kq) ?_
        show own_Go p.tables e below _ (T40.setTop (mkF m 110 #[.val (Value.int p1), .val (Value.int p2), .val (Value.int p3), .val (Value.int p4), .val (Value.int r_1), .val (Value.int r_2), .val (Value.ref ob3), .val (Value.ref ob15), .val (Value.int (1 : Int32)), .val (Value.int bb), .val (Value.int (0 : Int32)), .val (Value.int (0 : Int32)), .unset] [(Value.int bb)]))
        refine own_Go.by (fun tq kq => XS.iload X40.here hx rfl (hb hby at_110) rfl kq) ?_
        show own_Go p.tables e below _ (T40.setTop (mkF m 112 #[.val (Value.int p1), .val (Value.int p2), .val (Value.int p3), .val (Value.int p4), .val (Value.int r_1), .val (Value.int r_2), .val (Value.ref ob3), .val (Value.ref ob15), .val (Value.int (1 : Int32)), .val (Value.int bb), .val (Value.int (0 : Int32)), .val (Value.int (0 : Int32)), .unset] [(Value.int r_1), (Value.int bb)]))
        refine own_Go.by (fun tq kq => XS.icmpYes X40.here hx rfl (pc0 := 112) (pc' := 119) rfl (hb hby at_112) rfl (feq hq1).2 (by decide) (by decide) kq) ?_
        show own_Go p.tables e below _ (T40.setTop (mkF m 119 #[.val (Value.int p1), .val (Value.int p2), .val (Value.int p3), .val (Value.int p4), .val (Value.int r_1), .val (Value.int r_2), .val (Value.ref ob3), .val (Value.ref ob15), .val (Value.int (1 : Int32)), .val (Value.int bb), .val (Value.int (0 : Int32)), .val (Value.int (0 : Int32)), .unset] []))
        refine own_Go.by (fun tq kq => XS.iload X40.here hx rfl (hb hby at_119) rfl kq) ?_
        show own_Go p.tables e below _ (T40.setTop (mkF m 121 #[.val (Value.int p1), .val (Value.int p2), .val (Value.int p3), .val (Value.int p4), .val (Value.int r_1), .val (Value.int r_2), .val (Value.ref ob3), .val (Value.ref ob15), .val (Value.int (1 : Int32)), .val (Value.int bb), .val (Value.int (0 : Int32)), .val (Value.int (0 : Int32)), .unset] [(Value.int (0 : Int32))]))
        refine own_Go.by (fun tq kq => XS.istore X40.here hx rfl (hb hby at_121) rfl (l' := #[.val (Value.int p1), .val (Value.int p2), .val (Value.int p3), .val (Value.int p4), .val (Value.int r_1), .val (Value.int r_2), .val (Value.ref ob3), .val (Value.ref ob15), .val (Value.int (1 : Int32)), .val (Value.int bb), .val (Value.int (0 : Int32)), .val (Value.int (0 : Int32)), .val (Value.int (0 : Int32))]) rfl kq) ?_
        show own_Go p.tables e below _ (T40.setTop (mkF m 123 #[.val (Value.int p1), .val (Value.int p2), .val (Value.int p3), .val (Value.int p4), .val (Value.int r_1), .val (Value.int r_2), .val (Value.ref ob3), .val (Value.ref ob15), .val (Value.int (1 : Int32)), .val (Value.int bb), .val (Value.int (0 : Int32)), .val (Value.int (0 : Int32)), .val (Value.int (0 : Int32))] []))
        refine own_Go.by (fun tq kq => XS.goto X40.here hx rfl (pc0 := 123) (pc' := 141) rfl (hb hby at_123) (by decide) (by decide) kq) ?_
        show own_Go p.tables e below _ (T40.setTop (mkF m 141 #[.val (Value.int p1), .val (Value.int p2), .val (Value.int p3), .val (Value.int p4), .val (Value.int r_1), .val (Value.int r_2), .val (Value.ref ob3), .val (Value.ref ob15), .val (Value.int (1 : Int32)), .val (Value.int bb), .val (Value.int (0 : Int32)), .val (Value.int (0 : Int32)), .val (Value.int (0 : Int32))] []))
        refine own_Go.by (fun tq kq => XS.iload X40.here hx rfl (hb hby at_141) rfl kq) ?_
        show own_Go p.tables e below _ (T40.setTop (mkF m 143 #[.val (Value.int p1), .val (Value.int p2), .val (Value.int p3), .val (Value.int p4), .val (Value.int r_1), .val (Value.int r_2), .val (Value.ref ob3), .val (Value.ref ob15), .val (Value.int (1 : Int32)), .val (Value.int bb), .val (Value.int (0 : Int32)), .val (Value.int (0 : Int32)), .val (Value.int (0 : Int32))] [(Value.int (0 : Int32))]))
        refine own_Go.by (fun tq kq => XS.iload X40.here hx rfl (hb hby at_143) rfl kq) ?_
        show own_Go p.tables e below _ (T40.setTop (mkF m 145 #[.val (Value.int p1), .val (Value.int p2), .val (Value.int p3), .val (Value.int p4), .val (Value.int r_1), .val (Value.int r_2), .val (Value.ref ob3), .val (Value.ref ob15), .val (Value.int (1 : Int32)), .val (Value.int bb), .val (Value.int (0 : Int32)), .val (Value.int (0 : Int32)), .val (Value.int (0 : Int32))] [(Value.int (0 : Int32)), (Value.int (0 : Int32))]))
        refine own_Go.by (fun tq kq => XS.icmpNo X40.here hx rfl (hb hby at_145) rfl (teq (by decide : (0 : Int32) = (0 : Int32))).2 kq) ?_
        show own_Go p.tables e below _ (T40.setTop (mkF m 148 #[.val (Value.int p1), .val (Value.int p2), .val (Value.int p3), .val (Value.int p4), .val (Value.int r_1), .val (Value.int r_2), .val (Value.ref ob3), .val (Value.ref ob15), .val (Value.int (1 : Int32)), .val (Value.int bb), .val (Value.int (0 : Int32)), .val (Value.int (0 : Int32)), .val (Value.int (0 : Int32))] []))
        refine own_Go.by (fun tq kq => XS.aload X40.here hx rfl (hb hby at_148) rfl rfl kq) ?_
        show own_Go p.tables e below _ (T40.setTop (mkF m 150 #[.val (Value.int p1), .val (Value.int p2), .val (Value.int p3), .val (Value.int p4), .val (Value.int r_1), .val (Value.int r_2), .val (Value.ref ob3), .val (Value.ref ob15), .val (Value.int (1 : Int32)), .val (Value.int bb), .val (Value.int (0 : Int32)), .val (Value.int (0 : Int32)), .val (Value.int (0 : Int32))] [(Value.ref ob15)]))
        obtain ⟨cq41, kq41, q41a, q41b, q41c⟩ := isOf hZ e40 p25_1
        obtain ⟨_, _, ⟨T41, L41, k41, n41⟩, -, X41, ⟨Lc41, hQ41, l41, y41, z41⟩, st41⟩ := X40.virtualBack hx (y := (⟨"com/example/plain_bastion/plainbastion/ssh/Mark", "length", "()I"⟩ : MethodName)) (z := (⟨"com/example/plain_bastion/plainbastion/ssh/Mark", "length", "()I"⟩ : MethodName)) hown (mvT hZ (hw _ (List.mem_of_getElem? (i := 86) rfl))) (mvT hZ (hw _ (List.mem_of_getElem? (i := 87) rfl))) (notFace_of_selects (args := #[]) (mvT hZ (hw _ (List.mem_of_getElem? (i := 89) rfl)))) (mvT hZ (hw _ (List.mem_of_getElem? (i := 89) rfl))) (mvT hZ (hw _ (List.mem_of_getElem? (i := 88) rfl))) (by decide) (backOf (W := 0) (rm15 l Z a0 hw [] ob15 b_25 kb21 r_1 r_2 T25.heap n0 O28 p25_2 p25_3) hZ (hw _ (List.mem_of_getElem? (i := 90) rfl)) (hw _ (List.mem_of_getElem? (i := 7) rfl)) (by decide) (by decide)) q41a q41c (g := (mkF m 150 #[.val (Value.int p1), .val (Value.int p2), .val (Value.int p3), .val (Value.int p4), .val (Value.int r_1), .val (Value.int r_2), .val (Value.ref ob3), .val (Value.ref ob15), .val (Value.int (1 : Int32)), .val (Value.int bb), .val (Value.int (0 : Int32)), .val (Value.int (0 : Int32)), .val (Value.int (0 : Int32))] [(Value.ref ob15)])) rfl (by rw [hml]; rfl) (Steps.refl _) (argsL := []) (rest := []) (lenOf own_pd9 rfl) rfl (by show 2 * 0 + _ ≤ _; exact Nat.le_of_eq rfl) (hb hby at_150) (fun _ _ => ⟨rfl, e40, (by decide : 5 + 0 ≤ _), (by decide : 14 + 0 ≤ _)⟩)
        dsimp only [Pt.U, Pt.locs, Pt.cells, Pt.slots] at X41 l41 y41 z41 st41 hQ41
        subst l41 y41 z41
        refine own_Go.by (fun tq kq => st41.trans kq) ?_
        obtain ⟨rfl, N41q, e41⟩ := hQ41
        have N41 := Fr.app N40 N41q
        show own_Go p.tables e below _ (T41.setTop (mkF m 153 #[.val (Value.int p1), .val (Value.int p2), .val (Value.int p3), .val (Value.int p4), .val (Value.int r_1), .val (Value.int r_2), .val (Value.ref ob3), .val (Value.ref ob15), .val (Value.int (1 : Int32)), .val (Value.int bb), .val (Value.int (0 : Int32)), .val (Value.int (0 : Int32)), .val (Value.int (0 : Int32))] [(Value.int (3 : Int32))]))
        refine own_Go.by (fun tq kq => XS.iconst X41.here hx rfl (hb hby at_153) kq) ?_
        show own_Go p.tables e below _ (T41.setTop (mkF m 154 #[.val (Value.int p1), .val (Value.int p2), .val (Value.int p3), .val (Value.int p4), .val (Value.int r_1), .val (Value.int r_2), .val (Value.ref ob3), .val (Value.ref ob15), .val (Value.int (1 : Int32)), .val (Value.int bb), .val (Value.int (0 : Int32)), .val (Value.int (0 : Int32)), .val (Value.int (0 : Int32))] [(Value.int (3 : Int32)), (Value.int (3 : Int32))]))
        refine own_Go.by (fun tq kq => XS.icmpNo X41.here hx rfl (hb hby at_154) rfl (teq (by decide : (3 : Int32) = (3 : Int32))).2 kq) ?_
        show own_Go p.tables e below _ (T41.setTop (mkF m 157 #[.val (Value.int p1), .val (Value.int p2), .val (Value.int p3), .val (Value.int p4), .val (Value.int r_1), .val (Value.int r_2), .val (Value.ref ob3), .val (Value.ref ob15), .val (Value.int (1 : Int32)), .val (Value.int bb), .val (Value.int (0 : Int32)), .val (Value.int (0 : Int32)), .val (Value.int (0 : Int32))] []))
        refine own_Go.by (fun tq kq => XS.iconst X41.here hx rfl (hb hby at_157) kq) ?_
        show own_Go p.tables e below _ (T41.setTop (mkF m 158 #[.val (Value.int p1), .val (Value.int p2), .val (Value.int p3), .val (Value.int p4), .val (Value.int r_1), .val (Value.int r_2), .val (Value.ref ob3), .val (Value.ref ob15), .val (Value.int (1 : Int32)), .val (Value.int bb), .val (Value.int (0 : Int32)), .val (Value.int (0 : Int32)), .val (Value.int (0 : Int32))] [(Value.int (1 : Int32))]))
        refine own_Go.by (fun tq kq => XS.goto X41.here hx rfl (pc0 := 158) (pc' := 162) rfl (hb hby at_158) (by decide) (by decide) kq) ?_
        show own_Go p.tables e below _ (T41.setTop (mkF m 162 #[.val (Value.int p1), .val (Value.int p2), .val (Value.int p3), .val (Value.int p4), .val (Value.int r_1), .val (Value.int r_2), .val (Value.ref ob3), .val (Value.ref ob15), .val (Value.int (1 : Int32)), .val (Value.int bb), .val (Value.int (0 : Int32)), .val (Value.int (0 : Int32)), .val (Value.int (0 : Int32))] [(Value.int (1 : Int32))]))
        obtain ⟨fs, hr, hrun, hended, hW, hsame⟩ := X41.leave (v := some (Value.int (nar .boolean (1 : Int32)))) (fun h => by rw [Bd.returns] at h; cases h)
        refine own_Go.fin (retN X41 hx (t := .boolean) Bd.returns (by simp) (hb hby at_162) hr) ⟨hrun, hended, _, _, rfl, ?_, ⟨_, rfl⟩, hW, hsame.mono (by decide) (by decide)⟩
        show Q0 Z p1 p2 p3 p4 zc aC aU aI h0 n0 _ T41.heap _
        rw [e41]
        exact ⟨rfl, N41, K28⟩
  ·
    subst hq_mm
    show own_Go p.tables e below _ (T25.setTop (mkF m 61 #[.val (Value.int p1), .val (Value.int p2), .val (Value.int p3), .val (Value.int p4), .val (Value.int r_1), .val (Value.int r_2), .val (Value.ref ob3), .val (Value.ref ob15), .val (Value.int (2 : Int32)), .unset, .unset, .unset, .unset] []))
    refine own_Go.by (fun tq kq => XS.iloadN X25.here hx rfl (hb hby at_61) rfl kq) ?_
    show own_Go p.tables e below _ (T25.setTop (mkF m 62 #[.val (Value.int p1), .val (Value.int p2), .val (Value.int p3), .val (Value.int p4), .val (Value.int r_1), .val (Value.int r_2), .val (Value.ref ob3), .val (Value.ref ob15), .val (Value.int (2 : Int32)), .unset, .unset, .unset, .unset] [(Value.int p4)]))
    refine own_Go.by (fun tq kq => XS.i2b X25.here hx rfl (hb hby at_62) rfl kq) ?_
    show own_Go p.tables e below _ (T25.setTop (mkF m 63 #[.val (Value.int p1), .val (Value.int p2), .val (Value.int p3), .val (Value.int p4), .val (Value.int r_1), .val (Value.int r_2), .val (Value.ref ob3), .val (Value.ref ob15), .val (Value.int (2 : Int32)), .unset, .unset, .unset, .unset] [(Value.int (p4.toInt8.toInt32))]))
    refine own_Go.by (fun tq kq => XS.istore X25.here hx rfl (hb hby at_63) rfl (l' := #[.val (Value.int p1), .val (Value.int p2), .val (Value.int p3), .val (Value.int p4), .val (Value.int r_1), .val (Value.int r_2), .val (Value.ref ob3), .val (Value.ref ob15), .val (Value.int (2 : Int32)), .val (Value.int (p4.toInt8.toInt32)), .unset, .unset, .unset]) rfl kq) ?_
    show own_Go p.tables e below _ (T25.setTop (mkF m 65 #[.val (Value.int p1), .val (Value.int p2), .val (Value.int p3), .val (Value.int p4), .val (Value.int r_1), .val (Value.int r_2), .val (Value.ref ob3), .val (Value.ref ob15), .val (Value.int (2 : Int32)), .val (Value.int (p4.toInt8.toInt32)), .unset, .unset, .unset] []))
    generalize hv_bb : (p4.toInt8.toInt32) = bb
    by_cases hq1 : bb = r_2
    ·
      show own_Go p.tables e below _ (T25.setTop (mkF m 65 #[.val (Value.int p1), .val (Value.int p2), .val (Value.int p3), .val (Value.int p4), .val (Value.int r_1), .val (Value.int r_2), .val (Value.ref ob3), .val (Value.ref ob15), .val (Value.int (2 : Int32)), .val (Value.int bb), .unset, .unset, .unset] []))
      refine own_Go.by (fun tq kq => XS.aload X25.here hx rfl (hb hby at_65) rfl rfl kq) ?_
      show own_Go p.tables e below _ (T25.setTop (mkF m 67 #[.val (Value.int p1), .val (Value.int p2), .val (Value.int p3), .val (Value.int p4), .val (Value.int r_1), .val (Value.int r_2), .val (Value.ref ob3), .val (Value.ref ob15), .val (Value.int (2 : Int32)), .val (Value.int bb), .unset, .unset, .unset] [(Value.ref ob15)]))
      refine own_Go.by (fun tq kq => XS.iload X25.here hx rfl (hb hby at_67) rfl kq) ?_
      show own_Go p.tables e below _ (T25.setTop (mkF m 69 #[.val (Value.int p1), .val (Value.int p2), .val (Value.int p3), .val (Value.int p4), .val (Value.int r_1), .val (Value.int r_2), .val (Value.ref ob3), .val (Value.ref ob15), .val (Value.int (2 : Int32)), .val (Value.int bb), .unset, .unset, .unset] [(Value.int (2 : Int32)), (Value.ref ob15)]))
      refine own_Go.by (fun tq kq => XS.iload X25.here hx rfl (hb hby at_69) rfl kq) ?_
      show own_Go p.tables e below _ (T25.setTop (mkF m 71 #[.val (Value.int p1), .val (Value.int p2), .val (Value.int p3), .val (Value.int p4), .val (Value.int r_1), .val (Value.int r_2), .val (Value.ref ob3), .val (Value.ref ob15), .val (Value.int (2 : Int32)), .val (Value.int bb), .unset, .unset, .unset] [(Value.int bb), (Value.int (2 : Int32)), (Value.ref ob15)]))
      obtain ⟨cq42, kq42, q42a, q42b, q42c⟩ := isOf hZ rfl p25_1
      obtain ⟨_, _, ⟨T42, L42, k42, n42⟩, -, X42, ⟨Lc42, hQ42, l42, y42, z42⟩, st42⟩ := X25.virtualBack hx (y := (⟨"com/example/plain_bastion/plainbastion/ssh/Mark", "matched", "(IB)I"⟩ : MethodName)) (z := (⟨"com/example/plain_bastion/plainbastion/ssh/Mark", "matched", "(IB)I"⟩ : MethodName)) hown (mvT hZ (hw _ (List.mem_of_getElem? (i := 81) rfl))) (mvT hZ (hw _ (List.mem_of_getElem? (i := 82) rfl))) (notFace_of_selects (args := #[]) (mvT hZ (hw _ (List.mem_of_getElem? (i := 84) rfl)))) (mvT hZ (hw _ (List.mem_of_getElem? (i := 84) rfl))) (mvT hZ (hw _ (List.mem_of_getElem? (i := 83) rfl))) (by decide) (backOf (W := 0) (rm14_2_t l Z a0 hw [] ob15 b_25 kb21 r_1 r_2 bb T25.heap n0 O28 p25_2 p25_3 hq1) hZ (hw _ (List.mem_of_getElem? (i := 85) rfl)) (hw _ (List.mem_of_getElem? (i := 7) rfl)) (by decide) (by decide)) q42a q42c (g := (mkF m 71 #[.val (Value.int p1), .val (Value.int p2), .val (Value.int p3), .val (Value.int p4), .val (Value.int r_1), .val (Value.int r_2), .val (Value.ref ob3), .val (Value.ref ob15), .val (Value.int (2 : Int32)), .val (Value.int bb), .unset, .unset, .unset] [(Value.int bb), (Value.int (2 : Int32)), (Value.ref ob15)])) rfl (by rw [hml]; rfl) (Steps.refl _) (argsL := [(Value.int (2 : Int32)), (Value.int bb)]) (rest := []) (lenOf own_pd8 rfl) rfl (by show 2 * 0 + _ ≤ _; exact Nat.le_of_eq rfl) (hb hby at_71) (fun _ _ => ⟨rfl, rfl, (by decide : 5 + 0 ≤ _), (by decide : 14 + 0 ≤ _)⟩)
      dsimp only [Pt.U, Pt.locs, Pt.cells, Pt.slots] at X42 l42 y42 z42 st42 hQ42
      subst l42 y42 z42
      refine own_Go.by (fun tq kq => st42.trans kq) ?_
      obtain ⟨rfl, N42q, e42⟩ := hQ42
      have N42 := Fr.app N25 N42q
      show own_Go p.tables e below _ (T42.setTop (mkF m 74 #[.val (Value.int p1), .val (Value.int p2), .val (Value.int p3), .val (Value.int p4), .val (Value.int r_1), .val (Value.int r_2), .val (Value.ref ob3), .val (Value.ref ob15), .val (Value.int (2 : Int32)), .val (Value.int bb), .unset, .unset, .unset] [(Value.int (3 : Int32))]))
      refine own_Go.by (fun tq kq => XS.istore X42.here hx rfl (hb hby at_74) rfl (l' := #[.val (Value.int p1), .val (Value.int p2), .val (Value.int p3), .val (Value.int p4), .val (Value.int r_1), .val (Value.int r_2), .val (Value.ref ob3), .val (Value.ref ob15), .val (Value.int (2 : Int32)), .val (Value.int bb), .val (Value.int (3 : Int32)), .unset, .unset]) rfl kq) ?_
      show own_Go p.tables e below _ (T42.setTop (mkF m 76 #[.val (Value.int p1), .val (Value.int p2), .val (Value.int p3), .val (Value.int p4), .val (Value.int r_1), .val (Value.int r_2), .val (Value.ref ob3), .val (Value.ref ob15), .val (Value.int (2 : Int32)), .val (Value.int bb), .val (Value.int (3 : Int32)), .unset, .unset] []))
      refine own_Go.by (fun tq kq => XS.iload X42.here hx rfl (hb hby at_76) rfl kq) ?_
      show own_Go p.tables e below _ (T42.setTop (mkF m 78 #[.val (Value.int p1), .val (Value.int p2), .val (Value.int p3), .val (Value.int p4), .val (Value.int r_1), .val (Value.int r_2), .val (Value.ref ob3), .val (Value.ref ob15), .val (Value.int (2 : Int32)), .val (Value.int bb), .val (Value.int (3 : Int32)), .unset, .unset] [(Value.int bb)]))
      refine own_Go.by (fun tq kq => XS.bipush X42.here hx rfl (hb hby at_78) kq) ?_
      show own_Go p.tables e below _ (T42.setTop (mkF m 80 #[.val (Value.int p1), .val (Value.int p2), .val (Value.int p3), .val (Value.int p4), .val (Value.int r_1), .val (Value.int r_2), .val (Value.ref ob3), .val (Value.ref ob15), .val (Value.int (2 : Int32)), .val (Value.int bb), .val (Value.int (3 : Int32)), .unset, .unset] [(Value.int (27 : Int32)), (Value.int bb)]))
      by_cases hc80_43 : bb = (27 : Int32)
      ·
        refine own_Go.by (fun tq kq => XS.icmpNo X42.here hx rfl (hb hby at_80) rfl (teq hc80_43).2 kq) ?_
        show own_Go p.tables e below _ (T42.setTop (mkF m 83 #[.val (Value.int p1), .val (Value.int p2), .val (Value.int p3), .val (Value.int p4), .val (Value.int r_1), .val (Value.int r_2), .val (Value.ref ob3), .val (Value.ref ob15), .val (Value.int (2 : Int32)), .val (Value.int bb), .val (Value.int (3 : Int32)), .unset, .unset] []))
        refine own_Go.by (fun tq kq => XS.iconst X42.here hx rfl (hb hby at_83) kq) ?_
        show own_Go p.tables e below _ (T42.setTop (mkF m 84 #[.val (Value.int p1), .val (Value.int p2), .val (Value.int p3), .val (Value.int p4), .val (Value.int r_1), .val (Value.int r_2), .val (Value.ref ob3), .val (Value.ref ob15), .val (Value.int (2 : Int32)), .val (Value.int bb), .val (Value.int (3 : Int32)), .unset, .unset] [(Value.int (1 : Int32))]))
        refine own_Go.by (fun tq kq => XS.goto X42.here hx rfl (pc0 := 84) (pc' := 88) rfl (hb hby at_84) (by decide) (by decide) kq) ?_
        show own_Go p.tables e below _ (T42.setTop (mkF m 88 #[.val (Value.int p1), .val (Value.int p2), .val (Value.int p3), .val (Value.int p4), .val (Value.int r_1), .val (Value.int r_2), .val (Value.ref ob3), .val (Value.ref ob15), .val (Value.int (2 : Int32)), .val (Value.int bb), .val (Value.int (3 : Int32)), .unset, .unset] [(Value.int (1 : Int32))]))
        refine own_Go.by (fun tq kq => XS.istore X42.here hx rfl (hb hby at_88) rfl (l' := #[.val (Value.int p1), .val (Value.int p2), .val (Value.int p3), .val (Value.int p4), .val (Value.int r_1), .val (Value.int r_2), .val (Value.ref ob3), .val (Value.ref ob15), .val (Value.int (2 : Int32)), .val (Value.int bb), .val (Value.int (3 : Int32)), .val (Value.int (1 : Int32)), .unset]) rfl kq) ?_
        show own_Go p.tables e below _ (T42.setTop (mkF m 90 #[.val (Value.int p1), .val (Value.int p2), .val (Value.int p3), .val (Value.int p4), .val (Value.int r_1), .val (Value.int r_2), .val (Value.ref ob3), .val (Value.ref ob15), .val (Value.int (2 : Int32)), .val (Value.int bb), .val (Value.int (3 : Int32)), .val (Value.int (1 : Int32)), .unset] []))
        refine own_Go.by (fun tq kq => XS.iload X42.here hx rfl (hb hby at_90) rfl kq) ?_
        show own_Go p.tables e below _ (T42.setTop (mkF m 92 #[.val (Value.int p1), .val (Value.int p2), .val (Value.int p3), .val (Value.int p4), .val (Value.int r_1), .val (Value.int r_2), .val (Value.ref ob3), .val (Value.ref ob15), .val (Value.int (2 : Int32)), .val (Value.int bb), .val (Value.int (3 : Int32)), .val (Value.int (1 : Int32)), .unset] [(Value.int (2 : Int32))]))
        refine own_Go.by (fun tq kq => XS.ifYes X42.here hx rfl (pc0 := 92) (pc' := 102) rfl (hb hby at_92) rfl ((if0 _ _).trans (feq (by decide : ¬ ((2 : Int32) = (0 : Int32)))).2) (by decide) (by decide) kq) ?_
        show own_Go p.tables e below _ (T42.setTop (mkF m 102 #[.val (Value.int p1), .val (Value.int p2), .val (Value.int p3), .val (Value.int p4), .val (Value.int r_1), .val (Value.int r_2), .val (Value.ref ob3), .val (Value.ref ob15), .val (Value.int (2 : Int32)), .val (Value.int bb), .val (Value.int (3 : Int32)), .val (Value.int (1 : Int32)), .unset] []))
        refine own_Go.by (fun tq kq => XS.iload X42.here hx rfl (hb hby at_102) rfl kq) ?_
        show own_Go p.tables e below _ (T42.setTop (mkF m 104 #[.val (Value.int p1), .val (Value.int p2), .val (Value.int p3), .val (Value.int p4), .val (Value.int r_1), .val (Value.int r_2), .val (Value.ref ob3), .val (Value.ref ob15), .val (Value.int (2 : Int32)), .val (Value.int bb), .val (Value.int (3 : Int32)), .val (Value.int (1 : Int32)), .unset] [(Value.int (2 : Int32))]))
        refine own_Go.by (fun tq kq => XS.iconst X42.here hx rfl (hb hby at_104) kq) ?_
        show own_Go p.tables e below _ (T42.setTop (mkF m 105 #[.val (Value.int p1), .val (Value.int p2), .val (Value.int p3), .val (Value.int p4), .val (Value.int r_1), .val (Value.int r_2), .val (Value.ref ob3), .val (Value.ref ob15), .val (Value.int (2 : Int32)), .val (Value.int bb), .val (Value.int (3 : Int32)), .val (Value.int (1 : Int32)), .unset] [(Value.int (1 : Int32)), (Value.int (2 : Int32))]))
        refine own_Go.by (fun tq kq => XS.icmpYes X42.here hx rfl (pc0 := 105) (pc' := 126) rfl (hb hby at_105) rfl (feq (by decide : ¬ ((2 : Int32) = (1 : Int32)))).2 (by decide) (by decide) kq) ?_
        show own_Go p.tables e below _ (T42.setTop (mkF m 126 #[.val (Value.int p1), .val (Value.int p2), .val (Value.int p3), .val (Value.int p4), .val (Value.int r_1), .val (Value.int r_2), .val (Value.ref ob3), .val (Value.ref ob15), .val (Value.int (2 : Int32)), .val (Value.int bb), .val (Value.int (3 : Int32)), .val (Value.int (1 : Int32)), .unset] []))
        refine own_Go.by (fun tq kq => XS.iload X42.here hx rfl (hb hby at_126) rfl kq) ?_
        show own_Go p.tables e below _ (T42.setTop (mkF m 128 #[.val (Value.int p1), .val (Value.int p2), .val (Value.int p3), .val (Value.int p4), .val (Value.int r_1), .val (Value.int r_2), .val (Value.ref ob3), .val (Value.ref ob15), .val (Value.int (2 : Int32)), .val (Value.int bb), .val (Value.int (3 : Int32)), .val (Value.int (1 : Int32)), .unset] [(Value.int bb)]))
        refine own_Go.by (fun tq kq => XS.iload X42.here hx rfl (hb hby at_128) rfl kq) ?_
        show own_Go p.tables e below _ (T42.setTop (mkF m 130 #[.val (Value.int p1), .val (Value.int p2), .val (Value.int p3), .val (Value.int p4), .val (Value.int r_1), .val (Value.int r_2), .val (Value.ref ob3), .val (Value.ref ob15), .val (Value.int (2 : Int32)), .val (Value.int bb), .val (Value.int (3 : Int32)), .val (Value.int (1 : Int32)), .unset] [(Value.int r_2), (Value.int bb)]))
        refine own_Go.by (fun tq kq => XS.icmpNo X42.here hx rfl (hb hby at_130) rfl (teq hq1).2 kq) ?_
        show own_Go p.tables e below _ (T42.setTop (mkF m 133 #[.val (Value.int p1), .val (Value.int p2), .val (Value.int p3), .val (Value.int p4), .val (Value.int r_1), .val (Value.int r_2), .val (Value.ref ob3), .val (Value.ref ob15), .val (Value.int (2 : Int32)), .val (Value.int bb), .val (Value.int (3 : Int32)), .val (Value.int (1 : Int32)), .unset] []))
        refine own_Go.by (fun tq kq => XS.iconst X42.here hx rfl (hb hby at_133) kq) ?_
        show own_Go p.tables e below _ (T42.setTop (mkF m 134 #[.val (Value.int p1), .val (Value.int p2), .val (Value.int p3), .val (Value.int p4), .val (Value.int r_1), .val (Value.int r_2), .val (Value.ref ob3), .val (Value.ref ob15), .val (Value.int (2 : Int32)), .val (Value.int bb), .val (Value.int (3 : Int32)), .val (Value.int (1 : Int32)), .unset] [(Value.int (3 : Int32))]))
        refine own_Go.by (fun tq kq => XS.goto X42.here hx rfl (pc0 := 134) (pc' := 139) rfl (hb hby at_134) (by decide) (by decide) kq) ?_
        show own_Go p.tables e below _ (T42.setTop (mkF m 139 #[.val (Value.int p1), .val (Value.int p2), .val (Value.int p3), .val (Value.int p4), .val (Value.int r_1), .val (Value.int r_2), .val (Value.ref ob3), .val (Value.ref ob15), .val (Value.int (2 : Int32)), .val (Value.int bb), .val (Value.int (3 : Int32)), .val (Value.int (1 : Int32)), .unset] [(Value.int (3 : Int32))]))
        refine own_Go.by (fun tq kq => XS.istore X42.here hx rfl (hb hby at_139) rfl (l' := #[.val (Value.int p1), .val (Value.int p2), .val (Value.int p3), .val (Value.int p4), .val (Value.int r_1), .val (Value.int r_2), .val (Value.ref ob3), .val (Value.ref ob15), .val (Value.int (2 : Int32)), .val (Value.int bb), .val (Value.int (3 : Int32)), .val (Value.int (1 : Int32)), .val (Value.int (3 : Int32))]) rfl kq) ?_
        show own_Go p.tables e below _ (T42.setTop (mkF m 141 #[.val (Value.int p1), .val (Value.int p2), .val (Value.int p3), .val (Value.int p4), .val (Value.int r_1), .val (Value.int r_2), .val (Value.ref ob3), .val (Value.ref ob15), .val (Value.int (2 : Int32)), .val (Value.int bb), .val (Value.int (3 : Int32)), .val (Value.int (1 : Int32)), .val (Value.int (3 : Int32))] []))
        refine own_Go.by (fun tq kq => XS.iload X42.here hx rfl (hb hby at_141) rfl kq) ?_
        show own_Go p.tables e below _ (T42.setTop (mkF m 143 #[.val (Value.int p1), .val (Value.int p2), .val (Value.int p3), .val (Value.int p4), .val (Value.int r_1), .val (Value.int r_2), .val (Value.ref ob3), .val (Value.ref ob15), .val (Value.int (2 : Int32)), .val (Value.int bb), .val (Value.int (3 : Int32)), .val (Value.int (1 : Int32)), .val (Value.int (3 : Int32))] [(Value.int (3 : Int32))]))
        refine own_Go.by (fun tq kq => XS.iload X42.here hx rfl (hb hby at_143) rfl kq) ?_
        show own_Go p.tables e below _ (T42.setTop (mkF m 145 #[.val (Value.int p1), .val (Value.int p2), .val (Value.int p3), .val (Value.int p4), .val (Value.int r_1), .val (Value.int r_2), .val (Value.ref ob3), .val (Value.ref ob15), .val (Value.int (2 : Int32)), .val (Value.int bb), .val (Value.int (3 : Int32)), .val (Value.int (1 : Int32)), .val (Value.int (3 : Int32))] [(Value.int (3 : Int32)), (Value.int (3 : Int32))]))
        refine own_Go.by (fun tq kq => XS.icmpNo X42.here hx rfl (hb hby at_145) rfl (teq (by decide : (3 : Int32) = (3 : Int32))).2 kq) ?_
        show own_Go p.tables e below _ (T42.setTop (mkF m 148 #[.val (Value.int p1), .val (Value.int p2), .val (Value.int p3), .val (Value.int p4), .val (Value.int r_1), .val (Value.int r_2), .val (Value.ref ob3), .val (Value.ref ob15), .val (Value.int (2 : Int32)), .val (Value.int bb), .val (Value.int (3 : Int32)), .val (Value.int (1 : Int32)), .val (Value.int (3 : Int32))] []))
        refine own_Go.by (fun tq kq => XS.aload X42.here hx rfl (hb hby at_148) rfl rfl kq) ?_
        show own_Go p.tables e below _ (T42.setTop (mkF m 150 #[.val (Value.int p1), .val (Value.int p2), .val (Value.int p3), .val (Value.int p4), .val (Value.int r_1), .val (Value.int r_2), .val (Value.ref ob3), .val (Value.ref ob15), .val (Value.int (2 : Int32)), .val (Value.int bb), .val (Value.int (3 : Int32)), .val (Value.int (1 : Int32)), .val (Value.int (3 : Int32))] [(Value.ref ob15)]))
        obtain ⟨cq44, kq44, q44a, q44b, q44c⟩ := isOf hZ e42 p25_1
        obtain ⟨_, _, ⟨T44, L44, k44, n44⟩, -, X44, ⟨Lc44, hQ44, l44, y44, z44⟩, st44⟩ := X42.virtualBack hx (y := (⟨"com/example/plain_bastion/plainbastion/ssh/Mark", "length", "()I"⟩ : MethodName)) (z := (⟨"com/example/plain_bastion/plainbastion/ssh/Mark", "length", "()I"⟩ : MethodName)) hown (mvT hZ (hw _ (List.mem_of_getElem? (i := 86) rfl))) (mvT hZ (hw _ (List.mem_of_getElem? (i := 87) rfl))) (notFace_of_selects (args := #[]) (mvT hZ (hw _ (List.mem_of_getElem? (i := 89) rfl)))) (mvT hZ (hw _ (List.mem_of_getElem? (i := 89) rfl))) (mvT hZ (hw _ (List.mem_of_getElem? (i := 88) rfl))) (by decide) (backOf (W := 0) (rm15 l Z a0 hw [] ob15 b_25 kb21 r_1 r_2 T25.heap n0 O28 p25_2 p25_3) hZ (hw _ (List.mem_of_getElem? (i := 90) rfl)) (hw _ (List.mem_of_getElem? (i := 7) rfl)) (by decide) (by decide)) q44a q44c (g := (mkF m 150 #[.val (Value.int p1), .val (Value.int p2), .val (Value.int p3), .val (Value.int p4), .val (Value.int r_1), .val (Value.int r_2), .val (Value.ref ob3), .val (Value.ref ob15), .val (Value.int (2 : Int32)), .val (Value.int bb), .val (Value.int (3 : Int32)), .val (Value.int (1 : Int32)), .val (Value.int (3 : Int32))] [(Value.ref ob15)])) rfl (by rw [hml]; rfl) (Steps.refl _) (argsL := []) (rest := []) (lenOf own_pd9 rfl) rfl (by show 2 * 0 + _ ≤ _; exact Nat.le_of_eq rfl) (hb hby at_150) (fun _ _ => ⟨rfl, e42, (by decide : 5 + 0 ≤ _), (by decide : 14 + 0 ≤ _)⟩)
        dsimp only [Pt.U, Pt.locs, Pt.cells, Pt.slots] at X44 l44 y44 z44 st44 hQ44
        subst l44 y44 z44
        refine own_Go.by (fun tq kq => st44.trans kq) ?_
        obtain ⟨rfl, N44q, e44⟩ := hQ44
        have N44 := Fr.app N42 N44q
        show own_Go p.tables e below _ (T44.setTop (mkF m 153 #[.val (Value.int p1), .val (Value.int p2), .val (Value.int p3), .val (Value.int p4), .val (Value.int r_1), .val (Value.int r_2), .val (Value.ref ob3), .val (Value.ref ob15), .val (Value.int (2 : Int32)), .val (Value.int bb), .val (Value.int (3 : Int32)), .val (Value.int (1 : Int32)), .val (Value.int (3 : Int32))] [(Value.int (3 : Int32))]))
        refine own_Go.by (fun tq kq => XS.iconst X44.here hx rfl (hb hby at_153) kq) ?_
        show own_Go p.tables e below _ (T44.setTop (mkF m 154 #[.val (Value.int p1), .val (Value.int p2), .val (Value.int p3), .val (Value.int p4), .val (Value.int r_1), .val (Value.int r_2), .val (Value.ref ob3), .val (Value.ref ob15), .val (Value.int (2 : Int32)), .val (Value.int bb), .val (Value.int (3 : Int32)), .val (Value.int (1 : Int32)), .val (Value.int (3 : Int32))] [(Value.int (3 : Int32)), (Value.int (3 : Int32))]))
        refine own_Go.by (fun tq kq => XS.icmpNo X44.here hx rfl (hb hby at_154) rfl (teq (by decide : (3 : Int32) = (3 : Int32))).2 kq) ?_
        show own_Go p.tables e below _ (T44.setTop (mkF m 157 #[.val (Value.int p1), .val (Value.int p2), .val (Value.int p3), .val (Value.int p4), .val (Value.int r_1), .val (Value.int r_2), .val (Value.ref ob3), .val (Value.ref ob15), .val (Value.int (2 : Int32)), .val (Value.int bb), .val (Value.int (3 : Int32)), .val (Value.int (1 : Int32)), .val (Value.int (3 : Int32))] []))
        refine own_Go.by (fun tq kq => XS.iconst X44.here hx rfl (hb hby at_157) kq) ?_
        show own_Go p.tables e below _ (T44.setTop (mkF m 158 #[.val (Value.int p1), .val (Value.int p2), .val (Value.int p3), .val (Value.int p4), .val (Value.int r_1), .val (Value.int r_2), .val (Value.ref ob3), .val (Value.ref ob15), .val (Value.int (2 : Int32)), .val (Value.int bb), .val (Value.int (3 : Int32)), .val (Value.int (1 : Int32)), .val (Value.int (3 : Int32))] [(Value.int (1 : Int32))]))
        refine own_Go.by (fun tq kq => XS.goto X44.here hx rfl (pc0 := 158) (pc' := 162) rfl (hb hby at_158) (by decide) (by decide) kq) ?_
        show own_Go p.tables e below _ (T44.setTop (mkF m 162 #[.val (Value.int p1), .val (Value.int p2), .val (Value.int p3), .val (Value.int p4), .val (Value.int r_1), .val (Value.int r_2), .val (Value.ref ob3), .val (Value.ref ob15), .val (Value.int (2 : Int32)), .val (Value.int bb), .val (Value.int (3 : Int32)), .val (Value.int (1 : Int32)), .val (Value.int (3 : Int32))] [(Value.int (1 : Int32))]))
        obtain ⟨fs, hr, hrun, hended, hW, hsame⟩ := X44.leave (v := some (Value.int (nar .boolean (1 : Int32)))) (fun h => by rw [Bd.returns] at h; cases h)
        refine own_Go.fin (retN X44 hx (t := .boolean) Bd.returns (by simp) (hb hby at_162) hr) ⟨hrun, hended, _, _, rfl, ?_, ⟨_, rfl⟩, hW, hsame.mono (by decide) (by decide)⟩
        show Q0 Z p1 p2 p3 p4 zc aC aU aI h0 n0 _ T44.heap _
        rw [e44]
        exact ⟨rfl, N44, K28⟩
      ·
        refine own_Go.by (fun tq kq => XS.icmpYes X42.here hx rfl (pc0 := 80) (pc' := 87) rfl (hb hby at_80) rfl (feq hc80_43).2 (by decide) (by decide) kq) ?_
        show own_Go p.tables e below _ (T42.setTop (mkF m 87 #[.val (Value.int p1), .val (Value.int p2), .val (Value.int p3), .val (Value.int p4), .val (Value.int r_1), .val (Value.int r_2), .val (Value.ref ob3), .val (Value.ref ob15), .val (Value.int (2 : Int32)), .val (Value.int bb), .val (Value.int (3 : Int32)), .unset, .unset] []))
        refine own_Go.by (fun tq kq => XS.iconst X42.here hx rfl (hb hby at_87) kq) ?_
        show own_Go p.tables e below _ (T42.setTop (mkF m 88 #[.val (Value.int p1), .val (Value.int p2), .val (Value.int p3), .val (Value.int p4), .val (Value.int r_1), .val (Value.int r_2), .val (Value.ref ob3), .val (Value.ref ob15), .val (Value.int (2 : Int32)), .val (Value.int bb), .val (Value.int (3 : Int32)), .unset, .unset] [(Value.int (0 : Int32))]))
        refine own_Go.by (fun tq kq => XS.istore X42.here hx rfl (hb hby at_88) rfl (l' := #[.val (Value.int p1), .val (Value.int p2), .val (Value.int p3), .val (Value.int p4), .val (Value.int r_1), .val (Value.int r_2), .val (Value.ref ob3), .val (Value.ref ob15), .val (Value.int (2 : Int32)), .val (Value.int bb), .val (Value.int (3 : Int32)), .val (Value.int (0 : Int32)), .unset]) rfl kq) ?_
        show own_Go p.tables e below _ (T42.setTop (mkF m 90 #[.val (Value.int p1), .val (Value.int p2), .val (Value.int p3), .val (Value.int p4), .val (Value.int r_1), .val (Value.int r_2), .val (Value.ref ob3), .val (Value.ref ob15), .val (Value.int (2 : Int32)), .val (Value.int bb), .val (Value.int (3 : Int32)), .val (Value.int (0 : Int32)), .unset] []))
        refine own_Go.by (fun tq kq => XS.iload X42.here hx rfl (hb hby at_90) rfl kq) ?_
        show own_Go p.tables e below _ (T42.setTop (mkF m 92 #[.val (Value.int p1), .val (Value.int p2), .val (Value.int p3), .val (Value.int p4), .val (Value.int r_1), .val (Value.int r_2), .val (Value.ref ob3), .val (Value.ref ob15), .val (Value.int (2 : Int32)), .val (Value.int bb), .val (Value.int (3 : Int32)), .val (Value.int (0 : Int32)), .unset] [(Value.int (2 : Int32))]))
        refine own_Go.by (fun tq kq => XS.ifYes X42.here hx rfl (pc0 := 92) (pc' := 102) rfl (hb hby at_92) rfl ((if0 _ _).trans (feq (by decide : ¬ ((2 : Int32) = (0 : Int32)))).2) (by decide) (by decide) kq) ?_
        show own_Go p.tables e below _ (T42.setTop (mkF m 102 #[.val (Value.int p1), .val (Value.int p2), .val (Value.int p3), .val (Value.int p4), .val (Value.int r_1), .val (Value.int r_2), .val (Value.ref ob3), .val (Value.ref ob15), .val (Value.int (2 : Int32)), .val (Value.int bb), .val (Value.int (3 : Int32)), .val (Value.int (0 : Int32)), .unset] []))
        refine own_Go.by (fun tq kq => XS.iload X42.here hx rfl (hb hby at_102) rfl kq) ?_
        show own_Go p.tables e below _ (T42.setTop (mkF m 104 #[.val (Value.int p1), .val (Value.int p2), .val (Value.int p3), .val (Value.int p4), .val (Value.int r_1), .val (Value.int r_2), .val (Value.ref ob3), .val (Value.ref ob15), .val (Value.int (2 : Int32)), .val (Value.int bb), .val (Value.int (3 : Int32)), .val (Value.int (0 : Int32)), .unset] [(Value.int (2 : Int32))]))
        refine own_Go.by (fun tq kq => XS.iconst X42.here hx rfl (hb hby at_104) kq) ?_
        show own_Go p.tables e below _ (T42.setTop (mkF m 105 #[.val (Value.int p1), .val (Value.int p2), .val (Value.int p3), .val (Value.int p4), .val (Value.int r_1), .val (Value.int r_2), .val (Value.ref ob3), .val (Value.ref ob15), .val (Value.int (2 : Int32)), .val (Value.int bb), .val (Value.int (3 : Int32)), .val (Value.int (0 : Int32)), .unset] [(Value.int (1 : Int32)), (Value.int (2 : Int32))]))
        refine own_Go.by (fun tq kq => XS.icmpYes X42.here hx rfl (pc0 := 105) (pc' := 126) rfl (hb hby at_105) rfl (feq (by decide : ¬ ((2 : Int32) = (1 : Int32)))).2 (by decide) (by decide) kq) ?_
        show own_Go p.tables e below _ (T42.setTop (mkF m 126 #[.val (Value.int p1), .val (Value.int p2), .val (Value.int p3), .val (Value.int p4), .val (Value.int r_1), .val (Value.int r_2), .val (Value.ref ob3), .val (Value.ref ob15), .val (Value.int (2 : Int32)), .val (Value.int bb), .val (Value.int (3 : Int32)), .val (Value.int (0 : Int32)), .unset] []))
        refine own_Go.by (fun tq kq => XS.iload X42.here hx rfl (hb hby at_126) rfl kq) ?_
        show own_Go p.tables e below _ (T42.setTop (mkF m 128 #[.val (Value.int p1), .val (Value.int p2), .val (Value.int p3), .val (Value.int p4), .val (Value.int r_1), .val (Value.int r_2), .val (Value.ref ob3), .val (Value.ref ob15), .val (Value.int (2 : Int32)), .val (Value.int bb), .val (Value.int (3 : Int32)), .val (Value.int (0 : Int32)), .unset] [(Value.int bb)]))
        refine own_Go.by (fun tq kq => XS.iload X42.here hx rfl (hb hby at_128) rfl kq) ?_
        show own_Go p.tables e below _ (T42.setTop (mkF m 130 #[.val (Value.int p1), .val (Value.int p2), .val (Value.int p3), .val (Value.int p4), .val (Value.int r_1), .val (Value.int r_2), .val (Value.ref ob3), .val (Value.ref ob15), .val (Value.int (2 : Int32)), .val (Value.int bb), .val (Value.int (3 : Int32)), .val (Value.int (0 : Int32)), .unset] [(Value.int r_2), (Value.int bb)]))
        refine own_Go.by (fun tq kq => XS.icmpNo X42.here hx rfl (hb hby at_130) rfl (teq hq1).2 kq) ?_
        show own_Go p.tables e below _ (T42.setTop (mkF m 133 #[.val (Value.int p1), .val (Value.int p2), .val (Value.int p3), .val (Value.int p4), .val (Value.int r_1), .val (Value.int r_2), .val (Value.ref ob3), .val (Value.ref ob15), .val (Value.int (2 : Int32)), .val (Value.int bb), .val (Value.int (3 : Int32)), .val (Value.int (0 : Int32)), .unset] []))
        refine own_Go.by (fun tq kq => XS.iconst X42.here hx rfl (hb hby at_133) kq) ?_
        show own_Go p.tables e below _ (T42.setTop (mkF m 134 #[.val (Value.int p1), .val (Value.int p2), .val (Value.int p3), .val (Value.int p4), .val (Value.int r_1), .val (Value.int r_2), .val (Value.ref ob3), .val (Value.ref ob15), .val (Value.int (2 : Int32)), .val (Value.int bb), .val (Value.int (3 : Int32)), .val (Value.int (0 : Int32)), .unset] [(Value.int (3 : Int32))]))
        refine own_Go.by (fun tq kq => XS.goto X42.here hx rfl (pc0 := 134) (pc' := 139) rfl (hb hby at_134) (by decide) (by decide) kq) ?_
        show own_Go p.tables e below _ (T42.setTop (mkF m 139 #[.val (Value.int p1), .val (Value.int p2), .val (Value.int p3), .val (Value.int p4), .val (Value.int r_1), .val (Value.int r_2), .val (Value.ref ob3), .val (Value.ref ob15), .val (Value.int (2 : Int32)), .val (Value.int bb), .val (Value.int (3 : Int32)), .val (Value.int (0 : Int32)), .unset] [(Value.int (3 : Int32))]))
        refine own_Go.by (fun tq kq => XS.istore X42.here hx rfl (hb hby at_139) rfl (l' := #[.val (Value.int p1), .val (Value.int p2), .val (Value.int p3), .val (Value.int p4), .val (Value.int r_1), .val (Value.int r_2), .val (Value.ref ob3), .val (Value.ref ob15), .val (Value.int (2 : Int32)), .val (Value.int bb), .val (Value.int (3 : Int32)), .val (Value.int (0 : Int32)), .val (Value.int (3 : Int32))]) rfl kq) ?_
        show own_Go p.tables e below _ (T42.setTop (mkF m 141 #[.val (Value.int p1), .val (Value.int p2), .val (Value.int p3), .val (Value.int p4), .val (Value.int r_1), .val (Value.int r_2), .val (Value.ref ob3), .val (Value.ref ob15), .val (Value.int (2 : Int32)), .val (Value.int bb), .val (Value.int (3 : Int32)), .val (Value.int (0 : Int32)), .val (Value.int (3 : Int32))] []))
        refine own_Go.by (fun tq kq => XS.iload X42.here hx rfl (hb hby at_141) rfl kq) ?_
        show own_Go p.tables e below _ (T42.setTop (mkF m 143 #[.val (Value.int p1), .val (Value.int p2), .val (Value.int p3), .val (Value.int p4), .val (Value.int r_1), .val (Value.int r_2), .val (Value.ref ob3), .val (Value.ref ob15), .val (Value.int (2 : Int32)), .val (Value.int bb), .val (Value.int (3 : Int32)), .val (Value.int (0 : Int32)), .val (Value.int (3 : Int32))] [(Value.int (3 : Int32))]))
        refine own_Go.by (fun tq kq => XS.iload X42.here hx rfl (hb hby at_143) rfl kq) ?_
        show own_Go p.tables e below _ (T42.setTop (mkF m 145 #[.val (Value.int p1), .val (Value.int p2), .val (Value.int p3), .val (Value.int p4), .val (Value.int r_1), .val (Value.int r_2), .val (Value.ref ob3), .val (Value.ref ob15), .val (Value.int (2 : Int32)), .val (Value.int bb), .val (Value.int (3 : Int32)), .val (Value.int (0 : Int32)), .val (Value.int (3 : Int32))] [(Value.int (3 : Int32)), (Value.int (3 : Int32))]))
        refine own_Go.by (fun tq kq => XS.icmpNo X42.here hx rfl (hb hby at_145) rfl (teq (by decide : (3 : Int32) = (3 : Int32))).2 kq) ?_
        show own_Go p.tables e below _ (T42.setTop (mkF m 148 #[.val (Value.int p1), .val (Value.int p2), .val (Value.int p3), .val (Value.int p4), .val (Value.int r_1), .val (Value.int r_2), .val (Value.ref ob3), .val (Value.ref ob15), .val (Value.int (2 : Int32)), .val (Value.int bb), .val (Value.int (3 : Int32)), .val (Value.int (0 : Int32)), .val (Value.int (3 : Int32))] []))
        refine own_Go.by (fun tq kq => XS.aload X42.here hx rfl (hb hby at_148) rfl rfl kq) ?_
        show own_Go p.tables e below _ (T42.setTop (mkF m 150 #[.val (Value.int p1), .val (Value.int p2), .val (Value.int p3), .val (Value.int p4), .val (Value.int r_1), .val (Value.int r_2), .val (Value.ref ob3), .val (Value.ref ob15), .val (Value.int (2 : Int32)), .val (Value.int bb), .val (Value.int (3 : Int32)), .val (Value.int (0 : Int32)), .val (Value.int (3 : Int32))] [(Value.ref ob15)]))
        obtain ⟨cq45, kq45, q45a, q45b, q45c⟩ := isOf hZ e42 p25_1
        obtain ⟨_, _, ⟨T45, L45, k45, n45⟩, -, X45, ⟨Lc45, hQ45, l45, y45, z45⟩, st45⟩ := X42.virtualBack hx (y := (⟨"com/example/plain_bastion/plainbastion/ssh/Mark", "length", "()I"⟩ : MethodName)) (z := (⟨"com/example/plain_bastion/plainbastion/ssh/Mark", "length", "()I"⟩ : MethodName)) hown (mvT hZ (hw _ (List.mem_of_getElem? (i := 86) rfl))) (mvT hZ (hw _ (List.mem_of_getElem? (i := 87) rfl))) (notFace_of_selects (args := #[]) (mvT hZ (hw _ (List.mem_of_getElem? (i := 89) rfl)))) (mvT hZ (hw _ (List.mem_of_getElem? (i := 89) rfl))) (mvT hZ (hw _ (List.mem_of_getElem? (i := 88) rfl))) (by decide) (backOf (W := 0) (rm15 l Z a0 hw [] ob15 b_25 kb21 r_1 r_2 T25.heap n0 O28 p25_2 p25_3) hZ (hw _ (List.mem_of_getElem? (i := 90) rfl)) (hw _ (List.mem_of_getElem? (i := 7) rfl)) (by decide) (by decide)) q45a q45c (g := (mkF m 150 #[.val (Value.int p1), .val (Value.int p2), .val (Value.int p3), .val (Value.int p4), .val (Value.int r_1), .val (Value.int r_2), .val (Value.ref ob3), .val (Value.ref ob15), .val (Value.int (2 : Int32)), .val (Value.int bb), .val (Value.int (3 : Int32)), .val (Value.int (0 : Int32)), .val (Value.int (3 : Int32))] [(Value.ref ob15)])) rfl (by rw [hml]; rfl) (Steps.refl _) (argsL := []) (rest := []) (lenOf own_pd9 rfl) rfl (by show 2 * 0 + _ ≤ _; exact Nat.le_of_eq rfl) (hb hby at_150) (fun _ _ => ⟨rfl, e42, (by decide : 5 + 0 ≤ _), (by decide : 14 + 0 ≤ _)⟩)
        dsimp only [Pt.U, Pt.locs, Pt.cells, Pt.slots] at X45 l45 y45 z45 st45 hQ45
        subst l45 y45 z45
        refine own_Go.by (fun tq kq => st45.trans kq) ?_
        obtain ⟨rfl, N45q, e45⟩ := hQ45
        have N45 := Fr.app N42 N45q
        show own_Go p.tables e below _ (T45.setTop (mkF m 153 #[.val (Value.int p1), .val (Value.int p2), .val (Value.int p3), .val (Value.int p4), .val (Value.int r_1), .val (Value.int r_2), .val (Value.ref ob3), .val (Value.ref ob15), .val (Value.int (2 : Int32)), .val (Value.int bb), .val (Value.int (3 : Int32)), .val (Value.int (0 : Int32)), .val (Value.int (3 : Int32))] [(Value.int (3 : Int32))]))
        refine own_Go.by (fun tq kq => XS.iconst X45.here hx rfl (hb hby at_153) kq) ?_
        show own_Go p.tables e below _ (T45.setTop (mkF m 154 #[.val (Value.int p1), .val (Value.int p2), .val (Value.int p3), .val (Value.int p4), .val (Value.int r_1), .val (Value.int r_2), .val (Value.ref ob3), .val (Value.ref ob15), .val (Value.int (2 : Int32)), .val (Value.int bb), .val (Value.int (3 : Int32)), .val (Value.int (0 : Int32)), .val (Value.int (3 : Int32))] [(Value.int (3 : Int32)), (Value.int (3 : Int32))]))
        refine own_Go.by (fun tq kq => XS.icmpNo X45.here hx rfl (hb hby at_154) rfl (teq (by decide : (3 : Int32) = (3 : Int32))).2 kq) ?_
        show own_Go p.tables e below _ (T45.setTop (mkF m 157 #[.val (Value.int p1), .val (Value.int p2), .val (Value.int p3), .val (Value.int p4), .val (Value.int r_1), .val (Value.int r_2), .val (Value.ref ob3), .val (Value.ref ob15), .val (Value.int (2 : Int32)), .val (Value.int bb), .val (Value.int (3 : Int32)), .val (Value.int (0 : Int32)), .val (Value.int (3 : Int32))] []))
        refine own_Go.by (fun tq kq => XS.iconst X45.here hx rfl (hb hby at_157) kq) ?_
        show own_Go p.tables e below _ (T45.setTop (mkF m 158 #[.val (Value.int p1), .val (Value.int p2), .val (Value.int p3), .val (Value.int p4), .val (Value.int r_1), .val (Value.int r_2), .val (Value.ref ob3), .val (Value.ref ob15), .val (Value.int (2 : Int32)), .val (Value.int bb), .val (Value.int (3 : Int32)), .val (Value.int (0 : Int32)), .val (Value.int (3 : Int32))] [(Value.int (1 : Int32))]))
        refine own_Go.by (fun tq kq => XS.goto X45.here hx rfl (pc0 := 158) (pc' := 162) rfl (hb hby at_158) (by decide) (by decide) kq) ?_
        show own_Go p.tables e below _ (T45.setTop (mkF m 162 #[.val (Value.int p1), .val (Value.int p2), .val (Value.int p3), .val (Value.int p4), .val (Value.int r_1), .val (Value.int r_2), .val (Value.ref ob3), .val (Value.ref ob15), .val (Value.int (2 : Int32)), .val (Value.int bb), .val (Value.int (3 : Int32)), .val (Value.int (0 : Int32)), .val (Value.int (3 : Int32))] [(Value.int (1 : Int32))]))
        obtain ⟨fs, hr, hrun, hended, hW, hsame⟩ := X45.leave (v := some (Value.int (nar .boolean (1 : Int32)))) (fun h => by rw [Bd.returns] at h; cases h)
        refine own_Go.fin (retN X45 hx (t := .boolean) Bd.returns (by simp) (hb hby at_162) hr) ⟨hrun, hended, _, _, rfl, ?_, ⟨_, rfl⟩, hW, hsame.mono (by decide) (by decide)⟩
        show Q0 Z p1 p2 p3 p4 zc aC aU aI h0 n0 _ T45.heap _
        rw [e45]
        exact ⟨rfl, N45, K28⟩
    ·
      by_cases hq2 : bb = (27 : Int32)
      ·
        show own_Go p.tables e below _ (T25.setTop (mkF m 65 #[.val (Value.int p1), .val (Value.int p2), .val (Value.int p3), .val (Value.int p4), .val (Value.int r_1), .val (Value.int r_2), .val (Value.ref ob3), .val (Value.ref ob15), .val (Value.int (2 : Int32)), .val (Value.int bb), .unset, .unset, .unset] []))
        refine own_Go.by (fun tq kq => XS.aload X25.here hx rfl (hb hby at_65) rfl rfl kq) ?_
        show own_Go p.tables e below _ (T25.setTop (mkF m 67 #[.val (Value.int p1), .val (Value.int p2), .val (Value.int p3), .val (Value.int p4), .val (Value.int r_1), .val (Value.int r_2), .val (Value.ref ob3), .val (Value.ref ob15), .val (Value.int (2 : Int32)), .val (Value.int bb), .unset, .unset, .unset] [(Value.ref ob15)]))
        refine own_Go.by (fun tq kq => XS.iload X25.here hx rfl (hb hby at_67) rfl kq) ?_
        show own_Go p.tables e below _ (T25.setTop (mkF m 69 #[.val (Value.int p1), .val (Value.int p2), .val (Value.int p3), .val (Value.int p4), .val (Value.int r_1), .val (Value.int r_2), .val (Value.ref ob3), .val (Value.ref ob15), .val (Value.int (2 : Int32)), .val (Value.int bb), .unset, .unset, .unset] [(Value.int (2 : Int32)), (Value.ref ob15)]))
        refine own_Go.by (fun tq kq => XS.iload X25.here hx rfl (hb hby at_69) rfl kq) ?_
        show own_Go p.tables e below _ (T25.setTop (mkF m 71 #[.val (Value.int p1), .val (Value.int p2), .val (Value.int p3), .val (Value.int p4), .val (Value.int r_1), .val (Value.int r_2), .val (Value.ref ob3), .val (Value.ref ob15), .val (Value.int (2 : Int32)), .val (Value.int bb), .unset, .unset, .unset] [(Value.int bb), (Value.int (2 : Int32)), (Value.ref ob15)]))
        obtain ⟨cq46, kq46, q46a, q46b, q46c⟩ := isOf hZ rfl p25_1
        obtain ⟨_, _, ⟨T46, L46, k46, n46⟩, -, X46, ⟨Lc46, hQ46, l46, y46, z46⟩, st46⟩ := X25.virtualBack hx (y := (⟨"com/example/plain_bastion/plainbastion/ssh/Mark", "matched", "(IB)I"⟩ : MethodName)) (z := (⟨"com/example/plain_bastion/plainbastion/ssh/Mark", "matched", "(IB)I"⟩ : MethodName)) hown (mvT hZ (hw _ (List.mem_of_getElem? (i := 81) rfl))) (mvT hZ (hw _ (List.mem_of_getElem? (i := 82) rfl))) (notFace_of_selects (args := #[]) (mvT hZ (hw _ (List.mem_of_getElem? (i := 84) rfl)))) (mvT hZ (hw _ (List.mem_of_getElem? (i := 84) rfl))) (mvT hZ (hw _ (List.mem_of_getElem? (i := 83) rfl))) (by decide) (backOf (W := 0) (rm14_2_ft l Z a0 hw [] ob15 b_25 kb21 r_1 r_2 bb T25.heap n0 O28 p25_2 p25_3 hq1 hq2) hZ (hw _ (List.mem_of_getElem? (i := 85) rfl)) (hw _ (List.mem_of_getElem? (i := 7) rfl)) (by decide) (by decide)) q46a q46c (g := (mkF m 71 #[.val (Value.int p1), .val (Value.int p2), .val (Value.int p3), .val (Value.int p4), .val (Value.int r_1), .val (Value.int r_2), .val (Value.ref ob3), .val (Value.ref ob15), .val (Value.int (2 : Int32)), .val (Value.int bb), .unset, .unset, .unset] [(Value.int bb), (Value.int (2 : Int32)), (Value.ref ob15)])) rfl (by rw [hml]; rfl) (Steps.refl _) (argsL := [(Value.int (2 : Int32)), (Value.int bb)]) (rest := []) (lenOf own_pd8 rfl) rfl (by show 2 * 0 + _ ≤ _; exact Nat.le_of_eq rfl) (hb hby at_71) (fun _ _ => ⟨rfl, rfl, (by decide : 5 + 0 ≤ _), (by decide : 14 + 0 ≤ _)⟩)
        dsimp only [Pt.U, Pt.locs, Pt.cells, Pt.slots] at X46 l46 y46 z46 st46 hQ46
        subst l46 y46 z46
        refine own_Go.by (fun tq kq => st46.trans kq) ?_
        obtain ⟨rfl, N46q, e46⟩ := hQ46
        have N46 := Fr.app N25 N46q
        show own_Go p.tables e below _ (T46.setTop (mkF m 74 #[.val (Value.int p1), .val (Value.int p2), .val (Value.int p3), .val (Value.int p4), .val (Value.int r_1), .val (Value.int r_2), .val (Value.ref ob3), .val (Value.ref ob15), .val (Value.int (2 : Int32)), .val (Value.int bb), .unset, .unset, .unset] [(Value.int (1 : Int32))]))
        refine own_Go.by (fun tq kq => XS.istore X46.here hx rfl (hb hby at_74) rfl (l' := #[.val (Value.int p1), .val (Value.int p2), .val (Value.int p3), .val (Value.int p4), .val (Value.int r_1), .val (Value.int r_2), .val (Value.ref ob3), .val (Value.ref ob15), .val (Value.int (2 : Int32)), .val (Value.int bb), .val (Value.int (1 : Int32)), .unset, .unset]) rfl kq) ?_
        show own_Go p.tables e below _ (T46.setTop (mkF m 76 #[.val (Value.int p1), .val (Value.int p2), .val (Value.int p3), .val (Value.int p4), .val (Value.int r_1), .val (Value.int r_2), .val (Value.ref ob3), .val (Value.ref ob15), .val (Value.int (2 : Int32)), .val (Value.int bb), .val (Value.int (1 : Int32)), .unset, .unset] []))
        refine own_Go.by (fun tq kq => XS.iload X46.here hx rfl (hb hby at_76) rfl kq) ?_
        show own_Go p.tables e below _ (T46.setTop (mkF m 78 #[.val (Value.int p1), .val (Value.int p2), .val (Value.int p3), .val (Value.int p4), .val (Value.int r_1), .val (Value.int r_2), .val (Value.ref ob3), .val (Value.ref ob15), .val (Value.int (2 : Int32)), .val (Value.int bb), .val (Value.int (1 : Int32)), .unset, .unset] [(Value.int bb)]))
        refine own_Go.by (fun tq kq => XS.bipush X46.here hx rfl (hb hby at_78) kq) ?_
        show own_Go p.tables e below _ (T46.setTop (mkF m 80 #[.val (Value.int p1), .val (Value.int p2), .val (Value.int p3), .val (Value.int p4), .val (Value.int r_1), .val (Value.int r_2), .val (Value.ref ob3), .val (Value.ref ob15), .val (Value.int (2 : Int32)), .val (Value.int bb), .val (Value.int (1 : Int32)), .unset, .unset] [(Value.int (27 : Int32)), (Value.int bb)]))
        refine own_Go.by (fun tq kq => XS.icmpNo X46.here hx rfl (hb hby at_80) rfl (teq hq2).2 kq) ?_
        show own_Go p.tables e below _ (T46.setTop (mkF m 83 #[.val (Value.int p1), .val (Value.int p2), .val (Value.int p3), .val (Value.int p4), .val (Value.int r_1), .val (Value.int r_2), .val (Value.ref ob3), .val (Value.ref ob15), .val (Value.int (2 : Int32)), .val (Value.int bb), .val (Value.int (1 : Int32)), .unset, .unset] []))
        refine own_Go.by (fun tq kq => XS.iconst X46.here hx rfl (hb hby at_83) kq) ?_
        show own_Go p.tables e below _ (T46.setTop (mkF m 84 #[.val (Value.int p1), .val (Value.int p2), .val (Value.int p3), .val (Value.int p4), .val (Value.int r_1), .val (Value.int r_2), .val (Value.ref ob3), .val (Value.ref ob15), .val (Value.int (2 : Int32)), .val (Value.int bb), .val (Value.int (1 : Int32)), .unset, .unset] [(Value.int (1 : Int32))]))
        refine own_Go.by (fun tq kq => XS.goto X46.here hx rfl (pc0 := 84) (pc' := 88) rfl (hb hby at_84) (by decide) (by decide) kq) ?_
        show own_Go p.tables e below _ (T46.setTop (mkF m 88 #[.val (Value.int p1), .val (Value.int p2), .val (Value.int p3), .val (Value.int p4), .val (Value.int r_1), .val (Value.int r_2), .val (Value.ref ob3), .val (Value.ref ob15), .val (Value.int (2 : Int32)), .val (Value.int bb), .val (Value.int (1 : Int32)), .unset, .unset] [(Value.int (1 : Int32))]))
        refine own_Go.by (fun tq kq => XS.istore X46.here hx rfl (hb hby at_88) rfl (l' := #[.val (Value.int p1), .val (Value.int p2), .val (Value.int p3), .val (Value.int p4), .val (Value.int r_1), .val (Value.int r_2), .val (Value.ref ob3), .val (Value.ref ob15), .val (Value.int (2 : Int32)), .val (Value.int bb), .val (Value.int (1 : Int32)), .val (Value.int (1 : Int32)), .unset]) rfl kq) ?_
        show own_Go p.tables e below _ (T46.setTop (mkF m 90 #[.val (Value.int p1), .val (Value.int p2), .val (Value.int p3), .val (Value.int p4), .val (Value.int r_1), .val (Value.int r_2), .val (Value.ref ob3), .val (Value.ref ob15), .val (Value.int (2 : Int32)), .val (Value.int bb), .val (Value.int (1 : Int32)), .val (Value.int (1 : Int32)), .unset] []))
        refine own_Go.by (fun tq kq => XS.iload X46.here hx rfl (hb hby at_90) rfl kq) ?_
        show own_Go p.tables e below _ (T46.setTop (mkF m 92 #[.val (Value.int p1), .val (Value.int p2), .val (Value.int p3), .val (Value.int p4), .val (Value.int r_1), .val (Value.int r_2), .val (Value.ref ob3), .val (Value.ref ob15), .val (Value.int (2 : Int32)), .val (Value.int bb), .val (Value.int (1 : Int32)), .val (Value.int (1 : Int32)), .unset] [(Value.int (2 : Int32))]))
        refine own_Go.by (fun tq kq => XS.ifYes X46.here hx rfl (pc0 := 92) (pc' := 102) rfl (hb hby at_92) rfl ((if0 _ _).trans (feq (by decide : ¬ ((2 : Int32) = (0 : Int32)))).2) (by decide) (by decide) kq) ?_
        show own_Go p.tables e below _ (T46.setTop (mkF m 102 #[.val (Value.int p1), .val (Value.int p2), .val (Value.int p3), .val (Value.int p4), .val (Value.int r_1), .val (Value.int r_2), .val (Value.ref ob3), .val (Value.ref ob15), .val (Value.int (2 : Int32)), .val (Value.int bb), .val (Value.int (1 : Int32)), .val (Value.int (1 : Int32)), .unset] []))
        refine own_Go.by (fun tq kq => XS.iload X46.here hx rfl (hb hby at_102) rfl kq) ?_
        show own_Go p.tables e below _ (T46.setTop (mkF m 104 #[.val (Value.int p1), .val (Value.int p2), .val (Value.int p3), .val (Value.int p4), .val (Value.int r_1), .val (Value.int r_2), .val (Value.ref ob3), .val (Value.ref ob15), .val (Value.int (2 : Int32)), .val (Value.int bb), .val (Value.int (1 : Int32)), .val (Value.int (1 : Int32)), .unset] [(Value.int (2 : Int32))]))
        refine own_Go.by (fun tq kq => XS.iconst X46.here hx rfl (hb hby at_104) kq) ?_
        show own_Go p.tables e below _ (T46.setTop (mkF m 105 #[.val (Value.int p1), .val (Value.int p2), .val (Value.int p3), .val (Value.int p4), .val (Value.int r_1), .val (Value.int r_2), .val (Value.ref ob3), .val (Value.ref ob15), .val (Value.int (2 : Int32)), .val (Value.int bb), .val (Value.int (1 : Int32)), .val (Value.int (1 : Int32)), .unset] [(Value.int (1 : Int32)), (Value.int (2 : Int32))]))
        refine own_Go.by (fun tq kq => XS.icmpYes X46.here hx rfl (pc0 := 105) (pc' := 126) rfl (hb hby at_105) rfl (feq (by decide : ¬ ((2 : Int32) = (1 : Int32)))).2 (by decide) (by decide) kq) ?_
        show own_Go p.tables e below _ (T46.setTop (mkF m 126 #[.val (Value.int p1), .val (Value.int p2), .val (Value.int p3), .val (Value.int p4), .val (Value.int r_1), .val (Value.int r_2), .val (Value.ref ob3), .val (Value.ref ob15), .val (Value.int (2 : Int32)), .val (Value.int bb), .val (Value.int (1 : Int32)), .val (Value.int (1 : Int32)), .unset] []))
        refine own_Go.by (fun tq kq => XS.iload X46.here hx rfl (hb hby at_126) rfl kq) ?_
        show own_Go p.tables e below _ (T46.setTop (mkF m 128 #[.val (Value.int p1), .val (Value.int p2), .val (Value.int p3), .val (Value.int p4), .val (Value.int r_1), .val (Value.int r_2), .val (Value.ref ob3), .val (Value.ref ob15), .val (Value.int (2 : Int32)), .val (Value.int bb), .val (Value.int (1 : Int32)), .val (Value.int (1 : Int32)), .unset] [(Value.int bb)]))
        refine own_Go.by (fun tq kq => XS.iload X46.here hx rfl (hb hby at_128) rfl kq) ?_
        show own_Go p.tables e below _ (T46.setTop (mkF m 130 #[.val (Value.int p1), .val (Value.int p2), .val (Value.int p3), .val (Value.int p4), .val (Value.int r_1), .val (Value.int r_2), .val (Value.ref ob3), .val (Value.ref ob15), .val (Value.int (2 : Int32)), .val (Value.int bb), .val (Value.int (1 : Int32)), .val (Value.int (1 : Int32)), .unset] [(Value.int r_2), (Value.int bb)]))
        refine own_Go.by (fun tq kq => XS.icmpYes X46.here hx rfl (pc0 := 130) (pc' := 137) rfl (hb hby at_130) rfl (feq hq1).2 (by decide) (by decide) kq) ?_
        show own_Go p.tables e below _ (T46.setTop (mkF m 137 #[.val (Value.int p1), .val (Value.int p2), .val (Value.int p3), .val (Value.int p4), .val (Value.int r_1), .val (Value.int r_2), .val (Value.ref ob3), .val (Value.ref ob15), .val (Value.int (2 : Int32)), .val (Value.int bb), .val (Value.int (1 : Int32)), .val (Value.int (1 : Int32)), .unset] []))
        refine own_Go.by (fun tq kq => XS.iload X46.here hx rfl (hb hby at_137) rfl kq) ?_
        show own_Go p.tables e below _ (T46.setTop (mkF m 139 #[.val (Value.int p1), .val (Value.int p2), .val (Value.int p3), .val (Value.int p4), .val (Value.int r_1), .val (Value.int r_2), .val (Value.ref ob3), .val (Value.ref ob15), .val (Value.int (2 : Int32)), .val (Value.int bb), .val (Value.int (1 : Int32)), .val (Value.int (1 : Int32)), .unset] [(Value.int (1 : Int32))]))
        refine own_Go.by (fun tq kq => XS.istore X46.here hx rfl (hb hby at_139) rfl (l' := #[.val (Value.int p1), .val (Value.int p2), .val (Value.int p3), .val (Value.int p4), .val (Value.int r_1), .val (Value.int r_2), .val (Value.ref ob3), .val (Value.ref ob15), .val (Value.int (2 : Int32)), .val (Value.int bb), .val (Value.int (1 : Int32)), .val (Value.int (1 : Int32)), .val (Value.int (1 : Int32))]) rfl kq) ?_
        show own_Go p.tables e below _ (T46.setTop (mkF m 141 #[.val (Value.int p1), .val (Value.int p2), .val (Value.int p3), .val (Value.int p4), .val (Value.int r_1), .val (Value.int r_2), .val (Value.ref ob3), .val (Value.ref ob15), .val (Value.int (2 : Int32)), .val (Value.int bb), .val (Value.int (1 : Int32)), .val (Value.int (1 : Int32)), .val (Value.int (1 : Int32))] []))
        refine own_Go.by (fun tq kq => XS.iload X46.here hx rfl (hb hby at_141) rfl kq) ?_
        show own_Go p.tables e below _ (T46.setTop (mkF m 143 #[.val (Value.int p1), .val (Value.int p2), .val (Value.int p3), .val (Value.int p4), .val (Value.int r_1), .val (Value.int r_2), .val (Value.ref ob3), .val (Value.ref ob15), .val (Value.int (2 : Int32)), .val (Value.int bb), .val (Value.int (1 : Int32)), .val (Value.int (1 : Int32)), .val (Value.int (1 : Int32))] [(Value.int (1 : Int32))]))
        refine own_Go.by (fun tq kq => XS.iload X46.here hx rfl (hb hby at_143) rfl kq) ?_
        show own_Go p.tables e below _ (T46.setTop (mkF m 145 #[.val (Value.int p1), .val (Value.int p2), .val (Value.int p3), .val (Value.int p4), .val (Value.int r_1), .val (Value.int r_2), .val (Value.ref ob3), .val (Value.ref ob15), .val (Value.int (2 : Int32)), .val (Value.int bb), .val (Value.int (1 : Int32)), .val (Value.int (1 : Int32)), .val (Value.int (1 : Int32))] [(Value.int (1 : Int32)), (Value.int (1 : Int32))]))
        refine own_Go.by (fun tq kq => XS.icmpNo X46.here hx rfl (hb hby at_145) rfl (teq (by decide : (1 : Int32) = (1 : Int32))).2 kq) ?_
        show own_Go p.tables e below _ (T46.setTop (mkF m 148 #[.val (Value.int p1), .val (Value.int p2), .val (Value.int p3), .val (Value.int p4), .val (Value.int r_1), .val (Value.int r_2), .val (Value.ref ob3), .val (Value.ref ob15), .val (Value.int (2 : Int32)), .val (Value.int bb), .val (Value.int (1 : Int32)), .val (Value.int (1 : Int32)), .val (Value.int (1 : Int32))] []))
        refine own_Go.by (fun tq kq => XS.aload X46.here hx rfl (hb hby at_148) rfl rfl kq) ?_
        show own_Go p.tables e below _ (T46.setTop (mkF m 150 #[.val (Value.int p1), .val (Value.int p2), .val (Value.int p3), .val (Value.int p4), .val (Value.int r_1), .val (Value.int r_2), .val (Value.ref ob3), .val (Value.ref ob15), .val (Value.int (2 : Int32)), .val (Value.int bb), .val (Value.int (1 : Int32)), .val (Value.int (1 : Int32)), .val (Value.int (1 : Int32))] [(Value.ref ob15)]))
        obtain ⟨cq47, kq47, q47a, q47b, q47c⟩ := isOf hZ e46 p25_1
        obtain ⟨_, _, ⟨T47, L47, k47, n47⟩, -, X47, ⟨Lc47, hQ47, l47, y47, z47⟩, st47⟩ := X46.virtualBack hx (y := (⟨"com/example/plain_bastion/plainbastion/ssh/Mark", "length", "()I"⟩ : MethodName)) (z := (⟨"com/example/plain_bastion/plainbastion/ssh/Mark", "length", "()I"⟩ : MethodName)) hown (mvT hZ (hw _ (List.mem_of_getElem? (i := 86) rfl))) (mvT hZ (hw _ (List.mem_of_getElem? (i := 87) rfl))) (notFace_of_selects (args := #[]) (mvT hZ (hw _ (List.mem_of_getElem? (i := 89) rfl)))) (mvT hZ (hw _ (List.mem_of_getElem? (i := 89) rfl))) (mvT hZ (hw _ (List.mem_of_getElem? (i := 88) rfl))) (by decide) (backOf (W := 0) (rm15 l Z a0 hw [] ob15 b_25 kb21 r_1 r_2 T25.heap n0 O28 p25_2 p25_3) hZ (hw _ (List.mem_of_getElem? (i := 90) rfl)) (hw _ (List.mem_of_getElem? (i := 7) rfl)) (by decide) (by decide)) q47a q47c (g := (mkF m 150 #[.val (Value.int p1), .val (Value.int p2), .val (Value.int p3), .val (Value.int p4), .val (Value.int r_1), .val (Value.int r_2), .val (Value.ref ob3), .val (Value.ref ob15), .val (Value.int (2 : Int32)), .val (Value.int bb), .val (Value.int (1 : Int32)), .val (Value.int (1 : Int32)), .val (Value.int (1 : Int32))] [(Value.ref ob15)])) rfl (by rw [hml]; rfl) (Steps.refl _) (argsL := []) (rest := []) (lenOf own_pd9 rfl) rfl (by show 2 * 0 + _ ≤ _; exact Nat.le_of_eq rfl) (hb hby at_150) (fun _ _ => ⟨rfl, e46, (by decide : 5 + 0 ≤ _), (by decide : 14 + 0 ≤ _)⟩)
        dsimp only [Pt.U, Pt.locs, Pt.cells, Pt.slots] at X47 l47 y47 z47 st47 hQ47
        subst l47 y47 z47
        refine own_Go.by (fun tq kq => st47.trans kq) ?_
        obtain ⟨rfl, N47q, e47⟩ := hQ47
        have N47 := Fr.app N46 N47q
        show own_Go p.tables e below _ (T47.setTop (mkF m 153 #[.val (Value.int p1), .val (Value.int p2), .val (Value.int p3), .val (Value.int p4), .val (Value.int r_1), .val (Value.int r_2), .val (Value.ref ob3), .val (Value.ref ob15), .val (Value.int (2 : Int32)), .val (Value.int bb), .val (Value.int (1 : Int32)), .val (Value.int (1 : Int32)), .val (Value.int (1 : Int32))] [(Value.int (3 : Int32))]))
        refine own_Go.by (fun tq kq => XS.iconst X47.here hx rfl (hb hby at_153) kq) ?_
        show own_Go p.tables e below _ (T47.setTop (mkF m 154 #[.val (Value.int p1), .val (Value.int p2), .val (Value.int p3), .val (Value.int p4), .val (Value.int r_1), .val (Value.int r_2), .val (Value.ref ob3), .val (Value.ref ob15), .val (Value.int (2 : Int32)), .val (Value.int bb), .val (Value.int (1 : Int32)), .val (Value.int (1 : Int32)), .val (Value.int (1 : Int32))] [(Value.int (3 : Int32)), (Value.int (3 : Int32))]))
        refine own_Go.by (fun tq kq => XS.icmpNo X47.here hx rfl (hb hby at_154) rfl (teq (by decide : (3 : Int32) = (3 : Int32))).2 kq) ?_
        show own_Go p.tables e below _ (T47.setTop (mkF m 157 #[.val (Value.int p1), .val (Value.int p2), .val (Value.int p3), .val (Value.int p4), .val (Value.int r_1), .val (Value.int r_2), .val (Value.ref ob3), .val (Value.ref ob15), .val (Value.int (2 : Int32)), .val (Value.int bb), .val (Value.int (1 : Int32)), .val (Value.int (1 : Int32)), .val (Value.int (1 : Int32))] []))
        refine own_Go.by (fun tq kq => XS.iconst X47.here hx rfl (hb hby at_157) kq) ?_
        show own_Go p.tables e below _ (T47.setTop (mkF m 158 #[.val (Value.int p1), .val (Value.int p2), .val (Value.int p3), .val (Value.int p4), .val (Value.int r_1), .val (Value.int r_2), .val (Value.ref ob3), .val (Value.ref ob15), .val (Value.int (2 : Int32)), .val (Value.int bb), .val (Value.int (1 : Int32)), .val (Value.int (1 : Int32)), .val (Value.int (1 : Int32))] [(Value.int (1 : Int32))]))
        refine own_Go.by (fun tq kq => XS.goto X47.here hx rfl (pc0 := 158) (pc' := 162) rfl (hb hby at_158) (by decide) (by decide) kq) ?_
        show own_Go p.tables e below _ (T47.setTop (mkF m 162 #[.val (Value.int p1), .val (Value.int p2), .val (Value.int p3), .val (Value.int p4), .val (Value.int r_1), .val (Value.int r_2), .val (Value.ref ob3), .val (Value.ref ob15), .val (Value.int (2 : Int32)), .val (Value.int bb), .val (Value.int (1 : Int32)), .val (Value.int (1 : Int32)), .val (Value.int (1 : Int32))] [(Value.int (1 : Int32))]))
        obtain ⟨fs, hr, hrun, hended, hW, hsame⟩ := X47.leave (v := some (Value.int (nar .boolean (1 : Int32)))) (fun h => by rw [Bd.returns] at h; cases h)
        refine own_Go.fin (retN X47 hx (t := .boolean) Bd.returns (by simp) (hb hby at_162) hr) ⟨hrun, hended, _, _, rfl, ?_, ⟨_, rfl⟩, hW, hsame.mono (by decide) (by decide)⟩
        show Q0 Z p1 p2 p3 p4 zc aC aU aI h0 n0 _ T47.heap _
        rw [e47]
        exact ⟨rfl, N47, K28⟩
      ·
        show own_Go p.tables e below _ (T25.setTop (mkF m 65 #[.val (Value.int p1), .val (Value.int p2), .val (Value.int p3), .val (Value.int p4), .val (Value.int r_1), .val (Value.int r_2), .val (Value.ref ob3), .val (Value.ref ob15), .val (Value.int (2 : Int32)), .val (Value.int bb), .unset, .unset, .unset] []))
        refine own_Go.by (fun tq kq => XS.aload X25.here hx rfl (hb hby at_65) rfl rfl kq) ?_
        show own_Go p.tables e below _ (T25.setTop (mkF m 67 #[.val (Value.int p1), .val (Value.int p2), .val (Value.int p3), .val (Value.int p4), .val (Value.int r_1), .val (Value.int r_2), .val (Value.ref ob3), .val (Value.ref ob15), .val (Value.int (2 : Int32)), .val (Value.int bb), .unset, .unset, .unset] [(Value.ref ob15)]))
        refine own_Go.by (fun tq kq => XS.iload X25.here hx rfl (hb hby at_67) rfl kq) ?_
        show own_Go p.tables e below _ (T25.setTop (mkF m 69 #[.val (Value.int p1), .val (Value.int p2), .val (Value.int p3), .val (Value.int p4), .val (Value.int r_1), .val (Value.int r_2), .val (Value.ref ob3), .val (Value.ref ob15), .val (Value.int (2 : Int32)), .val (Value.int bb), .unset, .unset, .unset] [(Value.int (2 : Int32)), (Value.ref ob15)]))
        refine own_Go.by (fun tq kq => XS.iload X25.here hx rfl (hb hby at_69) rfl kq) ?_
        show own_Go p.tables e below _ (T25.setTop (mkF m 71 #[.val (Value.int p1), .val (Value.int p2), .val (Value.int p3), .val (Value.int p4), .val (Value.int r_1), .val (Value.int r_2), .val (Value.ref ob3), .val (Value.ref ob15), .val (Value.int (2 : Int32)), .val (Value.int bb), .unset, .unset, .unset] [(Value.int bb), (Value.int (2 : Int32)), (Value.ref ob15)]))
        obtain ⟨cq48, kq48, q48a, q48b, q48c⟩ := isOf hZ rfl p25_1
        obtain ⟨_, _, ⟨T48, L48, k48, n48⟩, -, X48, ⟨Lc48, hQ48, l48, y48, z48⟩, st48⟩ := X25.virtualBack hx (y := (⟨"com/example/plain_bastion/plainbastion/ssh/Mark", "matched", "(IB)I"⟩ : MethodName)) (z := (⟨"com/example/plain_bastion/plainbastion/ssh/Mark", "matched", "(IB)I"⟩ : MethodName)) hown (mvT hZ (hw _ (List.mem_of_getElem? (i := 81) rfl))) (mvT hZ (hw _ (List.mem_of_getElem? (i := 82) rfl))) (notFace_of_selects (args := #[]) (mvT hZ (hw _ (List.mem_of_getElem? (i := 84) rfl)))) (mvT hZ (hw _ (List.mem_of_getElem? (i := 84) rfl))) (mvT hZ (hw _ (List.mem_of_getElem? (i := 83) rfl))) (by decide) (backOf (W := 0) (rm14_2_ff l Z a0 hw [] ob15 b_25 kb21 r_1 r_2 bb T25.heap n0 O28 p25_2 p25_3 hq1 hq2) hZ (hw _ (List.mem_of_getElem? (i := 85) rfl)) (hw _ (List.mem_of_getElem? (i := 7) rfl)) (by decide) (by decide)) q48a q48c (g := (mkF m 71 #[.val (Value.int p1), .val (Value.int p2), .val (Value.int p3), .val (Value.int p4), .val (Value.int r_1), .val (Value.int r_2), .val (Value.ref ob3), .val (Value.ref ob15), .val (Value.int (2 : Int32)), .val (Value.int bb), .unset, .unset, .unset] [(Value.int bb), (Value.int (2 : Int32)), (Value.ref ob15)])) rfl (by rw [hml]; rfl) (Steps.refl _) (argsL := [(Value.int (2 : Int32)), (Value.int bb)]) (rest := []) (lenOf own_pd8 rfl) rfl (by show 2 * 0 + _ ≤ _; exact Nat.le_of_eq rfl) (hb hby at_71) (fun _ _ => ⟨rfl, rfl, (by decide : 5 + 0 ≤ _), (by decide : 14 + 0 ≤ _)⟩)
        dsimp only [Pt.U, Pt.locs, Pt.cells, Pt.slots] at X48 l48 y48 z48 st48 hQ48
        subst l48 y48 z48
        refine own_Go.by (fun tq kq => st48.trans kq) ?_
        obtain ⟨rfl, N48q, e48⟩ := hQ48
        have N48 := Fr.app N25 N48q
        show own_Go p.tables e below _ (T48.setTop (mkF m 74 #[.val (Value.int p1), .val (Value.int p2), .val (Value.int p3), .val (Value.int p4), .val (Value.int r_1), .val (Value.int r_2), .val (Value.ref ob3), .val (Value.ref ob15), .val (Value.int (2 : Int32)), .val (Value.int bb), .unset, .unset, .unset] [(Value.int (0 : Int32))]))
        refine own_Go.by (fun tq kq => XS.istore X48.here hx rfl (hb hby at_74) rfl (l' := #[.val (Value.int p1), .val (Value.int p2), .val (Value.int p3), .val (Value.int p4), .val (Value.int r_1), .val (Value.int r_2), .val (Value.ref ob3), .val (Value.ref ob15), .val (Value.int (2 : Int32)), .val (Value.int bb), .val (Value.int (0 : Int32)), .unset, .unset]) rfl kq) ?_
        show own_Go p.tables e below _ (T48.setTop (mkF m 76 #[.val (Value.int p1), .val (Value.int p2), .val (Value.int p3), .val (Value.int p4), .val (Value.int r_1), .val (Value.int r_2), .val (Value.ref ob3), .val (Value.ref ob15), .val (Value.int (2 : Int32)), .val (Value.int bb), .val (Value.int (0 : Int32)), .unset, .unset] []))
        refine own_Go.by (fun tq kq => XS.iload X48.here hx rfl (hb hby at_76) rfl kq) ?_
        show own_Go p.tables e below _ (T48.setTop (mkF m 78 #[.val (Value.int p1), .val (Value.int p2), .val (Value.int p3), .val (Value.int p4), .val (Value.int r_1), .val (Value.int r_2), .val (Value.ref ob3), .val (Value.ref ob15), .val (Value.int (2 : Int32)), .val (Value.int bb), .val (Value.int (0 : Int32)), .unset, .unset] [(Value.int bb)]))
        refine own_Go.by (fun tq kq => XS.bipush X48.here hx rfl (hb hby at_78) kq) ?_
        show own_Go p.tables e below _ (T48.setTop (mkF m 80 #[.val (Value.int p1), .val (Value.int p2), .val (Value.int p3), .val (Value.int p4), .val (Value.int r_1), .val (Value.int r_2), .val (Value.ref ob3), .val (Value.ref ob15), .val (Value.int (2 : Int32)), .val (Value.int bb), .val (Value.int (0 : Int32)), .unset, .unset] [(Value.int (27 : Int32)), (Value.int bb)]))
        refine own_Go.by (fun tq kq => XS.icmpYes X48.here hx rfl (pc0 := 80) (pc' := 87) rfl (hb hby at_80) rfl (feq hq2).2 (by decide) (by decide) kq) ?_
        show own_Go p.tables e below _ (T48.setTop (mkF m 87 #[.val (Value.int p1), .val (Value.int p2), .val (Value.int p3), .val (Value.int p4), .val (Value.int r_1), .val (Value.int r_2), .val (Value.ref ob3), .val (Value.ref ob15), .val (Value.int (2 : Int32)), .val (Value.int bb), .val (Value.int (0 : Int32)), .unset, .unset] []))
        refine own_Go.by (fun tq kq => XS.iconst X48.here hx rfl (hb hby at_87) kq) ?_
        show own_Go p.tables e below _ (T48.setTop (mkF m 88 #[.val (Value.int p1), .val (Value.int p2), .val (Value.int p3), .val (Value.int p4), .val (Value.int r_1), .val (Value.int r_2), .val (Value.ref ob3), .val (Value.ref ob15), .val (Value.int (2 : Int32)), .val (Value.int bb), .val (Value.int (0 : Int32)), .unset, .unset] [(Value.int (0 : Int32))]))
        refine own_Go.by (fun tq kq => XS.istore X48.here hx rfl (hb hby at_88) rfl (l' := #[.val (Value.int p1), .val (Value.int p2), .val (Value.int p3), .val (Value.int p4), .val (Value.int r_1), .val (Value.int r_2), .val (Value.ref ob3), .val (Value.ref ob15), .val (Value.int (2 : Int32)), .val (Value.int bb), .val (Value.int (0 : Int32)), .val (Value.int (0 : Int32)), .unset]) rfl kq) ?_
        show own_Go p.tables e below _ (T48.setTop (mkF m 90 #[.val (Value.int p1), .val (Value.int p2), .val (Value.int p3), .val (Value.int p4), .val (Value.int r_1), .val (Value.int r_2), .val (Value.ref ob3), .val (Value.ref ob15), .val (Value.int (2 : Int32)), .val (Value.int bb), .val (Value.int (0 : Int32)), .val (Value.int (0 : Int32)), .unset] []))
        refine own_Go.by (fun tq kq => XS.iload X48.here hx rfl (hb hby at_90) rfl kq) ?_
        show own_Go p.tables e below _ (T48.setTop (mkF m 92 #[.val (Value.int p1), .val (Value.int p2), .val (Value.int p3), .val (Value.int p4), .val (Value.int r_1), .val (Value.int r_2), .val (Value.ref ob3), .val (Value.ref ob15), .val (Value.int (2 : Int32)), .val (Value.int bb), .val (Value.int (0 : Int32)), .val (Value.int (0 : Int32)), .unset] [(Value.int (2 : Int32))]))
        refine own_Go.by (fun tq kq => XS.ifYes X48.here hx rfl (pc0 := 92) (pc' := 102) rfl (hb hby at_92) rfl ((if0 _ _).trans (feq (by decide : ¬ ((2 : Int32) = (0 : Int32)))).2) (by decide) (by decide) kq) ?_
        show own_Go p.tables e below _ (T48.setTop (mkF m 102 #[.val (Value.int p1), .val (Value.int p2), .val (Value.int p3), .val (Value.int p4), .val (Value.int r_1), .val (Value.int r_2), .val (Value.ref ob3), .val (Value.ref ob15), .val (Value.int (2 : Int32)), .val (Value.int bb), .val (Value.int (0 : Int32)), .val (Value.int (0 : Int32)), .unset] []))
        refine own_Go.by (fun tq kq => XS.iload X48.here hx rfl (hb hby at_102) rfl kq) ?_
        show own_Go p.tables e below _ (T48.setTop (mkF m 104 #[.val (Value.int p1), .val (Value.int p2), .val (Value.int p3), .val (Value.int p4), .val (Value.int r_1), .val (Value.int r_2), .val (Value.ref ob3), .val (Value.ref ob15), .val (Value.int (2 : Int32)), .val (Value.int bb), .val (Value.int (0 : Int32)), .val (Value.int (0 : Int32)), .unset] [(Value.int (2 : Int32))]))
        refine own_Go.by (fun tq kq => XS.iconst X48.here hx rfl (hb hby at_104) kq) ?_
        show own_Go p.tables e below _ (T48.setTop (mkF m 105 #[.val (Value.int p1), .val (Value.int p2), .val (Value.int p3), .val (Value.int p4), .val (Value.int r_1), .val (Value.int r_2), .val (Value.ref ob3), .val (Value.ref ob15), .val (Value.int (2 : Int32)), .val (Value.int bb), .val (Value.int (0 : Int32)), .val (Value.int (0 : Int32)), .unset] [(Value.int (1 : Int32)), (Value.int (2 : Int32))]))
        refine own_Go.by (fun tq kq => XS.icmpYes X48.here hx rfl (pc0 := 105) (pc' := 126) rfl (hb hby at_105) rfl (feq (by decide : ¬ ((2 : Int32) = (1 : Int32)))).2 (by decide) (by decide) kq) ?_
        show own_Go p.tables e below _ (T48.setTop (mkF m 126 #[.val (Value.int p1), .val (Value.int p2), .val (Value.int p3), .val (Value.int p4), .val (Value.int r_1), .val (Value.int r_2), .val (Value.ref ob3), .val (Value.ref ob15), .val (Value.int (2 : Int32)), .val (Value.int bb), .val (Value.int (0 : Int32)), .val (Value.int (0 : Int32)), .unset] []))
        refine own_Go.by (fun tq kq => XS.iload X48.here hx rfl (hb hby at_126) rfl kq) ?_
        show own_Go p.tables e below _ (T48.setTop (mkF m 128 #[.val (Value.int p1), .val (Value.int p2), .val (Value.int p3), .val (Value.int p4), .val (Value.int r_1), .val (Value.int r_2), .val (Value.ref ob3), .val (Value.ref ob15), .val (Value.int (2 : Int32)), .val (Value.int bb), .val (Value.int (0 : Int32)), .val (Value.int (0 : Int32)), .unset] [(Value.int bb)]))
        refine own_Go.by (fun tq kq => XS.iload X48.here hx rfl (hb hby at_128) rfl kq) ?_
        show own_Go p.tables e below _ (T48.setTop (mkF m 130 #[.val (Value.int p1), .val (Value.int p2), .val (Value.int p3), .val (Value.int p4), .val (Value.int r_1), .val (Value.int r_2), .val (Value.ref ob3), .val (Value.ref ob15), .val (Value.int (2 : Int32)), .val (Value.int bb), .val (Value.int (0 : Int32)), .val (Value.int (0 : Int32)), .unset] [(Value.int r_2), (Value.int bb)]))
        refine own_Go.by (fun tq kq => XS.icmpYes X48.here hx rfl (pc0 := 130) (pc' := 137) rfl (hb hby at_130) rfl (feq hq1).2 (by decide) (by decide) kq) ?_
        show own_Go p.tables e below _ (T48.setTop (mkF m 137 #[.val (Value.int p1), .val (Value.int p2), .val (Value.int p3), .val (Value.int p4), .val (Value.int r_1), .val (Value.int r_2), .val (Value.ref ob3), .val (Value.ref ob15), .val (Value.int (2 : Int32)), .val (Value.int bb), .val (Value.int (0 : Int32)), .val (Value.int (0 : Int32)), .unset] []))
        refine own_Go.by (fun tq kq => XS.iload X48.here hx rfl (hb hby at_137) rfl kq) ?_
        show own_Go p.tables e below _ (T48.setTop (mkF m 139 #[.val (Value.int p1), .val (Value.int p2), .val (Value.int p3), .val (Value.int p4), .val (Value.int r_1), .val (Value.int r_2), .val (Value.ref ob3), .val (Value.ref ob15), .val (Value.int (2 : Int32)), .val (Value.int bb), .val (Value.int (0 : Int32)), .val (Value.int (0 : Int32)), .unset] [(Value.int (0 : Int32))]))
        refine own_Go.by (fun tq kq => XS.istore X48.here hx rfl (hb hby at_139) rfl (l' := #[.val (Value.int p1), .val (Value.int p2), .val (Value.int p3), .val (Value.int p4), .val (Value.int r_1), .val (Value.int r_2), .val (Value.ref ob3), .val (Value.ref ob15), .val (Value.int (2 : Int32)), .val (Value.int bb), .val (Value.int (0 : Int32)), .val (Value.int (0 : Int32)), .val (Value.int (0 : Int32))]) rfl kq) ?_
        show own_Go p.tables e below _ (T48.setTop (mkF m 141 #[.val (Value.int p1), .val (Value.int p2), .val (Value.int p3), .val (Value.int p4), .val (Value.int r_1), .val (Value.int r_2), .val (Value.ref ob3), .val (Value.ref ob15), .val (Value.int (2 : Int32)), .val (Value.int bb), .val (Value.int (0 : Int32)), .val (Value.int (0 : Int32)), .val (Value.int (0 : Int32))] []))
        refine own_Go.by (fun tq kq => XS.iload X48.here hx rfl (hb hby at_141) rfl kq) ?_
        show own_Go p.tables e below _ (T48.setTop (mkF m 143 #[.val (Value.int p1), .val (Value.int p2), .val (Value.int p3), .val (Value.int p4), .val (Value.int r_1), .val (Value.int r_2), .val (Value.ref ob3), .val (Value.ref ob15), .val (Value.int (2 : Int32)), .val (Value.int bb), .val (Value.int (0 : Int32)), .val (Value.int (0 : Int32)), .val (Value.int (0 : Int32))] [(Value.int (0 : Int32))]))
        refine own_Go.by (fun tq kq => XS.iload X48.here hx rfl (hb hby at_143) rfl kq) ?_
        show own_Go p.tables e below _ (T48.setTop (mkF m 145 #[.val (Value.int p1), .val (Value.int p2), .val (Value.int p3), .val (Value.int p4), .val (Value.int r_1), .val (Value.int r_2), .val (Value.ref ob3), .val (Value.ref ob15), .val (Value.int (2 : Int32)), .val (Value.int bb), .val (Value.int (0 : Int32)), .val (Value.int (0 : Int32)), .val (Value.int (0 : Int32))] [(Value.int (0 : Int32)), (Value.int (0 : Int32))]))
        refine own_Go.by (fun tq kq => XS.icmpNo X48.here hx rfl (hb hby at_145) rfl (teq (by decide : (0 : Int32) = (0 : Int32))).2 kq) ?_
        show own_Go p.tables e below _ (T48.setTop (mkF m 148 #[.val (Value.int p1), .val (Value.int p2), .val (Value.int p3), .val (Value.int p4), .val (Value.int r_1), .val (Value.int r_2), .val (Value.ref ob3), .val (Value.ref ob15), .val (Value.int (2 : Int32)), .val (Value.int bb), .val (Value.int (0 : Int32)), .val (Value.int (0 : Int32)), .val (Value.int (0 : Int32))] []))
        refine own_Go.by (fun tq kq => XS.aload X48.here hx rfl (hb hby at_148) rfl rfl kq) ?_
        show own_Go p.tables e below _ (T48.setTop (mkF m 150 #[.val (Value.int p1), .val (Value.int p2), .val (Value.int p3), .val (Value.int p4), .val (Value.int r_1), .val (Value.int r_2), .val (Value.ref ob3), .val (Value.ref ob15), .val (Value.int (2 : Int32)), .val (Value.int bb), .val (Value.int (0 : Int32)), .val (Value.int (0 : Int32)), .val (Value.int (0 : Int32))] [(Value.ref ob15)]))
        obtain ⟨cq49, kq49, q49a, q49b, q49c⟩ := isOf hZ e48 p25_1
        obtain ⟨_, _, ⟨T49, L49, k49, n49⟩, -, X49, ⟨Lc49, hQ49, l49, y49, z49⟩, st49⟩ := X48.virtualBack hx (y := (⟨"com/example/plain_bastion/plainbastion/ssh/Mark", "length", "()I"⟩ : MethodName)) (z := (⟨"com/example/plain_bastion/plainbastion/ssh/Mark", "length", "()I"⟩ : MethodName)) hown (mvT hZ (hw _ (List.mem_of_getElem? (i := 86) rfl))) (mvT hZ (hw _ (List.mem_of_getElem? (i := 87) rfl))) (notFace_of_selects (args := #[]) (mvT hZ (hw _ (List.mem_of_getElem? (i := 89) rfl)))) (mvT hZ (hw _ (List.mem_of_getElem? (i := 89) rfl))) (mvT hZ (hw _ (List.mem_of_getElem? (i := 88) rfl))) (by decide) (backOf (W := 0) (rm15 l Z a0 hw [] ob15 b_25 kb21 r_1 r_2 T25.heap n0 O28 p25_2 p25_3) hZ (hw _ (List.mem_of_getElem? (i := 90) rfl)) (hw _ (List.mem_of_getElem? (i := 7) rfl)) (by decide) (by decide)) q49a q49c (g := (mkF m 150 #[.val (Value.int p1), .val (Value.int p2), .val (Value.int p3), .val (Value.int p4), .val (Value.int r_1), .val (Value.int r_2), .val (Value.ref ob3), .val (Value.ref ob15), .val (Value.int (2 : Int32)), .val (Value.int bb), .val (Value.int (0 : Int32)), .val (Value.int (0 : Int32)), .val (Value.int (0 : Int32))] [(Value.ref ob15)])) rfl (by rw [hml]; rfl) (Steps.refl _) (argsL := []) (rest := []) (lenOf own_pd9 rfl) rfl (by show 2 * 0 + _ ≤ _; exact Nat.le_of_eq rfl) (hb hby at_150) (fun _ _ => ⟨rfl, e48, (by decide : 5 + 0 ≤ _), (by decide : 14 + 0 ≤ _)⟩)
        dsimp only [Pt.U, Pt.locs, Pt.cells, Pt.slots] at X49 l49 y49 z49 st49 hQ49
        subst l49 y49 z49
        refine own_Go.by (fun tq kq => st49.trans kq) ?_
        obtain ⟨rfl, N49q, e49⟩ := hQ49
        have N49 := Fr.app N48 N49q
        show own_Go p.tables e below _ (T49.setTop (mkF m 153 #[.val (Value.int p1), .val (Value.int p2), .val (Value.int p3), .val (Value.int p4), .val (Value.int r_1), .val (Value.int r_2), .val (Value.ref ob3), .val (Value.ref ob15), .val (Value.int (2 : Int32)), .val (Value.int bb), .val (Value.int (0 : Int32)), .val (Value.int (0 : Int32)), .val (Value.int (0 : Int32))] [(Value.int (3 : Int32))]))
        refine own_Go.by (fun tq kq => XS.iconst X49.here hx rfl (hb hby at_153) kq) ?_
        show own_Go p.tables e below _ (T49.setTop (mkF m 154 #[.val (Value.int p1), .val (Value.int p2), .val (Value.int p3), .val (Value.int p4), .val (Value.int r_1), .val (Value.int r_2), .val (Value.ref ob3), .val (Value.ref ob15), .val (Value.int (2 : Int32)), .val (Value.int bb), .val (Value.int (0 : Int32)), .val (Value.int (0 : Int32)), .val (Value.int (0 : Int32))] [(Value.int (3 : Int32)), (Value.int (3 : Int32))]))
        refine own_Go.by (fun tq kq => XS.icmpNo X49.here hx rfl (hb hby at_154) rfl (teq (by decide : (3 : Int32) = (3 : Int32))).2 kq) ?_
        show own_Go p.tables e below _ (T49.setTop (mkF m 157 #[.val (Value.int p1), .val (Value.int p2), .val (Value.int p3), .val (Value.int p4), .val (Value.int r_1), .val (Value.int r_2), .val (Value.ref ob3), .val (Value.ref ob15), .val (Value.int (2 : Int32)), .val (Value.int bb), .val (Value.int (0 : Int32)), .val (Value.int (0 : Int32)), .val (Value.int (0 : Int32))] []))
        refine own_Go.by (fun tq kq => XS.iconst X49.here hx rfl (hb hby at_157) kq) ?_
        show own_Go p.tables e below _ (T49.setTop (mkF m 158 #[.val (Value.int p1), .val (Value.int p2), .val (Value.int p3), .val (Value.int p4), .val (Value.int r_1), .val (Value.int r_2), .val (Value.ref ob3), .val (Value.ref ob15), .val (Value.int (2 : Int32)), .val (Value.int bb), .val (Value.int (0 : Int32)), .val (Value.int (0 : Int32)), .val (Value.int (0 : Int32))] [(Value.int (1 : Int32))]))
        refine own_Go.by (fun tq kq => XS.goto X49.here hx rfl (pc0 := 158) (pc' := 162) rfl (hb hby at_158) (by decide) (by decide) kq) ?_
        show own_Go p.tables e below _ (T49.setTop (mkF m 162 #[.val (Value.int p1), .val (Value.int p2), .val (Value.int p3), .val (Value.int p4), .val (Value.int r_1), .val (Value.int r_2), .val (Value.ref ob3), .val (Value.ref ob15), .val (Value.int (2 : Int32)), .val (Value.int bb), .val (Value.int (0 : Int32)), .val (Value.int (0 : Int32)), .val (Value.int (0 : Int32))] [(Value.int (1 : Int32))]))
        obtain ⟨fs, hr, hrun, hended, hW, hsame⟩ := X49.leave (v := some (Value.int (nar .boolean (1 : Int32)))) (fun h => by rw [Bd.returns] at h; cases h)
        refine own_Go.fin (retN X49 hx (t := .boolean) Bd.returns (by simp) (hb hby at_162) hr) ⟨hrun, hended, _, _, rfl, ?_, ⟨_, rfl⟩, hW, hsame.mono (by decide) (by decide)⟩
        show Q0 Z p1 p2 p3 p4 zc aC aU aI h0 n0 _ T49.heap _
        rw [e49]
        exact ⟨rfl, N49, K28⟩

set_option maxRecDepth 65536 in
set_option maxHeartbeats 40000000 in
theorem comes_1 {Post : Tables → Env → Array Value → State → Outcome → State → Prop} (hpost : ∀ tb e args s v u, (limb_1_1.after args s (.returned v) u = true ∧ limb_1_2.after args s (.returned v) u = true ∧ True) → FrameEnd s (.returned v) u (Jvm.fieldLocs frame_1_writes args s ++ Jvm.arrayLocs frame_1_arrays args s ++ Jvm.staticLocs frame_1_statics s) 24 128 → Post tb e args s (.returned v) u) :
    ArmFor flags0 classFile x code maxLocals ret World_1 tables_1 room_1 Calls_1 rest_1 Pre_1 Post := by
  intro l hfl _ _ p e ha hc hk s m args below hf hA hF happ hP
  obtain ⟨hcalls, hrest, hpre⟩ := hP
  obtain ⟨-, -, -, hnamed, -, -, -, hat⟩ := (Spec.applies_iff hf).mp happ
  obtain ⟨hg, hn⟩ := and_e (Cond.before_iff.mp (show (Jvm.Cond.and given_1 narrow_1).before args s = true from hpre))
  obtain ⟨hcount, hg⟩ := and_e hg
  obtain ⟨hg0, hg⟩ := and_e hg
  obtain ⟨hg1, hg⟩ := and_e hg
  obtain ⟨hg2, hg⟩ := and_e hg
  have hg3 := hg
  obtain ⟨w0, w1, w2, w3, rfl⟩ : ∃ w0 w1 w2 w3 : Value, args = #[w0, w1, w2, w3] := by
    have hs : args.size = 4 := by simpa [Cond.value, given_1] using hcount
    obtain ⟨L⟩ := args
    match L, hs with
    | [w0, w1, w2, w3], _ => exact ⟨w0, w1, w2, w3, rfl⟩
  have hw := fun d (hd : d ∈ tables_1) => atoms_spec (ws := Jvm.Cond.code x code maxLocals ret :: tables_1) hat d (List.mem_cons_of_mem _ hd)
  have hfit : Fit s := fun {y c} hc i hi => by
    obtain ⟨ha, rfl⟩ := Array.getElem?_eq_some_iff.mp hc
    have q := List.all_eq_true.mp ((Array.all_eq_true_iff_forall_mem.mp hF) _ (Array.getElem_mem ha)) i (List.mem_range.mpr hi)
    simpa [Array.getElem?_eq_getElem hi] using q
  obtain ⟨i0, ei0⟩ := is_v hg0
  obtain rfl : w0 = (.int i0) := Option.some.inj ei0
  obtain ⟨i1, ei1⟩ := is_v hg1
  obtain rfl : w1 = (.int i1) := Option.some.inj ei1
  obtain ⟨i2, ei2⟩ := is_v hg2
  obtain rfl : w2 = (.int i2) := Option.some.inj ei2
  obtain ⟨i3, ei3⟩ := is_v hg3
  obtain rfl : w3 = (.int i3) := Option.some.inj ei3
  obtain ⟨hsets, hown0⟩ := atoms_of _ (rest_1_c_eq ▸ (show rest_1_c.before _ s = true from hrest))
  have hcs0 := not_v (Cond.before_iff.mp (hsets _ (List.mem_of_getElem? (i := 2) rfl)))
  obtain ⟨zc, ezc⟩ := is_v (Cond.before_iff.mp (hsets _ (List.mem_of_getElem? (i := 1) rfl)))
  have SC : Sta s s.heap "java/lang/String" "COMPACT_STRINGS" "Z" (.int zc) := Sta.start ezc (Or.inl (hsets _ (List.mem_of_getElem? (i := 0) rfl)))
  have hzc : ¬ (zc = (0 : Int32)) := gotF (Cond.eq_ints ezc (Term.int_eval (0))) hcs0
  have hE := Cond.before_iff.mp (hsets _ (List.mem_of_getElem? (i := 13) rfl))
  obtain ⟨aC, eC⟩ := exa_v (Cond.before_iff.mp (hsets _ (List.mem_of_getElem? (i := 14) rfl)))
  obtain ⟨aU, eU⟩ := exa_v (Cond.before_iff.mp (hsets _ (List.mem_of_getElem? (i := 17) rfl)))
  obtain ⟨aI, eI⟩ := exa_v (Cond.before_iff.mp (hsets _ (List.mem_of_getElem? (i := 20) rfl)))
  obtain ⟨aA, eA⟩ := exa_v (Cond.before_iff.mp (hsets _ (List.mem_of_getElem? (i := 23) rfl)))
  have hCA : aC = aA := Value.ref.inj (gotT (eq_R eC eA rfl rfl) hE)
  have EC := Exa.start eC (Cond.before_iff.mp (hsets _ (List.mem_of_getElem? (i := 14) rfl)))
  have EU := Exa.start eU (Cond.before_iff.mp (hsets _ (List.mem_of_getElem? (i := 17) rfl)))
  have EI := Exa.start eI (Cond.before_iff.mp (hsets _ (List.mem_of_getElem? (i := 20) rfl)))
  have n1 := ne_exa EC EU (by decide)
  have n2 := ne_exa EC EI (by decide)
  have SCh := Sta.start eC (Or.inl (hsets _ (List.mem_of_getElem? (i := 10) rfl)))
  have SU := Sta.start eU (Or.inl (hsets _ (List.mem_of_getElem? (i := 16) rfl)))
  have SI := Sta.start eI (Or.inl (hsets _ (List.mem_of_getElem? (i := 19) rfl)))
  have SA := Sta.start eA (Or.inl (hsets _ (List.mem_of_getElem? (i := 12) rfl)))
  rw [← hCA] at SA
  obtain ⟨n, o, h1, h2, h3, _, L, rfl, ⟨rfl, N, -⟩, hq⟩ := rm0 l s _ hw tables_1 i0 i1 i2 i3 zc aC aU aI s.heap s.heap.size (Old.start s) SC hzc SCh SU SI SA n1 n2 p e ha hc hk s m _ below hf ((Spec.applies_iff_loose hf).mp happ).1 ⟨rfl, State.Warmed39.refl s, rfl⟩ trivial
  refine ⟨n, _, h1, h2, h3, hpost _ _ _ _ _ _ ⟨Cond.after_iff.mpr rfl, Cond.after_iff.mpr (eq_i res_at (Term.int_eval (1)) rfl), trivial⟩ ⟨hq.1, hq.2.1, (hq.2.2.sift fun y hy => Or.inr (N y hy)).mono (by decide) (by decide)⟩⟩
theorem main_1_1 : Claimed_1_1 := comes_1 fun _ _ _ _ _ _ h hF => ⟨h.1, hF⟩
theorem main_1_2 : Claimed_1_2 := comes_1 fun _ _ _ _ _ _ h hF => ⟨h.2.1, hF⟩
end Jvm.Pilot.@@N@@
namespace Jvm.Pilot.@@N@@
open Jvm Jvm.ClassFile Sem Op Lib Jvm.Free Jvm.Stand Jvm.Pilot.@@N@@.Jvm.D
/-! MADE BY PROGRAM (witnessworld.py) out of the Statement's table words and the real class files: 28 classes; the members and pool entries that the words name. The judged class is class 1, her method 2. -/
namespace start1
open Jvm.ClassFile
def u (s : String) : CpInfo := .utf8 (stringToUtf16 s)
/-- a pool by its gaps: so many unusable entries, then the entry; so many at the end -/
def gap : Nat → List CpInfo → List CpInfo
  | 0, r => r
  | n + 1, r => .unusable :: gap n r
def poolList (es : List (Nat × CpInfo)) (last : Nat) : List CpInfo := es.foldr (fun e r => gap e.1 (e.2 :: r)) (gap last [])
def pool (es : List (Nat × CpInfo)) (last : Nat) : Array CpInfo := ⟨poolList es last⟩
def fileOf (pool : Array CpInfo) (this : Nat) (attrs : Array Attribute := #[]) (ms : Array MethodInfo := #[]) (fl : Nat := 33) (sup : Nat := 0) (ifs : Array Nat := #[]) (fds : Array FieldInfo := #[]) : ClassFile where
  minorVersion := 0
  majorVersion := 65
  constantPool := pool
  accessFlags := fl
  thisClass := this
  superClass := sup
  interfaces := ifs
  fields := fds
  methods := ms
  attributes := attrs
def plain (name : String) (sup : Option ClassId) : Class where
  name := name
  kind := .ordinary
  loader := none
  accessFlags := 33
  super := sup
  interfaces := #[]
  cf := none
  fields := #[]
  methods := #[]
  instanceTypes := #[]
  staticTypes := #[]
  resolved := #[]
  callSites := []
  init := .initialized
  statics := none
  mirror := none

def pool0 : Array CpInfo := pool [(5, u "<init>"), (0, u "()V"), (1, .class_ 10), (1, u "java/lang/Object"), (85, u "clone"), (0, u "()Ljava/lang/Object;")] 26

def k0c0 : Code := { maxStack := 0, maxLocals := 1, code := object_method_1_code, exceptionTable := #[], attributes := #[] }
def k0m0 : Method := { name := "<init>", desc := "()V", sig := { parameters := [], returnType := none }, accessFlags := 1, code := some k0c0 }
def k0m1 : Method := { name := "clone", desc := "()Ljava/lang/Object;", sig := { parameters := [], returnType := some (.object "java/lang/Object") }, accessFlags := 260, code := none }
/-- java/lang/Object -/
def k0 : Class := { plain "java/lang/Object" none with
  accessFlags := 33
  interfaces := #[]
  cf := some (fileOf pool0 8 #[] #[{ accessFlags := 1, nameIndex := 5, descriptorIndex := 6, attributes := #[] }, { accessFlags := 260, nameIndex := 96, descriptorIndex := 97, attributes := #[] }] 33 0 #[] #[])
  fields := #[]
  methods := #[k0m0, k0m1]
  instanceTypes := #[]
  staticTypes := #[]
  resolved := Array.replicate 124 none
  statics := none }

def pool1 : Array CpInfo := pool [(2, .class_ 4), (1, u "java/lang/Object"), (0, u "<init>"), (0, u "()V"), (0, .methodref 8 9), (0, .class_ 10), (0, .nameAndType 11 12), (0, u "com/example/plain_bastion/plainbastion/ssh/MarkMatchedPinLaw"), (0, u "drawn"), (0, u "(I)C"), (0, .class_ 14), (0, u "com/example/plain_bastion/plainbastion/ssh/Mark"), (0, .class_ 16), (0, u "java/lang/String"), (0, .methodref 15 18), (0, .nameAndType 5 19), (0, u "([C)V"), (0, .methodref 13 21), (0, .nameAndType 5 22), (0, u "(Ljava/lang/String;)V"), (0, .integer 2147483647), (0, .methodref 13 25), (0, .nameAndType 26 27), (0, u "matched"), (0, u "(IB)I"), (0, .methodref 13 29), (0, .nameAndType 30 31), (0, u "length"), (0, u "()I"), (3, u "law"), (0, u "(IIII)Z")] 4

def k1m0 : Method := { name := "<init>", desc := "()V", sig := { parameters := [], returnType := none }, accessFlags := 1, code := none }
def k1c1 : Code := { maxStack := 2, maxLocals := 2, code := method_2_code, exceptionTable := #[], attributes := #[] }
def k1m1 : Method := { name := "drawn", desc := "(I)C", sig := { parameters := [.int], returnType := some .char }, accessFlags := 10, code := some k1c1 }
def k1c2 : Code := { maxStack := 5, maxLocals := 13, code := code, exceptionTable := #[], attributes := #[] }
def k1m2 : Method := { name := "law", desc := "(IIII)Z", sig := { parameters := [.int, .int, .int, .int], returnType := some .boolean }, accessFlags := 9, code := some k1c2 }
/-- com/example/plain_bastion/plainbastion/ssh/MarkMatchedPinLaw -/
def k1 : Class := { plain "com/example/plain_bastion/plainbastion/ssh/MarkMatchedPinLaw" (some 0) with
  accessFlags := 49
  interfaces := #[]
  cf := some (fileOf pool1 8 #[] #[{ accessFlags := 1, nameIndex := 5, descriptorIndex := 6, attributes := #[] }, { accessFlags := 10, nameIndex := 11, descriptorIndex := 12, attributes := #[] }, { accessFlags := 9, nameIndex := 35, descriptorIndex := 36, attributes := #[] }] 49 2 #[] #[])
  fields := #[]
  methods := #[k1m0, k1m1, k1m2]
  instanceTypes := #[]
  staticTypes := #[]
  resolved := Array.replicate 41 none
  statics := none }

def pool2 : Array CpInfo := pool [(1, .methodref 2 3), (0, .class_ 4), (0, .nameAndType 5 6), (0, u "java/lang/Object"), (0, u "<init>"), (0, u "()V"), (0, .fieldref 8 9), (0, .class_ 10), (0, .nameAndType 11 12), (0, u "java/nio/charset/StandardCharsets"), (0, u "US_ASCII"), (0, u "Ljava/nio/charset/Charset;"), (0, .methodref 14 15), (0, .class_ 16), (0, .nameAndType 17 18), (0, u "java/lang/String"), (0, u "getBytes"), (0, u "(Ljava/nio/charset/Charset;)[B"), (0, .fieldref 20 21), (0, .class_ 22), (0, .nameAndType 23 24), (0, u "com/example/plain_bastion/plainbastion/ssh/Mark"), (0, u "bytes"), (0, u "[B"), (0, u "ESCAPE"), (0, u "B"), (2, u "(Ljava/lang/String;)V"), (2, u "length"), (0, u "()I"), (2, u "matched"), (0, u "(IB)I")] 3

def k2c0 : Code := { maxStack := 3, maxLocals := 2, code := prog_33_method_1_code, exceptionTable := #[], attributes := #[] }
def k2m0 : Method := { name := "<init>", desc := "(Ljava/lang/String;)V", sig := { parameters := [(.object "java/lang/String")], returnType := none }, accessFlags := 0, code := some k2c0 }
def k2c1 : Code := { maxStack := 1, maxLocals := 1, code := prog_33_method_2_code, exceptionTable := #[], attributes := #[] }
def k2m1 : Method := { name := "length", desc := "()I", sig := { parameters := [], returnType := some .int }, accessFlags := 0, code := some k2c1 }
def k2c2 : Code := { maxStack := 3, maxLocals := 4, code := prog_33_method_4_code, exceptionTable := #[], attributes := #[] }
def k2m2 : Method := { name := "matched", desc := "(IB)I", sig := { parameters := [.int, .byte], returnType := some .int }, accessFlags := 0, code := some k2c2 }
/-- com/example/plain_bastion/plainbastion/ssh/Mark -/
def k2 : Class := { plain "com/example/plain_bastion/plainbastion/ssh/Mark" (some 0) with
  accessFlags := 48
  interfaces := #[]
  cf := some (fileOf pool2 20 #[] #[{ accessFlags := 0, nameIndex := 5, descriptorIndex := 29, attributes := #[] }, { accessFlags := 0, nameIndex := 32, descriptorIndex := 33, attributes := #[] }, { accessFlags := 0, nameIndex := 36, descriptorIndex := 37, attributes := #[] }] 48 2 #[] #[{ accessFlags := 26, nameIndex := 25, descriptorIndex := 26, attributes := #[] }, { accessFlags := 18, nameIndex := 23, descriptorIndex := 24, attributes := #[] }])
  fields := #[{ name := "ESCAPE", type := .byte, accessFlags := 26, slot := 0, constantValue := 0 }, { name := "bytes", type := (.array .byte), accessFlags := 18, slot := 0, constantValue := 0 }]
  methods := #[k2m0, k2m1, k2m2]
  instanceTypes := #[(.array .byte)]
  staticTypes := #[.byte]
  resolved := Array.replicate 41 none
  statics := none }

def pool3 : Array CpInfo := pool [(1, .class_ 2), (0, u "java/io/Serializable"), (0, .class_ 4), (0, u "java/lang/Object")] 2

/-- java/io/Serializable -/
def k3 : Class := { plain "java/io/Serializable" (some 0) with
  accessFlags := 1537
  interfaces := #[]
  cf := some (fileOf pool3 1 #[] #[] 1537 3 #[] #[])
  fields := #[]
  methods := #[]
  instanceTypes := #[]
  staticTypes := #[]
  resolved := Array.replicate 7 none
  statics := none }

def pool4 : Array CpInfo := pool [(1, .class_ 2), (0, u "java/lang/Comparable"), (0, .class_ 4), (0, u "java/lang/Object")] 7

/-- java/lang/Comparable -/
def k4 : Class := { plain "java/lang/Comparable" (some 0) with
  accessFlags := 1537
  interfaces := #[]
  cf := some (fileOf pool4 1 #[] #[] 1537 3 #[] #[])
  fields := #[]
  methods := #[]
  instanceTypes := #[]
  staticTypes := #[]
  resolved := Array.replicate 12 none
  statics := none }

def pool5 : Array CpInfo := pool [(2, .class_ 4), (1, u "java/lang/CharSequence"), (42, .class_ 48), (0, u "java/lang/CharSequence$1CodePointIterator"), (10, .class_ 60), (0, u "java/lang/CharSequence$1CharIterator"), (5, .class_ 67), (0, u "java/lang/Object")] 63

/-- java/lang/CharSequence -/
def k5 : Class := { plain "java/lang/CharSequence" (some 0) with
  accessFlags := 1537
  interfaces := #[]
  cf := some (fileOf pool5 2 #[.nestMembers #[47, 59]] #[] 1537 66 #[] #[])
  fields := #[]
  methods := #[]
  instanceTypes := #[]
  staticTypes := #[]
  resolved := Array.replicate 131 none
  statics := none }

def pool6 : Array CpInfo := pool [(1, .class_ 2), (0, u "java/lang/constant/Constable"), (0, .class_ 4), (0, u "java/lang/Object")] 6

/-- java/lang/constant/Constable -/
def k6 : Class := { plain "java/lang/constant/Constable" (some 0) with
  accessFlags := 1537
  interfaces := #[]
  cf := some (fileOf pool6 1 #[] #[] 1537 3 #[] #[])
  fields := #[]
  methods := #[]
  instanceTypes := #[]
  staticTypes := #[]
  resolved := Array.replicate 11 none
  statics := none }

def pool7 : Array CpInfo := pool [(1, .class_ 2), (0, u "java/lang/constant/ConstantDesc"), (0, .class_ 4), (0, u "java/lang/Object")] 32

/-- java/lang/constant/ConstantDesc -/
def k7 : Class := { plain "java/lang/constant/ConstantDesc" (some 0) with
  accessFlags := 1537
  interfaces := #[]
  cf := some (fileOf pool7 1 #[] #[] 1537 3 #[] #[])
  fields := #[]
  methods := #[]
  instanceTypes := #[]
  staticTypes := #[]
  resolved := Array.replicate 37 none
  statics := none }

def pool8 : Array CpInfo := pool [(1, .methodref 2 3), (0, .class_ 4), (0, .nameAndType 5 6), (0, u "java/lang/Object"), (0, u "<init>"), (0, u "()V"), (2, .fieldref 10 11), (0, .class_ 12), (0, .nameAndType 13 14), (0, u "java/lang/String"), (0, u "value"), (0, u "[B"), (0, .fieldref 10 16), (0, .nameAndType 17 18), (0, u "coder"), (0, u "B"), (2, u "hash"), (0, u "I"), (2, u "hashIsZero"), (0, u "Z"), (0, .methodref 10 28), (0, .nameAndType 5 29), (0, u "([CIILjava/lang/Void;)V"), (8, .fieldref 10 39), (0, .nameAndType 40 26), (0, u "COMPACT_STRINGS"), (1, .class_ 44), (1, u "java/lang/StringUTF16"), (0, u "compress"), (1, .methodref 42 48), (0, .nameAndType 49 50), (0, u "coderFromArrayLen"), (0, u "([BI)B"), (35, .fieldref 87 88), (0, .class_ 89), (0, .nameAndType 90 91), (0, u "sun/nio/cs/UTF_8"), (0, u "INSTANCE"), (0, u "Lsun/nio/cs/UTF_8;"), (0, .methodref 93 94), (0, .class_ 95), (0, .nameAndType 96 97), (0, u "java/lang/StringCoding"), (0, u "countPositives"), (0, u "([BII)I"), (18, .fieldref 117 118), (0, .class_ 119), (0, .nameAndType 90 120), (0, u "sun/nio/cs/ISO_8859_1"), (0, u "Lsun/nio/cs/ISO_8859_1;"), (2, .fieldref 124 125), (0, .class_ 126), (0, .nameAndType 90 127), (0, u "sun/nio/cs/US_ASCII"), (0, u "Lsun/nio/cs/US_ASCII;"), (49, .methodref 42 178), (0, .nameAndType 45 179), (0, u "([CII)[B"), (79, u "(B[B)[B"), (0, .methodref 10 261), (0, .nameAndType 262 259), (0, u "encodeASCII"), (16, .methodref 280 281), (0, .class_ 14), (0, .nameAndType 282 283), (0, u "clone"), (0, u "()Ljava/lang/Object;"), (33, u "encode"), (17, .methodref 10 336), (0, .nameAndType 17 337), (0, u "()B"), (194, u "getBytes"), (2, .methodref 10 536), (0, .nameAndType 317 537), (0, u "(Ljava/nio/charset/Charset;B[B)[B"), (37, .class_ 576), (0, u "java/lang/CharSequence"), (22, u "CASE_INSENSITIVE_ORDER"), (0, u "Ljava/util/Comparator;"), (409, u "([C)V"), (90, u "serialPersistentFields"), (0, u "[Ljava/io/ObjectStreamField;"), (0, .class_ 1104), (0, u "java/lang/String$CaseInsensitiveComparator"), (1, .class_ 1107), (0, u "java/io/Serializable"), (0, .class_ 1109), (0, u "java/lang/Comparable"), (0, .class_ 1111), (0, u "java/lang/constant/Constable"), (0, .class_ 1113), (0, u "java/lang/constant/ConstantDesc"), (2, u "serialVersionUID"), (0, u "J"), (3, u "REPL"), (0, u "C"), (2, u "LATIN1"), (1, u "UTF16"), (117, u "(Ljava/nio/charset/Charset;)[B")] 205

def k8m0 : Method := { name := "<init>", desc := "()V", sig := { parameters := [], returnType := none }, accessFlags := 1, code := none }
def k8c1 : Code := { maxStack := 5, maxLocals := 2, code := jdk_42_method_3_code, exceptionTable := #[], attributes := #[] }
def k8m1 : Method := { name := "<init>", desc := "([C)V", sig := { parameters := [(.array .char)], returnType := none }, accessFlags := 1, code := some k8c1 }
def k8c2 : Code := { maxStack := 4, maxLocals := 3, code := jdk_42_method_18_code, exceptionTable := #[], attributes := #[] }
def k8m2 : Method := { name := "encode", desc := "(Ljava/nio/charset/Charset;B[B)[B", sig := { parameters := [(.object "java/nio/charset/Charset"), .byte, (.array .byte)], returnType := some (.array .byte) }, accessFlags := 10, code := some k8c2 }
def k8c3 : Code := { maxStack := 3, maxLocals := 7, code := jdk_42_method_24_code, exceptionTable := #[], attributes := #[] }
def k8m3 : Method := { name := "encodeASCII", desc := "(B[B)[B", sig := { parameters := [.byte, (.array .byte)], returnType := some (.array .byte) }, accessFlags := 10, code := some k8c3 }
def k8c4 : Code := { maxStack := 3, maxLocals := 2, code := jdk_42_method_64_code, exceptionTable := #[], attributes := #[] }
def k8m4 : Method := { name := "getBytes", desc := "(Ljava/nio/charset/Charset;)[B", sig := { parameters := [(.object "java/nio/charset/Charset")], returnType := some (.array .byte) }, accessFlags := 1, code := some k8c4 }
def k8c5 : Code := { maxStack := 4, maxLocals := 6, code := jdk_42_method_149_code, exceptionTable := #[], attributes := #[] }
def k8m5 : Method := { name := "<init>", desc := "([CIILjava/lang/Void;)V", sig := { parameters := [(.array .char), .int, .int, (.object "java/lang/Void")], returnType := none }, accessFlags := 2, code := some k8c5 }
def k8c6 : Code := { maxStack := 1, maxLocals := 1, code := jdk_42_method_152_code, exceptionTable := #[], attributes := #[] }
def k8m6 : Method := { name := "coder", desc := "()B", sig := { parameters := [], returnType := some .byte }, accessFlags := 0, code := some k8c6 }
/-- java/lang/String -/
def k8 : Class := { plain "java/lang/String" (some 0) with
  accessFlags := 49
  interfaces := #[3, 4, 5, 6, 7]
  cf := some (fileOf pool8 10 #[.nestMembers #[1103]] #[{ accessFlags := 1, nameIndex := 5, descriptorIndex := 6, attributes := #[] }, { accessFlags := 1, nameIndex := 5, descriptorIndex := 1010, attributes := #[] }, { accessFlags := 10, nameIndex := 317, descriptorIndex := 537, attributes := #[] }, { accessFlags := 10, nameIndex := 262, descriptorIndex := 259, attributes := #[] }, { accessFlags := 1, nameIndex := 532, descriptorIndex := 1245, attributes := #[] }, { accessFlags := 2, nameIndex := 5, descriptorIndex := 29, attributes := #[] }, { accessFlags := 0, nameIndex := 17, descriptorIndex := 337, attributes := #[] }] 49 2 #[1106, 1108, 575, 1110, 1112] #[{ accessFlags := 18, nameIndex := 13, descriptorIndex := 14, attributes := #[] }, { accessFlags := 18, nameIndex := 17, descriptorIndex := 18, attributes := #[] }, { accessFlags := 2, nameIndex := 21, descriptorIndex := 22, attributes := #[] }, { accessFlags := 2, nameIndex := 25, descriptorIndex := 26, attributes := #[] }, { accessFlags := 26, nameIndex := 1116, descriptorIndex := 1117, attributes := #[] }, { accessFlags := 24, nameIndex := 40, descriptorIndex := 26, attributes := #[] }, { accessFlags := 26, nameIndex := 1101, descriptorIndex := 1102, attributes := #[] }, { accessFlags := 26, nameIndex := 1121, descriptorIndex := 1122, attributes := #[] }, { accessFlags := 25, nameIndex := 599, descriptorIndex := 600, attributes := #[] }, { accessFlags := 24, nameIndex := 1125, descriptorIndex := 18, attributes := #[] }, { accessFlags := 24, nameIndex := 1127, descriptorIndex := 18, attributes := #[] }])
  fields := #[{ name := "value", type := (.array .byte), accessFlags := 18, slot := 0, constantValue := 0 }, { name := "coder", type := .byte, accessFlags := 18, slot := 1, constantValue := 0 }, { name := "hash", type := .int, accessFlags := 2, slot := 2, constantValue := 0 }, { name := "hashIsZero", type := .boolean, accessFlags := 2, slot := 3, constantValue := 0 }, { name := "serialVersionUID", type := .long, accessFlags := 26, slot := 0, constantValue := 0 }, { name := "COMPACT_STRINGS", type := .boolean, accessFlags := 24, slot := 1, constantValue := 0 }, { name := "serialPersistentFields", type := (.array (.object "java/io/ObjectStreamField")), accessFlags := 26, slot := 2, constantValue := 0 }, { name := "REPL", type := .char, accessFlags := 26, slot := 3, constantValue := 0 }, { name := "CASE_INSENSITIVE_ORDER", type := (.object "java/util/Comparator"), accessFlags := 25, slot := 4, constantValue := 0 }, { name := "LATIN1", type := .byte, accessFlags := 24, slot := 5, constantValue := 0 }, { name := "UTF16", type := .byte, accessFlags := 24, slot := 6, constantValue := 0 }]
  methods := #[k8m0, k8m1, k8m2, k8m3, k8m4, k8m5, k8m6]
  instanceTypes := #[(.array .byte), .byte, .int, .boolean]
  staticTypes := #[.long, .boolean, (.array (.object "java/io/ObjectStreamField")), .char, (.object "java/util/Comparator"), .byte, .byte]
  resolved := Array.replicate 1451 none
  statics := some 0 }

def pool9 : Array CpInfo := pool [(6, .class_ 8), (1, u "java/lang/Object"), (0, u "<init>"), (0, u "()V"), (1, .class_ 14), (1, u "java/lang/StringUTF16"), (31, u "$assertionsDisabled"), (0, u "Z"), (13, u "HI_BYTE_SHIFT"), (0, u "I"), (2, u "LO_BYTE_SHIFT"), (49, .methodref 12 116), (0, .nameAndType 117 118), (0, u "compress"), (0, u "([CI[BII)I"), (3, u "([CII)[B"), (138, u "coderFromArrayLen"), (0, u "([BI)B"), (106, .class_ 371), (1, u "java/lang/StringUTF16$LinesSpliterator"), (58, u "MAX_LENGTH"), (196, .class_ 628), (0, u "java/lang/StringUTF16$CodePointsSpliterator"), (0, .class_ 630), (0, u "java/lang/StringUTF16$CharsSpliterator")] 4

def k9m0 : Method := { name := "<init>", desc := "()V", sig := { parameters := [], returnType := none }, accessFlags := 0, code := none }
def k9c1 : Code := { maxStack := 2, maxLocals := 2, code := jdk_52_method_15_code, exceptionTable := #[], attributes := #[] }
def k9m1 : Method := { name := "coderFromArrayLen", desc := "([BI)B", sig := { parameters := [(.array .byte), .int], returnType := some .byte }, accessFlags := 8, code := some k9c1 }
def k9c2 : Code := { maxStack := 5, maxLocals := 6, code := jdk_52_method_16_code, exceptionTable := #[], attributes := #[] }
def k9m2 : Method := { name := "compress", desc := "([CII)[B", sig := { parameters := [(.array .char), .int, .int], returnType := some (.array .byte) }, accessFlags := 9, code := some k9c2 }
def k9c3 : Code := { maxStack := 3, maxLocals := 7, code := jdk_52_method_21_code, exceptionTable := #[], attributes := #[] }
def k9m3 : Method := { name := "compress", desc := "([CI[BII)I", sig := { parameters := [(.array .char), .int, (.array .byte), .int, .int], returnType := some .int }, accessFlags := 9, code := some k9c3 }
/-- java/lang/StringUTF16 -/
def k9 : Class := { plain "java/lang/StringUTF16" (some 0) with
  accessFlags := 48
  interfaces := #[]
  cf := some (fileOf pool9 12 #[.nestMembers #[627, 629, 369]] #[{ accessFlags := 0, nameIndex := 9, descriptorIndex := 10, attributes := #[] }, { accessFlags := 8, nameIndex := 261, descriptorIndex := 262, attributes := #[] }, { accessFlags := 9, nameIndex := 117, descriptorIndex := 122, attributes := #[] }, { accessFlags := 9, nameIndex := 117, descriptorIndex := 118, attributes := #[] }] 48 6 #[] #[{ accessFlags := 26, nameIndex := 61, descriptorIndex := 62, attributes := #[] }, { accessFlags := 26, nameIndex := 65, descriptorIndex := 62, attributes := #[] }, { accessFlags := 24, nameIndex := 430, descriptorIndex := 62, attributes := #[] }, { accessFlags := 4120, nameIndex := 46, descriptorIndex := 47, attributes := #[] }])
  fields := #[{ name := "HI_BYTE_SHIFT", type := .int, accessFlags := 26, slot := 0, constantValue := 0 }, { name := "LO_BYTE_SHIFT", type := .int, accessFlags := 26, slot := 1, constantValue := 0 }, { name := "MAX_LENGTH", type := .int, accessFlags := 24, slot := 2, constantValue := 0 }, { name := "$assertionsDisabled", type := .boolean, accessFlags := 4120, slot := 3, constantValue := 0 }]
  methods := #[k9m0, k9m1, k9m2, k9m3]
  instanceTypes := #[]
  staticTypes := #[.int, .int, .int, .boolean]
  resolved := Array.replicate 635 none
  statics := none }

def pool10 : Array CpInfo := pool [(2, .class_ 4), (1, u "java/lang/Object"), (0, u "<init>"), (0, u "()V"), (14, .class_ 23), (1, u "java/nio/charset/StandardCharsets"), (0, u "US_ASCII"), (0, u "Ljava/nio/charset/Charset;"), (7, u "ISO_8859_1"), (7, u "UTF_8"), (5, u "UTF_16BE"), (5, u "UTF_16LE"), (5, u "UTF_16")] 8

def k10m0 : Method := { name := "<init>", desc := "()V", sig := { parameters := [], returnType := none }, accessFlags := 2, code := none }
/-- java/nio/charset/StandardCharsets -/
def k10 : Class := { plain "java/nio/charset/StandardCharsets" (some 0) with
  accessFlags := 49
  interfaces := #[]
  cf := some (fileOf pool10 21 #[] #[{ accessFlags := 2, nameIndex := 5, descriptorIndex := 6, attributes := #[] }] 49 2 #[] #[{ accessFlags := 25, nameIndex := 24, descriptorIndex := 25, attributes := #[] }, { accessFlags := 25, nameIndex := 33, descriptorIndex := 25, attributes := #[] }, { accessFlags := 25, nameIndex := 41, descriptorIndex := 25, attributes := #[] }, { accessFlags := 25, nameIndex := 47, descriptorIndex := 25, attributes := #[] }, { accessFlags := 25, nameIndex := 53, descriptorIndex := 25, attributes := #[] }, { accessFlags := 25, nameIndex := 59, descriptorIndex := 25, attributes := #[] }])
  fields := #[{ name := "US_ASCII", type := (.object "java/nio/charset/Charset"), accessFlags := 25, slot := 0, constantValue := 0 }, { name := "ISO_8859_1", type := (.object "java/nio/charset/Charset"), accessFlags := 25, slot := 1, constantValue := 0 }, { name := "UTF_8", type := (.object "java/nio/charset/Charset"), accessFlags := 25, slot := 2, constantValue := 0 }, { name := "UTF_16BE", type := (.object "java/nio/charset/Charset"), accessFlags := 25, slot := 3, constantValue := 0 }, { name := "UTF_16LE", type := (.object "java/nio/charset/Charset"), accessFlags := 25, slot := 4, constantValue := 0 }, { name := "UTF_16", type := (.object "java/nio/charset/Charset"), accessFlags := 25, slot := 5, constantValue := 0 }]
  methods := #[k10m0]
  instanceTypes := #[]
  staticTypes := #[(.object "java/nio/charset/Charset"), (.object "java/nio/charset/Charset"), (.object "java/nio/charset/Charset"), (.object "java/nio/charset/Charset"), (.object "java/nio/charset/Charset"), (.object "java/nio/charset/Charset")]
  resolved := Array.replicate 68 none
  statics := some 1 }

def pool11 : Array CpInfo := pool [(18, .class_ 20), (1, u "java/nio/charset/Charset"), (0, u "cache1"), (0, u "[Ljava/lang/Object;"), (2, u "cache2"), (0, .class_ 27), (0, u "java/lang/Object"), (0, .class_ 29), (0, u "java/nio/charset/Charset$1"), (4, .class_ 36), (1, u "java/nio/charset/Charset$ThreadTrackHolder"), (21, .class_ 59), (0, u "java/nio/charset/Charset$2"), (11, .class_ 73), (1, u "java/nio/charset/Charset$ExtendedProviderHolder"), (22, u "standardProvider"), (0, u "Ljava/nio/charset/spi/CharsetProvider;"), (29, u "name"), (7, .class_ 136), (0, u "java/nio/charset/Charset$3"), (5, u "defaultCharset"), (0, u "Ljava/nio/charset/Charset;"), (14, u "zeroAliases"), (0, u "[Ljava/lang/String;"), (29, u "Ljava/lang/String;"), (2, u "aliases"), (2, u "aliasSet"), (0, u "Ljava/util/Set;"), (82, .class_ 280), (0, u "java/lang/Comparable"), (84, .class_ 366), (0, u "java/nio/charset/Charset$ExtendedProviderHolder$1")] 3

/-- java/nio/charset/Charset -/
def k11 : Class := { plain "java/nio/charset/Charset" (some 0) with
  accessFlags := 1057
  interfaces := #[4]
  cf := some (fileOf pool11 18 #[.nestMembers #[71, 365, 34, 135, 58, 28]] #[] 1057 26 #[279] #[{ accessFlags := 26, nameIndex := 96, descriptorIndex := 97, attributes := #[] }, { accessFlags := 26, nameIndex := 158, descriptorIndex := 159, attributes := #[] }, { accessFlags := 74, nameIndex := 21, descriptorIndex := 22, attributes := #[] }, { accessFlags := 74, nameIndex := 25, descriptorIndex := 22, attributes := #[] }, { accessFlags := 10, nameIndex := 142, descriptorIndex := 143, attributes := #[] }, { accessFlags := 18, nameIndex := 127, descriptorIndex := 189, attributes := #[] }, { accessFlags := 18, nameIndex := 192, descriptorIndex := 159, attributes := #[] }, { accessFlags := 2, nameIndex := 195, descriptorIndex := 196, attributes := #[] }])
  fields := #[{ name := "standardProvider", type := (.object "java/nio/charset/spi/CharsetProvider"), accessFlags := 26, slot := 0, constantValue := 0 }, { name := "zeroAliases", type := (.array (.object "java/lang/String")), accessFlags := 26, slot := 1, constantValue := 0 }, { name := "cache1", type := (.array (.object "java/lang/Object")), accessFlags := 74, slot := 2, constantValue := 0 }, { name := "cache2", type := (.array (.object "java/lang/Object")), accessFlags := 74, slot := 3, constantValue := 0 }, { name := "defaultCharset", type := (.object "java/nio/charset/Charset"), accessFlags := 10, slot := 4, constantValue := 0 }, { name := "name", type := (.object "java/lang/String"), accessFlags := 18, slot := 0, constantValue := 0 }, { name := "aliases", type := (.array (.object "java/lang/String")), accessFlags := 18, slot := 1, constantValue := 0 }, { name := "aliasSet", type := (.object "java/util/Set"), accessFlags := 2, slot := 2, constantValue := 0 }]
  methods := #[]
  instanceTypes := #[(.object "java/lang/String"), (.array (.object "java/lang/String")), (.object "java/util/Set")]
  staticTypes := #[(.object "java/nio/charset/spi/CharsetProvider"), (.array (.object "java/lang/String")), (.array (.object "java/lang/Object")), (.array (.object "java/lang/Object")), (.object "java/nio/charset/Charset")]
  resolved := Array.replicate 370 none
  statics := none }

def pool12 : Array CpInfo := pool [(1, .class_ 2), (0, u "sun/nio/cs/HistoricallyNamedCharset"), (0, .class_ 4), (0, u "java/lang/Object")] 4

/-- sun/nio/cs/HistoricallyNamedCharset -/
def k12 : Class := { plain "sun/nio/cs/HistoricallyNamedCharset" (some 0) with
  accessFlags := 1537
  interfaces := #[]
  cf := some (fileOf pool12 1 #[] #[] 1537 3 #[] #[])
  fields := #[]
  methods := #[]
  instanceTypes := #[]
  staticTypes := #[]
  resolved := Array.replicate 9 none
  statics := none }

def pool13 : Array CpInfo := pool [(2, .class_ 4), (1, u "java/nio/charset/Charset"), (130, .class_ 136), (0, u "sun/nio/cs/Unicode"), (0, .class_ 138), (0, u "sun/nio/cs/HistoricallyNamedCharset")] 15

/-- sun/nio/cs/Unicode -/
def k13 : Class := { plain "sun/nio/cs/Unicode" (some 11) with
  accessFlags := 1056
  interfaces := #[12]
  cf := some (fileOf pool13 135 #[] #[] 1056 2 #[137] #[])
  fields := #[]
  methods := #[]
  instanceTypes := #[(.object "java/lang/String"), (.array (.object "java/lang/String")), (.object "java/util/Set")]
  staticTypes := #[]
  resolved := Array.replicate 154 none
  statics := none }

def pool14 : Array CpInfo := pool [(10, .class_ 12), (1, u "sun/nio/cs/Unicode"), (0, u "<init>"), (3, .class_ 18), (0, u "sun/nio/cs/UTF_8$Decoder"), (3, .class_ 23), (0, u "sun/nio/cs/UTF_8$Encoder"), (15, .class_ 40), (0, u "sun/nio/cs/UTF_8"), (2, u "()V"), (2, u "INSTANCE"), (0, u "Lsun/nio/cs/UTF_8;"), (8, u "JLA"), (0, u "Ljdk/internal/access/JavaLangAccess;")] 26

def k14m0 : Method := { name := "<init>", desc := "()V", sig := { parameters := [], returnType := none }, accessFlags := 1, code := none }
/-- sun/nio/cs/UTF_8 -/
def k14 : Class := { plain "sun/nio/cs/UTF_8" (some 13) with
  accessFlags := 49
  interfaces := #[]
  cf := some (fileOf pool14 39 #[.nestMembers #[22, 17]] #[{ accessFlags := 1, nameIndex := 13, descriptorIndex := 43, attributes := #[] }] 49 10 #[] #[{ accessFlags := 25, nameIndex := 46, descriptorIndex := 47, attributes := #[] }, { accessFlags := 26, nameIndex := 56, descriptorIndex := 57, attributes := #[] }])
  fields := #[{ name := "INSTANCE", type := (.object "sun/nio/cs/UTF_8"), accessFlags := 25, slot := 0, constantValue := 0 }, { name := "JLA", type := (.object "jdk/internal/access/JavaLangAccess"), accessFlags := 26, slot := 1, constantValue := 0 }]
  methods := #[k14m0]
  instanceTypes := #[(.object "java/lang/String"), (.array (.object "java/lang/String")), (.object "java/util/Set")]
  staticTypes := #[(.object "sun/nio/cs/UTF_8"), (.object "jdk/internal/access/JavaLangAccess")]
  resolved := Array.replicate 84 none
  statics := some 2 }

def pool15 : Array CpInfo := pool [(10, .class_ 12), (1, u "java/nio/charset/Charset"), (0, u "<init>"), (5, .class_ 20), (0, u "sun/nio/cs/ISO_8859_1"), (0, .class_ 22), (0, u "sun/nio/cs/ISO_8859_1$Decoder"), (3, .class_ 27), (0, u "sun/nio/cs/ISO_8859_1$Encoder"), (3, u "()V"), (2, u "INSTANCE"), (0, u "Lsun/nio/cs/ISO_8859_1;"), (0, .class_ 37), (0, u "sun/nio/cs/HistoricallyNamedCharset")] 22

def k15m0 : Method := { name := "<init>", desc := "()V", sig := { parameters := [], returnType := none }, accessFlags := 1, code := none }
/-- sun/nio/cs/ISO_8859_1 -/
def k15 : Class := { plain "sun/nio/cs/ISO_8859_1" (some 11) with
  accessFlags := 33
  interfaces := #[12]
  cf := some (fileOf pool15 19 #[.nestMembers #[26, 21]] #[{ accessFlags := 1, nameIndex := 13, descriptorIndex := 31, attributes := #[] }] 33 10 #[36] #[{ accessFlags := 25, nameIndex := 34, descriptorIndex := 35, attributes := #[] }])
  fields := #[{ name := "INSTANCE", type := (.object "sun/nio/cs/ISO_8859_1"), accessFlags := 25, slot := 0, constantValue := 0 }]
  methods := #[k15m0]
  instanceTypes := #[(.object "java/lang/String"), (.array (.object "java/lang/String")), (.object "java/util/Set")]
  staticTypes := #[(.object "sun/nio/cs/ISO_8859_1")]
  resolved := Array.replicate 60 none
  statics := some 3 }

def pool16 : Array CpInfo := pool [(10, .class_ 12), (1, u "java/nio/charset/Charset"), (0, u "<init>"), (3, .class_ 18), (0, u "sun/nio/cs/US_ASCII"), (0, .class_ 20), (0, u "sun/nio/cs/US_ASCII$Decoder"), (3, .class_ 25), (0, u "sun/nio/cs/US_ASCII$Encoder"), (3, u "()V"), (2, u "INSTANCE"), (0, u "Lsun/nio/cs/US_ASCII;"), (8, u "JLA"), (0, u "Ljdk/internal/access/JavaLangAccess;"), (0, .class_ 45), (0, u "sun/nio/cs/HistoricallyNamedCharset")] 21

def k16m0 : Method := { name := "<init>", desc := "()V", sig := { parameters := [], returnType := none }, accessFlags := 1, code := none }
/-- sun/nio/cs/US_ASCII -/
def k16 : Class := { plain "sun/nio/cs/US_ASCII" (some 11) with
  accessFlags := 33
  interfaces := #[12]
  cf := some (fileOf pool16 17 #[.nestMembers #[24, 19]] #[{ accessFlags := 1, nameIndex := 13, descriptorIndex := 29, attributes := #[] }] 33 10 #[44] #[{ accessFlags := 25, nameIndex := 32, descriptorIndex := 33, attributes := #[] }, { accessFlags := 26, nameIndex := 42, descriptorIndex := 43, attributes := #[] }])
  fields := #[{ name := "INSTANCE", type := (.object "sun/nio/cs/US_ASCII"), accessFlags := 25, slot := 0, constantValue := 0 }, { name := "JLA", type := (.object "jdk/internal/access/JavaLangAccess"), accessFlags := 26, slot := 1, constantValue := 0 }]
  methods := #[k16m0]
  instanceTypes := #[(.object "java/lang/String"), (.array (.object "java/lang/String")), (.object "java/util/Set")]
  staticTypes := #[(.object "sun/nio/cs/US_ASCII"), (.object "jdk/internal/access/JavaLangAccess")]
  resolved := Array.replicate 67 none
  statics := some 4 }

def pool17 : Array CpInfo := pool [(2, .class_ 4), (1, u "java/lang/Object"), (0, u "<init>"), (0, u "()V"), (1, .class_ 10), (1, u "java/lang/StringCoding"), (0, u "countPositives"), (0, u "([BII)I")] 36

def k17m0 : Method := { name := "<init>", desc := "()V", sig := { parameters := [], returnType := none }, accessFlags := 2, code := none }
def k17c1 : Code := { maxStack := 2, maxLocals := 5, code := jdk_123_method_3_code, exceptionTable := #[], attributes := #[] }
def k17m1 : Method := { name := "countPositives", desc := "([BII)I", sig := { parameters := [(.array .byte), .int, .int], returnType := some .int }, accessFlags := 9, code := some k17c1 }
/-- java/lang/StringCoding -/
def k17 : Class := { plain "java/lang/StringCoding" (some 0) with
  accessFlags := 32
  interfaces := #[]
  cf := some (fileOf pool17 8 #[] #[{ accessFlags := 2, nameIndex := 5, descriptorIndex := 6, attributes := #[] }, { accessFlags := 9, nameIndex := 11, descriptorIndex := 12, attributes := #[] }] 32 2 #[] #[])
  fields := #[]
  methods := #[k17m0, k17m1]
  instanceTypes := #[]
  staticTypes := #[]
  resolved := Array.replicate 49 none
  statics := none }

def pool18 : Array CpInfo := pool [(1, .class_ 2), (0, u "java/lang/Cloneable"), (0, .class_ 4), (0, u "java/lang/Object")] 2

/-- java/lang/Cloneable -/
def k18 : Class := { plain "java/lang/Cloneable" (some 0) with
  accessFlags := 1537
  interfaces := #[]
  cf := some (fileOf pool18 1 #[] #[] 1537 3 #[] #[])
  fields := #[]
  methods := #[]
  instanceTypes := #[]
  staticTypes := #[]
  resolved := Array.replicate 7 none
  statics := none }

def pool19 : Array CpInfo := pool [(4, .class_ 6), (1, u "java/lang/Object"), (0, u "<init>"), (0, u "()V"), (5, .class_ 16), (1, u "java/lang/StringLatin1"), (104, u "$assertionsDisabled"), (0, u "Z"), (98, .class_ 223), (1, u "java/lang/StringLatin1$LinesSpliterator"), (166, .class_ 391), (0, u "java/lang/StringLatin1$CharsSpliterator")] 3

def k19m0 : Method := { name := "<init>", desc := "()V", sig := { parameters := [], returnType := none }, accessFlags := 0, code := none }
/-- java/lang/StringLatin1 -/
def k19 : Class := { plain "java/lang/StringLatin1" (some 0) with
  accessFlags := 48
  interfaces := #[]
  cf := some (fileOf pool19 14 #[.nestMembers #[390, 221]] #[{ accessFlags := 0, nameIndex := 7, descriptorIndex := 8, attributes := #[] }] 48 4 #[] #[{ accessFlags := 4120, nameIndex := 121, descriptorIndex := 122, attributes := #[] }])
  fields := #[{ name := "$assertionsDisabled", type := .boolean, accessFlags := 4120, slot := 0, constantValue := 0 }]
  methods := #[k19m0]
  instanceTypes := #[]
  staticTypes := #[.boolean]
  resolved := Array.replicate 395 none
  statics := none }

def pool20 : Array CpInfo := pool [(2, .class_ 4), (1, u "java/lang/Object"), (0, u "<init>"), (0, u "()V"), (17, .class_ 26), (1, u "jdk/internal/util/Preconditions"), (28, .class_ 56), (0, u "jdk/internal/util/Preconditions$4"), (57, .class_ 115), (0, u "jdk/internal/util/Preconditions$1"), (7, u "SIOOBE_FORMATTER"), (0, u "Ljava/util/function/BiFunction;"), (0, .class_ 126), (0, u "jdk/internal/util/Preconditions$2"), (3, u "AIOOBE_FORMATTER"), (0, .class_ 132), (0, u "jdk/internal/util/Preconditions$3"), (3, u "IOOBE_FORMATTER")] 57

def k20m0 : Method := { name := "<init>", desc := "()V", sig := { parameters := [], returnType := none }, accessFlags := 1, code := none }
/-- jdk/internal/util/Preconditions -/
def k20 : Class := { plain "jdk/internal/util/Preconditions" (some 0) with
  accessFlags := 33
  interfaces := #[]
  cf := some (fileOf pool20 24 #[.nestMembers #[55, 131, 125, 114]] #[{ accessFlags := 1, nameIndex := 5, descriptorIndex := 6, attributes := #[] }] 33 2 #[] #[{ accessFlags := 25, nameIndex := 123, descriptorIndex := 124, attributes := #[] }, { accessFlags := 25, nameIndex := 130, descriptorIndex := 124, attributes := #[] }, { accessFlags := 25, nameIndex := 136, descriptorIndex := 124, attributes := #[] }])
  fields := #[{ name := "SIOOBE_FORMATTER", type := (.object "java/util/function/BiFunction"), accessFlags := 25, slot := 0, constantValue := 0 }, { name := "AIOOBE_FORMATTER", type := (.object "java/util/function/BiFunction"), accessFlags := 25, slot := 1, constantValue := 0 }, { name := "IOOBE_FORMATTER", type := (.object "java/util/function/BiFunction"), accessFlags := 25, slot := 2, constantValue := 0 }]
  methods := #[k20m0]
  instanceTypes := #[]
  staticTypes := #[(.object "java/util/function/BiFunction"), (.object "java/util/function/BiFunction"), (.object "java/util/function/BiFunction")]
  resolved := Array.replicate 194 none
  statics := some 5 }

def pool21 : Array CpInfo := pool [(9, u "<init>"), (6, .class_ 18), (1, u "java/lang/Object"), (0, u "()V"), (1, .class_ 23), (1, u "jdk/internal/util/ArraysSupport"), (0, u "LOG2_ARRAY_LONG_INDEX_SCALE"), (0, u "I"), (2, u "U"), (0, u "Ljdk/internal/misc/Unsafe;"), (8, u "BIG_ENDIAN"), (0, u "Z"), (8, u "LOG2_BYTE_BIT_SIZE"), (4, u "LOG2_ARRAY_INT_INDEX_SCALE"), (54, u "JLA"), (0, u "Ljdk/internal/access/JavaLangAccess;"), (11, u "LOG2_ARRAY_BOOLEAN_INDEX_SCALE"), (9, u "LOG2_ARRAY_BYTE_INDEX_SCALE"), (5, u "LOG2_ARRAY_CHAR_INDEX_SCALE"), (5, u "LOG2_ARRAY_SHORT_INDEX_SCALE"), (18, u "LOG2_ARRAY_FLOAT_INDEX_SCALE"), (24, u "LOG2_ARRAY_DOUBLE_INDEX_SCALE"), (89, u "T_BOOLEAN"), (2, u "T_CHAR"), (1, u "T_FLOAT"), (1, u "T_DOUBLE"), (1, u "T_BYTE"), (1, u "T_SHORT"), (1, u "T_INT"), (1, u "T_LONG"), (1, u "SOFT_MAX_ARRAY_LENGTH")] 83

def k21m0 : Method := { name := "<init>", desc := "()V", sig := { parameters := [], returnType := none }, accessFlags := 2, code := none }
/-- jdk/internal/util/ArraysSupport -/
def k21 : Class := { plain "jdk/internal/util/ArraysSupport" (some 0) with
  accessFlags := 33
  interfaces := #[]
  cf := some (fileOf pool21 21 #[] #[{ accessFlags := 2, nameIndex := 9, descriptorIndex := 19, attributes := #[] }] 33 16 #[] #[{ accessFlags := 24, nameIndex := 28, descriptorIndex := 29, attributes := #[] }, { accessFlags := 26, nameIndex := 38, descriptorIndex := 39, attributes := #[] }, { accessFlags := 25, nameIndex := 121, descriptorIndex := 25, attributes := #[] }, { accessFlags := 25, nameIndex := 131, descriptorIndex := 25, attributes := #[] }, { accessFlags := 25, nameIndex := 137, descriptorIndex := 25, attributes := #[] }, { accessFlags := 25, nameIndex := 143, descriptorIndex := 25, attributes := #[] }, { accessFlags := 25, nameIndex := 53, descriptorIndex := 25, attributes := #[] }, { accessFlags := 25, nameIndex := 24, descriptorIndex := 25, attributes := #[] }, { accessFlags := 25, nameIndex := 162, descriptorIndex := 25, attributes := #[] }, { accessFlags := 25, nameIndex := 187, descriptorIndex := 25, attributes := #[] }, { accessFlags := 26, nameIndex := 48, descriptorIndex := 25, attributes := #[] }, { accessFlags := 25, nameIndex := 277, descriptorIndex := 25, attributes := #[] }, { accessFlags := 25, nameIndex := 280, descriptorIndex := 25, attributes := #[] }, { accessFlags := 25, nameIndex := 282, descriptorIndex := 25, attributes := #[] }, { accessFlags := 25, nameIndex := 284, descriptorIndex := 25, attributes := #[] }, { accessFlags := 25, nameIndex := 286, descriptorIndex := 25, attributes := #[] }, { accessFlags := 25, nameIndex := 288, descriptorIndex := 25, attributes := #[] }, { accessFlags := 25, nameIndex := 290, descriptorIndex := 25, attributes := #[] }, { accessFlags := 25, nameIndex := 292, descriptorIndex := 25, attributes := #[] }, { accessFlags := 26, nameIndex := 108, descriptorIndex := 109, attributes := #[] }, { accessFlags := 25, nameIndex := 294, descriptorIndex := 25, attributes := #[] }])
  fields := #[{ name := "U", type := (.object "jdk/internal/misc/Unsafe"), accessFlags := 24, slot := 0, constantValue := 0 }, { name := "BIG_ENDIAN", type := .boolean, accessFlags := 26, slot := 1, constantValue := 0 }, { name := "LOG2_ARRAY_BOOLEAN_INDEX_SCALE", type := .int, accessFlags := 25, slot := 2, constantValue := 0 }, { name := "LOG2_ARRAY_BYTE_INDEX_SCALE", type := .int, accessFlags := 25, slot := 3, constantValue := 0 }, { name := "LOG2_ARRAY_CHAR_INDEX_SCALE", type := .int, accessFlags := 25, slot := 4, constantValue := 0 }, { name := "LOG2_ARRAY_SHORT_INDEX_SCALE", type := .int, accessFlags := 25, slot := 5, constantValue := 0 }, { name := "LOG2_ARRAY_INT_INDEX_SCALE", type := .int, accessFlags := 25, slot := 6, constantValue := 0 }, { name := "LOG2_ARRAY_LONG_INDEX_SCALE", type := .int, accessFlags := 25, slot := 7, constantValue := 0 }, { name := "LOG2_ARRAY_FLOAT_INDEX_SCALE", type := .int, accessFlags := 25, slot := 8, constantValue := 0 }, { name := "LOG2_ARRAY_DOUBLE_INDEX_SCALE", type := .int, accessFlags := 25, slot := 9, constantValue := 0 }, { name := "LOG2_BYTE_BIT_SIZE", type := .int, accessFlags := 26, slot := 10, constantValue := 0 }, { name := "T_BOOLEAN", type := .int, accessFlags := 25, slot := 11, constantValue := 0 }, { name := "T_CHAR", type := .int, accessFlags := 25, slot := 12, constantValue := 0 }, { name := "T_FLOAT", type := .int, accessFlags := 25, slot := 13, constantValue := 0 }, { name := "T_DOUBLE", type := .int, accessFlags := 25, slot := 14, constantValue := 0 }, { name := "T_BYTE", type := .int, accessFlags := 25, slot := 15, constantValue := 0 }, { name := "T_SHORT", type := .int, accessFlags := 25, slot := 16, constantValue := 0 }, { name := "T_INT", type := .int, accessFlags := 25, slot := 17, constantValue := 0 }, { name := "T_LONG", type := .int, accessFlags := 25, slot := 18, constantValue := 0 }, { name := "JLA", type := (.object "jdk/internal/access/JavaLangAccess"), accessFlags := 26, slot := 19, constantValue := 0 }, { name := "SOFT_MAX_ARRAY_LENGTH", type := .int, accessFlags := 25, slot := 20, constantValue := 0 }]
  methods := #[k21m0]
  instanceTypes := #[]
  staticTypes := #[(.object "jdk/internal/misc/Unsafe"), .boolean, .int, .int, .int, .int, .int, .int, .int, .int, .int, .int, .int, .int, .int, .int, .int, .int, .int, (.object "jdk/internal/access/JavaLangAccess"), .int]
  resolved := Array.replicate 378 none
  statics := none }

/-- the primitive byte -/
def k22 : Class := { plain "byte" none with kind := .primitive 'B', accessFlags := 0x411 }
/-- [B -/
def k23 : Class := { plain "[B" (some 0) with kind := .array 22 .byte, interfaces := #[18, 3], accessFlags := 1041 }

/-- the primitive char -/
def k24 : Class := { plain "char" none with kind := .primitive 'C', accessFlags := 0x411 }
/-- [C -/
def k25 : Class := { plain "[C" (some 0) with kind := .array 24 .char, interfaces := #[18, 3], accessFlags := 1041 }

/-- the primitive int -/
def k26 : Class := { plain "int" none with kind := .primitive 'I', accessFlags := 0x411 }
/-- [I -/
def k27 : Class := { plain "[I" (some 0) with kind := .array 26 .int, interfaces := #[18, 3], accessFlags := 1041 }

def heap : Heap := #[{ cls := 8, slots := #[.long 0, .int 1, .null, .int 0, .null, .int 0, .int 0], vm := .statics 8 },
  { cls := 10, slots := #[.ref 6, .null, .null, .null, .null, .null], vm := .statics 10 },
  { cls := 14, slots := #[.ref 7, .null], vm := .statics 14 },
  { cls := 15, slots := #[.ref 8], vm := .statics 15 },
  { cls := 16, slots := #[.ref 6, .null], vm := .statics 16 },
  { cls := 20, slots := #[.null, .null, .null], vm := .statics 20 },
  { cls := 16, slots := #[.null, .null, .null], vm := .none },
  { cls := 14, slots := #[.null, .null, .null], vm := .none },
  { cls := 15, slots := #[.null, .null, .null], vm := .none }]
def classes : Array Class := #[k0, k1, k2, k3, k4, k5, k6, k7, k8, k9, k10, k11, k12, k13, k14, k15, k16, k17, k18, k19, k20, k21, k22, k23, k24, k25, k26, k27]
def interned : List (Array UInt16 × Addr) := []
def slotsUsed : Nat := 30
def theMethod : MethodId := ⟨1, 2⟩
def args0 : Array Value := #[.int 5, .int 9, .int 3, .int 4]
def aboutOver (below : List Frame) : State where
  vm := { classes := classes, interned := interned.toArray }
  heap := heap
  slotsUsed := slotsUsed
  threads := #[{ frames := .invoking theMethod args0 :: below }]
def below0 : List Frame := [.native { method := ⟨0, 0⟩, args := #[] }]
def about1 : State := aboutOver below0
def p0 : Program := .bare "" "" ""
def e0 : Env := launch0.env 0 0 0
theorem w_frames : about1.frames = Frame.invoking theMethod args0 :: below0 := rfl
set_option maxRecDepth 65536 in
theorem w_args : argsFit about1.vm theMethod args0 = true := by decide +kernel
set_option maxRecDepth 65536 in
theorem w_heap : heapFits about1 = true := by decide +kernel
set_option maxRecDepth 65536 in
theorem w_runnable : about1.curStatus? = some .runnable := by decide +kernel
set_option maxRecDepth 65536 in
theorem w_alone : about1.alone = true := by decide +kernel
set_option maxRecDepth 65536 in
theorem w_named : about1.methodNamed? x = some theMethod := by decide +kernel
set_option maxRecDepth 65536 in
theorem w_hears : about1.hears theMethod below0 = true := by decide +kernel
set_option maxRecDepth 65536 in
theorem w_ripe : about1.ripe theMethod args0 below0 = true := by decide +kernel
theorem w_running : about1.status = .running := rfl
set_option maxRecDepth 65536 in
theorem w_room : about1.hasRoom e0.platform room_1 = true :=
  launch0.hasRoom_least _ room_1 (by decide +kernel) (by decide +kernel) (by decide +kernel) (by decide +kernel) (by decide +kernel) (by decide +kernel)
theorem allAtoms_all (ts : List Jvm.Cond) (a : Array Jvm.Value) (st : Jvm.State) : (allAtoms ts).before a st = ts.all (fun c => c.before a st) := by
  induction ts with
  | nil => rfl
  | cons c t ih =>
    show (Jvm.Cond.and c (allAtoms t)).before a st = _
    rw [Jvm.Cond.before_and, ih, List.all_cons]
def words1 : List Jvm.Cond := Jvm.Cond.code x code maxLocals ret :: tables_1
/-- a 'code' word, met by the world's own term for the bytes: nothing is compared byte by byte -/
theorem code_word {y : MethodName} {bytes : ByteArray} {mx : Nat} {rt : Option FieldType} {a : Array Value} {s : State} {m : MethodId} {meth : Method} {c : Code} (h1 : s.methodNamed? y = some m) (h2 : s.vm.method? m = some meth) (h3 : meth.code = some c) (h4 : c.code = bytes)
    (h5 : (c.maxLocals == mx && c.exceptionTable.isEmpty && decide (c.maxStack ≤ mostOperands) && decide (meth.sig.returnType = rt) && !meth.locks && decide (parseMethodDescriptor y.desc = some meth.sig)) = true) : (Jvm.Cond.code y bytes mx rt).before a s = true := by
  simp only [Bool.and_eq_true, beq_iff_eq, Bool.not_eq_true', decide_eq_true_eq] at h5
  obtain ⟨⟨⟨⟨⟨g1, g2⟩, g3⟩, g4⟩, g5⟩, g6⟩ := h5
  simp [Cond.before, Cond.holds, Cond.value, h1, h2, h3, h4, g1, g2, g3, g4, g5, g6]
def isCode : Jvm.Cond → Bool
  | .code _ _ _ _ => true
  | _ => false
theorem all_split {L : List Jvm.Cond} {P : Jvm.Cond → Bool} (h1 : L.all (fun c => isCode c || P c) = true) (h2 : ∀ c ∈ L.filter isCode, P c = true) : L.all P = true := by
  refine List.all_eq_true.mpr fun c hc => ?_
  have h := List.all_eq_true.mp h1 c hc
  rcases Bool.eq_false_or_eq_true (isCode c) with hi | hi
  · exact h2 c (List.mem_filter.mpr ⟨hc, hi⟩)
  · simpa [hi] using h
set_option maxRecDepth 65536 in
theorem w_c0 : (Jvm.Cond.code x code maxLocals ret).before args0 about1 = true := code_word (m := ⟨1, 2⟩) (meth := k1m2) (c := k1c2) (by decide +kernel) rfl rfl rfl (by decide +kernel)
set_option maxRecDepth 65536 in
theorem w_c1 : (Jvm.Cond.code ({ cls := "com/example/plain_bastion/plainbastion/ssh/MarkMatchedPinLaw", name := "drawn", desc := "(I)C" } : Jvm.MethodName) method_2_code (2 : Nat) (Option.some Jvm.ClassFile.FieldType.char)).before args0 about1 = true := code_word (m := ⟨1, 1⟩) (meth := k1m1) (c := k1c1) (by decide +kernel) rfl rfl rfl (by decide +kernel)
set_option maxRecDepth 65536 in
theorem w_c2 : (Jvm.Cond.code ({ cls := "java/lang/String", name := "<init>", desc := "([C)V" } : Jvm.MethodName) jdk_42_method_3_code (2 : Nat) (Option.none : Option Jvm.ClassFile.FieldType)).before args0 about1 = true := code_word (m := ⟨8, 1⟩) (meth := k8m1) (c := k8c1) (by decide +kernel) rfl rfl rfl (by decide +kernel)
set_option maxRecDepth 65536 in
theorem w_c3 : (Jvm.Cond.code ({ cls := "java/lang/String", name := "<init>", desc := "([CIILjava/lang/Void;)V" } : Jvm.MethodName) jdk_42_method_149_code (6 : Nat) (Option.none : Option Jvm.ClassFile.FieldType)).before args0 about1 = true := code_word (m := ⟨8, 5⟩) (meth := k8m5) (c := k8c5) (by decide +kernel) rfl rfl rfl (by decide +kernel)
set_option maxRecDepth 65536 in
theorem w_c4 : (Jvm.Cond.code ({ cls := "java/lang/Object", name := "<init>", desc := "()V" } : Jvm.MethodName) object_method_1_code (1 : Nat) (Option.none : Option Jvm.ClassFile.FieldType)).before args0 about1 = true := code_word (m := ⟨0, 0⟩) (meth := k0m0) (c := k0c0) (by decide +kernel) rfl rfl rfl (by decide +kernel)
set_option maxRecDepth 65536 in
theorem w_c5 : (Jvm.Cond.code ({ cls := "java/lang/StringUTF16", name := "compress", desc := "([CII)[B" } : Jvm.MethodName) jdk_52_method_16_code (6 : Nat) (Option.some (Jvm.ClassFile.FieldType.array Jvm.ClassFile.FieldType.byte))).before args0 about1 = true := code_word (m := ⟨9, 2⟩) (meth := k9m2) (c := k9c2) (by decide +kernel) rfl rfl rfl (by decide +kernel)
set_option maxRecDepth 65536 in
theorem w_c6 : (Jvm.Cond.code ({ cls := "java/lang/StringUTF16", name := "compress", desc := "([CI[BII)I" } : Jvm.MethodName) jdk_52_method_21_code (7 : Nat) (Option.some Jvm.ClassFile.FieldType.int)).before args0 about1 = true := code_word (m := ⟨9, 3⟩) (meth := k9m3) (c := k9c3) (by decide +kernel) rfl rfl rfl (by decide +kernel)
set_option maxRecDepth 65536 in
theorem w_c7 : (Jvm.Cond.code ({ cls := "java/lang/StringUTF16", name := "coderFromArrayLen", desc := "([BI)B" } : Jvm.MethodName) jdk_52_method_15_code (2 : Nat) (Option.some Jvm.ClassFile.FieldType.byte)).before args0 about1 = true := code_word (m := ⟨9, 1⟩) (meth := k9m1) (c := k9c1) (by decide +kernel) rfl rfl rfl (by decide +kernel)
set_option maxRecDepth 65536 in
theorem w_c8 : (Jvm.Cond.code ({ cls := "com/example/plain_bastion/plainbastion/ssh/Mark", name := "<init>", desc := "(Ljava/lang/String;)V" } : Jvm.MethodName) prog_33_method_1_code (2 : Nat) (Option.none : Option Jvm.ClassFile.FieldType)).before args0 about1 = true := code_word (m := ⟨2, 0⟩) (meth := k2m0) (c := k2c0) (by decide +kernel) rfl rfl rfl (by decide +kernel)
set_option maxRecDepth 65536 in
theorem w_c9 : (Jvm.Cond.code ({ cls := "java/lang/String", name := "getBytes", desc := "(Ljava/nio/charset/Charset;)[B" } : Jvm.MethodName) jdk_42_method_64_code (2 : Nat) (Option.some (Jvm.ClassFile.FieldType.array Jvm.ClassFile.FieldType.byte))).before args0 about1 = true := code_word (m := ⟨8, 4⟩) (meth := k8m4) (c := k8c4) (by decide +kernel) rfl rfl rfl (by decide +kernel)
set_option maxRecDepth 65536 in
theorem w_c10 : (Jvm.Cond.code ({ cls := "java/lang/String", name := "coder", desc := "()B" } : Jvm.MethodName) jdk_42_method_152_code (1 : Nat) (Option.some Jvm.ClassFile.FieldType.byte)).before args0 about1 = true := code_word (m := ⟨8, 6⟩) (meth := k8m6) (c := k8c6) (by decide +kernel) rfl rfl rfl (by decide +kernel)
set_option maxRecDepth 65536 in
theorem w_c11 : (Jvm.Cond.code ({ cls := "java/lang/String", name := "encode", desc := "(Ljava/nio/charset/Charset;B[B)[B" } : Jvm.MethodName) jdk_42_method_18_code (3 : Nat) (Option.some (Jvm.ClassFile.FieldType.array Jvm.ClassFile.FieldType.byte))).before args0 about1 = true := code_word (m := ⟨8, 2⟩) (meth := k8m2) (c := k8c2) (by decide +kernel) rfl rfl rfl (by decide +kernel)
set_option maxRecDepth 65536 in
theorem w_c12 : (Jvm.Cond.code ({ cls := "java/lang/String", name := "encodeASCII", desc := "(B[B)[B" } : Jvm.MethodName) jdk_42_method_24_code (7 : Nat) (Option.some (Jvm.ClassFile.FieldType.array Jvm.ClassFile.FieldType.byte))).before args0 about1 = true := code_word (m := ⟨8, 3⟩) (meth := k8m3) (c := k8c3) (by decide +kernel) rfl rfl rfl (by decide +kernel)
set_option maxRecDepth 65536 in
theorem w_c13 : (Jvm.Cond.code ({ cls := "java/lang/StringCoding", name := "countPositives", desc := "([BII)I" } : Jvm.MethodName) jdk_123_method_3_code (5 : Nat) (Option.some Jvm.ClassFile.FieldType.int)).before args0 about1 = true := code_word (m := ⟨17, 1⟩) (meth := k17m1) (c := k17c1) (by decide +kernel) rfl rfl rfl (by decide +kernel)
set_option maxRecDepth 65536 in
theorem w_c14 : (Jvm.Cond.code ({ cls := "com/example/plain_bastion/plainbastion/ssh/Mark", name := "matched", desc := "(IB)I" } : Jvm.MethodName) prog_33_method_4_code (4 : Nat) (Option.some Jvm.ClassFile.FieldType.int)).before args0 about1 = true := code_word (m := ⟨2, 2⟩) (meth := k2m2) (c := k2c2) (by decide +kernel) rfl rfl rfl (by decide +kernel)
set_option maxRecDepth 65536 in
theorem w_c15 : (Jvm.Cond.code ({ cls := "com/example/plain_bastion/plainbastion/ssh/Mark", name := "length", desc := "()I" } : Jvm.MethodName) prog_33_method_2_code (1 : Nat) (Option.some Jvm.ClassFile.FieldType.int)).before args0 about1 = true := code_word (m := ⟨2, 1⟩) (meth := k2m1) (c := k2c1) (by decide +kernel) rfl rfl rfl (by decide +kernel)
def codes1 : List Jvm.Cond := [Jvm.Cond.code x code maxLocals ret, Jvm.Cond.code ({ cls := "com/example/plain_bastion/plainbastion/ssh/MarkMatchedPinLaw", name := "drawn", desc := "(I)C" } : Jvm.MethodName) method_2_code (2 : Nat) (Option.some Jvm.ClassFile.FieldType.char), Jvm.Cond.code ({ cls := "java/lang/String", name := "<init>", desc := "([C)V" } : Jvm.MethodName) jdk_42_method_3_code (2 : Nat) (Option.none : Option Jvm.ClassFile.FieldType), Jvm.Cond.code ({ cls := "java/lang/String", name := "<init>", desc := "([CIILjava/lang/Void;)V" } : Jvm.MethodName) jdk_42_method_149_code (6 : Nat) (Option.none : Option Jvm.ClassFile.FieldType), Jvm.Cond.code ({ cls := "java/lang/Object", name := "<init>", desc := "()V" } : Jvm.MethodName) object_method_1_code (1 : Nat) (Option.none : Option Jvm.ClassFile.FieldType), Jvm.Cond.code ({ cls := "java/lang/StringUTF16", name := "compress", desc := "([CII)[B" } : Jvm.MethodName) jdk_52_method_16_code (6 : Nat) (Option.some (Jvm.ClassFile.FieldType.array Jvm.ClassFile.FieldType.byte)), Jvm.Cond.code ({ cls := "java/lang/StringUTF16", name := "compress", desc := "([CI[BII)I" } : Jvm.MethodName) jdk_52_method_21_code (7 : Nat) (Option.some Jvm.ClassFile.FieldType.int), Jvm.Cond.code ({ cls := "java/lang/StringUTF16", name := "coderFromArrayLen", desc := "([BI)B" } : Jvm.MethodName) jdk_52_method_15_code (2 : Nat) (Option.some Jvm.ClassFile.FieldType.byte), Jvm.Cond.code ({ cls := "com/example/plain_bastion/plainbastion/ssh/Mark", name := "<init>", desc := "(Ljava/lang/String;)V" } : Jvm.MethodName) prog_33_method_1_code (2 : Nat) (Option.none : Option Jvm.ClassFile.FieldType), Jvm.Cond.code ({ cls := "java/lang/String", name := "getBytes", desc := "(Ljava/nio/charset/Charset;)[B" } : Jvm.MethodName) jdk_42_method_64_code (2 : Nat) (Option.some (Jvm.ClassFile.FieldType.array Jvm.ClassFile.FieldType.byte)), Jvm.Cond.code ({ cls := "java/lang/String", name := "coder", desc := "()B" } : Jvm.MethodName) jdk_42_method_152_code (1 : Nat) (Option.some Jvm.ClassFile.FieldType.byte), Jvm.Cond.code ({ cls := "java/lang/String", name := "encode", desc := "(Ljava/nio/charset/Charset;B[B)[B" } : Jvm.MethodName) jdk_42_method_18_code (3 : Nat) (Option.some (Jvm.ClassFile.FieldType.array Jvm.ClassFile.FieldType.byte)), Jvm.Cond.code ({ cls := "java/lang/String", name := "encodeASCII", desc := "(B[B)[B" } : Jvm.MethodName) jdk_42_method_24_code (7 : Nat) (Option.some (Jvm.ClassFile.FieldType.array Jvm.ClassFile.FieldType.byte)), Jvm.Cond.code ({ cls := "java/lang/StringCoding", name := "countPositives", desc := "([BII)I" } : Jvm.MethodName) jdk_123_method_3_code (5 : Nat) (Option.some Jvm.ClassFile.FieldType.int), Jvm.Cond.code ({ cls := "com/example/plain_bastion/plainbastion/ssh/Mark", name := "matched", desc := "(IB)I" } : Jvm.MethodName) prog_33_method_4_code (4 : Nat) (Option.some Jvm.ClassFile.FieldType.int), Jvm.Cond.code ({ cls := "com/example/plain_bastion/plainbastion/ssh/Mark", name := "length", desc := "()I" } : Jvm.MethodName) prog_33_method_2_code (1 : Nat) (Option.some Jvm.ClassFile.FieldType.int)]
set_option maxRecDepth 65536 in
theorem codes_eq : words1.filter isCode = codes1 := rfl
theorem w_codes : ∀ c ∈ words1.filter isCode, c.before args0 about1 = true := by
  rw [codes_eq]
  intro c hc
  simp only [codes1, List.mem_cons, List.not_mem_nil, or_false] at hc
  rcases hc with rfl | rfl | rfl | rfl | rfl | rfl | rfl | rfl | rfl | rfl | rfl | rfl | rfl | rfl | rfl | rfl
  · exact w_c0
  · exact w_c1
  · exact w_c2
  · exact w_c3
  · exact w_c4
  · exact w_c5
  · exact w_c6
  · exact w_c7
  · exact w_c8
  · exact w_c9
  · exact w_c10
  · exact w_c11
  · exact w_c12
  · exact w_c13
  · exact w_c14
  · exact w_c15
set_option maxRecDepth 65536 in
theorem w_t1 : (words1.take 24).all (fun c => isCode c || c.before args0 about1) = true := by decide +kernel
set_option maxRecDepth 65536 in
theorem w_t2 : ((words1.drop 24).take 24).all (fun c => isCode c || c.before args0 about1) = true := by decide +kernel
set_option maxRecDepth 65536 in
theorem w_t3 : (((words1.drop 24).drop 24).take 24).all (fun c => isCode c || c.before args0 about1) = true := by decide +kernel
set_option maxRecDepth 65536 in
theorem w_t4 : (((words1.drop 24).drop 24).drop 24).all (fun c => isCode c || c.before args0 about1) = true := by decide +kernel
theorem w_tables : (allAtoms (Jvm.Cond.code x code maxLocals ret :: tables_1)).before args0 about1 = true := by
  rw [allAtoms_all]
  show words1.all (fun c => c.before args0 about1) = true
  refine all_split ?_ w_codes
  rw [← List.take_append_drop 24 words1, List.all_append, w_t1, ← List.take_append_drop 24 (words1.drop 24), List.all_append, w_t2, ← List.take_append_drop 24 ((words1.drop 24).drop 24), List.all_append, w_t3, w_t4]
  rfl
set_option maxRecDepth 65536 in
theorem w_rest : rest_1_c.before args0 about1 = true := by decide +kernel
set_option maxRecDepth 65536 in
theorem w_case : (Jvm.Cond.and given_1 narrow_1).before args0 about1 = true := by decide +kernel
theorem w_applies : (headSpec (Jvm.Cond.code x code maxLocals ret :: tables_1) room_1).applies x e0.platform about1 = true :=
  (Spec.applies_iff w_frames).mpr ⟨w_running, w_runnable, w_alone, w_named, w_hears, w_ripe, w_room, w_tables⟩
theorem atStart : AtStart classFile x code maxLocals ret World_1 tables_1 room_1 Calls_1 rest_1 Pre_1 launch0 p0 e0 about1 theMethod args0 below0 :=
  ⟨lists_1, trivial, launch0.admits_env _ _ _, launch0.least_env, fairChoices_fair.cas, fairChoices_fair.clock, w_frames, w_args, w_heap, w_applies, trivial, w_rest, w_case⟩
end start1
theorem witness_1 : WitnessClaimed_1 := ⟨start1.p0, start1.e0, start1.about1, start1.theMethod, start1.args0, start1.below0, start1.atStart⟩
end Jvm.Pilot.@@N@@
