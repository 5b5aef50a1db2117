import JvmDerived
import JvmDerived.Pilot.@@N@@Statement
import JvmDerived.Pilot.@@N@@Code
set_option linter.unusedVariables false
set_option linter.unusedSimpArgs false
namespace Jvm.RoadKit
open Sem ClassFile Op Lib Jvm.Stand Jvm.Free Jvm.LawKit
section New
variable {p : Program} {l : Launch} {e : Env} {R : Room} {s : State} {m : MethodId} {args : Array Value} {below : List Frame} {meth : Method} {c : Code} {T : State} {locs : List Loc} {cells slots : Nat}
theorem retI (X : Stand p l e R s m args below meth c T locs cells slots) (hx : p.tables.exec = Jvm.exec) {pc : Nat} {Ls : Array Slot} {z : Int32} {rest : List Value} (hret : meth.sig.returnType = some .int) (hd : decode c.code pc = .ok (.ireturn, 1)) {fs : List Frame}
    (hl : ∀ (f : JFrame) (acts : List Action), f.method = m → f.locked = none → f.entered = [] → (doReturn e (T.setTop f) acts (some (.int z))).1 = T.setFrames fs) : Steps p.tables e below (T.setTop (mkF m pc Ls (.int z :: rest))) (T.setFrames fs) := by
  have hm' : T.vm.method? m = some meth := X.method'
  have hn : narrow .int (.int z) = .int z := rfl
  show Steps p.tables e below (T.setTop { method := m, pc := pc, locals := Ls, stack := _ :: rest, locked := none }) _
  jvm_step X.here [X.here.top, hx, hd, hm', hret, hn]
  first | (intro acts; rw [hl _ acts rfl rfl rfl]) | rw [hl _ _ rfl rfl rfl]
  exact Steps.refl _
end New
end Jvm.RoadKit
/- laws to paste: Road.backV, Road.chN, Road.codOf (cut by pick.py; bodies as the Statement names them) -/
namespace Jvm.Pilot.@@N@@
namespace StrChars
open Jvm Sem ClassFile Op Lib Jvm.Stand Jvm.Free.XT Jvm.Free.ALB Jvm.Free.JM Jvm.Free
open Jvm.Lib.Cold (StaticIs)
/-- a char array whose places are chars -/
def Ch (a : Addr) (A : Cell) (U : State) : Prop := Arr .char a A U ∧ Typed .char A
theorem Ch.mv {a : Addr} {A : Cell} {U U' : State} (h : Ch a A U) (hal : U.vm.Alike U'.vm) (hh : U'.heap = U.heap) : Ch a A U' := ⟨h.1.mv hal hh, h.2⟩
theorem Ch.keep {a : Addr} {A : Cell} {U U' : State} (h : Ch a A U) (hal : U.vm.Alike U'.vm) (hk : U'.heap[a]? = some A) : Ch a A U' := ⟨h.1.keep hal hk, h.2⟩
/-- what place i of a char[]'s cell holds -/
def cv (A : Cell) (i : Nat) : Int32 := match A.slots[i]? with | some (.int x) => x | _ => 0
theorem Ch.get {a : Addr} {A : Cell} {U : State} (h : Ch a A U) {i : Nat} (hi : i < A.slots.size) : A.slots[i]? = some (.int (cv A i)) := by
  have e := Array.getElem?_eq_getElem hi
  have f := h.2 i _ e
  unfold cv; rw [e]
  generalize A.slots[i] = v at f
  cases v <;> simp [fits] at f ⊢
/-- the byte that i2b leaves of a char -/
def lo8 (x : Int32) : Int32 := x.toInt8.toInt32
theorem fits_lo8 (y : Int32) : fits .byte (.int (lo8 y)) = true := by
  have h1 := y.toInt8.le_toInt
  have h2 := y.toInt8.toInt_lt
  simp only [lo8, fits, Bool.and_eq_true, decide_eq_true_eq, Int32.le_iff_toInt_le, Int8.toInt_toInt32, show (-128 : Int32).toInt = -128 from by decide, show (127 : Int32).toInt = 127 from by decide]
  omega
/-- A' is A but that each place j of lo .. hi - 1 holds f j -/
def Laid (A A' : Cell) (lo hi : Nat) (f : Nat → Value) : Prop := A'.cls = A.cls ∧ A'.vm = A.vm ∧ A'.slots.size = A.slots.size ∧ ∀ i, A'.slots[i]? = if lo ≤ i ∧ i < hi then some (f i) else A.slots[i]?
theorem Laid.zero (A : Cell) (lo : Nat) (f : Nat → Value) : Laid A A lo (lo + 0) f := ⟨rfl, rfl, rfl, fun i => by rw [if_neg (by omega)]⟩
theorem Laid.step {A Ak : Cell} {lo k : Nat} {f : Nat → Value} {v : Value} (h : Laid A Ak lo k f) (hlo : lo ≤ k) (hk : k < Ak.slots.size) (hv : v = f k) : Laid A (Ak.setSlot k v) lo (k + 1) f := by
  refine ⟨h.1, h.2.1, by simpa [Cell.setSlot] using h.2.2.1, fun i => ?_⟩
  by_cases e : k = i
  · subst e; rw [Cell.slots_setSlot_self v hk, if_pos (by omega), hv]
  · rw [Cell.slots_setSlot_ne v e, h.2.2.2 i]
    by_cases q : lo ≤ i ∧ i < k
    · rw [if_pos q, if_pos (by omega)]
    · rw [if_neg q, if_neg (by omega)]
def U16 : String := "java/lang/StringUTF16"
namespace Cmp5
def yN : MethodName := ⟨"java/lang/StringUTF16", "compress", "([CI[BII)I"⟩
abbrev yB : ByteArray := jdk_52_method_21_code
theorem d0 : decode yB 0 = .ok (.iconst 0, 1) := by decide +kernel
theorem d1 : decode yB 1 = .ok (.istore 5, 2) := by decide +kernel
theorem d3 : decode yB 3 = .ok (.iload 5, 2) := by decide +kernel
theorem d5 : decode yB 5 = .ok (.iload 4, 2) := by decide +kernel
theorem d7 : decode yB 7 = .ok (.if_icmp (.ge) 37, 3) := by decide +kernel
theorem d10 : decode yB 10 = .ok (.aload_n 0, 1) := by decide +kernel
theorem d11 : decode yB 11 = .ok (.iload_n 1, 1) := by decide +kernel
theorem d12 : decode yB 12 = .ok (.caload, 1) := by decide +kernel
theorem d13 : decode yB 13 = .ok (.istore 6, 2) := by decide +kernel
theorem d15 : decode yB 15 = .ok (.iload 6, 2) := by decide +kernel
theorem d17 : decode yB 17 = .ok (.sipush 255, 3) := by decide +kernel
theorem d20 : decode yB 20 = .ok (.if_icmp (.le) 6, 3) := by decide +kernel
theorem d26 : decode yB 26 = .ok (.aload_n 2, 1) := by decide +kernel
theorem d27 : decode yB 27 = .ok (.iload_n 3, 1) := by decide +kernel
theorem d28 : decode yB 28 = .ok (.iload 6, 2) := by decide +kernel
theorem d30 : decode yB 30 = .ok (.i2b, 1) := by decide +kernel
theorem d31 : decode yB 31 = .ok (.bastore, 1) := by decide +kernel
theorem d32 : decode yB 32 = .ok (.iinc 1 1, 3) := by decide +kernel
theorem d35 : decode yB 35 = .ok (.iinc 3 1, 3) := by decide +kernel
theorem d38 : decode yB 38 = .ok (.iinc 5 1, 3) := by decide +kernel
theorem d41 : decode yB 41 = .ok (.goto (-38), 3) := by decide +kernel
theorem d44 : decode yB 44 = .ok (.iload 4, 2) := by decide +kernel
theorem d46 : decode yB 46 = .ok (.ireturn, 1) := by decide +kernel
def site : List Cond := []
def tab : Cond := tabOf yN yB 7 (some .int) site
def P (b : Addr) (A : Cell) (d : Addr) (B : Cell) (o q len : Nat) (args : Array Value) (s : State) : Prop := args = #[.ref b, .int (Int32.ofNat o), .ref d, .int (Int32.ofNat q), .int (Int32.ofNat len)] ∧ Ch b A s ∧ Arr .byte d B s ∧ b ≠ d ∧ o + len ≤ A.slots.size ∧ q + len ≤ B.slots.size ∧ ∀ i, i < len → ¬ 255 < cv A (o + i)
def E (b : Addr) (A : Cell) (d : Addr) (B : Cell) (o q len : Nat) (r : Option Value) (s u : State) : Prop := r = some (.int (Int32.ofNat len)) ∧ ∃ B', Put d B' s u ∧ Laid B B' q (q + len) (fun j => Value.int (lo8 (cv A (o + (j - q)))))
/-- no char of the range above 255: len; the places written hold each char's low byte -/
theorem law (l : Launch) (b : Addr) (A : Cell) (d : Addr) (B : Cell) (o q len : Nat) : Law l yN 5 5 0 0 yB 7 (some .int) site (P b A d B o q len) (E b A d B o q len) (copyLocs d q len) 0 0 := by
  refine Law.of_walk (plainFor_of_name (by decide +kernel)) (by decide +kernel) (by decide +kernel) (by decide) (fun _ _ h => by rw [h.1]; rfl) (fun _ U U' hal hh h => ⟨h.1, h.2.1.mv hal hh, h.2.2.1.mv hal hh, h.2.2.2⟩) (fun r U U' V V' h1 hal h2 h => ⟨h.1, h.2.elim fun B' q => ⟨B', q.1.mv h1 h2, q.2⟩⟩) ?_
  intro p e s m args below meth c s₁ X0 hexec hbytes hml hret hlk hnm hown hh0 W hP
  obtain ⟨rfl, hA, hB, hne, l1, l2, hp⟩ := hP
  have c1 : Steps p.tables e below (s₁.setTop (entryFrame m #[.ref b, .int (Int32.ofNat o), .ref d, .int (Int32.ofNat q), .int (Int32.ofNat len)] 7)) (s₁.setTop (mkF m 0 #[.val (.ref b), .val (.int (Int32.ofNat o)), .val (.ref d), .val (.int (Int32.ofNat q)), .val (.int (Int32.ofNat len)), .unset, .unset] [])) := entry rfl
  have hA0 := hA.1.mv X0.warmed.alike hh0
  have hB0 := hB.mv X0.warmed.alike hh0
  have a31 := hA.1.2.2.2
  have c2 : Steps p.tables e below (s₁.setTop (entryFrame m #[.ref b, .int (Int32.ofNat o), .ref d, .int (Int32.ofNat q), .int (Int32.ofNat len)] 7)) (s₁.setTop (mkF m 3 #[.val (.ref b), .val (.int (Int32.ofNat o)), .val (.ref d), .val (.int (Int32.ofNat q)), .val (.int (Int32.ofNat len)), .val (.int 0), .unset] [])) := c1.trans (by
    refine iconstV X0.here hexec rfl 0 (hb hbytes d0) (by decide) ?_
    refine XS.istore X0.here hexec rfl (hb hbytes d1) rfl rfl ?_
    exact Steps.refl _)
  have loop : ∀ (r i : Nat), i + r = len → ∀ (z : Slot), (z = .unset ∨ ∃ w, z = .val w ∧ w.category = 1) → ∀ (Tl : State) (Bk : Cell), Stand p l e { frames := 0, locals := 0, cells := 0, slots := 0 } s m #[.ref b, .int (Int32.ofNat o), .ref d, .int (Int32.ofNat q), .int (Int32.ofNat len)] below meth c Tl ([] ++ copyLocs d q i) 0 0 → Put d Bk s₁ Tl → Laid B Bk q (q + i) (fun j => Value.int (lo8 (cv A (o + (j - q))))) →
      Steps p.tables e below (s₁.setTop (entryFrame m #[.ref b, .int (Int32.ofNat o), .ref d, .int (Int32.ofNat q), .int (Int32.ofNat len)] 7)) (Tl.setTop (mkF m 3 #[.val (.ref b), .val (.int (Int32.ofNat (o + i))), .val (.ref d), .val (.int (Int32.ofNat (q + i))), .val (.int (Int32.ofNat len)), .val (.int (Int32.ofNat i)), z] [])) → ∃ (T' : State) (B' : Cell) (z' : Slot), Stand p l e { frames := 0, locals := 0, cells := 0, slots := 0 } s m #[.ref b, .int (Int32.ofNat o), .ref d, .int (Int32.ofNat q), .int (Int32.ofNat len)] below meth c T' ([] ++ copyLocs d q len) 0 0 ∧ Put d B' s₁ T' ∧ Laid B B' q (q + len) (fun j => Value.int (lo8 (cv A (o + (j - q))))) ∧
      Steps p.tables e below (s₁.setTop (entryFrame m #[.ref b, .int (Int32.ofNat o), .ref d, .int (Int32.ofNat q), .int (Int32.ofNat len)] 7)) (T'.setTop (mkF m 3 #[.val (.ref b), .val (.int (Int32.ofNat (o + len))), .val (.ref d), .val (.int (Int32.ofNat (q + len))), .val (.int (Int32.ofNat len)), .val (.int (Int32.ofNat len)), z'] [])) := by
    intro r
    induction r with
    | zero =>
      intro i hi z hz Tl Bk Xl pl fl cl
      have hil : i = len := by omega
      rw [hil] at Xl fl cl
      exact ⟨Tl, Bk, z, Xl, pl, fl, cl⟩
    | succ r ih =>
      intro i hi z hz Tl Bk Xl pl fl cl
      have all := X0.warmed.alike.symm.trans Xl.warmed.alike
      have hAl := hA0.keep all (pl.other hne hA0.1)
      have hBk := hB0.like all pl.1 fl.1 fl.2.1 fl.2.2.1
      have hlt : q + i < Bk.slots.size := by rw [fl.2.2.1]; omega
      have c3 : Steps p.tables e below (s₁.setTop (entryFrame m #[.ref b, .int (Int32.ofNat o), .ref d, .int (Int32.ofNat q), .int (Int32.ofNat len)] 7)) (Tl.setTop (mkF m 12 #[.val (.ref b), .val (.int (Int32.ofNat (o + i))), .val (.ref d), .val (.int (Int32.ofNat (q + i))), .val (.int (Int32.ofNat len)), .val (.int (Int32.ofNat i)), z] [.int (Int32.ofNat (o + i)), .ref b])) := cl.trans (by
        refine XS.iload Xl.here hexec rfl (hb hbytes d3) rfl ?_
        refine XS.iload Xl.here hexec rfl (hb hbytes d5) rfl ?_
        refine XS.icmpNo Xl.here hexec rfl (hb hbytes d7) rfl (ii_ge_f (lt32 (by omega) (by omega))) ?_
        refine XS.aloadN Xl.here hexec rfl (hb hbytes d10) rfl rfl ?_
        refine XS.iloadN Xl.here hexec rfl (hb hbytes d11) rfl ?_
        exact Steps.refl _)
      have c4 : Steps p.tables e below (s₁.setTop (entryFrame m #[.ref b, .int (Int32.ofNat o), .ref d, .int (Int32.ofNat q), .int (Int32.ofNat len)] 7)) (Tl.setTop (mkF m 13 #[.val (.ref b), .val (.int (Int32.ofNat (o + i))), .val (.ref d), .val (.int (Int32.ofNat (q + i))), .val (.int (Int32.ofNat len)), .val (.int (Int32.ofNat i)), z] [.int (cv A (o + i))])) := c3.trans (by
        refine Xl.aget hexec hAl rfl (hA.get (i := o + i) (by omega)) rfl rfl (hb hbytes d12) ?_
        exact Steps.refl _)
      have c5 : Steps p.tables e below (s₁.setTop (entryFrame m #[.ref b, .int (Int32.ofNat o), .ref d, .int (Int32.ofNat q), .int (Int32.ofNat len)] 7)) (Tl.setTop (mkF m 15 #[.val (.ref b), .val (.int (Int32.ofNat (o + i))), .val (.ref d), .val (.int (Int32.ofNat (q + i))), .val (.int (Int32.ofNat len)), .val (.int (Int32.ofNat i)), .val (.int (cv A (o + i)))] [])) := c4.trans (by
        refine XS.istoreS Xl.here hexec rfl (hb hbytes d13) rfl rfl hz ?_
        exact Steps.refl _)
      have c6 : Steps p.tables e below (s₁.setTop (entryFrame m #[.ref b, .int (Int32.ofNat o), .ref d, .int (Int32.ofNat q), .int (Int32.ofNat len)] 7)) (Tl.setTop (mkF m 31 #[.val (.ref b), .val (.int (Int32.ofNat (o + i))), .val (.ref d), .val (.int (Int32.ofNat (q + i))), .val (.int (Int32.ofNat len)), .val (.int (Int32.ofNat i)), .val (.int (cv A (o + i)))] [.int (lo8 (cv A (o + i))), .int (Int32.ofNat (q + i)), .ref d])) := c5.trans (by
        refine XS.iload Xl.here hexec rfl (hb hbytes d15) rfl ?_
        refine sipushV Xl.here hexec rfl 255 (hb hbytes d17) (by decide) ?_
        refine XS.icmpYes Xl.here hexec rfl (pc0 := 20) rfl (hb hbytes d20) rfl (ii_le_t (hp i (by omega))) (by decide) rfl ?_
        refine XS.aloadN Xl.here hexec rfl (hb hbytes d26) rfl rfl ?_
        refine XS.iloadN Xl.here hexec rfl (hb hbytes d27) rfl ?_
        refine XS.iload Xl.here hexec rfl (hb hbytes d28) rfl ?_
        refine i2b Xl.here hexec rfl (hb hbytes d30) rfl ?_
        exact Steps.refl _)
      obtain ⟨T7, X7, p7, st7⟩ := Xl.aput hexec hBk rfl hlt rfl (fits_lo8 (cv A (o + i))) (g := (mkF m 31 #[.val (.ref b), .val (.int (Int32.ofNat (o + i))), .val (.ref d), .val (.int (Int32.ofNat (q + i))), .val (.int (Int32.ofNat len)), .val (.int (Int32.ofNat i)), .val (.int (cv A (o + i)))] [.int (lo8 (cv A (o + i))), .int (Int32.ofNat (q + i)), .ref d])) rfl (rest := []) rfl (hb hbytes d31)
      have c8 : Steps p.tables e below (s₁.setTop (entryFrame m #[.ref b, .int (Int32.ofNat o), .ref d, .int (Int32.ofNat q), .int (Int32.ofNat len)] 7)) (T7.setTop (mkF m 32 #[.val (.ref b), .val (.int (Int32.ofNat (o + i))), .val (.ref d), .val (.int (Int32.ofNat (q + i))), .val (.int (Int32.ofNat len)), .val (.int (Int32.ofNat i)), .val (.int (cv A (o + i)))] [])) := c6.trans (st7 _ (Steps.refl _))
      have c9 : Steps p.tables e below (s₁.setTop (entryFrame m #[.ref b, .int (Int32.ofNat o), .ref d, .int (Int32.ofNat q), .int (Int32.ofNat len)] 7)) (T7.setTop (mkF m 3 #[.val (.ref b), .val (.int (Int32.ofNat (o + i) + 1)), .val (.ref d), .val (.int (Int32.ofNat (q + i) + 1)), .val (.int (Int32.ofNat len)), .val (.int (Int32.ofNat i + 1)), .val (.int (cv A (o + i)))] [])) := c8.trans (by
        refine iincV X7.here hexec rfl 1 (hb hbytes d32) (by decide) rfl rfl ?_
        refine iincV X7.here hexec rfl 1 (hb hbytes d35) (by decide) rfl rfl ?_
        refine iincV X7.here hexec rfl 1 (hb hbytes d38) (by decide) rfl rfl ?_
        refine XS.goto X7.here hexec rfl (pc0 := 41) rfl (hb hbytes d41) (by decide) rfl ?_
        exact Steps.refl _)
      have c10 : Steps p.tables e below (s₁.setTop (entryFrame m #[.ref b, .int (Int32.ofNat o), .ref d, .int (Int32.ofNat q), .int (Int32.ofNat len)] 7)) (T7.setTop (mkF m 3 #[.val (.ref b), .val (.int (Int32.ofNat (o + (i + 1)))), .val (.ref d), .val (.int (Int32.ofNat (q + (i + 1)))), .val (.int (Int32.ofNat len)), .val (.int (Int32.ofNat (i + 1))), .val (.int (cv A (o + i)))] [])) := by
        have := c9
        rw [succ32, succ32, succ32] at this
        exact this
      exact ih (i + 1) (by omega) _ (Or.inr ⟨_, rfl, rfl⟩) T7 _ (by rw [copyLocs_step, ← List.append_assoc]; exact X7) (pl.trans p7) (fl.step (by omega) hlt (by simp)) c10
  obtain ⟨T9, B9, z9, X9, p9, f9, g9⟩ := loop len 0 (by omega) .unset (Or.inl rfl) s₁ B (by simpa [copyLocs] using X0) ⟨hB0.1, fun _ _ => rfl, rfl⟩ (Laid.zero _ _ _) c2
  have c11 : Steps p.tables e below (s₁.setTop (entryFrame m #[.ref b, .int (Int32.ofNat o), .ref d, .int (Int32.ofNat q), .int (Int32.ofNat len)] 7)) (T9.setTop (mkF m 46 #[.val (.ref b), .val (.int (Int32.ofNat (o + len))), .val (.ref d), .val (.int (Int32.ofNat (q + len))), .val (.int (Int32.ofNat len)), .val (.int (Int32.ofNat len)), z9] [.int (Int32.ofNat len)])) := g9.trans (by
    refine XS.iload X9.here hexec rfl (hb hbytes d3) rfl ?_
    refine XS.iload X9.here hexec rfl (hb hbytes d5) rfl ?_
    refine XS.icmpYes X9.here hexec rfl (pc0 := 7) rfl (hb hbytes d7) rfl (ii_ge_t (nlt32 (by omega) (Nat.le_refl _))) (by decide) rfl ?_
    refine XS.iload X9.here hexec rfl (hb hbytes d44) rfl ?_
    exact Steps.refl _)
  exact ⟨T9, some (.int (Int32.ofNat len)), _, _, _, X9, by simp, rfl, rfl, (fun h => by cases h), ⟨rfl, B9, p9.from hh0, f9⟩, fun fs hl => c11.trans (X9.ireturnOut hexec hret rfl (Or.inl rfl) (hb hbytes d46) hl)⟩
end Cmp5
namespace Cmp3
def yN : MethodName := ⟨"java/lang/StringUTF16", "compress", "([CII)[B"⟩
abbrev yB : ByteArray := jdk_52_method_16_code
theorem d0 : decode yB 0 = .ok (.iload_n 2, 1) := by decide +kernel
theorem d1 : decode yB 1 = .ok (.newarray .byte, 2) := by decide +kernel
theorem d3 : decode yB 3 = .ok (.astore_n 3, 1) := by decide +kernel
theorem d4 : decode yB 4 = .ok (.aload_n 0, 1) := by decide +kernel
theorem d5 : decode yB 5 = .ok (.iload_n 1, 1) := by decide +kernel
theorem d6 : decode yB 6 = .ok (.aload_n 3, 1) := by decide +kernel
theorem d7 : decode yB 7 = .ok (.iconst 0, 1) := by decide +kernel
theorem d8 : decode yB 8 = .ok (.iload_n 2, 1) := by decide +kernel
theorem d9 : decode yB 9 = .ok (.invokestatic 115, 3) := by decide +kernel
theorem d12 : decode yB 12 = .ok (.istore 4, 2) := by decide +kernel
theorem d14 : decode yB 14 = .ok (.iload 4, 2) := by decide +kernel
theorem d16 : decode yB 16 = .ok (.iload_n 2, 1) := by decide +kernel
theorem d17 : decode yB 17 = .ok (.if_icmp (.eq) 40, 3) := by decide +kernel
theorem d57 : decode yB 57 = .ok (.aload_n 3, 1) := by decide +kernel
theorem d58 : decode yB 58 = .ok (.areturn, 1) := by decide +kernel
def site : List Cond := [.arrayClass .byte, Cmp5.tab] ++ staticW U16 115 Cmp5.yN
def tab : Cond := tabOf yN yB 6 (some (.array .byte)) site
def P (b : Addr) (A : Cell) (o len : Nat) (args : Array Value) (s : State) : Prop := args = #[.ref b, .int (Int32.ofNat o), .int (Int32.ofNat len)] ∧ Ch b A s ∧ o + len ≤ A.slots.size ∧ len ≤ 536870912 ∧ ∀ i, i < len → ¬ 255 < cv A (o + i)
def E (b : Addr) (A : Cell) (o len : Nat) (r : Option Value) (s u : State) : Prop := NewArr .byte "[B" len (fun j => .int (lo8 (cv A (o + j)))) r s u ∧ u.heap.size = s.heap.size + 1
/-- no char of the range above 255: a new byte[] of their low bytes -/
theorem law (l : Launch) (b : Addr) (A : Cell) (o len : Nat) : Law l yN 3 3 1 18 yB 6 (some (.array .byte)) site (P b A o len) (E b A o len) [] 1 len := by
  refine Law.of_walk (plainFor_of_name (by decide +kernel)) (by decide +kernel) (by decide +kernel) (by decide) (fun _ _ h => by rw [h.1]; rfl) (fun _ U U' hal hh h => ⟨h.1, h.2.1.mv hal hh, h.2.2⟩) (fun r U U' V V' h1 hal h2 h => ⟨NewArr.mv r U U' V V' h1 hal h2 h.1, by rw [h1, h2]; exact h.2⟩) ?_
  intro p e s m args below meth c s₁ X0 hexec hbytes hml hret hlk hnm hown hh0 W hP
  obtain ⟨rfl, hA, l1, l2, hp⟩ := hP
  have a31 := hA.1.2.2.2
  have c1 : Steps p.tables e below (s₁.setTop (entryFrame m #[.ref b, .int (Int32.ofNat o), .int (Int32.ofNat len)] 6)) (s₁.setTop (mkF m 0 #[.val (.ref b), .val (.int (Int32.ofNat o)), .val (.int (Int32.ofNat len)), .unset, .unset, .unset] [])) := entry rfl
  have c2 : Steps p.tables e below (s₁.setTop (entryFrame m #[.ref b, .int (Int32.ofNat o), .int (Int32.ofNat len)] 6)) (s₁.setTop (mkF m 1 #[.val (.ref b), .val (.int (Int32.ofNat o)), .val (.int (Int32.ofNat len)), .unset, .unset, .unset] [.int (Int32.ofNat len)])) := c1.trans (by
    refine XS.iloadN X0.here hexec rfl (hb hbytes d0) rfl ?_
    exact Steps.refl _)
  obtain ⟨T3, B3, X3, ba3, bs3, bv3, bh3, bf3, st3⟩ := X0.anew hexec (atype := .byte) (wk W (.arrayClass .byte)) rfl (by show len * 1 ≤ _; omega) (by omega) (g := (mkF m 1 #[.val (.ref b), .val (.int (Int32.ofNat o)), .val (.int (Int32.ofNat len)), .unset, .unset, .unset] [.int (Int32.ofNat len)])) rfl (hb hbytes d1) (rest := []) rfl (Nat.le_refl _) (by show 0 + len ≤ len; omega)
  rw [hh0] at ba3 st3
  have kp3 : XT.Kept s T3 := (XT.Kept.of_eq hh0).push bh3
  have hA3 := hA.keep X3.warmed.alike (kp3 _ _ hA.1.1)
  have hne : b ≠ s.heap.size := hA.1.ne
  have c4 : Steps p.tables e below (s₁.setTop (entryFrame m #[.ref b, .int (Int32.ofNat o), .int (Int32.ofNat len)] 6)) (T3.setTop (mkF m 3 #[.val (.ref b), .val (.int (Int32.ofNat o)), .val (.int (Int32.ofNat len)), .unset, .unset, .unset] [.ref s.heap.size])) := c2.trans (st3 _ (Steps.refl _))
  have c5 : Steps p.tables e below (s₁.setTop (entryFrame m #[.ref b, .int (Int32.ofNat o), .int (Int32.ofNat len)] 6)) (T3.setTop (mkF m 9 #[.val (.ref b), .val (.int (Int32.ofNat o)), .val (.int (Int32.ofNat len)), .val (.ref s.heap.size), .unset, .unset] [.int (Int32.ofNat len), .int 0, .ref s.heap.size, .int (Int32.ofNat o), .ref b])) := c4.trans (by
    refine XS.astoreN X3.here hexec rfl (hb hbytes d3) rfl rfl rfl ?_
    refine XS.aloadN X3.here hexec rfl (hb hbytes d4) rfl rfl ?_
    refine XS.iloadN X3.here hexec rfl (hb hbytes d5) rfl ?_
    refine XS.aloadN X3.here hexec rfl (hb hbytes d6) rfl rfl ?_
    refine iconstV X3.here hexec rfl 0 (hb hbytes d7) (by decide) ?_
    refine XS.iloadN X3.here hexec rfl (hb hbytes d8) rfl ?_
    exact Steps.refl _)
  obtain ⟨v6, T6, X6, E6, g6⟩ := X3.callS hexec (Cmp5.law l b A s.heap.size B3 o 0 len) hown (wks W (staticW U16 115 Cmp5.yN)) (wk W Cmp5.tab) (W := 0) (Nat.le_of_ble_eq_true rfl) (Nat.le_of_ble_eq_true rfl) (Nat.le_refl _) (by show 0 + len + 0 ≤ len; omega) (g := (mkF m 9 #[.val (.ref b), .val (.int (Int32.ofNat o)), .val (.int (Int32.ofNat len)), .val (.ref s.heap.size), .unset, .unset] [.int (Int32.ofNat len), .int (Int32.ofNat 0), .ref s.heap.size, .int (Int32.ofNat o), .ref b])) rfl (by rw [hml]; rfl) c5 (argsL := [.ref b, .int (Int32.ofNat o), .ref s.heap.size, .int (Int32.ofNat 0), .int (Int32.ofNat len)]) (rest := []) rfl rfl (by show 2 * 0 + 0 ≤ _; decide) (hb hbytes d9) (⟨rfl, hA3, ba3, hne, l1, by rw [bs3]; simp, hp⟩)
  obtain ⟨rfl, B6, p6, f6⟩ := E6
  have c7 : Steps p.tables e below (s₁.setTop (entryFrame m #[.ref b, .int (Int32.ofNat o), .int (Int32.ofNat len)] 6)) (T6.setTop (mkF m 12 #[.val (.ref b), .val (.int (Int32.ofNat o)), .val (.int (Int32.ofNat len)), .val (.ref s.heap.size), .unset, .unset] [.int (Int32.ofNat len)])) := g6
  have c8 : Steps p.tables e below (s₁.setTop (entryFrame m #[.ref b, .int (Int32.ofNat o), .int (Int32.ofNat len)] 6)) (T6.setTop (mkF m 58 #[.val (.ref b), .val (.int (Int32.ofNat o)), .val (.int (Int32.ofNat len)), .val (.ref s.heap.size), .val (.int (Int32.ofNat len)), .unset] [.ref s.heap.size])) := c7.trans (by
    refine XS.istore X6.here hexec rfl (hb hbytes d12) rfl rfl ?_
    refine XS.iload X6.here hexec rfl (hb hbytes d14) rfl ?_
    refine XS.iloadN X6.here hexec rfl (hb hbytes d16) rfl ?_
    refine XS.icmpYes X6.here hexec rfl (pc0 := 17) rfl (hb hbytes d17) rfl (ii_eq_t rfl) (by decide) rfl ?_
    refine XS.aloadN X6.here hexec rfl (hb hbytes d57) rfl rfl ?_
    exact Steps.refl _)
  have X8 := X6.wide (L' := []) (cells' := 1) (slots' := len) (fun x hx hlt => by
    simp only [List.nil_append, copyLocs, List.mem_map, List.mem_range] at hx
    obtain ⟨i, -, rfl⟩ := hx
    exact absurd hlt (Nat.lt_irrefl _)) (Nat.le_refl _) (by omega)
  exact ⟨T6, some (.ref s.heap.size), _, _, _, X8, rfl, rfl, rfl, (fun h => by cases h), ⟨⟨rfl, B6, ba3.like (X3.warmed.alike.symm.trans X6.warmed.alike) p6.1 f6.1 f6.2.1 f6.2.2.1, f6.2.1.trans bv3, by rw [X6.warmed.alike.findClass, f6.1]; exact bf3, by rw [f6.2.2.1, bs3]; simp, fun j hj => by rw [f6.2.2.2 j, if_pos (by omega)]; rfl, kp3.put p6 (Nat.le_refl _)⟩, by rw [p6.2.2, bh3, hh0]; simp⟩, fun fs hl => c8.trans (X8.areturnOut hexec rfl hret rfl (hb hbytes d58) hl)⟩
end Cmp3
namespace CodL
def yN : MethodName := ⟨"java/lang/StringUTF16", "coderFromArrayLen", "([BI)B"⟩
abbrev yB : ByteArray := jdk_52_method_15_code
theorem d0 : decode yB 0 = .ok (.iload_n 1, 1) := by decide +kernel
theorem d1 : decode yB 1 = .ok (.aload_n 0, 1) := by decide +kernel
theorem d2 : decode yB 2 = .ok (.arraylength, 1) := by decide +kernel
theorem d3 : decode yB 3 = .ok (.isub, 1) := by decide +kernel
theorem d4 : decode yB 4 = .ok (.bipush 31, 2) := by decide +kernel
theorem d6 : decode yB 6 = .ok (.iushr, 1) := by decide +kernel
theorem d7 : decode yB 7 = .ok (.i2b, 1) := by decide +kernel
theorem d8 : decode yB 8 = .ok (.ireturn, 1) := by decide +kernel
def site : List Cond := []
def tab : Cond := tabOf yN yB 2 (some .byte) site
def P (d : Addr) (B : Cell) (args : Array Value) (s : State) : Prop := args = #[.ref d, .int (Int32.ofNat B.slots.size)] ∧ Arr .byte d B s
def E (r : Option Value) (s u : State) : Prop := XT.PureE (some (.int 0)) r s u
/-- an array as long as the number of chars: LATIN1 -/
theorem law (l : Launch) (d : Addr) (B : Cell) : Law l yN 2 2 0 0 yB 2 (some .byte) site (P d B) E [] 0 0 := by
  refine Law.of_walk (plainFor_of_name (by decide +kernel)) (by decide +kernel) (by decide +kernel) (by decide) (fun _ _ h => by rw [h.1]; rfl) (fun _ U U' hal hh h => ⟨h.1, h.2.mv hal hh⟩) (fun r U U' V V' h1 hal h2 h => XT.PureE.mv r U U' V V' h1 hal h2 h) ?_
  intro p e s m args below meth c s₁ X0 hexec hbytes hml hret hlk hnm hown hh0 W hP
  obtain ⟨rfl, hB⟩ := hP
  have hB0 := hB.mv X0.warmed.alike hh0
  have c1 : Steps p.tables e below (s₁.setTop (entryFrame m #[.ref d, .int (Int32.ofNat B.slots.size)] 2)) (s₁.setTop (mkF m 0 #[.val (.ref d), .val (.int (Int32.ofNat B.slots.size))] [])) := entry rfl
  have c2 : Steps p.tables e below (s₁.setTop (entryFrame m #[.ref d, .int (Int32.ofNat B.slots.size)] 2)) (s₁.setTop (mkF m 2 #[.val (.ref d), .val (.int (Int32.ofNat B.slots.size))] [.ref d, .int (Int32.ofNat B.slots.size)])) := c1.trans (by
    refine XS.iloadN X0.here hexec rfl (hb hbytes d0) rfl ?_
    refine XS.aloadN X0.here hexec rfl (hb hbytes d1) rfl rfl ?_
    exact Steps.refl _)
  have c3 : Steps p.tables e below (s₁.setTop (entryFrame m #[.ref d, .int (Int32.ofNat B.slots.size)] 2)) (s₁.setTop (mkF m 8 #[.val (.ref d), .val (.int (Int32.ofNat B.slots.size))] [.int (lo8 (ushr (Int32.ofNat B.slots.size - Int32.ofNat B.slots.size) 31))])) := c2.trans (by
    refine X0.alen hexec hB0 rfl rfl (hb hbytes d2) ?_
    refine XS.isub X0.here hexec rfl (hb hbytes d3) rfl ?_
    refine bipushV X0.here hexec rfl 31 (hb hbytes d4) (by decide) ?_
    refine iushr X0.here hexec rfl (hb hbytes d6) rfl ?_
    refine i2b X0.here hexec rfl (hb hbytes d7) rfl ?_
    exact Steps.refl _)
  have e0 : lo8 (ushr (Int32.ofNat B.slots.size - Int32.ofNat B.slots.size) 31) = 0 := by rw [Int32.sub_self]; decide
  rw [e0] at c3
  exact ⟨s₁, some (.int 0), _, _, _, X0, rfl, rfl, rfl, (fun h => by cases h), ⟨rfl, hh0⟩, fun fs hl => c3.trans (X0.ireturnOut hexec hret rfl (Or.inr (Or.inr (Or.inl rfl))) (hb hbytes d8) hl)⟩
end CodL
/-- the String at a is Latin-1 over a new byte[] (the heap's one new cell): the low bytes of the len chars of A from o on; every cell but a is kept -/
def Got (a : Addr) (D : Cell) (fV fC : Field) (A : Cell) (o len : Nat) (r : Option Value) (s u : State) : Prop := r = none ∧ ∃ D' V : Cell, Blank "java/lang/String" a D' u ∧ Same D D' [fV.slot, fC.slot] ∧ D'.slots[fV.slot]? = some (.ref s.heap.size) ∧ D'.slots[fC.slot]? = some (.int 0) ∧ Arr .byte s.heap.size V u ∧ V.vm = .none ∧ u.vm.findClass "[B" = some V.cls ∧ V.slots.size = len ∧ (∀ j, j < len → V.slots[j]? = some (.int (lo8 (cv A (o + j))))) ∧ (∀ (y : Addr) (c : Cell), y ≠ a → s.heap[y]? = some c → u.heap[y]? = some c) ∧ u.heap.size = s.heap.size + 1
theorem Got.mv {a : Addr} {D A : Cell} {fV fC : Field} {o len : Nat} : ∀ r (U U' V V' : State), U'.heap = U.heap → V.vm.Alike V'.vm → V'.heap = V.heap → Got a D fV fC A o len r U V → Got a D fV fC A o len r U' V' :=
  fun r U U' V V' h1 hal h2 ⟨e0, D', X, a1, a2, a3, a4, a5, a6, a7, a8, a9, a10, a11⟩ => ⟨e0, D', X, a1.mv hal h2, a2, by rw [h1]; exact a3, a4, by rw [h1]; exact a5.mv hal h2, a6, by rw [hal.findClass]; exact a7, a8, a9, by rw [h1, h2]; exact a10, by rw [h1, h2]; exact a11⟩
namespace New4
def yN : MethodName := ⟨"java/lang/String", "<init>", "([CIILjava/lang/Void;)V"⟩
abbrev yB : ByteArray := jdk_42_method_149_code
theorem d0 : decode yB 0 = .ok (.aload_n 0, 1) := by decide +kernel
theorem d1 : decode yB 1 = .ok (.invokespecial 1, 3) := by decide +kernel
theorem d4 : decode yB 4 = .ok (.iload_n 3, 1) := by decide +kernel
theorem d5 : decode yB 5 = .ok (.ifCond (.ne) 22, 3) := by decide +kernel
theorem d27 : decode yB 27 = .ok (.getstatic 38, 3) := by decide +kernel
theorem d30 : decode yB 30 = .ok (.ifCond (.eq) 28, 3) := by decide +kernel
theorem d33 : decode yB 33 = .ok (.aload_n 1, 1) := by decide +kernel
theorem d34 : decode yB 34 = .ok (.iload_n 2, 1) := by decide +kernel
theorem d35 : decode yB 35 = .ok (.iload_n 3, 1) := by decide +kernel
theorem d36 : decode yB 36 = .ok (.invokestatic 177, 3) := by decide +kernel
theorem d39 : decode yB 39 = .ok (.astore 5, 2) := by decide +kernel
theorem d41 : decode yB 41 = .ok (.aload_n 0, 1) := by decide +kernel
theorem d42 : decode yB 42 = .ok (.aload 5, 2) := by decide +kernel
theorem d44 : decode yB 44 = .ok (.iload_n 3, 1) := by decide +kernel
theorem d45 : decode yB 45 = .ok (.invokestatic 47, 3) := by decide +kernel
theorem d48 : decode yB 48 = .ok (.putfield 15, 3) := by decide +kernel
theorem d51 : decode yB 51 = .ok (.aload_n 0, 1) := by decide +kernel
theorem d52 : decode yB 52 = .ok (.aload 5, 2) := by decide +kernel
theorem d54 : decode yB 54 = .ok (.putfield 9, 3) := by decide +kernel
theorem d57 : decode yB 57 = .ok (.return_, 1) := by decide +kernel
def site : List Cond := [.fieldLink "java/lang/String" 38 "java/lang/String" "COMPACT_STRINGS" "Z", Cmp3.tab, CodL.tab, .laysFinal "java/lang/String" "java/lang/String" "value" "[B", .fieldLink "java/lang/String" 9 "java/lang/String" "value" "[B", .laysFinal "java/lang/String" "java/lang/String" "coder" "B", .fieldLink "java/lang/String" 15 "java/lang/String" "coder" "B"] ++ objW "java/lang/String" 1 ++ staticW "java/lang/String" 177 Cmp3.yN ++ staticW "java/lang/String" 47 CodL.yN
def tab : Cond := tabOf yN yB 6 none site
def P (a : Addr) (D : Cell) (fV fC : Field) (b : Addr) (A : Cell) (z : Int32) (o len : Nat) (args : Array Value) (s : State) : Prop := args = #[.ref a, .ref b, .int (Int32.ofNat o), .int (Int32.ofNat len), .null] ∧ Blank "java/lang/String" a D s ∧ Found "java/lang/String" "value" "[B" fV s ∧ Found "java/lang/String" "coder" "B" fC s ∧ Ch b A s ∧ StaticIs s "java/lang/String" "COMPACT_STRINGS" "Z" (.int z) ∧ ¬ z = 0 ∧ 0 < len ∧ o + len ≤ A.slots.size ∧ len ≤ 536870912 ∧ ∀ i, i < len → ¬ 255 < cv A (o + i)
def E (a : Addr) (D : Cell) (fV fC : Field) (A : Cell) (o len : Nat) (r : Option Value) (s u : State) : Prop := Got a D fV fC A o len r s u
/-- len > 0, no char of the range above 255: a Latin-1 String of their low bytes -/
theorem law (l : Launch) (a : Addr) (D : Cell) (fV fC : Field) (b : Addr) (A : Cell) (z : Int32) (o len : Nat) : Law l yN 5 4 2 35 yB 6 none site (P a D fV fC b A z o len) (E a D fV fC A o len) [⟨a, fC.slot⟩, ⟨a, fV.slot⟩] 1 len := by
  refine Law.of_walk (plainFor_of_name (by decide +kernel)) (by decide +kernel) (by decide +kernel) (by decide) (fun _ _ h => by rw [h.1]; rfl) (fun _ U U' hal hh h => ⟨h.1, h.2.1.mv hal hh, h.2.2.1.al hal, h.2.2.2.1.al hal, h.2.2.2.2.1.mv hal hh, h.2.2.2.2.2.1.there hal hh, h.2.2.2.2.2.2⟩) (fun r U U' V V' h1 hal h2 h => Got.mv r U U' V V' h1 hal h2 h) ?_
  intro p e s m args below meth c s₁ X0 hexec hbytes hml hret hlk hnm hown hh0 W hP
  obtain ⟨rfl, hB, f1, f2, hA, s1, hz, l0, l1, l2, hp⟩ := hP
  have a31 := hA.1.2.2.2
  have c1 : Steps p.tables e below (s₁.setTop (entryFrame m #[.ref a, .ref b, .int (Int32.ofNat o), .int (Int32.ofNat len), .null] 6)) (s₁.setTop (mkF m 0 #[.val (.ref a), .val (.ref b), .val (.int (Int32.ofNat o)), .val (.int (Int32.ofNat len)), .val .null, .unset] [])) := entry rfl
  have c2 : Steps p.tables e below (s₁.setTop (entryFrame m #[.ref a, .ref b, .int (Int32.ofNat o), .int (Int32.ofNat len), .null] 6)) (s₁.setTop (mkF m 1 #[.val (.ref a), .val (.ref b), .val (.int (Int32.ofNat o)), .val (.int (Int32.ofNat len)), .val .null, .unset] [.ref a])) := c1.trans (by
    refine XS.aloadN X0.here hexec rfl (hb hbytes d0) rfl rfl ?_
    exact Steps.refl _)
  obtain ⟨T3, X3, q3, st3⟩ := X0.oinit hexec hown (wks W (objW "java/lang/String" 1)) (g := (mkF m 1 #[.val (.ref a), .val (.ref b), .val (.int (Int32.ofNat o)), .val (.int (Int32.ofNat len)), .val .null, .unset] [.ref a])) rfl (by rw [hml]; rfl) (rest := []) rfl (hb hbytes d1) (W := 0) (by show 2 * 0 + 0 ≤ _; decide) (Nat.le_of_ble_eq_true rfl) (Nat.le_of_ble_eq_true rfl)
  have hh3 := q3.trans hh0
  have c4 : Steps p.tables e below (s₁.setTop (entryFrame m #[.ref a, .ref b, .int (Int32.ofNat o), .int (Int32.ofNat len), .null] 6)) (T3.setTop (mkF m 27 #[.val (.ref a), .val (.ref b), .val (.int (Int32.ofNat o)), .val (.int (Int32.ofNat len)), .val .null, .unset] [])) := (c2.trans (st3 _ (Steps.refl _))).trans (by
    refine XS.iloadN X3.here hexec rfl (hb hbytes d4) rfl ?_
    refine XS.ifYes X3.here hexec rfl (pc0 := 5) rfl (hb hbytes d5) rfl (i0_ne_t (nz32 (by omega) l0)) (by decide) rfl ?_
    exact Steps.refl _)
  obtain ⟨T5, X5, q5, st5⟩ := X3.sget hexec hown (wk W (.fieldLink "java/lang/String" 38 "java/lang/String" "COMPACT_STRINGS" "Z")) s1 (fun _ _ h => by rw [hh3]; exact h) (g := (mkF m 27 #[.val (.ref a), .val (.ref b), .val (.int (Int32.ofNat o)), .val (.int (Int32.ofNat len)), .val .null, .unset] [])) rfl (hb hbytes d27)
  have hh5 := q5.trans hh3
  have c6 : Steps p.tables e below (s₁.setTop (entryFrame m #[.ref a, .ref b, .int (Int32.ofNat o), .int (Int32.ofNat len), .null] 6)) (T5.setTop (mkF m 30 #[.val (.ref a), .val (.ref b), .val (.int (Int32.ofNat o)), .val (.int (Int32.ofNat len)), .val .null, .unset] [.int z])) := c4.trans (st5 _ (Steps.refl _))
  have c7 : Steps p.tables e below (s₁.setTop (entryFrame m #[.ref a, .ref b, .int (Int32.ofNat o), .int (Int32.ofNat len), .null] 6)) (T5.setTop (mkF m 36 #[.val (.ref a), .val (.ref b), .val (.int (Int32.ofNat o)), .val (.int (Int32.ofNat len)), .val .null, .unset] [.int (Int32.ofNat len), .int (Int32.ofNat o), .ref b])) := c6.trans (by
    refine XS.ifNo X5.here hexec rfl (hb hbytes d30) rfl (i0_eq_f hz) ?_
    refine XS.aloadN X5.here hexec rfl (hb hbytes d33) rfl rfl ?_
    refine XS.iloadN X5.here hexec rfl (hb hbytes d34) rfl ?_
    refine XS.iloadN X5.here hexec rfl (hb hbytes d35) rfl ?_
    exact Steps.refl _)
  obtain ⟨v8, T8, X8, E8, g8⟩ := X5.callS hexec (Cmp3.law l b A o len) hown (wks W (staticW "java/lang/String" 177 Cmp3.yN)) (wk W Cmp3.tab) (W := 0) (Nat.le_of_ble_eq_true rfl) (Nat.le_of_ble_eq_true rfl) (Nat.le_refl _) (by show 0 + len ≤ len; omega) (g := (mkF m 36 #[.val (.ref a), .val (.ref b), .val (.int (Int32.ofNat o)), .val (.int (Int32.ofNat len)), .val .null, .unset] [.int (Int32.ofNat len), .int (Int32.ofNat o), .ref b])) rfl (by rw [hml]; rfl) c7 (argsL := [.ref b, .int (Int32.ofNat o), .int (Int32.ofNat len)]) (rest := []) rfl rfl (by show 2 * 0 + 0 ≤ _; decide) (hb hbytes d36) (⟨rfl, hA.mv X5.warmed.alike hh5, l1, l2, hp⟩)
  obtain ⟨e8, z8⟩ := E8
  obtain ⟨rfl, N, n1, n2, n3, n4, n5, n6⟩ := NewArr.mv _ T5 s _ _ hh5.symm (Vm.Alike.refl _) rfl e8
  rw [hh5] at z8
  have hB1 := hB.keep X8.warmed.alike (n6 _ _ hB.1)
  have hne : s.heap.size ≠ a := (Nat.ne_of_lt (Array.getElem?_eq_some_iff.mp hB.1).1).symm
  have c9 : Steps p.tables e below (s₁.setTop (entryFrame m #[.ref a, .ref b, .int (Int32.ofNat o), .int (Int32.ofNat len), .null] 6)) (T8.setTop (mkF m 39 #[.val (.ref a), .val (.ref b), .val (.int (Int32.ofNat o)), .val (.int (Int32.ofNat len)), .val .null, .unset] [.ref s.heap.size])) := g8
  have c10 : Steps p.tables e below (s₁.setTop (entryFrame m #[.ref a, .ref b, .int (Int32.ofNat o), .int (Int32.ofNat len), .null] 6)) (T8.setTop (mkF m 45 #[.val (.ref a), .val (.ref b), .val (.int (Int32.ofNat o)), .val (.int (Int32.ofNat len)), .val .null, .val (.ref s.heap.size)] [.int (Int32.ofNat N.slots.size), .ref s.heap.size, .ref a])) := by
    have hc : Steps p.tables e below (s₁.setTop (entryFrame m #[.ref a, .ref b, .int (Int32.ofNat o), .int (Int32.ofNat len), .null] 6)) (T8.setTop (mkF m 45 #[.val (.ref a), .val (.ref b), .val (.int (Int32.ofNat o)), .val (.int (Int32.ofNat len)), .val .null, .val (.ref s.heap.size)] [.int (Int32.ofNat len), .ref s.heap.size, .ref a])) := c9.trans (by
      refine XS.astore X8.here hexec rfl (hb hbytes d39) rfl rfl rfl ?_
      refine XS.aloadN X8.here hexec rfl (hb hbytes d41) rfl rfl ?_
      refine XS.aload X8.here hexec rfl (hb hbytes d42) rfl rfl ?_
      refine XS.iloadN X8.here hexec rfl (hb hbytes d44) rfl ?_
      exact Steps.refl _)
    rw [n4]; exact hc
  obtain ⟨v11, T11, X11, E11, g11⟩ := X8.callS hexec (CodL.law l s.heap.size N) hown (wks W (staticW "java/lang/String" 47 CodL.yN)) (wk W CodL.tab) (W := 1) (Nat.le_of_ble_eq_true rfl) (Nat.le_of_ble_eq_true rfl) (Nat.le_refl _) (by show 0 + len + 0 ≤ len; omega) (g := (mkF m 45 #[.val (.ref a), .val (.ref b), .val (.int (Int32.ofNat o)), .val (.int (Int32.ofNat len)), .val .null, .val (.ref s.heap.size)] [.int (Int32.ofNat N.slots.size), .ref s.heap.size, .ref a])) rfl (by rw [hml]; rfl) c10 (argsL := [.ref s.heap.size, .int (Int32.ofNat N.slots.size)]) (rest := [.ref a]) rfl rfl (by show 2 * 0 + (1 + 0) ≤ _; decide) (hb hbytes d45) (⟨rfl, n1⟩)
  obtain ⟨rfl, q11⟩ := E11
  have hB11 := hB1.mv (X8.warmed.alike.symm.trans X11.warmed.alike) q11
  have c12 : Steps p.tables e below (s₁.setTop (entryFrame m #[.ref a, .ref b, .int (Int32.ofNat o), .int (Int32.ofNat len), .null] 6)) (T11.setTop (mkF m 48 #[.val (.ref a), .val (.ref b), .val (.int (Int32.ofNat o)), .val (.int (Int32.ofNat len)), .val .null, .val (.ref s.heap.size)] [.int 0, .ref a])) := g11
  obtain ⟨T13, X13, p13, bl13, sl13, st13⟩ := X11.finit hexec hown (wk W (.fieldLink "java/lang/String" 15 "java/lang/String" "coder" "B")) (Or.inr ⟨_, (wk W (.laysFinal "java/lang/String" "java/lang/String" "coder" "B"))⟩) (Or.inl ⟨rfl, hnm⟩) f2 (Or.inl rfl) hB11 (t := .byte) (by decide +kernel) rfl (g := (mkF m 48 #[.val (.ref a), .val (.ref b), .val (.int (Int32.ofNat o)), .val (.int (Int32.ofNat len)), .val .null, .val (.ref s.heap.size)] [.int 0, .ref a])) rfl (rest := []) rfl (hb hbytes d48)
  have c14 : Steps p.tables e below (s₁.setTop (entryFrame m #[.ref a, .ref b, .int (Int32.ofNat o), .int (Int32.ofNat len), .null] 6)) (T13.setTop (mkF m 54 #[.val (.ref a), .val (.ref b), .val (.int (Int32.ofNat o)), .val (.int (Int32.ofNat len)), .val .null, .val (.ref s.heap.size)] [.ref s.heap.size, .ref a])) := (c12.trans (st13 _ (Steps.refl _))).trans (by
    refine XS.aloadN X13.here hexec rfl (hb hbytes d51) rfl rfl ?_
    refine XS.aload X13.here hexec rfl (hb hbytes d52) rfl rfl ?_
    exact Steps.refl _)
  obtain ⟨T15, X15, p15, bl15, sl15, st15⟩ := X13.finit hexec hown (wk W (.fieldLink "java/lang/String" 9 "java/lang/String" "value" "[B")) (Or.inr ⟨_, (wk W (.laysFinal "java/lang/String" "java/lang/String" "value" "[B"))⟩) (Or.inl ⟨rfl, hnm⟩) f1 (Or.inl rfl) bl13 (t := (.array .byte)) (by decide +kernel) rfl (g := (mkF m 54 #[.val (.ref a), .val (.ref b), .val (.int (Int32.ofNat o)), .val (.int (Int32.ofNat len)), .val .null, .val (.ref s.heap.size)] [.ref s.heap.size, .ref a])) rfl (rest := []) rfl (hb hbytes d54)
  have c16 : Steps p.tables e below (s₁.setTop (entryFrame m #[.ref a, .ref b, .int (Int32.ofNat o), .int (Int32.ofNat len), .null] 6)) (T15.setTop (mkF m 57 #[.val (.ref a), .val (.ref b), .val (.int (Int32.ofNat o)), .val (.int (Int32.ofNat len)), .val .null, .val (.ref s.heap.size)] [])) := c14.trans (st15 _ (Steps.refl _))
  have ap := apart (Or.inr ⟨_, (wk W (.laysFinal "java/lang/String" "java/lang/String" "value" "[B"))⟩) (Or.inr ⟨_, (wk W (.laysFinal "java/lang/String" "java/lang/String" "coder" "B"))⟩) f1 f2 (t₁ := .array .byte) (t₂ := .byte) (by decide +kernel) (by decide +kernel) (by decide)
  have al := X8.warmed.alike.symm.trans X15.warmed.alike
  have n7 : T11.heap[s.heap.size]? = some N := by rw [q11]; exact n1.1
  exact ⟨T15, none, _, _, _, X15, by simp, rfl, by omega, (fun _ => rfl), ⟨rfl, _, N, bl15, ((Same.refl D _).set _ (by simp)).set _ (by simp), sl15, (Cell.slots_setSlot_ne _ ap).trans sl13, n1.keep al (p15.other hne (p13.other hne n7)), n2, by rw [al.findClass]; exact n3, n4, n5, fun y c h1 h2 => p15.other h1 (p13.other h1 (by rw [q11]; exact n6 y c h2)), by rw [p15.2.2, p13.2.2, q11]; exact z8⟩, fun fs hl => c16.trans (X15.returnOut hexec hret (hb hbytes d57) hl)⟩
end New4
namespace New1
def yN : MethodName := ⟨"java/lang/String", "<init>", "([C)V"⟩
abbrev yB : ByteArray := jdk_42_method_3_code
theorem d0 : decode yB 0 = .ok (.aload_n 0, 1) := by decide +kernel
theorem d1 : decode yB 1 = .ok (.aload_n 1, 1) := by decide +kernel
theorem d2 : decode yB 2 = .ok (.iconst 0, 1) := by decide +kernel
theorem d3 : decode yB 3 = .ok (.aload_n 1, 1) := by decide +kernel
theorem d4 : decode yB 4 = .ok (.arraylength, 1) := by decide +kernel
theorem d5 : decode yB 5 = .ok (.aconst_null, 1) := by decide +kernel
theorem d6 : decode yB 6 = .ok (.invokespecial 27, 3) := by decide +kernel
theorem d9 : decode yB 9 = .ok (.return_, 1) := by decide +kernel
def site : List Cond := [New4.tab] ++ initW "java/lang/String" 27 New4.yN
def tab : Cond := tabOf yN yB 2 none site
def P (a : Addr) (D : Cell) (fV fC : Field) (b : Addr) (A : Cell) (z : Int32) (args : Array Value) (s : State) : Prop := args = #[.ref a, .ref b] ∧ Blank "java/lang/String" a D s ∧ Found "java/lang/String" "value" "[B" fV s ∧ Found "java/lang/String" "coder" "B" fC s ∧ Ch b A s ∧ StaticIs s "java/lang/String" "COMPACT_STRINGS" "Z" (.int z) ∧ ¬ z = 0 ∧ 0 < A.slots.size ∧ A.slots.size ≤ 536870912 ∧ ∀ i, i < A.slots.size → ¬ 255 < cv A i
def E (a : Addr) (D : Cell) (fV fC : Field) (A : Cell) (r : Option Value) (s u : State) : Prop := Got a D fV fC A 0 A.slots.size r s u
/-- new String(chars), not empty, no char above 255: a Latin-1 String of their low bytes -/
theorem law (l : Launch) (a : Addr) (D : Cell) (fV fC : Field) (b : Addr) (A : Cell) (z : Int32) : Law l yN 2 1 3 52 yB 2 none site (P a D fV fC b A z) (E a D fV fC A) [⟨a, fC.slot⟩, ⟨a, fV.slot⟩] 1 A.slots.size := by
  refine Law.of_walk (plainFor_of_name (by decide +kernel)) (by decide +kernel) (by decide +kernel) (by decide) (fun _ _ h => by rw [h.1]; rfl) (fun _ U U' hal hh h => ⟨h.1, h.2.1.mv hal hh, h.2.2.1.al hal, h.2.2.2.1.al hal, h.2.2.2.2.1.mv hal hh, h.2.2.2.2.2.1.there hal hh, h.2.2.2.2.2.2⟩) (fun r U U' V V' h1 hal h2 h => Got.mv r U U' V V' h1 hal h2 h) ?_
  intro p e s m args below meth c s₁ X0 hexec hbytes hml hret hlk hnm hown hh0 W hP
  obtain ⟨rfl, hB, f1, f2, hA, s1, hz, l0, l2, hp⟩ := hP
  have c1 : Steps p.tables e below (s₁.setTop (entryFrame m #[.ref a, .ref b] 2)) (s₁.setTop (mkF m 0 #[.val (.ref a), .val (.ref b)] [])) := entry rfl
  have c2 : Steps p.tables e below (s₁.setTop (entryFrame m #[.ref a, .ref b] 2)) (s₁.setTop (mkF m 6 #[.val (.ref a), .val (.ref b)] [.null, .int (Int32.ofNat A.slots.size), .int 0, .ref b, .ref a])) := c1.trans (by
    refine XS.aloadN X0.here hexec rfl (hb hbytes d0) rfl rfl ?_
    refine XS.aloadN X0.here hexec rfl (hb hbytes d1) rfl rfl ?_
    refine iconstV X0.here hexec rfl 0 (hb hbytes d2) (by decide) ?_
    refine XS.aloadN X0.here hexec rfl (hb hbytes d3) rfl rfl ?_
    refine X0.alen hexec (hA.1.mv X0.warmed.alike hh0) rfl rfl (hb hbytes d4) ?_
    refine XS.aconstNull X0.here hexec rfl (hb hbytes d5) ?_
    exact Steps.refl _)
  obtain ⟨v3, T3, X3, E3, g3⟩ := X0.callN hexec (New4.law l a D fV fC b A z 0 A.slots.size) rfl hown (wks W (initW "java/lang/String" 27 New4.yN)) (W New4.tab (by simp only [site, List.mem_cons, List.mem_append, true_or, or_true])) (W := 0) (Nat.le_of_ble_eq_true rfl) (Nat.le_of_ble_eq_true rfl) (Nat.le_refl _) (by show 0 + A.slots.size ≤ A.slots.size; omega) (g := (mkF m 6 #[.val (.ref a), .val (.ref b)] [.null, .int (Int32.ofNat A.slots.size), .int (Int32.ofNat 0), .ref b, .ref a])) rfl (by rw [hml]; rfl) c2 (argsL := [.ref b, .int (Int32.ofNat 0), .int (Int32.ofNat A.slots.size), .null]) (rest := []) rfl rfl (by show 2 * 0 + 0 ≤ _; decide) (hb hbytes d6) (⟨rfl, hB.mv X0.warmed.alike hh0, f1.al X0.warmed.alike, f2.al X0.warmed.alike, hA.mv X0.warmed.alike hh0, s1.there X0.warmed.alike hh0, hz, l0, by omega, l2, fun i hi => by rw [Nat.zero_add]; exact hp i hi⟩)
  have e0 := Got.mv _ s₁ s _ _ hh0.symm (Vm.Alike.refl _) rfl E3
  obtain rfl := e0.1
  have c4 : Steps p.tables e below (s₁.setTop (entryFrame m #[.ref a, .ref b] 2)) (T3.setTop (mkF m 9 #[.val (.ref a), .val (.ref b)] [])) := g3
  exact ⟨T3, none, _, _, _, X3, by simp, rfl, by omega, (fun _ => rfl), e0, fun fs hl => c4.trans (X3.returnOut hexec hret (hb hbytes d9) hl)⟩
theorem pays {l : Launch} {R : Room} {p : Program} {e : Env} {below : List Frame} {s : State} {sargs : Array Value} {len W : Nat} (a : Addr) (D : Cell) (fV fC : Field) (b : Addr) (A : Cell) (z : Int32) (htab : tab.before sargs s = true) (hfr : 4 ≤ R.frames) (hlo : W + 65 ≤ R.locals) :
    Back l R p e below s sargs yN len W (fun A₁ a₁ => A₁.cells + 1 ≤ R.cells ∧ A₁.slots + A.slots.size ≤ R.slots ∧ P a D fV fC b A z a₁ A₁.U) (fun A₁ _ v₁ B₁ => E a D fV fC A v₁ A₁.U B₁.U ∧ B₁.locs = A₁.locs ++ [⟨a, fC.slot⟩, ⟨a, fV.slot⟩] ∧ B₁.cells = A₁.cells + 1 ∧ B₁.slots = A₁.slots + A.slots.size) :=
  (law l a D fV fC b A z).pays htab hfr (by omega)
end New1
/-- the byte, read back as charAt reads it, is the char -/
theorem lo8_mask {x : Int32} (h0 : ¬ x < 0) (h1 : ¬ 255 < x) : lo8 x &&& 255 = x := by
  have t : ∀ k : Fin 256, lo8 (Int32.ofNat k.val) &&& 255 = Int32.ofNat k.val := by decide +kernel
  rw [Int32.lt_iff_toInt_lt] at h0 h1
  have e0 : (0 : Int32).toInt = 0 := rfl
  have e1 : (255 : Int32).toInt = 255 := rfl
  obtain ⟨k, hk⟩ : ∃ k : Nat, x.toInt = k := ⟨x.toInt.toNat, by omega⟩
  have hx : x = Int32.ofNat k := Int32.toInt_inj.mp (by rw [hk, Int32.toInt_ofNat_small (by omega)])
  rw [hx]
  exact t ⟨k, by omega⟩
end StrChars
namespace StrChars.Road
open Jvm Sem ClassFile Op Lib Jvm.Stand Jvm.Free Jvm.Free.XT
open Jvm.Lib.Cold (StaticIs)
abbrev ST : String := "java/lang/String"
/-- every table word that New1's law asks, flat -/
abbrev words : List Jvm.Cond := [.code New1.yN New1.yB 2 none, .initialized ST, .methodLink ST 27 New4.yN, .instanceMethod New4.yN,
  .code New4.yN New4.yB 6 none, .fieldLink ST 38 ST "COMPACT_STRINGS" "Z", .laysFinal ST ST "value" "[B", .fieldLink ST 9 ST "value" "[B", .laysFinal ST ST "coder" "B", .fieldLink ST 15 ST "coder" "B",
  .methodLink ST 1 Lib.objectInit, .instanceMethod Lib.objectInit, .code Lib.objectInit ⟨#[0xb1]⟩ 1 none, .methodLink ST 177 Cmp3.yN, .static Cmp3.yN, .methodLink ST 47 CodL.yN, .static CodL.yN,
  .code Cmp3.yN Cmp3.yB 6 (some (.array .byte)), .initialized U16, .arrayClass .byte, .methodLink U16 115 Cmp5.yN, .static Cmp5.yN, .code Cmp5.yN Cmp5.yB 7 (some .int), .code CodL.yN CodL.yB 2 (some .byte)]
theorem tab_of {a : Array Value} {s : State} (h : ∀ w ∈ words, w.before a s = true) : New1.tab.before a s = true := by
  have h5 : Cmp5.tab.before a s = true := unparts (wk h (.code Cmp5.yN Cmp5.yB 7 (some .int))) (wks h (.initialized Cmp5.yN.cls :: Cmp5.site))
  have hc : CodL.tab.before a s = true := unparts (wk h (.code CodL.yN CodL.yB 2 (some .byte))) (wks h (.initialized CodL.yN.cls :: CodL.site))
  have q5 : ∀ w ∈ Cmp5.tab :: words, w.before a s = true := fun w hw => (List.mem_cons.mp hw).elim (fun e => e ▸ h5) (h w)
  have h3 : Cmp3.tab.before a s = true := unparts (wk q5 (.code Cmp3.yN Cmp3.yB 6 (some (.array .byte)))) (wks q5 (.initialized Cmp3.yN.cls :: Cmp3.site))
  have q3 : ∀ w ∈ Cmp3.tab :: CodL.tab :: words, w.before a s = true := fun w hw => (List.mem_cons.mp hw).elim (fun e => e ▸ h3) fun hw => (List.mem_cons.mp hw).elim (fun e => e ▸ hc) (h w)
  have h4 : New4.tab.before a s = true := unparts (wk q3 (.code New4.yN New4.yB 6 none)) (wks q3 (.initialized New4.yN.cls :: New4.site))
  have q4 : ∀ w ∈ New4.tab :: words, w.before a s = true := fun w hw => (List.mem_cons.mp hw).elim (fun e => e ▸ h4) (h w)
  exact unparts (wk q4 (.code New1.yN New1.yB 2 none)) (wks q4 (.initialized New1.yN.cls :: New1.site))
/-- the words ride from the start Z to the walk's own state -/
theorem moved {Z s : State} {a0 args : Array Value} (hZ : Z.Warmed39 s.vm) (hw : ∀ d ∈ words, d.before a0 Z = true) : ∀ d ∈ words, d.before args s = true := fun d hd => by
  have q := hw d hd
  have t : ∀ d ∈ words, d = .arrayClass .byte ∨ (d.onTables && d.keepsFace) = true := by decide +kernel
  rcases t d hd with rfl | t
  · exact RoadKit.mvA hZ q
  · exact RoadKit.mv hZ q t
/-- WHAT COMES BACK, over the tables of the start Z: h the heap at the call, h' behind it -/
def Q (Z : State) (x : Addr) (A : Cell) (h : Heap) (v : Option Value) (h' : Heap) (L : List Loc) : Prop := v = none ∧ (∀ y ∈ L, y.base = x) ∧ RoadKit.Keep h h' [x] ∧ h'.size = h.size + 1 ∧ RoadKit.Exa Z h' x ST ∧ RoadKit.Fld Z h' x ST "value" "[B" (.ref h.size) ∧ RoadKit.Fld Z h' x ST "coder" "B" (.int 0) ∧
  (∃ V : Cell, RoadKit.Arr Z h' h.size V .byte ∧ V.vm = .none ∧ Z.vm.findClass "[B" = some V.cls ∧ V.slots.size = A.slots.size ∧ ∀ j, j < A.slots.size → V.slots[j]? = some (.int (lo8 (cv A j)))) ∧
  ∀ (O n d : String) (w : Value), RoadKit.Fld Z h x O n d w → RoadKit.slotOf Z O n d ≠ RoadKit.slotOf Z ST "value" "[B" → RoadKit.slotOf Z O n d ≠ RoadKit.slotOf Z ST "coder" "B" → RoadKit.Fld Z h' x O n d w
/-- **new String(chars) AT A CALL, IN THE ROAD'S FORM**: for specialBack behind newO: x the fresh String, b the char[] with the cell A -/
theorem back {p : Program} {l : Launch} {e : Env} {R : Room} {s : State} {args : Array Value} {below : List Frame} {len W : Nat} {Z : State} {a0 : Array Value} {h : Heap} (hZ : Z.Warmed39 s.vm) (hw : ∀ d ∈ words, d.before a0 Z = true) {kI : Nat} (wi : (Jvm.Cond.instantiable ST kI).before a0 Z = true)
    {x b : Addr} {A : Cell} {z : Int32} {v0 c0 : Value} (E : RoadKit.Exa Z h x ST) (V : RoadKit.Fld Z h x ST "value" "[B" v0) (C : RoadKit.Fld Z h x ST "coder" "B" c0) (K : RoadKit.Arr Z h b A .char) (hty : Typed .char A) (S : RoadKit.Sta Z h ST "COMPACT_STRINGS" "Z" (.int z)) (hz : ¬ z = 0)
    (l0 : 0 < A.slots.size) (l2 : A.slots.size ≤ 536870912) (hp : ∀ i, i < A.slots.size → ¬ 255 < cv A i) (hfr : 4 ≤ R.frames) (hlo : W + 65 ≤ R.locals) :
    Back l R p e below s args New1.yN len W (fun P a => a = #[.ref x, .ref b] ∧ P.U.heap = h ∧ P.cells + 1 ≤ R.cells ∧ P.slots + A.slots.size ≤ R.slots)
      (fun P _ v B => ∃ L, Q Z x A h v B.U.heap L ∧ B.locs = P.locs ++ L ∧ B.cells = P.cells + 1 ∧ B.slots = P.slots + A.slots.size) := by
  intro m meth c P g ig mk a X hg hsize hdg hW hn hp'
  obtain ⟨rfl, rfl, r1, r2⟩ := hp'
  have al : Z.vm.Alike P.U.vm := hZ.alike.trans X.warmed.alike
  obtain ⟨D, cfV, kV, iV, fV, hD, gV, stV, knV, obV, asV, slV⟩ := id V
  obtain ⟨D', cfC, kC, iC, fC, hD', gC, stC, -, -, asC, slC⟩ := id C
  cases hD.symm.trans hD'
  obtain ⟨D2, kD, e1, e2, e3, e4, e5⟩ := id E
  cases hD.symm.trans e1
  obtain ⟨c2, k2, i1, i2, i3, -⟩ := Cond.instantiable_spec wi
  cases e2.symm.trans i1
  cases e3.symm.trans i2
  obtain ⟨kU, u1, u2⟩ := al.2.2 _ _ e3
  have hB : Blank ST x D P.U := ⟨hD, ⟨knV, fun q hq => by rw [hq] at obV; cases obV⟩, by rw [al.findClass]; exact e2, kU, u1, by rw [u2]; exact i3, by rw [u2]; exact e5 i3⟩
  have F1 : Found ST "value" "[B" fV P.U := ⟨SBG.found_only al ⟨cfV, kV, iV, gV⟩, stV⟩
  have F2 : Found ST "coder" "B" fC P.U := ⟨SBG.found_only al ⟨cfC, kC, iC, gC⟩, stC⟩
  have hA : Ch b A P.U := ⟨⟨K.1, State.isArrayOf_alike al K.2.1, K.2.2, by omega⟩, hty⟩
  have hS : StaticIs P.U ST "COMPACT_STRINGS" "Z" (.int z) := by
    obtain ⟨cfS, iS, kS, fS, st, cS, t1, t2, t3, t4, t5, t6, t7⟩ := S
    exact StaticIs.there (s := { Z with heap := P.U.heap }) ⟨cfS, iS, kS, fS, st, cS, t1, t2, t3, t4, t5, (fun q => by rw [q] at t6; cases t6), t7⟩ al rfl
  obtain ⟨v, B, X', ⟨⟨hv, E', V', q1, q2, q3, q4, q5, q6, q7, q8, q9, q10, q11⟩, hl, hc, hs⟩, st⟩ := New1.pays x D fV fC b A z (tab_of (moved hZ hw)) hfr hlo m meth c P g ig mk _ X hg hsize hdg hW hn ⟨r1, r2, rfl, hB, F1, F2, hA, hS, hz, l0, l2, hp⟩
  have al' : Z.vm.Alike B.U.vm := hZ.alike.trans X'.warmed.alike
  have hsz : E'.slots.size = D.slots.size := by
    obtain ⟨-, -, -, kB, w1, w2, w3⟩ := q1
    obtain ⟨kB', y1, y2⟩ := al'.2.2 _ _ e3
    rw [q2.2.1] at w1
    cases w1.symm.trans y1
    rw [w3, e5 i3, y2]
  refine ⟨v, B, X', ⟨_, ⟨hv, ?_, ⟨by omega, fun y cy hy hn' => q10 y cy (by simpa using hn') hy, fun y cy hy => ?_⟩, q11, ⟨E', _, q1.1, by rw [q2.2.1]; exact e2, by rw [q2.2.1]; exact e3, by rw [q2.1]; exact obV, fun _ => by rw [hsz]; exact e5 i3⟩,
    ⟨E', cfV, kV, iV, fV, q1.1, gV, stV, by rw [q2.1]; exact knV, by rw [q2.1]; exact obV, by rw [q2.2.1]; exact asV, q3⟩, ⟨E', cfC, kC, iC, fC, q1.1, gC, stC, by rw [q2.1]; exact knV, by rw [q2.1]; exact obV, by rw [q2.2.1]; exact asC, q4⟩,
    ⟨V', ⟨q5.1, State.isArrayOf_alike al'.symm q5.2.1, q5.2.2.1⟩, q6, by rw [← al'.findClass]; exact q7, q8, fun j hj => by have := q9 j hj; rwa [Nat.zero_add] at this⟩, fun O n d w F n1 n2 => ?_⟩, hl, hc, hs⟩, st⟩
  · intro y hy
    simp only [List.mem_cons, List.not_mem_nil, or_false] at hy
    rcases hy with rfl | rfl <;> rfl
  · by_cases q : y = x
    · subst q
      cases hD.symm.trans hy
      exact ⟨E', q1.1, q2.2.1, q2.1, hsz⟩
    · exact ⟨cy, q10 y cy q hy, rfl, rfl, rfl⟩
  · obtain ⟨D3, cf, k, i, f, g1, g2, g3, g4, g5, g6, g7⟩ := F
    cases hD.symm.trans g1
    simp only [RoadKit.slotOf, g2, gV, gC, Option.map_some, Option.getD_some] at n1 n2
    exact ⟨E', cf, k, i, f, q1.1, g2, g3, by rw [q2.1]; exact g4, by rw [q2.1]; exact g5, by rw [q2.2.1]; exact g6, by rw [q2.2.2 f.slot (by simp [n1, n2])]; exact g7⟩
end StrChars.Road
namespace StrChars.Road
open Jvm Sem ClassFile Op Lib Jvm.Stand Jvm.Free Jvm.Free.XT
/-- WHAT COMES BACK, the byte[] as a list of values -/
def QA (Z : State) (x : Addr) (zn : Int32) (cs : List Int32) (h : Heap) (v : Option Value) (h' : Heap) (L : List Loc) : Prop := v = none ∧ (∀ y ∈ L, y.base = x) ∧ RoadKit.Keep h h' [x] ∧ h'.size = h.size + 1 ∧ RoadKit.Exa Z h' x ST ∧ RoadKit.Fld Z h' x ST "value" "[B" (.ref h.size) ∧ RoadKit.Fld Z h' x ST "coder" "B" (.int 0) ∧
  (∃ kb, Z.vm.findClass "[B" = some kb ∧ RoadKit.Arv Z h' h.size kb .byte zn (cs.map fun c => .int (lo8 c)) (.int 0)) ∧
  ∀ (O n d : String) (w : Value), RoadKit.Fld Z h x O n d w → RoadKit.slotOf Z O n d ≠ RoadKit.slotOf Z ST "value" "[B" → RoadKit.slotOf Z O n d ≠ RoadKit.slotOf Z ST "coder" "B" → RoadKit.Fld Z h' x O n d w
/-- **new String(chars) AT A CALL, THE ARRAYS AS LISTS**: the char[] at b holds cs, not empty, no char above 255 -/
theorem backArv {p : Program} {l : Launch} {e : Env} {R : Room} {s : State} {args : Array Value} {below : List Frame} {len W : Nat} {Z : State} {a0 : Array Value} {h : Heap} (hZ : Z.Warmed39 s.vm) (hw : ∀ d ∈ words, d.before a0 Z = true) {kI : Nat} (wi : (Jvm.Cond.instantiable ST kI).before a0 Z = true)
    {x b : Addr} {k : ClassId} {zn z : Int32} {cs : List Int32} {dv v0 c0 : Value} (E : RoadKit.Exa Z h x ST) (V : RoadKit.Fld Z h x ST "value" "[B" v0) (C : RoadKit.Fld Z h x ST "coder" "B" c0) (K : RoadKit.Arv Z h b k .char zn (cs.map Value.int) dv) (S : RoadKit.Sta Z h ST "COMPACT_STRINGS" "Z" (.int z)) (hz : ¬ z = 0)
    (hlen : zn.toNatClampNeg = cs.length) (h0 : 0 < cs.length) (hbig : cs.length ≤ 536870912) (hall : ∀ c ∈ cs, ¬ 255 < c) (hfr : 4 ≤ R.frames) (hlo : W + 65 ≤ R.locals) :
    Back l R p e below s args New1.yN len W (fun P a => a = #[.ref x, .ref b] ∧ P.U.heap = h ∧ P.cells + 1 ≤ R.cells ∧ P.slots + cs.length ≤ R.slots)
      (fun P _ v B => ∃ L, QA Z x zn cs h v B.U.heap L ∧ B.locs = P.locs ++ L ∧ B.cells = P.cells + 1 ∧ B.slots = P.slots + cs.length) := by
  obtain ⟨A, K1, K2, K3, K4, K5, K6⟩ := K
  have e : A.slots.size = cs.length := K3.trans hlen
  have hat : ∀ (i : Nat) (hi : i < cs.length), A.slots[i]? = some (.int cs[i]) := fun i hi => by rw [K5 i (by omega)]; simp [List.getD_eq_getElem?_getD, hi]
  have hcv : ∀ (i : Nat) (hi : i < cs.length), cv A i = cs[i] := fun i hi => by unfold cv; rw [hat i hi]
  have hty : Typed .char A := fun i v hv => by
    have hi : i < A.slots.size := (Array.getElem?_eq_some_iff.mp hv).1
    have q := K5 i hi
    rw [hv] at q
    rw [Option.some.inj q]
    exact K6 i hi
  refine Back.mono (back hZ hw wi E V C K1 hty S hz (by omega) (by omega) (fun i hi => by rw [hcv i (by omega)]; exact hall _ (List.getElem_mem _)) hfr hlo) (fun P a hp => ⟨hp.1, hp.2.1, hp.2.2.1, by rw [e]; exact hp.2.2.2⟩) (fun P a v B hp hq => ?_)
  obtain ⟨L, ⟨q1, q2, q3, q4, q5, q6, q7, ⟨V', v1, v2, v3, v4, v5⟩, q9⟩, hl, hc, hs⟩ := hq
  refine ⟨L, ⟨q1, q2, q3, q4, q5, q6, q7, ⟨V'.cls, v3, V', v1, rfl, by rw [v4, e, hlen], K4, fun i hi => ?_, fun i hi => ?_⟩, q9⟩, hl, hc, by rw [hs, e]⟩
  · have hi' : i < cs.length := by omega
    rw [v5 i (by omega), hcv i hi']; simp [List.getD_eq_getElem?_getD, hi']
  · have hi' : i < cs.length := by omega
    simp only [List.getD_eq_getElem?_getD, List.getElem?_map, List.getElem?_eq_getElem hi', Option.map_some, Option.getD_some]
    exact fits_lo8 _
end StrChars.Road
namespace StrChars.Road
open Jvm Sem ClassFile Op Lib Jvm.Stand Jvm.Free Jvm.Free.XT
/-- WHAT COMES BACK, in the writer's own shape -/
def QV (Z : State) (x : Addr) (N : Int32) (bs : List Int32) (h : Heap) (n0 : Nat) (v : Option Value) (h' : Heap) (L : List Loc) : Prop := v = none ∧ RoadKit.Fr n0 L ∧ RoadKit.Keep h h' [x] ∧ RoadKit.Exa Z h' x ST ∧ RoadKit.Fld Z h' x ST "coder" "B" (.int 0) ∧
  ∃ (t : Addr) (kb : ClassId), n0 ≤ t ∧ h.size ≤ t ∧ ¬ t = x ∧ RoadKit.Fld Z h' x ST "value" "[B" (.ref t) ∧ RoadKit.Arv Z h' t kb .byte N (bs.map Value.int) (.int 0)
/-- **new String(chars) AT A CALL, FOR THE WRITER**: a char[] of n known ints, each 0 to 255 -/
theorem backV {p : Program} {l : Launch} {e : Env} {R : Room} {s : State} {args : Array Value} {below : List Frame} {len W : Nat} {Z : State} {a0 : Array Value} {h : Heap} (hZ : Z.Warmed39 s.vm) (hw : ∀ d ∈ words, d.before a0 Z = true) {kI : Nat} (wi : (Jvm.Cond.instantiable ST kI).before a0 Z = true)
    {x b : Addr} {kC : ClassId} {cs bs : List Int32} {d v0 c0 : Value} {z N : Int32} {n n0 : Nat} (hx0 : n0 ≤ x) (hh0 : n0 ≤ h.size) (E : RoadKit.Exa Z h x ST) (V : RoadKit.Fld Z h x ST "value" "[B" v0) (C : RoadKit.Fld Z h x ST "coder" "B" c0) (K : RoadKit.Arv Z h b kC .char N (cs.map Value.int) d) (S : RoadKit.Sta Z h ST "COMPACT_STRINGS" "Z" (.int z)) (hz : ¬ z = 0)
    (hn : cs.length = n) (hN : N = Int32.ofNat n) (l0 : 0 < n) (l2 : n ≤ 4000) (hp : ∀ c ∈ cs, ¬ c < 0 ∧ ¬ (255 : Int32) < c) (hb : bs = cs.map (fun c => c.toInt8.toInt32)) (hfr : 4 ≤ R.frames) (hlo : W + 65 ≤ R.locals) :
    Back l R p e below s args (⟨"java/lang/String", "<init>", "([C)V"⟩ : MethodName) len W (fun P a => a = #[.ref x, .ref b] ∧ P.U.heap = h ∧ P.cells + 1 ≤ R.cells ∧ P.slots + n ≤ R.slots)
      (fun P _ v B => ∃ L, QV Z x N bs h n0 v B.U.heap L ∧ B.locs = P.locs ++ L ∧ B.cells = P.cells + 1 ∧ B.slots = P.slots + n) := by
  subst hn hN hb
  refine Back.mono (backArv hZ hw wi E V C K S hz (n32 (by omega)) l0 (by omega) (fun c hc => (hp c hc).2) hfr hlo) (fun P a hp => hp) (fun P a v B hp hq => ?_)
  obtain ⟨L, ⟨q1, q2, q3, q4, q5, q6, q7, ⟨kb, v1, v2⟩, q9⟩, hl, hc, hs⟩ := hq
  exact ⟨L, ⟨q1, fun y hy => by rw [q2 y hy]; exact hx0, q3, q5, q7, h.size, kb, hh0, Nat.le_refl _, Nat.ne_of_gt E.lt, q6, by rw [List.map_map]; exact v2⟩, hl, hc, hs⟩
end StrChars.Road
namespace StrChars
open Jvm Sem ClassFile Op Lib Jvm.Stand Jvm.Free.XT Jvm.Free.ALB Jvm.Free.JM Jvm.Free
open Jvm.Lib.Cold (StaticIs)
def hi8 (x : Int32) : Int32 := lo8 (x >>> ((8 : Int32) &&& 31))
/-- what StringUTF16.getChar makes of two bytes -/
def pairCh (u v : Int32) : Int32 := (((u &&& 255) <<< ((0 : Int32) &&& 31)) ||| ((v &&& 255) <<< ((8 : Int32) &&& 31))).toUInt32.toUInt16.toUInt32.toInt32
theorem lo8_and (x : Int32) : (lo8 x &&& 255).toBitVec.toNat = x.toBitVec.toNat % 256 := by
  have h : (lo8 x).toBitVec = (x.toBitVec.signExtend 8).signExtend 32 := by rw [lo8, Int8.toBitVec_toInt32, Int32.toBitVec_toInt8]
  rw [Int32.toBitVec_and, BitVec.toNat_and, h]
  have e : ((x.toBitVec.signExtend 8).signExtend 32).toNat % 256 = x.toBitVec.toNat % 256 := by
    rw [BitVec.toNat_signExtend]
    have hlt := x.toBitVec.isLt
    simp only [BitVec.toNat_setWidth, BitVec.toNat_signExtend]
    split <;> split <;> omega
  rw [← e]
  exact Nat.and_two_pow_sub_one_eq_mod _ 8
theorem pair_says {c : Int32} (h0 : ¬ c < 0) (h1 : ¬ 65535 < c) : pairCh (lo8 c) (hi8 c) = c := by
  rw [Int32.lt_iff_toInt_lt] at h0 h1
  have e0 : (0 : Int32).toInt = 0 := rfl
  have e1 : (65535 : Int32).toInt = 65535 := rfl
  have hc : c.toInt = c.toBitVec.toNat := by
    have := c.toBitVec.isLt
    have e : c.toInt = c.toBitVec.toInt := rfl
    rw [e] at h0 h1
    rw [e]
    rw [BitVec.toInt_eq_toNat_cond] at h0 h1 ⊢
    split at h0 <;> split <;> omega
  have hn : c.toBitVec.toNat < 65536 := by omega
  have a1 := lo8_and c
  have a2 : (hi8 c &&& 255).toBitVec.toNat = c.toBitVec.toNat / 256 := by
    rw [hi8, lo8_and]
    have e : ((8 : Int32) &&& 31) = 8 := by decide
    rw [e, Int32.toBitVec_shiftRight]
    have e2 : ((8 : Int32).toBitVec.smod 32) = 8#32 := by decide
    rw [e2, BitVec.sshiftRight_eq', BitVec.toNat_sshiftRight_of_msb_false (by rw [BitVec.msb_eq_false_iff_two_mul_lt]; omega)]
    show c.toBitVec.toNat >>> 8 % 256 = _
    rw [Nat.shiftRight_eq_div_pow]
    omega
  unfold pairCh
  apply Int32.toBitVec_inj.mp
  apply BitVec.eq_of_toNat_eq
  have f0 : ((0 : Int32) &&& 31) = 0 := by decide
  have f8 : ((8 : Int32) &&& 31) = 8 := by decide
  rw [f0, f8]
  have g : (((lo8 c &&& 255) <<< (0 : Int32)) ||| ((hi8 c &&& 255) <<< (8 : Int32))).toBitVec.toNat = c.toBitVec.toNat := by
    rw [Int32.toBitVec_or, Int32.toBitVec_shiftLeft, Int32.toBitVec_shiftLeft]
    have s0 : ((0 : Int32).toBitVec.smod 32) = 0#32 := by decide
    have s8 : ((8 : Int32).toBitVec.smod 32) = 8#32 := by decide
    rw [s0, s8, BitVec.toNat_or]
    simp only [BitVec.shiftLeft_eq', BitVec.toNat_shiftLeft, a1, a2]
    show (c.toBitVec.toNat % 256) <<< 0 % 2 ^ 32 ||| (c.toBitVec.toNat / 256) <<< 8 % 2 ^ 32 = _
    rw [Nat.shiftLeft_zero, Nat.mod_eq_of_lt (show c.toBitVec.toNat % 256 < 2 ^ 32 by omega), Nat.mod_eq_of_lt (show (c.toBitVec.toNat / 256) <<< 8 < 2 ^ 32 by rw [Nat.shiftLeft_eq]; omega), Nat.or_comm, ← Nat.shiftLeft_add_eq_or_of_lt (by omega), Nat.shiftLeft_eq]
    omega
  show BitVec.toNat (((((lo8 c &&& 255) <<< (0 : Int32)) ||| ((hi8 c &&& 255) <<< (8 : Int32))).toBitVec.setWidth 16).setWidth 32) = _
  rw [BitVec.toNat_setWidth, BitVec.toNat_setWidth, g]
  omega
end StrChars
namespace StrChars
open Jvm Sem ClassFile Op Lib Jvm.Stand Jvm.Free.XT Jvm.Free.ALB Jvm.Free.JM Jvm.Free
open Jvm.Lib.Cold (StaticIs)
/-- charAt's cast of a byte read back -/
def chr8 (u : Int32) : Int32 := (u &&& 255).toUInt32.toUInt16.toUInt32.toInt32
theorem chr8_lo8 {c : Int32} (h0 : ¬ c < 0) (h1 : ¬ 255 < c) : chr8 (lo8 c) = c := by
  have t : ∀ k : Fin 256, (Int32.ofNat k.val).toUInt32.toUInt16.toUInt32.toInt32 = Int32.ofNat k.val := by decide +kernel
  unfold chr8
  rw [lo8_mask h0 h1]
  rw [Int32.lt_iff_toInt_lt] at h0 h1
  have e0 : (0 : Int32).toInt = 0 := rfl
  have e1 : (255 : Int32).toInt = 255 := rfl
  obtain ⟨k, hk⟩ : ∃ k : Nat, c.toInt = k := ⟨c.toInt.toNat, by omega⟩
  have hx : c = Int32.ofNat k := Int32.toInt_inj.mp (by rw [hk, Int32.toInt_ofNat_small (by omega)])
  rw [hx]
  exact t ⟨k, by omega⟩
theorem narrow_ch {c : Int32} (h0 : ¬ c < 0) (h1 : ¬ 65535 < c) : narrow .char (.int c) = .int c := by
  have q : narrow .char (.int (pairCh (lo8 c) (hi8 c))) = .int (pairCh (lo8 c) (hi8 c)) := narrow_c _
  rwa [pair_says h0 h1] at q
/-- the array's cell V codes the n chars f 0 .. f (n - 1) by the coder cd, as the JDK does: coder 1 just where some char is above 255 -/
def Cod (cd : Int32) (n : Nat) (f : Nat → Int32) (V : Cell) : Prop := (cd = 0 ∧ V.slots.size = n ∧ ∀ j, j < n → V.slots[j]? = some (.int (lo8 (f j))) ∧ ¬ 255 < f j) ∨ (cd = 1 ∧ V.slots.size = 2 * n ∧ (∀ j, j < n → V.slots[2 * j]? = some (.int (lo8 (f j))) ∧ V.slots[2 * j + 1]? = some (.int (hi8 (f j)))) ∧ ∃ j, j < n ∧ 255 < f j)
theorem Cod.cd {cd : Int32} {n : Nat} {f : Nat → Int32} {V : Cell} (h : Cod cd n f V) : cd = 0 ∨ cd = 1 := h.imp (fun q => q.1) fun q => q.1
/-- **x is a String of the n chars f 0 .. f (n - 1)**, Latin-1 or UTF-16; its array at t has the cell V -/
def Txt (x t : Addr) (V : Cell) (cd : Int32) (n : Nat) (f : Nat → Int32) (U : State) : Prop := Exact "java/lang/String" x U ∧ Has x "java/lang/String" "value" "[B" (.ref t) U ∧ Has x "java/lang/String" "coder" "B" (.int cd) U ∧ XT.Arr .byte t V U ∧ Cod cd n f V ∧ ∀ j, j < n → ¬ f j < 0 ∧ ¬ 65535 < f j
theorem Txt.mv {x t : Addr} {V : Cell} {cd : Int32} {n : Nat} {f : Nat → Int32} {U U' : State} (h : Txt x t V cd n f U) (hal : U.vm.Alike U'.vm) (hh : U'.heap = U.heap) : Txt x t V cd n f U' := ⟨h.1.mv hal hh, h.2.1.mv hal hh, h.2.2.1.mv hal hh, h.2.2.2.1.mv hal hh, h.2.2.2.2⟩
namespace IsL
def yN : MethodName := ⟨"java/lang/String", "isLatin1", "()Z"⟩
abbrev yB : ByteArray := jdk_42_method_154_code
theorem d0 : decode yB 0 = .ok (.getstatic 38, 3) := by decide +kernel
theorem d3 : decode yB 3 = .ok (.ifCond (.eq) 14, 3) := by decide +kernel
theorem d6 : decode yB 6 = .ok (.aload_n 0, 1) := by decide +kernel
theorem d7 : decode yB 7 = .ok (.getfield 15, 3) := by decide +kernel
theorem d10 : decode yB 10 = .ok (.ifCond (.ne) 7, 3) := by decide +kernel
theorem d13 : decode yB 13 = .ok (.iconst 1, 1) := by decide +kernel
theorem d14 : decode yB 14 = .ok (.goto 4, 3) := by decide +kernel
theorem d17 : decode yB 17 = .ok (.iconst 0, 1) := by decide +kernel
theorem d18 : decode yB 18 = .ok (.ireturn, 1) := by decide +kernel
def site : List Cond := [.fieldLink "java/lang/String" 38 "java/lang/String" "COMPACT_STRINGS" "Z", .fieldLink "java/lang/String" 15 "java/lang/String" "coder" "B"]
def tab : Cond := tabOf yN yB 1 (some .boolean) site
def P (x : Addr) (cd z : Int32) (args : Array Value) (s : State) : Prop := args = #[.ref x] ∧ Has x "java/lang/String" "coder" "B" (.int cd) s ∧ (cd = 0 ∨ cd = 1) ∧ StaticIs s "java/lang/String" "COMPACT_STRINGS" "Z" (.int z) ∧ ¬ z = 0
def E (cd : Int32) (r : Option Value) (s u : State) : Prop := XT.PureE (some (.int (1 - cd))) r s u
theorem law (l : Launch) (x : Addr) (cd z : Int32) : Law l yN 1 0 0 0 yB 1 (some .boolean) site (P x cd z) (E cd) [] 0 0 := by
  refine Law.of_walk (plainFor_of_name (by decide +kernel)) (by decide +kernel) (by decide +kernel) (by decide) (fun _ _ h => by rw [h.1]; rfl) (fun _ U U' hal hh h => ⟨h.1, h.2.1.mv hal hh, h.2.2.1, h.2.2.2.1.there hal hh, h.2.2.2.2⟩) (fun r U U' V V' h1 hal h2 h => XT.PureE.mv r U U' V V' h1 hal h2 h) ?_
  intro p e s m args below meth c s₁ X0 hexec hbytes hml hret hlk hnm hown hh0 W hP
  obtain ⟨rfl, hx, hc, s1, hz⟩ := hP
  have c1 : Steps p.tables e below (s₁.setTop (entryFrame m #[.ref x] 1)) (s₁.setTop (mkF m 0 #[.val (.ref x)] [])) := entry rfl
  obtain ⟨T2, X2, q2, st2⟩ := X0.sget hexec hown (wk W (.fieldLink "java/lang/String" 38 "java/lang/String" "COMPACT_STRINGS" "Z")) s1 (fun _ _ h => by rw [hh0]; exact h) (g := (mkF m 0 #[.val (.ref x)] [])) rfl (hb hbytes d0)
  have hh2 := q2.trans hh0
  have c3 : Steps p.tables e below (s₁.setTop (entryFrame m #[.ref x] 1)) (T2.setTop (mkF m 7 #[.val (.ref x)] [.ref x])) := (c1.trans (st2 _ (Steps.refl _))).trans (by
    refine XS.ifNo X2.here hexec rfl (hb hbytes d3) rfl (i0_eq_f hz) ?_
    refine XS.aloadN X2.here hexec rfl (hb hbytes d6) rfl rfl ?_
    exact Steps.refl _)
  obtain ⟨T4, X4, q4, st4⟩ := X2.hget hexec hown (wk W (.fieldLink "java/lang/String" 15 "java/lang/String" "coder" "B")) (hx.mv X2.warmed.alike hh2) (g := (mkF m 7 #[.val (.ref x)] [.ref x])) rfl (rest := []) rfl (hb hbytes d7)
  have c5 : Steps p.tables e below (s₁.setTop (entryFrame m #[.ref x] 1)) (T4.setTop (mkF m 10 #[.val (.ref x)] [.int cd])) := c3.trans (st4 _ (Steps.refl _))
  have c6 : Steps p.tables e below (s₁.setTop (entryFrame m #[.ref x] 1)) (T4.setTop (mkF m 18 #[.val (.ref x)] [.int (1 - cd)])) := by
    rcases hc with rfl | rfl
    · exact c5.trans (by
        refine XS.ifNo X4.here hexec rfl (hb hbytes d10) rfl (i0_ne_f rfl) ?_
        refine iconstV X4.here hexec rfl 1 (hb hbytes d13) (by decide) ?_
        refine XS.goto X4.here hexec rfl (pc0 := 14) rfl (hb hbytes d14) (by decide) rfl ?_
        exact Steps.refl _)
    · exact c5.trans (by
        refine XS.ifYes X4.here hexec rfl (pc0 := 10) rfl (hb hbytes d10) rfl (i0_ne_t (by decide)) (by decide) rfl ?_
        refine iconstV X4.here hexec rfl 0 (hb hbytes d17) (by decide) ?_
        exact Steps.refl _)
  exact ⟨T4, some (.int (1 - cd)), _, _, _, X4, rfl, rfl, rfl, (fun h => by cases h), ⟨rfl, q4.trans hh2⟩, fun fs hl => c6.trans (X4.ireturnOut hexec hret (by rcases hc with rfl | rfl <;> rfl) (Or.inr (Or.inl rfl)) (hb hbytes d18) hl)⟩
end IsL
namespace LChA
def yN : MethodName := ⟨"java/lang/StringLatin1", "charAt", "([BI)C"⟩
abbrev yB : ByteArray := jdk_43_method_2_code
theorem d0 : decode yB 0 = .ok (.iload_n 1, 1) := by decide +kernel
theorem d1 : decode yB 1 = .ok (.aload_n 0, 1) := by decide +kernel
theorem d2 : decode yB 2 = .ok (.arraylength, 1) := by decide +kernel
theorem d3 : decode yB 3 = .ok (.invokestatic 9, 3) := by decide +kernel
theorem d6 : decode yB 6 = .ok (.aload_n 0, 1) := by decide +kernel
theorem d7 : decode yB 7 = .ok (.iload_n 1, 1) := by decide +kernel
theorem d8 : decode yB 8 = .ok (.baload, 1) := by decide +kernel
theorem d9 : decode yB 9 = .ok (.sipush 255, 3) := by decide +kernel
theorem d12 : decode yB 12 = .ok (.iand, 1) := by decide +kernel
theorem d13 : decode yB 13 = .ok (.i2c, 1) := by decide +kernel
theorem d14 : decode yB 14 = .ok (.ireturn, 1) := by decide +kernel
def site : List Cond := [JO.Str_checkIndex.tab] ++ staticW "java/lang/StringLatin1" 9 JO.Str_checkIndex.yN
def tab : Cond := tabOf yN yB 2 (some .char) site
def P (t : Addr) (V : Cell) (i : Nat) (u : Int32) (fm : Value) (args : Array Value) (s : State) : Prop := args = #[.ref t, .int (Int32.ofNat i)] ∧ XT.Arr .byte t V s ∧ V.slots[i]? = some (.int u) ∧ (StaticIs s "jdk/internal/util/Preconditions" "SIOOBE_FORMATTER" "Ljava/util/function/BiFunction;" fm ∧ fm.isRef = true)
def E (u : Int32) (r : Option Value) (s w : State) : Prop := XT.PureE (some (.int (chr8 u))) r s w
theorem law (l : Launch) (t : Addr) (V : Cell) (i : Nat) (u : Int32) (fm : Value) : Law l yN 2 2 2 27 yB 2 (some .char) site (P t V i u fm) (E u) [] 0 0 := by
  refine Law.of_walk (plainFor_of_name (by decide +kernel)) (by decide +kernel) (by decide +kernel) (by decide) (fun _ _ h => by rw [h.1]; rfl) (fun _ U U' hal hh h => ⟨h.1, h.2.1.mv hal hh, h.2.2.1, h.2.2.2.1.there hal hh, h.2.2.2.2⟩) (fun r U U' V V' h1 hal h2 h => XT.PureE.mv r U U' V V' h1 hal h2 h) ?_
  intro p e s m args below meth c s₁ X0 hexec hbytes hml hret hlk hnm hown hh0 W hP
  obtain ⟨rfl, hV, hu, s1, rf⟩ := hP
  have v31 := hV.2.2.2
  have hi : i < V.slots.size := (Array.getElem?_eq_some_iff.mp hu).1
  have c1 : Steps p.tables e below (s₁.setTop (entryFrame m #[.ref t, .int (Int32.ofNat i)] 2)) (s₁.setTop (mkF m 0 #[.val (.ref t), .val (.int (Int32.ofNat i))] [])) := entry rfl
  have c2 : Steps p.tables e below (s₁.setTop (entryFrame m #[.ref t, .int (Int32.ofNat i)] 2)) (s₁.setTop (mkF m 3 #[.val (.ref t), .val (.int (Int32.ofNat i))] [.int (Int32.ofNat V.slots.size), .int (Int32.ofNat i)])) := c1.trans (by
    refine XS.iloadN X0.here hexec rfl (hb hbytes d0) rfl ?_
    refine XS.aloadN X0.here hexec rfl (hb hbytes d1) rfl rfl ?_
    refine X0.alen hexec (hV.mv X0.warmed.alike hh0) rfl rfl (hb hbytes d2) ?_
    exact Steps.refl _)
  obtain ⟨v3, T3, X3, E3, g3⟩ := X0.callS hexec (JO.Str_checkIndex.law l (Int32.ofNat i) (Int32.ofNat V.slots.size) fm) hown (wks W (staticW "java/lang/StringLatin1" 9 JO.Str_checkIndex.yN)) (wk W JO.Str_checkIndex.tab) (W := 0) (Nat.le_of_ble_eq_true rfl) (Nat.le_of_ble_eq_true rfl) (Nat.le_refl _) (Nat.le_refl _) (g := (mkF m 3 #[.val (.ref t), .val (.int (Int32.ofNat i))] [.int (Int32.ofNat V.slots.size), .int (Int32.ofNat i)])) rfl (by rw [hml]; rfl) c2 (argsL := [.int (Int32.ofNat i), .int (Int32.ofNat V.slots.size)]) (rest := []) rfl rfl (by show 2 * 0 + 0 ≤ _; decide) (hb hbytes d3) (⟨rfl, rf, s1.there X0.warmed.alike hh0, Int32.ofNat_not_neg (by omega), lt32 v31 hi⟩)
  obtain ⟨rfl, q3⟩ := E3
  have hh3 := q3.trans hh0
  have c4 : Steps p.tables e below (s₁.setTop (entryFrame m #[.ref t, .int (Int32.ofNat i)] 2)) (T3.setTop (mkF m 14 #[.val (.ref t), .val (.int (Int32.ofNat i))] [.int (chr8 u)])) := Steps.trans g3 (by
    refine XS.aloadN X3.here hexec rfl (hb hbytes d6) rfl rfl ?_
    refine XS.iloadN X3.here hexec rfl (hb hbytes d7) rfl ?_
    refine X3.aget hexec (hV.mv X3.warmed.alike hh3) rfl hu rfl rfl (hb hbytes d8) ?_
    refine sipushV X3.here hexec rfl 255 (hb hbytes d9) (by decide) ?_
    refine XS.iand X3.here hexec rfl (hb hbytes d12) rfl ?_
    refine i2c X3.here hexec rfl (hb hbytes d13) rfl ?_
    exact Steps.refl _)
  exact ⟨T3, some (.int (chr8 u)), _, _, _, X3, rfl, rfl, rfl, (fun h => by cases h), ⟨rfl, hh3⟩, fun fs hl => c4.trans (X3.ireturnOut hexec hret (narrow_c _) (Or.inr (Or.inr (Or.inr (Or.inl rfl)))) (hb hbytes d14) hl)⟩
end LChA
end StrChars
namespace StrChars.Road
open Jvm Sem ClassFile Op Lib Jvm.Stand Jvm.Free Jvm.Free.XT
open Jvm.Lib.Cold (StaticIs)
theorem consq {a : Array Value} {s : State} {c : Jvm.Cond} {L : List Jvm.Cond} (h0 : c.before a s = true) (h : ∀ w ∈ L, w.before a s = true) : ∀ w ∈ c :: L, w.before a s = true := fun w hw => (List.mem_cons.mp hw).elim (fun e => e ▸ h0) (h w)
/-- the bytes of the chars cs, low before high -/
def wideBytes : List Int32 → List Value
  | [] => []
  | c :: cs => .int (lo8 c) :: .int (hi8 c) :: wideBytes cs
theorem wide_lo (d : Value) : ∀ (cs : List Int32) (j : Nat), j < cs.length → (wideBytes cs).getD (2 * j) d = .int (lo8 (cs.getD j 0))
  | [], j, h => absurd h (Nat.not_lt_zero j)
  | c :: cs, 0, _ => rfl
  | c :: cs, j + 1, h => by
    have q := wide_lo d cs j (by simpa using h)
    rw [show 2 * (j + 1) = 2 * j + 1 + 1 from by omega]
    simpa [wideBytes] using q
theorem wide_hi (d : Value) : ∀ (cs : List Int32) (j : Nat), j < cs.length → (wideBytes cs).getD (2 * j + 1) d = .int (hi8 (cs.getD j 0))
  | [], j, h => absurd h (Nat.not_lt_zero j)
  | c :: cs, 0, _ => rfl
  | c :: cs, j + 1, h => by
    have q := wide_hi d cs j (by simpa using h)
    rw [show 2 * (j + 1) + 1 = 2 * j + 1 + 1 + 1 from by omega]
    simpa [wideBytes] using q
theorem low_at (d : Value) (cs : List Int32) (j : Nat) (h : j < cs.length) : (cs.map fun c => Value.int (lo8 c)).getD j d = .int (lo8 (cs.getD j 0)) := by
  simp [List.getD_eq_getElem?_getD, h]
/-- an array of N2 bytes vs codes the chars cs by the coder cd -/
def CodA (cs : List Int32) (cd N2 : Int32) (vs : List Value) : Prop := (cd = 0 ∧ N2 = Int32.ofNat cs.length ∧ vs = (cs.map fun c => Value.int (lo8 c)) ∧ ∀ c ∈ cs, ¬ 255 < c) ∨ (cd = 1 ∧ N2 = Int32.ofNat (2 * cs.length) ∧ vs = wideBytes cs ∧ ∃ c ∈ cs, 255 < c)
theorem CodA.cod {cs : List Int32} {cd N2 : Int32} {vs : List Value} {V : Cell} (h : CodA cs cd N2 vs) (hn : 2 * cs.length < 2 ^ 31) (hs : V.slots.size = N2.toNatClampNeg) (hv : RoadKit.Has V vs (.int 0)) : Cod cd cs.length (fun j => cs.getD j 0) V := by
  rcases h with ⟨rfl, rfl, rfl, h⟩ | ⟨rfl, rfl, rfl, c, hc, hw⟩
  · rw [n32 (by omega)] at hs
    exact Or.inl ⟨rfl, hs, fun j hj => ⟨by rw [hv j (by omega), low_at _ _ _ hj], by
      have e : cs.getD j 0 = cs[j] := by simp [List.getD_eq_getElem?_getD, hj]
      show ¬ 255 < cs.getD j 0
      rw [e]; exact h _ (List.getElem_mem _)⟩⟩
  · rw [n32 (by omega)] at hs
    obtain ⟨j, hj, rfl⟩ := List.getElem_of_mem hc
    exact Or.inr ⟨rfl, hs, fun j hj => ⟨by rw [hv _ (by omega), wide_lo _ _ _ hj], by rw [hv _ (by omega), wide_hi _ _ _ hj]⟩, j, hj, by
      have e : cs.getD j 0 = cs[j] := by simp [List.getD_eq_getElem?_getD, hj]
      show 255 < cs.getD j 0
      rw [e]; exact hw⟩
/-- an object of exactly java/lang/String, its two fields found: as the laws ask it -/
theorem strObj {Z U : State} {a0 : Array Value} {kI : Nat} (wi : (Jvm.Cond.instantiable ST kI).before a0 Z = true) (al : Z.vm.Alike U.vm) {x : Addr} {v0 c0 : Value} (E : RoadKit.Exa Z U.heap x ST) (V : RoadKit.Fld Z U.heap x ST "value" "[B" v0) (C : RoadKit.Fld Z U.heap x ST "coder" "B" c0) :
    ∃ (D : Cell) (fV fC : Field), Blank ST x D U ∧ Found ST "value" "[B" fV U ∧ Found ST "coder" "B" fC U ∧ D.slots[fV.slot]? = some v0 ∧ D.slots[fC.slot]? = some c0 ∧ RoadKit.slotOf Z ST "value" "[B" = fV.slot ∧ RoadKit.slotOf Z ST "coder" "B" = fC.slot := by
  obtain ⟨D, cfV, kV, iV, fV, hD, gV, stV, knV, obV, asV, slV⟩ := V
  obtain ⟨D', cfC, kC, iC, fC, hD', gC, stC, -, -, asC, slC⟩ := C
  cases hD.symm.trans hD'
  obtain ⟨D2, kD, e1, e2, e3, e4, e5⟩ := E
  cases hD.symm.trans e1
  obtain ⟨c2, k2, i1, i2, i3, -⟩ := Cond.instantiable_spec wi
  cases e2.symm.trans i1
  cases e3.symm.trans i2
  obtain ⟨kU, u1, u2⟩ := al.2.2 _ _ e3
  exact ⟨D, fV, fC, ⟨hD, ⟨knV, fun q hq => by rw [hq] at obV; cases obV⟩, by rw [al.findClass]; exact e2, kU, u1, by rw [u2]; exact i3, by rw [u2]; exact e5 i3⟩, ⟨SBG.found_only al ⟨cfV, kV, iV, gV⟩, stV⟩, ⟨SBG.found_only al ⟨cfC, kC, iC, gC⟩, stC⟩, slV, slC, by simp [RoadKit.slotOf, gV], by simp [RoadKit.slotOf, gC]⟩
theorem sta_is {Z U : State} (al : Z.vm.Alike U.vm) {C n d : String} {v : Value} (S : RoadKit.Sta Z U.heap C n d v) : StaticIs U C n d v := by
  obtain ⟨cfS, iS, kS, fS, st, cS, t1, t2, t3, t4, t5, t6, t7⟩ := S
  exact StaticIs.there (s := { Z with heap := U.heap }) ⟨cfS, iS, kS, fS, st, cS, t1, t2, t3, t4, t5, (fun q => by rw [q] at t6; cases t6), t7⟩ al rfl
end StrChars.Road
namespace StrChars.Road
open Jvm Sem ClassFile Op Lib Jvm.Stand Jvm.Free Jvm.Free.XT
open Jvm.Lib.Cold (StaticIs)
/-- the road's facts of a String, as the laws ask it -/
theorem txt_of {Z U : State} {a0 : Array Value} {kI : Nat} (wi : (Jvm.Cond.instantiable ST kI).before a0 Z = true) (al : Z.vm.Alike U.vm) {x t : Addr} {kb : ClassId} {cs : List Int32} {cd N2 : Int32} {vs : List Value} (E : RoadKit.Exa Z U.heap x ST) (V : RoadKit.Fld Z U.heap x ST "value" "[B" (.ref t)) (C : RoadKit.Fld Z U.heap x ST "coder" "B" (.int cd)) (K : RoadKit.Arv Z U.heap t kb .byte N2 vs (.int 0)) (hc : CodA cs cd N2 vs) (hb : ∀ c ∈ cs, ¬ c < 0 ∧ ¬ (65535 : Int32) < c) (l2 : cs.length ≤ 4000) :
    ∃ A, Txt x t A cd cs.length (fun j => cs.getD j 0) U := by
  obtain ⟨A, K1, K2, K3, K4, K5, K6⟩ := K
  have hcod := hc.cod (by omega) K3 K5
  obtain ⟨D, fV, fC, hB, F1, F2, g1, g2, -, -⟩ := strObj wi al E V C
  exact ⟨A, ⟨_, hB.2.2.1, D, hB.1, rfl, by cases q : D.vm <;> first | rfl | exact absurd q (hB.2.1.2 _)⟩, Has.of hB F1 g1, Has.of hB F2 g2, ⟨K1.1, State.isArrayOf_alike al K1.2.1, K1.2.2, by rcases hcod with ⟨-, q, -⟩ | ⟨-, q, -⟩ <;> omega⟩, hcod, fun j hj => by
    have e : cs.getD j 0 = cs[j] := by simp [List.getD_eq_getElem?_getD, hj]
    show ¬ cs.getD j 0 < 0 ∧ ¬ 65535 < cs.getD j 0
    rw [e]; exact hb _ (List.getElem_mem _)⟩
end StrChars.Road
namespace StrChars
open Jvm Sem ClassFile Op Lib Jvm.Stand Jvm.Free.XT Jvm.Free.ALB Jvm.Free.JM Jvm.Free
open Jvm.Lib.Cold (StaticIs)
namespace ChN
def yN : MethodName := ⟨"java/lang/String", "charAt", "(I)C"⟩
abbrev yB : ByteArray := jdk_42_method_56_code
theorem d0 : decode yB 0 = .ok (.aload_n 0, 1) := by decide +kernel
theorem d1 : decode yB 1 = .ok (.invokevirtual 492, 3) := by decide +kernel
theorem d4 : decode yB 4 = .ok (.ifCond (.eq) 12, 3) := by decide +kernel
theorem d7 : decode yB 7 = .ok (.aload_n 0, 1) := by decide +kernel
theorem d8 : decode yB 8 = .ok (.getfield 9, 3) := by decide +kernel
theorem d11 : decode yB 11 = .ok (.iload_n 1, 1) := by decide +kernel
theorem d12 : decode yB 12 = .ok (.invokestatic 495, 3) := by decide +kernel
theorem d15 : decode yB 15 = .ok (.ireturn, 1) := by decide +kernel
def site : List Cond := [.fieldLink "java/lang/String" 9 "java/lang/String" "value" "[B", IsL.tab, LChA.tab] ++ virtW "java/lang/String" 492 "java/lang/String" IsL.yN IsL.yN ++ staticW "java/lang/String" 495 LChA.yN
def tab : Cond := tabOf yN yB 2 (some .char) site
def P (x t : Addr) (V : Cell) (n : Nat) (f : Nat → Int32) (z : Int32) (fm : Value) (i : Nat) (args : Array Value) (s : State) : Prop := args = #[.ref x, .int (Int32.ofNat i)] ∧ Txt x t V 0 n f s ∧ i < n ∧ StaticIs s "java/lang/String" "COMPACT_STRINGS" "Z" (.int z) ∧ ¬ z = 0 ∧ StaticIs s "jdk/internal/util/Preconditions" "SIOOBE_FORMATTER" "Ljava/util/function/BiFunction;" fm ∧ fm.isRef = true
def E (f : Nat → Int32) (i : Nat) (r : Option Value) (s u : State) : Prop := XT.PureE (some (.int (f i))) r s u
/-- charAt(i) of a Latin-1 String of n chars, i < n: f i -/
theorem law (l : Launch) (x t : Addr) (V : Cell) (n : Nat) (f : Nat → Int32) (z : Int32) (fm : Value) (i : Nat) : Law l yN 2 1 3 40 yB 2 (some .char) site (P x t V n f z fm i) (E f i) [] 0 0 := by
  refine Law.of_walk (plainFor_of_name (by decide +kernel)) (by decide +kernel) (by decide +kernel) (by decide) (fun _ _ h => by rw [h.1]; rfl) (fun _ U U' hal hh h => ⟨h.1, h.2.1.mv hal hh, h.2.2.1, h.2.2.2.1.there hal hh, h.2.2.2.2.1, h.2.2.2.2.2.1.there hal hh, h.2.2.2.2.2.2⟩) (fun r U U' V V' h1 hal h2 h => XT.PureE.mv r U U' V V' h1 hal h2 h) ?_
  intro p e s m args below meth c s₁ X0 hexec hbytes hml hret hlk hnm hown hh0 W hP
  obtain ⟨rfl, hx, hi, s1, hz, s3, rf⟩ := hP
  have v31 := hx.2.2.2.1.2.2.2
  have hr := hx.2.2.2.2.2 i hi
  have hx0 := hx.mv X0.warmed.alike hh0
  have c1 : Steps p.tables e below (s₁.setTop (entryFrame m #[.ref x, .int (Int32.ofNat i)] 2)) (s₁.setTop (mkF m 1 #[.val (.ref x), .val (.int (Int32.ofNat i))] [.ref x])) := Steps.trans (entry rfl) (by
    show Steps p.tables e below (s₁.setTop (mkF m 0 #[.val (.ref x), .val (.int (Int32.ofNat i))] [])) _
    refine XS.aloadN X0.here hexec rfl (hb hbytes d0) rfl rfl ?_
    exact Steps.refl _)
  obtain ⟨v2, T2, X2, E2, g2⟩ := X0.callV hexec (IsL.law l x 0 z) hown (wks W (virtW "java/lang/String" 492 "java/lang/String" IsL.yN IsL.yN)) rfl (by decide) (wk W IsL.tab) (W := 0) (Nat.le_of_ble_eq_true rfl) (Nat.le_of_ble_eq_true rfl) (Nat.le_refl _) (Nat.le_refl _) (hx0.1.fc X0.warmed.alike) hx0.1.is (g := (mkF m 1 #[.val (.ref x), .val (.int (Int32.ofNat i))] [.ref x])) rfl (by rw [hml]; rfl) c1 (argsL := []) (rest := []) rfl rfl (by show 2 * 0 + 0 ≤ _; decide) (hb hbytes d1) (⟨rfl, hx0.2.2.1, hx.2.2.2.2.1.cd, s1.there X0.warmed.alike hh0, hz⟩)
  obtain ⟨rfl, q2⟩ := E2
  have hh2 := q2.trans hh0
  have hx2 := hx.mv X2.warmed.alike hh2
  obtain ⟨-, k1, k2⟩ | ⟨k0, -⟩ := hx.2.2.2.2.1
  · have c3 : Steps p.tables e below (s₁.setTop (entryFrame m #[.ref x, .int (Int32.ofNat i)] 2)) (T2.setTop (mkF m 8 #[.val (.ref x), .val (.int (Int32.ofNat i))] [.ref x])) := Steps.trans g2 (by
      refine XS.ifNo X2.here hexec rfl (hb hbytes d4) rfl (i0_eq_f (by decide)) ?_
      refine XS.aloadN X2.here hexec rfl (hb hbytes d7) rfl rfl ?_
      exact Steps.refl _)
    obtain ⟨T4, X4, q4, st4⟩ := X2.hget hexec hown (wk W (.fieldLink "java/lang/String" 9 "java/lang/String" "value" "[B")) hx2.2.1 (g := (mkF m 8 #[.val (.ref x), .val (.int (Int32.ofNat i))] [.ref x])) rfl (rest := []) rfl (hb hbytes d8)
    have hh4 := q4.trans hh2
    have c5 : Steps p.tables e below (s₁.setTop (entryFrame m #[.ref x, .int (Int32.ofNat i)] 2)) (T4.setTop (mkF m 12 #[.val (.ref x), .val (.int (Int32.ofNat i))] [.int (Int32.ofNat i), .ref t])) := (c3.trans (st4 _ (Steps.refl _))).trans (by
      refine XS.iloadN X4.here hexec rfl (hb hbytes d11) rfl ?_
      exact Steps.refl _)
    obtain ⟨v6, T6, X6, E6, g6⟩ := X4.callS hexec (LChA.law l t V i (lo8 (f i)) fm) hown (wks W (staticW "java/lang/String" 495 LChA.yN)) (wk W LChA.tab) (W := 0) (Nat.le_of_ble_eq_true rfl) (Nat.le_of_ble_eq_true rfl) (Nat.le_refl _) (Nat.le_refl _) (g := (mkF m 12 #[.val (.ref x), .val (.int (Int32.ofNat i))] [.int (Int32.ofNat i), .ref t])) rfl (by rw [hml]; rfl) c5 (argsL := [.ref t, .int (Int32.ofNat i)]) (rest := []) rfl rfl (by show 2 * 0 + 0 ≤ _; decide) (hb hbytes d12) (⟨rfl, hx.2.2.2.1.mv X4.warmed.alike hh4, (k2 i hi).1, s3.there X4.warmed.alike hh4, rf⟩)
    obtain ⟨rfl, q6⟩ := E6
    rw [chr8_lo8 hr.1 (k2 i hi).2] at g6
    exact ⟨T6, some (.int (f i)), _, _, _, X6, rfl, rfl, rfl, (fun h => by cases h), ⟨rfl, q6.trans hh4⟩, fun fs hl => Steps.trans g6 (X6.ireturnOut hexec hret (narrow_ch hr.1 hr.2) (Or.inr (Or.inr (Or.inr (Or.inl rfl)))) (hb hbytes d15) hl)⟩
  · exact absurd k0 (by decide)
theorem pays {l : Launch} {R : Room} {p : Program} {e : Env} {below : List Frame} {s : State} {sargs : Array Value} {len W : Nat} (x t : Addr) (V : Cell) (n : Nat) (f : Nat → Int32) (z : Int32) (fm : Value) (i : Nat) (htab : tab.before sargs s = true) (hfr : 4 ≤ R.frames) (hlo : W + 53 ≤ R.locals) :
    Back l R p e below s sargs yN len W (fun A₁ a₁ => A₁.cells + 0 ≤ R.cells ∧ A₁.slots + 0 ≤ R.slots ∧ P x t V n f z fm i a₁ A₁.U) (fun A₁ _ v₁ B₁ => E f i v₁ A₁.U B₁.U ∧ B₁.locs = A₁.locs ++ [] ∧ B₁.cells = A₁.cells + 0 ∧ B₁.slots = A₁.slots + 0) :=
  (law l x t V n f z fm i).pays htab hfr (by omega)
end ChN
end StrChars
namespace StrChars.Road
open Jvm Sem ClassFile Op Lib Jvm.Stand Jvm.Free Jvm.Free.XT
open Jvm.Lib.Cold (StaticIs)
/-- the words of String.charAt(int), the Latin-1 road alone -/
abbrev wordsChN : List Jvm.Cond := [.code ChN.yN ChN.yB 2 (some .char), .initialized ST, .fieldLink ST 9 ST "value" "[B", .fieldLink ST 38 ST "COMPACT_STRINGS" "Z", .fieldLink ST 15 ST "coder" "B", .code IsL.yN IsL.yB 1 (some .boolean), .methodLink ST 492 IsL.yN, .declares IsL.yN, .selects ST IsL.yN IsL.yN, .instanceMethod IsL.yN,
  .methodLink ST 495 LChA.yN, .static LChA.yN, .code LChA.yN LChA.yB 2 (some .char), .initialized "java/lang/StringLatin1", .methodLink "java/lang/StringLatin1" 9 JO.Str_checkIndex.yN, .static JO.Str_checkIndex.yN, .code JO.Str_checkIndex.yN JO.Str_checkIndex.yB 2 none,
  .fieldLink ST 1053 "jdk/internal/util/Preconditions" "SIOOBE_FORMATTER" "Ljava/util/function/BiFunction;", .methodLink ST 1059 JC.PreCheck.yN, .static JC.PreCheck.yN, .code JC.PreCheck.yN JC.PreCheck.yB 3 (some .int), .initialized "jdk/internal/util/Preconditions"]
theorem tabChN_of {a : Array Value} {s : State} (h : ∀ w ∈ wordsChN, w.before a s = true) : ChN.tab.before a s = true := by
  have hp : JC.PreCheck.tab.before a s = true := unparts (wk h (.code JC.PreCheck.yN JC.PreCheck.yB 3 (some .int))) (wks h (.initialized JC.PreCheck.yN.cls :: JC.PreCheck.site))
  have qk := consq hp h
  have hk : JO.Str_checkIndex.tab.before a s = true := unparts (wk qk (.code JO.Str_checkIndex.yN JO.Str_checkIndex.yB 2 none)) (wks qk (.initialized JO.Str_checkIndex.yN.cls :: JO.Str_checkIndex.site))
  have ql := consq hk h
  have hl : LChA.tab.before a s = true := unparts (wk ql (.code LChA.yN LChA.yB 2 (some .char))) (wks ql (.initialized LChA.yN.cls :: LChA.site))
  have hi : IsL.tab.before a s = true := unparts (wk h (.code IsL.yN IsL.yB 1 (some .boolean))) (wks h (.initialized IsL.yN.cls :: IsL.site))
  have q := consq hi (consq hl h)
  exact unparts (wk q (.code ChN.yN ChN.yB 2 (some .char))) (wks q (.initialized ChN.yN.cls :: ChN.site))
theorem movedChN {Z s : State} {a0 args : Array Value} (hZ : Z.Warmed39 s.vm) (hw : ∀ d ∈ wordsChN, d.before a0 Z = true) : ∀ d ∈ wordsChN, d.before args s = true := fun d hd => by
  have t : ∀ d ∈ wordsChN, (d.onTables && d.keepsFace) = true := by decide +kernel
  exact RoadKit.mv hZ (hw d hd) (t d hd)
/-- **charAt(i) OF A LATIN-1 STRING**, i < n: the char -/
theorem chN {p : Program} {l : Launch} {e : Env} {R : Room} {s : State} {args : Array Value} {below : List Frame} {len W : Nat} {Z : State} {a0 : Array Value} {h : Heap} (hZ : Z.Warmed39 s.vm) (hw : ∀ d ∈ wordsChN, d.before a0 Z = true) {kI : Nat} (wi : (Jvm.Cond.instantiable ST kI).before a0 Z = true)
    {x t : Addr} {kb : ClassId} {cs : List Int32} {N2 z : Int32} {vs : List Value} {fm : Value} {i : Nat} {j : Int32} (E : RoadKit.Exa Z h x ST) (V : RoadKit.Fld Z h x ST "value" "[B" (.ref t)) (C : RoadKit.Fld Z h x ST "coder" "B" (.int 0)) (K : RoadKit.Arv Z h t kb .byte N2 vs (.int 0)) (hc : CodA cs 0 N2 vs) (hb : ∀ c ∈ cs, ¬ c < 0 ∧ ¬ (65535 : Int32) < c)
    (S : RoadKit.Sta Z h ST "COMPACT_STRINGS" "Z" (.int z)) (hz : ¬ z = 0) (F : RoadKit.Sta Z h "jdk/internal/util/Preconditions" "SIOOBE_FORMATTER" "Ljava/util/function/BiFunction;" fm) (rf : fm.isRef = true) (l2 : cs.length ≤ 4000) (hi : i < cs.length) (hj : j = Int32.ofNat i) (hfr : 4 ≤ R.frames) (hlo : W + 53 ≤ R.locals) :
    Back l R p e below s args (⟨"java/lang/String", "charAt", "(I)C"⟩ : MethodName) len W (fun P a => a = #[.ref x, .int j] ∧ P.U.heap = h ∧ P.cells + 0 ≤ R.cells ∧ P.slots + 0 ≤ R.slots)
      (fun P _ v B => ∃ L, (v = some (.int (cs.getD i 0)) ∧ L = [] ∧ B.U.heap = h) ∧ B.locs = P.locs ++ L ∧ B.cells = P.cells + 0 ∧ B.slots = P.slots + 0) := by
  subst hj
  intro m meth c P g ig mk a X hg hsize hdg hW hn hp'
  obtain ⟨rfl, rfl, r1, r2⟩ := hp'
  have al : Z.vm.Alike P.U.vm := hZ.alike.trans X.warmed.alike
  obtain ⟨A, hx⟩ := txt_of wi al E V C K hc hb l2
  obtain ⟨v, B, X', ⟨⟨hv, hh⟩, hl, hk, hs⟩, st⟩ := ChN.pays x t A cs.length (fun j => cs.getD j 0) z fm i (tabChN_of (movedChN hZ hw)) hfr hlo m meth c P g ig mk _ X hg hsize hdg hW hn ⟨r1, r2, rfl, hx, hi, sta_is al S, hz, sta_is al F, rf⟩
  exact ⟨v, B, X', ⟨[], ⟨hv, rfl, hh⟩, hl, hk, hs⟩, st⟩
/-- what backV says of its String, as the contracts of this text ask it: cs's low bytes, coder 0 -/
theorem codOf {cs : List Int32} {n : Nat} (hn : cs.length = n) (hb : ∀ c ∈ cs, ¬ 255 < c) : CodA cs 0 (Int32.ofNat n) ((cs.map lo8).map Value.int) := Or.inl ⟨rfl, by rw [hn], by simp [List.map_map, Function.comp_def], hb⟩
end StrChars.Road
end Jvm.Pilot.@@N@@

namespace Jvm.Pilot.@@N@@
open Jvm Jvm.ClassFile Sem Op Lib Jvm.Free Jvm.Stand Jvm.LawKit Jvm.RoadKit Bundle Jvm.Pilot.@@N@@.Jvm.D
def own_Go (tb : Tables) (e : Env) (below : List Frame) (K : State → Outcome → Prop) (S : State) : Prop := ∃ t o, Steps tb e below S t ∧ K t o
theorem own_Go.by {tb : Tables} {e : Env} {below : List Frame} {K : State → Outcome → Prop} {S S' : State} (h : ∀ t, Steps tb e below S' t → Steps tb e below S t) (g : own_Go tb e below K S') : own_Go tb e below K S := by
  obtain ⟨t, o, a, b⟩ := g
  exact ⟨t, o, h t a, b⟩
theorem own_Go.fin {tb : Tables} {e : Env} {below : List Frame} {K : State → Outcome → Prop} {S t : State} {o : Outcome} (h : Steps tb e below S t) (k : K t o) : own_Go tb e below K S := ⟨t, o, h, k⟩
theorem own_merge {α : Type} {P : α → Prop} {F : α → State} {tb : Tables} {e : Env} {below : List Frame} {K : State → Outcome → Prop} {S : State} (g : ∀ v, P v → own_Go tb e below K (F v)) (h : (∀ v, P v → own_Go tb e below K (F v)) → own_Go tb e below K S) : own_Go tb e below K S := h g
theorem own_old_le {Z : State} {n0 : Nat} {h : Heap} (O : Old Z n0 h) : n0 ≤ h.size := O.1 ▸ O.2.1
theorem own_rew {s t : State} {o : Outcome} {L : List Loc} {k n k' n' : Nat} (h : ReturnedEndW s o t L k n) (hk : k ≤ k') (hn : n ≤ n') : ReturnedEndW s o t L k' n' := ⟨h.1, h.2.1, h.2.2.1, h.2.2.2.mono hk hn⟩
theorem own_privsel {s : State} {a1 a2 args : Array Value} {y : MethodName} {n : Nat} (wi : (Jvm.Cond.instantiable y.cls n).before a1 s = true) (wp : (Jvm.Cond.privateMethod y).before a2 s = true) (wm : (Jvm.Cond.instanceMethod y).before args s = true) (hy : y.cls ≠ "java/lang/invoke/MethodHandle" ∧ y.cls ≠ "java/lang/invoke/VarHandle") : (Jvm.Cond.selects y.cls y y).before args s = true := by
  obtain ⟨c, k, h1, h2, -, h4, -⟩ := Cond.instantiable_spec wi
  simp only [Bool.or_eq_false_iff] at h4
  exact selects_self_of_private h1 h2 h4.1 (Cond.privateMethod_at wp) wm hy
theorem own_arr_keep {Z : State} {h h' : Heap} {a : Addr} {c : Cell} {ty : FieldType} {ws : List Addr} (A : Arr Z h a c ty) (K : Keep h h' ws) (q : a ∉ ws) : Arr Z h' a c ty := ⟨K.2.1 a c A.1 q, A.2⟩

theorem own_hws : ∀ d ∈ StrChars.Road.words, d ∈ tables_1 := by decide +kernel
theorem own_hch : ∀ d ∈ StrChars.Road.wordsChN, d ∈ tables_1 := by decide +kernel
theorem own_fitc {x : Int32} (h : nar .char x = x) : fits .char (.int x) = true := h ▸ fits_nar_char x
theorem own_fitC {x : Int32} (h : nar .char x = x) : fits .char (.int x) = true := h ▸ fits_nar_char x
theorem own_b255 {x c : Int32} (h : (x &&& (255 : Int32)).toUInt32.toUInt16.toUInt32.toInt32 = c) : (¬ c < 0 ∧ ¬ (255 : Int32) < c) ∧ nar .char c = c := by
  have e : x &&& 255 = c := (i2c_mask x).symm.trans h
  subst e
  have q := c_and x 255 (by decide)
  have e2 : (255 : Int32).toInt = 255 := rfl
  have e0 : (0 : Int32).toInt = 0 := rfl
  refine ⟨⟨fun r => ?_, fun r => ?_⟩, ?_⟩
  · rw [Int32.lt_iff_toInt_lt] at r; omega
  · rw [Int32.lt_iff_toInt_lt] at r; omega
  · exact i2c_mask x
theorem own_up (cs : List Int32) (h : ∀ c ∈ cs, ¬ c < 0 ∧ ¬ (255 : Int32) < c) : ∀ c ∈ cs, ¬ c < 0 ∧ ¬ (65535 : Int32) < c := fun c hc => ⟨(h c hc).1, fun q => (h c hc).2 (by rw [Int32.lt_iff_toInt_lt] at q ⊢; have e1 : (65535 : Int32).toInt = 65535 := rfl; have e2 : (255 : Int32).toInt = 255 := rfl; omega)⟩
theorem own_modn {x y z : Int32} (d : Int) (hy : y.toInt = d) (hd : 0 < d) (h : ((x &&& (2147483647 : Int32)) % y) = z) : 0 ≤ z.toInt ∧ z.toInt < d := by
  have q := c_and x (2147483647 : Int32) (by decide)
  have r := (c_irem (x &&& (2147483647 : Int32)) y d hy).1 q.1
  rw [h] at r
  rw [r]
  exact ⟨Int.emod_nonneg _ (by omega), Int.emod_lt_of_pos _ hd⟩
theorem own_lit {z : Int32} {k : Int32} (h : z.toInt = k.toInt) : z = k := Int32.toInt_inj.mp h
theorem own_mod1 {x z : Int32} (h : ((x &&& (2147483647 : Int32)) % (1 : Int32)) = z) : z = (0 : Int32) := by
  have q := own_modn 1 (by rfl) (by decide) h
  have e0 : (0 : Int32).toInt = 0 := rfl
  exact own_lit (by omega)
theorem own_mod2 {x z : Int32} (h : ((x &&& (2147483647 : Int32)) % (2 : Int32)) = z) : z = (0 : Int32) ∨ z = (1 : Int32) := by
  have q := own_modn 2 (by rfl) (by decide) h
  have e0 : (0 : Int32).toInt = 0 := rfl
  have e1 : (1 : Int32).toInt = 1 := rfl
  have w : z.toInt = 0 ∨ z.toInt = 1 := by omega
  rcases w with w | w
  · exact Or.inl (own_lit w)
  · exact Or.inr (own_lit w)
theorem own_mod3 {x z : Int32} (h : ((x &&& (2147483647 : Int32)) % (3 : Int32)) = z) : z = (0 : Int32) ∨ z = (1 : Int32) ∨ z = (2 : Int32) := by
  have q := own_modn 3 (by rfl) (by decide) h
  have e0 : (0 : Int32).toInt = 0 := rfl
  have e1 : (1 : Int32).toInt = 1 := rfl
  have e2 : (2 : Int32).toInt = 2 := rfl
  have w : z.toInt = 0 ∨ z.toInt = 1 ∨ z.toInt = 2 := by omega
  rcases w with w | w | w
  · exact Or.inl (own_lit w)
  · exact Or.inr (Or.inl (own_lit w))
  · exact Or.inr (Or.inr (own_lit w))
theorem own_mod4 {x z : Int32} (h : ((x &&& (2147483647 : Int32)) % (4 : Int32)) = z) : z = (0 : Int32) ∨ z = (1 : Int32) ∨ z = (2 : Int32) ∨ z = (3 : Int32) := by
  have q := own_modn 4 (by rfl) (by decide) h
  have e0 : (0 : Int32).toInt = 0 := rfl
  have e1 : (1 : Int32).toInt = 1 := rfl
  have e2 : (2 : Int32).toInt = 2 := rfl
  have e3 : (3 : Int32).toInt = 3 := rfl
  have w : z.toInt = 0 ∨ z.toInt = 1 ∨ z.toInt = 2 ∨ z.toInt = 3 := by omega
  rcases w with w | w | w | w
  · exact Or.inl (own_lit w)
  · exact Or.inr (Or.inl (own_lit w))
  · exact Or.inr (Or.inr (Or.inl (own_lit w)))
  · exact Or.inr (Or.inr (Or.inr (own_lit w)))
theorem own_mod5 {x z : Int32} (h : ((x &&& (2147483647 : Int32)) % (5 : Int32)) = z) : z = (0 : Int32) ∨ z = (1 : Int32) ∨ z = (2 : Int32) ∨ z = (3 : Int32) ∨ z = (4 : Int32) := by
  have q := own_modn 5 (by rfl) (by decide) h
  have e0 : (0 : Int32).toInt = 0 := rfl
  have e1 : (1 : Int32).toInt = 1 := rfl
  have e2 : (2 : Int32).toInt = 2 := rfl
  have e3 : (3 : Int32).toInt = 3 := rfl
  have e4 : (4 : Int32).toInt = 4 := rfl
  have w : z.toInt = 0 ∨ z.toInt = 1 ∨ z.toInt = 2 ∨ z.toInt = 3 ∨ z.toInt = 4 := by omega
  rcases w with w | w | w | w | w
  · exact Or.inl (own_lit w)
  · exact Or.inr (Or.inl (own_lit w))
  · exact Or.inr (Or.inr (Or.inl (own_lit w)))
  · exact Or.inr (Or.inr (Or.inr (Or.inl (own_lit w))))
  · exact Or.inr (Or.inr (Or.inr (Or.inr (own_lit w))))

theorem own_pick (x : Int32) : (¬ (nar .char ((x &&& (255 : Int32)).toUInt32.toUInt16.toUInt32.toInt32)) < 0 ∧ ¬ (255 : Int32) < (nar .char ((x &&& (255 : Int32)).toUInt32.toUInt16.toUInt32.toInt32))) ∧ nar .char (nar .char ((x &&& (255 : Int32)).toUInt32.toUInt16.toUInt32.toInt32)) = nar .char ((x &&& (255 : Int32)).toUInt32.toUInt16.toUInt32.toInt32) := by
  have q := own_b255 (x := x) rfl
  rw [q.2, q.2]
  exact ⟨q.1, rfl⟩

theorem d1_0 : decode method_2_code 0 = .ok (.iload_n 0, 1) := by decide +kernel
theorem d1_1 : decode method_2_code 1 = .ok (.bipush 8, 2) := by decide +kernel
theorem d1_3 : decode method_2_code 3 = .ok (.iushr, 1) := by decide +kernel
theorem d1_4 : decode method_2_code 4 = .ok (.iconst 1, 1) := by decide +kernel
theorem d1_5 : decode method_2_code 5 = .ok (.iand, 1) := by decide +kernel
theorem d1_6 : decode method_2_code 6 = .ok (.ifCond .eq 8, 3) := by decide +kernel
theorem d1_9 : decode method_2_code 9 = .ok (.bipush 46, 2) := by decide +kernel
theorem d1_11 : decode method_2_code 11 = .ok (.goto 9, 3) := by decide +kernel
theorem d1_14 : decode method_2_code 14 = .ok (.iload_n 0, 1) := by decide +kernel
theorem d1_15 : decode method_2_code 15 = .ok (.sipush 255, 3) := by decide +kernel
theorem d1_18 : decode method_2_code 18 = .ok (.iand, 1) := by decide +kernel
theorem d1_19 : decode method_2_code 19 = .ok (.i2c, 1) := by decide +kernel
theorem d1_20 : decode method_2_code 20 = .ok (.ireturn, 1) := by decide +kernel
theorem own_pn_com_example_enlace_enlace_DotSegmentsIsDotSegmentPinLaw : plainName "com/example/enlace/enlace/DotSegmentsIsDotSegmentPinLaw" = true := by first | (simp [plainName, overriddenIn]; done) | decide +kernel
theorem own_ef_1 (m : MethodId) (p1 : Int32) : entryFrame m #[(Value.int p1)] 1 = mkF m 0 #[.val (Value.int p1)] [] := by first | (simp [entryFrame, mkF, argsToLocals, Value.category]; done) | rfl
def Q1 (Z : State) (p1 : Int32) (h0 : Heap) (n0 : Nat) (v : Option Value) (h : Heap) (L : List Loc) : Prop := ∃ (r : Int32), v = some (Value.int r) ∧ Fr n0 L ∧ h = h0 ∧ ((¬ r < 0 ∧ ¬ (255 : Int32) < r) ∧ nar .char r = r)
set_option maxRecDepth 65536 in
set_option maxHeartbeats 40000000 in
theorem rm1 (l : Launch) (Z : State) (a0 : Array Value) (hw : ∀ d ∈ tables_1, d.before a0 Z = true) (ws : List Jvm.Cond) (p1 : Int32) (h0 : Heap) (n0 : Nat) (O0 : Old Z n0 h0) :
    MetFree l (⟨"com/example/enlace/enlace/DotSegmentsIsDotSegmentPinLaw", "pick", "(I)C"⟩ : MethodName) (head1 (Jvm.Cond.code (⟨"com/example/enlace/enlace/DotSegmentsIsDotSegmentPinLaw", "pick", "(I)C"⟩ : MethodName) method_2_code 1 (some .char) :: ws) ({ frames := 0, cells := 0, slots := 0, locals := 0 } : Room)) (fun a U => a = #[(Value.int p1)] ∧ Z.Warmed39 U.vm ∧ U.heap = h0) (fun _ _ _ _ _ => True) (fun _ U o U' => ∃ v L, o = .returned v ∧ Q1 Z p1 h0 n0 v U'.heap L ∧ FrameEnd U o U' L ({ frames := 0, cells := 0, slots := 0, locals := 0 } : Room).cells ({ frames := 0, cells := 0, slots := 0, locals := 0 } : Room).slots) := by
  refine MetFree.of_bodySF (plainFor_of_name own_pn_com_example_enlace_enlace_DotSegmentsIsDotSegmentPinLaw) hisR ?_
  intro p e s m args below meth c s₁ Bd hml0 hP hK
  obtain ⟨rfl, hZ, hh⟩ := hP
  have hx := Bd.exec
  have hby := Bd.bytes
  have hml : c.maxLocals = 1 := hml0
  have hown : s.vm.findClass "com/example/enlace/enlace/DotSegmentsIsDotSegmentPinLaw" = some m.cls := findClass_of_methodNamed Bd.named
  have hnm := (name_of_methodNamed Bd.named Bd.method).1
  have X0 : Stand p l e ({ frames := 0, cells := 0, slots := 0, locals := 0 } : Room) s m #[(Value.int p1)] below meth c s₁ [] 0 0 := Stand.of_body Bd
  have e0 : s₁.heap = h0 := by rw [← hh, Bd.state]; rfl
  have N0 := Fr.nil n0
  have K0 : Keep h0 h0 [] := Keep.refl h0 []
  show own_Go p.tables e below _ (s₁.setTop (entryFrame m #[(Value.int p1)] 1))
  refine own_Go.by (fun tq kq => castTop (own_ef_1 m p1) kq) ?_
  show own_Go p.tables e below _ (s₁.setTop (mkF m 0 #[.val (Value.int p1)] []))
  refine own_Go.by (fun tq kq => XS.iloadN X0.here hx rfl (hb hby d1_0) rfl kq) ?_
  show own_Go p.tables e below _ (s₁.setTop (mkF m 1 #[.val (Value.int p1)] [(Value.int p1)]))
  refine own_Go.by (fun tq kq => XS.bipush X0.here hx rfl (hb hby d1_1) kq) ?_
  show own_Go p.tables e below _ (s₁.setTop (mkF m 3 #[.val (Value.int p1)] [(Value.int (8 : Int32)), (Value.int p1)]))
  refine own_Go.by (fun tq kq => XS.iushr X0.here hx rfl (hb hby d1_3) rfl kq) ?_
  show own_Go p.tables e below _ (s₁.setTop (mkF m 4 #[.val (Value.int p1)] [(Value.int ((p1.toUInt32 >>> ((8 : Int32) &&& 31).toUInt32).toInt32))]))
  refine own_Go.by (fun tq kq => XS.iconst X0.here hx rfl (hb hby d1_4) kq) ?_
  show own_Go p.tables e below _ (s₁.setTop (mkF m 5 #[.val (Value.int p1)] [(Value.int (1 : Int32)), (Value.int ((p1.toUInt32 >>> ((8 : Int32) &&& 31).toUInt32).toInt32))]))
  refine own_Go.by (fun tq kq => XS.iand X0.here hx rfl (hb hby d1_5) rfl kq) ?_
  show own_Go p.tables e below _ (s₁.setTop (mkF m 6 #[.val (Value.int p1)] [(Value.int (((p1.toUInt32 >>> ((8 : Int32) &&& 31).toUInt32).toInt32) &&& (1 : Int32)))]))
  by_cases hc6_1 : (((p1.toUInt32 >>> ((8 : Int32) &&& 31).toUInt32).toInt32) &&& (1 : Int32)) = (0 : Int32)
  ·
    refine own_Go.by (fun tq kq => XS.ifYes X0.here hx rfl (pc0 := 6) (pc' := 14) rfl (hb hby d1_6) rfl ((if0 _ _).trans (teq hc6_1).1) (by decide) (by decide) kq) ?_
    show own_Go p.tables e below _ (s₁.setTop (mkF m 14 #[.val (Value.int p1)] []))
    refine own_Go.by (fun tq kq => XS.iloadN X0.here hx rfl (hb hby d1_14) rfl kq) ?_
    show own_Go p.tables e below _ (s₁.setTop (mkF m 15 #[.val (Value.int p1)] [(Value.int p1)]))
    refine own_Go.by (fun tq kq => XS.sipush X0.here hx rfl (hb hby d1_15) kq) ?_
    show own_Go p.tables e below _ (s₁.setTop (mkF m 18 #[.val (Value.int p1)] [(Value.int (255 : Int32)), (Value.int p1)]))
    refine own_Go.by (fun tq kq => XS.iand X0.here hx rfl (hb hby d1_18) rfl kq) ?_
    show own_Go p.tables e below _ (s₁.setTop (mkF m 19 #[.val (Value.int p1)] [(Value.int (p1 &&& (255 : Int32)))]))
    refine own_Go.by (fun tq kq => XS.i2c X0.here hx rfl (hb hby d1_19) rfl kq) ?_
    show own_Go p.tables e below _ (s₁.setTop (mkF m 20 #[.val (Value.int p1)] [(Value.int ((p1 &&& (255 : Int32)).toUInt32.toUInt16.toUInt32.toInt32))]))
    obtain ⟨fs, hr, hrun, hended, hW, hsame⟩ := X0.leave (v := some (Value.int (nar .char ((p1 &&& (255 : Int32)).toUInt32.toUInt16.toUInt32.toInt32)))) (fun h => by rw [Bd.returns] at h; cases h)
    refine own_Go.fin (retN X0 hx (t := .char) Bd.returns (by simp) (hb hby d1_20) hr) ⟨hrun, hended, _, _, rfl, ?_, ⟨_, rfl⟩, hW, hsame.mono (by decide) (by decide)⟩
    show Q1 Z p1 h0 n0 _ s₁.heap _
    rw [e0]
    exact ⟨(nar .char ((p1 &&& (255 : Int32)).toUInt32.toUInt16.toUInt32.toInt32)), rfl, N0, rfl, (own_pick p1)⟩
  ·
    refine own_Go.by (fun tq kq => XS.ifNo X0.here hx rfl (hb hby d1_6) rfl ((if0 _ _).trans (feq hc6_1).1) kq) ?_
    show own_Go p.tables e below _ (s₁.setTop (mkF m 9 #[.val (Value.int p1)] []))
    refine own_Go.by (fun tq kq => XS.bipush X0.here hx rfl (hb hby d1_9) kq) ?_
    show own_Go p.tables e below _ (s₁.setTop (mkF m 11 #[.val (Value.int p1)] [(Value.int (46 : Int32))]))
    refine own_Go.by (fun tq kq => XS.goto X0.here hx rfl (pc0 := 11) (pc' := 20) rfl (hb hby d1_11) (by decide) (by decide) kq) ?_
    show own_Go p.tables e below _ (s₁.setTop (mkF m 20 #[.val (Value.int p1)] [(Value.int (46 : Int32))]))
    obtain ⟨fs, hr, hrun, hended, hW, hsame⟩ := X0.leave (v := some (Value.int (nar .char (46 : Int32)))) (fun h => by rw [Bd.returns] at h; cases h)
    refine own_Go.fin (retN X0 hx (t := .char) Bd.returns (by simp) (hb hby d1_20) hr) ⟨hrun, hended, _, _, rfl, ?_, ⟨_, rfl⟩, hW, hsame.mono (by decide) (by decide)⟩
    show Q1 Z p1 h0 n0 _ s₁.heap _
    rw [e0]
    exact ⟨(nar .char (46 : Int32)), rfl, N0, rfl, (by decide)⟩

theorem d8_0 : decode prog_3_method_4_code 0 = .ok (.iload_n 2, 1) := by decide +kernel
theorem d8_1 : decode prog_3_method_4_code 1 = .ok (.iload_n 1, 1) := by decide +kernel
theorem d8_2 : decode prog_3_method_4_code 2 = .ok (.isub, 1) := by decide +kernel
theorem d8_3 : decode prog_3_method_4_code 3 = .ok (.istore_n 3, 1) := by decide +kernel
theorem d8_4 : decode prog_3_method_4_code 4 = .ok (.iload_n 3, 1) := by decide +kernel
theorem d8_5 : decode prog_3_method_4_code 5 = .ok (.iconst 1, 1) := by decide +kernel
theorem d8_6 : decode prog_3_method_4_code 6 = .ok (.if_icmp .eq 8, 3) := by decide +kernel
theorem d8_9 : decode prog_3_method_4_code 9 = .ok (.iload_n 3, 1) := by decide +kernel
theorem d8_10 : decode prog_3_method_4_code 10 = .ok (.iconst 2, 1) := by decide +kernel
theorem d8_11 : decode prog_3_method_4_code 11 = .ok (.if_icmp .ne 29, 3) := by decide +kernel
theorem d8_40 : decode prog_3_method_4_code 40 = .ok (.iconst 0, 1) := by decide +kernel
theorem d8_41 : decode prog_3_method_4_code 41 = .ok (.ireturn, 1) := by decide +kernel
theorem own_pn_com_example_enlace_enlace_DotSegments : plainName "com/example/enlace/enlace/DotSegments" = true := by first | (simp [plainName, overriddenIn]; done) | decide +kernel
theorem own_ef_8_0_0_x (m : MethodId) (a1 : Addr) : entryFrame m #[(Value.ref a1), (Value.int (0 : Int32)), (Value.int (0 : Int32))] 4 = mkF m 0 #[.val (Value.ref a1), .val (Value.int (0 : Int32)), .val (Value.int (0 : Int32)), .unset] [] := by first | (simp [entryFrame, mkF, argsToLocals, Value.category]; done) | rfl
def Q8_0_0_x (Z : State) (a1 : Addr) (t : Addr) (kb : ClassId) (c0 : Int32) (c1 : Int32) (c2 : Int32) (c3 : Int32) (zc : Int32) (vf : Value) (h0 : Heap) (n0 : Nat) (v : Option Value) (h : Heap) (L : List Loc) : Prop := v = some (Value.int (0 : Int32)) ∧ Fr n0 L ∧ h = h0
set_option maxRecDepth 65536 in
set_option maxHeartbeats 40000000 in
theorem rm8_0_0_x (l : Launch) (Z : State) (a0 : Array Value) (hw : ∀ d ∈ tables_1, d.before a0 Z = true) (ws : List Jvm.Cond) (a1 : Addr) (t : Addr) (kb : ClassId) (c0 : Int32) (c1 : Int32) (c2 : Int32) (c3 : Int32) (zc : Int32) (vf : Value) (h0 : Heap) (n0 : Nat) (O0 : Old Z n0 h0) (H0 : Exa Z h0 a1 "java/lang/String") (H1 : Fld Z h0 a1 "java/lang/String" "value" "[B" (Value.ref t)) (H2 : Fld Z h0 a1 "java/lang/String" "coder" "B" (Value.int (0 : Int32))) (H3 : Arv Z h0 t kb .byte (4 : Int32) ((([c0, c1, c2, c3] : List Int32).map (fun c => c.toInt8.toInt32)).map Value.int) (Value.int (0 : Int32))) (hp : ∀ c ∈ ([c0, c1, c2, c3] : List Int32), ¬ c < 0 ∧ ¬ (255 : Int32) < c) (H5 : Sta Z Z.heap "java/lang/String" "COMPACT_STRINGS" "Z" (Value.int zc)) (H6 : Sta Z Z.heap "jdk/internal/util/Preconditions" "SIOOBE_FORMATTER" "Ljava/util/function/BiFunction;" vf) (hzc : ¬ (zc = (0 : Int32))) (rvf : vf.isRef = true) :
    MetFree l (⟨"com/example/enlace/enlace/DotSegments", "isDotSegment", "(Ljava/lang/String;II)Z"⟩ : MethodName) (head1 (Jvm.Cond.code (⟨"com/example/enlace/enlace/DotSegments", "isDotSegment", "(Ljava/lang/String;II)Z"⟩ : MethodName) prog_3_method_4_code 4 (some .boolean) :: ws) ({ frames := 0, cells := 0, slots := 0, locals := 0 } : Room)) (fun a U => a = #[(Value.ref a1), (Value.int (0 : Int32)), (Value.int (0 : Int32))] ∧ Z.Warmed39 U.vm ∧ U.heap = h0) (fun _ _ _ _ _ => True) (fun _ U o U' => ∃ v L, o = .returned v ∧ Q8_0_0_x Z a1 t kb c0 c1 c2 c3 zc vf h0 n0 v U'.heap L ∧ FrameEnd U o U' L ({ frames := 0, cells := 0, slots := 0, locals := 0 } : Room).cells ({ frames := 0, cells := 0, slots := 0, locals := 0 } : Room).slots) := by
  refine MetFree.of_bodySF (plainFor_of_name own_pn_com_example_enlace_enlace_DotSegments) hisR ?_
  intro p e s m args below meth c s₁ Bd hml0 hP hK
  obtain ⟨rfl, hZ, hh⟩ := hP
  have hx := Bd.exec
  have hby := Bd.bytes
  have hml : c.maxLocals = 4 := hml0
  have hown : s.vm.findClass "com/example/enlace/enlace/DotSegments" = some m.cls := findClass_of_methodNamed Bd.named
  have hnm := (name_of_methodNamed Bd.named Bd.method).1
  have X0 : Stand p l e ({ frames := 0, cells := 0, slots := 0, locals := 0 } : Room) s m #[(Value.ref a1), (Value.int (0 : Int32)), (Value.int (0 : Int32))] below meth c s₁ [] 0 0 := Stand.of_body Bd
  have e0 : s₁.heap = h0 := by rw [← hh, Bd.state]; rfl
  have N0 := Fr.nil n0
  have K0 : Keep h0 h0 [] := Keep.refl h0 []
  show own_Go p.tables e below _ (s₁.setTop (entryFrame m #[(Value.ref a1), (Value.int (0 : Int32)), (Value.int (0 : Int32))] 4))
  refine own_Go.by (fun tq kq => castTop (own_ef_8_0_0_x m a1) kq) ?_
  show own_Go p.tables e below _ (s₁.setTop (mkF m 0 #[.val (Value.ref a1), .val (Value.int (0 : Int32)), .val (Value.int (0 : Int32)), .unset] []))
  refine own_Go.by (fun tq kq => XS.iloadN X0.here hx rfl (hb hby d8_0) rfl kq) ?_
  show own_Go p.tables e below _ (s₁.setTop (mkF m 1 #[.val (Value.ref a1), .val (Value.int (0 : Int32)), .val (Value.int (0 : Int32)), .unset] [(Value.int (0 : Int32))]))
  refine own_Go.by (fun tq kq => XS.iloadN X0.here hx rfl (hb hby d8_1) rfl kq) ?_
  show own_Go p.tables e below _ (s₁.setTop (mkF m 2 #[.val (Value.ref a1), .val (Value.int (0 : Int32)), .val (Value.int (0 : Int32)), .unset] [(Value.int (0 : Int32)), (Value.int (0 : Int32))]))
  refine own_Go.by (fun tq kq => XS.isub X0.here hx rfl (hb hby d8_2) rfl kq) ?_
  show own_Go p.tables e below _ (s₁.setTop (mkF m 3 #[.val (Value.ref a1), .val (Value.int (0 : Int32)), .val (Value.int (0 : Int32)), .unset] [(Value.int (0 : Int32))]))
  refine own_Go.by (fun tq kq => XS.istoreN X0.here hx rfl (hb hby d8_3) rfl (l' := #[.val (Value.ref a1), .val (Value.int (0 : Int32)), .val (Value.int (0 : Int32)), .val (Value.int (0 : Int32))]) rfl kq) ?_
  show own_Go p.tables e below _ (s₁.setTop (mkF m 4 #[.val (Value.ref a1), .val (Value.int (0 : Int32)), .val (Value.int (0 : Int32)), .val (Value.int (0 : Int32))] []))
  refine own_Go.by (fun tq kq => XS.iloadN X0.here hx rfl (hb hby d8_4) rfl kq) ?_
  show own_Go p.tables e below _ (s₁.setTop (mkF m 5 #[.val (Value.ref a1), .val (Value.int (0 : Int32)), .val (Value.int (0 : Int32)), .val (Value.int (0 : Int32))] [(Value.int (0 : Int32))]))
  refine own_Go.by (fun tq kq => XS.iconst X0.here hx rfl (hb hby d8_5) kq) ?_
  show own_Go p.tables e below _ (s₁.setTop (mkF m 6 #[.val (Value.ref a1), .val (Value.int (0 : Int32)), .val (Value.int (0 : Int32)), .val (Value.int (0 : Int32))] [(Value.int (1 : Int32)), (Value.int (0 : Int32))]))
  refine own_Go.by (fun tq kq => XS.icmpNo X0.here hx rfl (hb hby d8_6) rfl (feq (by decide : ¬ ((0 : Int32) = (1 : Int32)))).1 kq) ?_
  show own_Go p.tables e below _ (s₁.setTop (mkF m 9 #[.val (Value.ref a1), .val (Value.int (0 : Int32)), .val (Value.int (0 : Int32)), .val (Value.int (0 : Int32))] []))
  refine own_Go.by (fun tq kq => XS.iloadN X0.here hx rfl (hb hby d8_9) rfl kq) ?_
  show own_Go p.tables e below _ (s₁.setTop (mkF m 10 #[.val (Value.ref a1), .val (Value.int (0 : Int32)), .val (Value.int (0 : Int32)), .val (Value.int (0 : Int32))] [(Value.int (0 : Int32))]))
  refine own_Go.by (fun tq kq => XS.iconst X0.here hx rfl (hb hby d8_10) kq) ?_
  show own_Go p.tables e below _ (s₁.setTop (mkF m 11 #[.val (Value.ref a1), .val (Value.int (0 : Int32)), .val (Value.int (0 : Int32)), .val (Value.int (0 : Int32))] [(Value.int (2 : Int32)), (Value.int (0 : Int32))]))
  refine own_Go.by (fun tq kq => XS.icmpYes X0.here hx rfl (pc0 := 11) (pc' := 40) rfl (hb hby d8_11) rfl (feq (by decide : ¬ ((0 : Int32) = (2 : Int32)))).2 (by decide) (by decide) kq) ?_
  show own_Go p.tables e below _ (s₁.setTop (mkF m 40 #[.val (Value.ref a1), .val (Value.int (0 : Int32)), .val (Value.int (0 : Int32)), .val (Value.int (0 : Int32))] []))
  refine own_Go.by (fun tq kq => XS.iconst X0.here hx rfl (hb hby d8_40) kq) ?_
  show own_Go p.tables e below _ (s₁.setTop (mkF m 41 #[.val (Value.ref a1), .val (Value.int (0 : Int32)), .val (Value.int (0 : Int32)), .val (Value.int (0 : Int32))] [(Value.int (0 : Int32))]))
  obtain ⟨fs, hr, hrun, hended, hW, hsame⟩ := X0.leave (v := some (Value.int (nar .boolean (0 : Int32)))) (fun h => by rw [Bd.returns] at h; cases h)
  refine own_Go.fin (retN X0 hx (t := .boolean) Bd.returns (by simp) (hb hby d8_41) hr) ⟨hrun, hended, _, _, rfl, ?_, ⟨_, rfl⟩, hW, hsame.mono (by decide) (by decide)⟩
  show Q8_0_0_x Z a1 t kb c0 c1 c2 c3 zc vf h0 n0 _ s₁.heap _
  rw [e0]
  exact ⟨rfl, N0, rfl⟩

theorem own_pd0 : parseMethodDescriptor "(I)C" = some ⟨[.int], some .char⟩ := by decide +kernel
theorem d8_14 : decode prog_3_method_4_code 14 = .ok (.aload_n 0, 1) := by decide +kernel
theorem d8_15 : decode prog_3_method_4_code 15 = .ok (.iload_n 1, 1) := by decide +kernel
theorem d8_16 : decode prog_3_method_4_code 16 = .ok (.invokevirtual 27, 3) := by decide +kernel
theorem d8_19 : decode prog_3_method_4_code 19 = .ok (.bipush 46, 2) := by decide +kernel
theorem d8_21 : decode prog_3_method_4_code 21 = .ok (.if_icmp .ne 19, 3) := by decide +kernel
theorem d8_24 : decode prog_3_method_4_code 24 = .ok (.aload_n 0, 1) := by decide +kernel
theorem d8_25 : decode prog_3_method_4_code 25 = .ok (.iload_n 2, 1) := by decide +kernel
theorem d8_26 : decode prog_3_method_4_code 26 = .ok (.iconst 1, 1) := by decide +kernel
theorem d8_27 : decode prog_3_method_4_code 27 = .ok (.isub, 1) := by decide +kernel
theorem d8_28 : decode prog_3_method_4_code 28 = .ok (.invokevirtual 27, 3) := by decide +kernel
theorem d8_31 : decode prog_3_method_4_code 31 = .ok (.bipush 46, 2) := by decide +kernel
theorem d8_33 : decode prog_3_method_4_code 33 = .ok (.if_icmp .ne 7, 3) := by decide +kernel
theorem d8_36 : decode prog_3_method_4_code 36 = .ok (.iconst 1, 1) := by decide +kernel
theorem d8_37 : decode prog_3_method_4_code 37 = .ok (.goto 4, 3) := by decide +kernel
theorem own_ef_8_0_1_t (m : MethodId) (a1 : Addr) : entryFrame m #[(Value.ref a1), (Value.int (0 : Int32)), (Value.int (1 : Int32))] 4 = mkF m 0 #[.val (Value.ref a1), .val (Value.int (0 : Int32)), .val (Value.int (1 : Int32)), .unset] [] := by first | (simp [entryFrame, mkF, argsToLocals, Value.category]; done) | rfl
def Q8_0_1_t (Z : State) (a1 : Addr) (t : Addr) (kb : ClassId) (c0 : Int32) (c1 : Int32) (c2 : Int32) (c3 : Int32) (zc : Int32) (vf : Value) (h0 : Heap) (n0 : Nat) (v : Option Value) (h : Heap) (L : List Loc) : Prop := v = some (Value.int (1 : Int32)) ∧ Fr n0 L ∧ h = h0
set_option maxRecDepth 65536 in
set_option maxHeartbeats 40000000 in
theorem rm8_0_1_t (l : Launch) (Z : State) (a0 : Array Value) (hw : ∀ d ∈ tables_1, d.before a0 Z = true) (ws : List Jvm.Cond) (a1 : Addr) (t : Addr) (kb : ClassId) (c0 : Int32) (c1 : Int32) (c2 : Int32) (c3 : Int32) (zc : Int32) (vf : Value) (h0 : Heap) (n0 : Nat) (O0 : Old Z n0 h0) (H0 : Exa Z h0 a1 "java/lang/String") (H1 : Fld Z h0 a1 "java/lang/String" "value" "[B" (Value.ref t)) (H2 : Fld Z h0 a1 "java/lang/String" "coder" "B" (Value.int (0 : Int32))) (H3 : Arv Z h0 t kb .byte (4 : Int32) ((([c0, c1, c2, c3] : List Int32).map (fun c => c.toInt8.toInt32)).map Value.int) (Value.int (0 : Int32))) (hp : ∀ c ∈ ([c0, c1, c2, c3] : List Int32), ¬ c < 0 ∧ ¬ (255 : Int32) < c) (H5 : Sta Z Z.heap "java/lang/String" "COMPACT_STRINGS" "Z" (Value.int zc)) (H6 : Sta Z Z.heap "jdk/internal/util/Preconditions" "SIOOBE_FORMATTER" "Ljava/util/function/BiFunction;" vf) (hzc : ¬ (zc = (0 : Int32))) (rvf : vf.isRef = true) (hd0 : c0 = (46 : Int32)) :
    MetFree l (⟨"com/example/enlace/enlace/DotSegments", "isDotSegment", "(Ljava/lang/String;II)Z"⟩ : MethodName) (head1 (Jvm.Cond.code (⟨"com/example/enlace/enlace/DotSegments", "isDotSegment", "(Ljava/lang/String;II)Z"⟩ : MethodName) prog_3_method_4_code 4 (some .boolean) :: ws) ({ frames := 4, cells := 0, slots := 0, locals := 53 } : Room)) (fun a U => a = #[(Value.ref a1), (Value.int (0 : Int32)), (Value.int (1 : Int32))] ∧ Z.Warmed39 U.vm ∧ U.heap = h0) (fun _ _ _ _ _ => True) (fun _ U o U' => ∃ v L, o = .returned v ∧ Q8_0_1_t Z a1 t kb c0 c1 c2 c3 zc vf h0 n0 v U'.heap L ∧ FrameEnd U o U' L ({ frames := 4, cells := 0, slots := 0, locals := 53 } : Room).cells ({ frames := 4, cells := 0, slots := 0, locals := 53 } : Room).slots) := by
  refine MetFree.of_bodySF (plainFor_of_name own_pn_com_example_enlace_enlace_DotSegments) hisR ?_
  intro p e s m args below meth c s₁ Bd hml0 hP hK
  obtain ⟨rfl, hZ, hh⟩ := hP
  have hx := Bd.exec
  have hby := Bd.bytes
  have hml : c.maxLocals = 4 := hml0
  have hown : s.vm.findClass "com/example/enlace/enlace/DotSegments" = some m.cls := findClass_of_methodNamed Bd.named
  have hnm := (name_of_methodNamed Bd.named Bd.method).1
  have X0 : Stand p l e ({ frames := 4, cells := 0, slots := 0, locals := 53 } : Room) s m #[(Value.ref a1), (Value.int (0 : Int32)), (Value.int (1 : Int32))] below meth c s₁ [] 0 0 := Stand.of_body Bd
  have e0 : s₁.heap = h0 := by rw [← hh, Bd.state]; rfl
  have N0 := Fr.nil n0
  have K0 : Keep h0 h0 [] := Keep.refl h0 []
  show own_Go p.tables e below _ (s₁.setTop (entryFrame m #[(Value.ref a1), (Value.int (0 : Int32)), (Value.int (1 : Int32))] 4))
  refine own_Go.by (fun tq kq => castTop (own_ef_8_0_1_t m a1) kq) ?_
  show own_Go p.tables e below _ (s₁.setTop (mkF m 0 #[.val (Value.ref a1), .val (Value.int (0 : Int32)), .val (Value.int (1 : Int32)), .unset] []))
  refine own_Go.by (fun tq kq => XS.iloadN X0.here hx rfl (hb hby d8_0) rfl kq) ?_
  show own_Go p.tables e below _ (s₁.setTop (mkF m 1 #[.val (Value.ref a1), .val (Value.int (0 : Int32)), .val (Value.int (1 : Int32)), .unset] [(Value.int (1 : Int32))]))
  refine own_Go.by (fun tq kq => XS.iloadN X0.here hx rfl (hb hby d8_1) rfl kq) ?_
  show own_Go p.tables e below _ (s₁.setTop (mkF m 2 #[.val (Value.ref a1), .val (Value.int (0 : Int32)), .val (Value.int (1 : Int32)), .unset] [(Value.int (0 : Int32)), (Value.int (1 : Int32))]))
  refine own_Go.by (fun tq kq => XS.isub X0.here hx rfl (hb hby d8_2) rfl kq) ?_
  show own_Go p.tables e below _ (s₁.setTop (mkF m 3 #[.val (Value.ref a1), .val (Value.int (0 : Int32)), .val (Value.int (1 : Int32)), .unset] [(Value.int (1 : Int32))]))
  refine own_Go.by (fun tq kq => XS.istoreN X0.here hx rfl (hb hby d8_3) rfl (l' := #[.val (Value.ref a1), .val (Value.int (0 : Int32)), .val (Value.int (1 : Int32)), .val (Value.int (1 : Int32))]) rfl kq) ?_
  show own_Go p.tables e below _ (s₁.setTop (mkF m 4 #[.val (Value.ref a1), .val (Value.int (0 : Int32)), .val (Value.int (1 : Int32)), .val (Value.int (1 : Int32))] []))
  refine own_Go.by (fun tq kq => XS.iloadN X0.here hx rfl (hb hby d8_4) rfl kq) ?_
  show own_Go p.tables e below _ (s₁.setTop (mkF m 5 #[.val (Value.ref a1), .val (Value.int (0 : Int32)), .val (Value.int (1 : Int32)), .val (Value.int (1 : Int32))] [(Value.int (1 : Int32))]))
  refine own_Go.by (fun tq kq => XS.iconst X0.here hx rfl (hb hby d8_5) kq) ?_
  show own_Go p.tables e below _ (s₁.setTop (mkF m 6 #[.val (Value.ref a1), .val (Value.int (0 : Int32)), .val (Value.int (1 : Int32)), .val (Value.int (1 : Int32))] [(Value.int (1 : Int32)), (Value.int (1 : Int32))]))
  refine own_Go.by (fun tq kq => XS.icmpYes X0.here hx rfl (pc0 := 6) (pc' := 14) rfl (hb hby d8_6) rfl (teq (by decide : (1 : Int32) = (1 : Int32))).1 (by decide) (by decide) kq) ?_
  show own_Go p.tables e below _ (s₁.setTop (mkF m 14 #[.val (Value.ref a1), .val (Value.int (0 : Int32)), .val (Value.int (1 : Int32)), .val (Value.int (1 : Int32))] []))
  refine own_Go.by (fun tq kq => XS.aloadN X0.here hx rfl (hb hby d8_14) rfl rfl kq) ?_
  show own_Go p.tables e below _ (s₁.setTop (mkF m 15 #[.val (Value.ref a1), .val (Value.int (0 : Int32)), .val (Value.int (1 : Int32)), .val (Value.int (1 : Int32))] [(Value.ref a1)]))
  refine own_Go.by (fun tq kq => XS.iloadN X0.here hx rfl (hb hby d8_15) rfl kq) ?_
  show own_Go p.tables e below _ (s₁.setTop (mkF m 16 #[.val (Value.ref a1), .val (Value.int (0 : Int32)), .val (Value.int (1 : Int32)), .val (Value.int (1 : Int32))] [(Value.int (0 : Int32)), (Value.ref a1)]))
  have hcd1 : StrChars.Road.CodA ([c0, c1, c2, c3] : List Int32) 0 (4 : Int32) ((([c0, c1, c2, c3] : List Int32).map (fun c => c.toInt8.toInt32)).map Value.int) := StrChars.Road.codOf (n := 4) rfl (fun x hx => (hp x hx).2)
  obtain ⟨cq1, kq1, q1a, q1b, q1c⟩ := isOf hZ e0 H0
  obtain ⟨_, _, ⟨T1, L1, k1, n1⟩, -, X1, ⟨Lc1, hQ1, l1, y1, z1⟩, st1⟩ := X0.virtualBack hx (y := (⟨"java/lang/String", "charAt", "(I)C"⟩ : MethodName)) (z := (⟨"java/lang/String", "charAt", "(I)C"⟩ : MethodName)) hown (mvT hZ (hw _ (List.mem_of_getElem? (i := 39) rfl))) (mvT hZ (hw _ (List.mem_of_getElem? (i := 40) rfl))) (notFace_of_selects (args := #[]) (mvT hZ (hw _ (List.mem_of_getElem? (i := 42) rfl)))) (mvT hZ (hw _ (List.mem_of_getElem? (i := 42) rfl))) (mvT hZ (hw _ (List.mem_of_getElem? (i := 41) rfl))) (by decide) (StrChars.Road.chN (W := 0) hZ (fun d hd => hw d (own_hch d hd)) (kI := 4) (hw _ (List.mem_of_getElem? (i := 6) rfl)) H0 H1 H2 H3 hcd1 (own_up _ hp) (H5.ext O0.2) hzc (H6.ext O0.2) rvf (Nat.le_of_ble_eq_true rfl) (i := 0) (Nat.le_of_ble_eq_true rfl) (j := (0 : Int32)) rfl (by decide) (by decide)) q1a q1c (g := (mkF m 16 #[.val (Value.ref a1), .val (Value.int (0 : Int32)), .val (Value.int (1 : Int32)), .val (Value.int (1 : Int32))] [(Value.int (0 : Int32)), (Value.ref a1)])) rfl (by rw [hml]; rfl) (Steps.refl _) (argsL := [(Value.int (0 : Int32))]) (rest := []) (lenOf own_pd0 rfl) rfl (by show 2 * 0 + _ ≤ _; exact Nat.le_of_eq rfl) (hb hby d8_16) (fun _ _ => ⟨rfl, e0, (by decide : 0 + 0 ≤ _), (by decide : 0 + 0 ≤ _)⟩)
  dsimp only [Pt.U, Pt.locs, Pt.cells, Pt.slots] at X1 l1 y1 z1 st1 hQ1
  subst l1 y1 z1
  refine own_Go.by (fun tq kq => st1.trans kq) ?_
  obtain ⟨rfl, rfl, e1⟩ := hQ1
  have N1 := Fr.app N0 (Fr.nil n0)
  show own_Go p.tables e below _ (T1.setTop (mkF m 19 #[.val (Value.ref a1), .val (Value.int (0 : Int32)), .val (Value.int (1 : Int32)), .val (Value.int (1 : Int32))] [(Value.int c0)]))
  refine own_Go.by (fun tq kq => XS.bipush X1.here hx rfl (hb hby d8_19) kq) ?_
  show own_Go p.tables e below _ (T1.setTop (mkF m 21 #[.val (Value.ref a1), .val (Value.int (0 : Int32)), .val (Value.int (1 : Int32)), .val (Value.int (1 : Int32))] [(Value.int (46 : Int32)), (Value.int c0)]))
  refine own_Go.by (fun tq kq => XS.icmpNo X1.here hx rfl (hb hby d8_21) rfl (teq hd0).2 kq) ?_
  show own_Go p.tables e below _ (T1.setTop (mkF m 24 #[.val (Value.ref a1), .val (Value.int (0 : Int32)), .val (Value.int (1 : Int32)), .val (Value.int (1 : Int32))] []))
  refine own_Go.by (fun tq kq => XS.aloadN X1.here hx rfl (hb hby d8_24) rfl rfl kq) ?_
  show own_Go p.tables e below _ (T1.setTop (mkF m 25 #[.val (Value.ref a1), .val (Value.int (0 : Int32)), .val (Value.int (1 : Int32)), .val (Value.int (1 : Int32))] [(Value.ref a1)]))
  refine own_Go.by (fun tq kq => XS.iloadN X1.here hx rfl (hb hby d8_25) rfl kq) ?_
  show own_Go p.tables e below _ (T1.setTop (mkF m 26 #[.val (Value.ref a1), .val (Value.int (0 : Int32)), .val (Value.int (1 : Int32)), .val (Value.int (1 : Int32))] [(Value.int (1 : Int32)), (Value.ref a1)]))
  refine own_Go.by (fun tq kq => XS.iconst X1.here hx rfl (hb hby d8_26) kq) ?_
  show own_Go p.tables e below _ (T1.setTop (mkF m 27 #[.val (Value.ref a1), .val (Value.int (0 : Int32)), .val (Value.int (1 : Int32)), .val (Value.int (1 : Int32))] [(Value.int (1 : Int32)), (Value.int (1 : Int32)), (Value.ref a1)]))
  refine own_Go.by (fun tq kq => XS.isub X1.here hx rfl (hb hby d8_27) rfl kq) ?_
  show own_Go p.tables e below _ (T1.setTop (mkF m 28 #[.val (Value.ref a1), .val (Value.int (0 : Int32)), .val (Value.int (1 : Int32)), .val (Value.int (1 : Int32))] [(Value.int (0 : Int32)), (Value.ref a1)]))
  have hcd2 : StrChars.Road.CodA ([c0, c1, c2, c3] : List Int32) 0 (4 : Int32) ((([c0, c1, c2, c3] : List Int32).map (fun c => c.toInt8.toInt32)).map Value.int) := StrChars.Road.codOf (n := 4) rfl (fun x hx => (hp x hx).2)
  obtain ⟨cq2, kq2, q2a, q2b, q2c⟩ := isOf hZ e1 H0
  obtain ⟨_, _, ⟨T2, L2, k2, n2⟩, -, X2, ⟨Lc2, hQ2, l2, y2, z2⟩, st2⟩ := X1.virtualBack hx (y := (⟨"java/lang/String", "charAt", "(I)C"⟩ : MethodName)) (z := (⟨"java/lang/String", "charAt", "(I)C"⟩ : MethodName)) hown (mvT hZ (hw _ (List.mem_of_getElem? (i := 39) rfl))) (mvT hZ (hw _ (List.mem_of_getElem? (i := 40) rfl))) (notFace_of_selects (args := #[]) (mvT hZ (hw _ (List.mem_of_getElem? (i := 42) rfl)))) (mvT hZ (hw _ (List.mem_of_getElem? (i := 42) rfl))) (mvT hZ (hw _ (List.mem_of_getElem? (i := 41) rfl))) (by decide) (StrChars.Road.chN (W := 0) hZ (fun d hd => hw d (own_hch d hd)) (kI := 4) (hw _ (List.mem_of_getElem? (i := 6) rfl)) H0 H1 H2 H3 hcd2 (own_up _ hp) (H5.ext O0.2) hzc (H6.ext O0.2) rvf (Nat.le_of_ble_eq_true rfl) (i := 0) (Nat.le_of_ble_eq_true rfl) (j := (0 : Int32)) rfl (by decide) (by decide)) q2a q2c (g := (mkF m 28 #[.val (Value.ref a1), .val (Value.int (0 : Int32)), .val (Value.int (1 : Int32)), .val (Value.int (1 : Int32))] [(Value.int (0 : Int32)), (Value.ref a1)])) rfl (by rw [hml]; rfl) (Steps.refl _) (argsL := [(Value.int (0 : Int32))]) (rest := []) (lenOf own_pd0 rfl) rfl (by show 2 * 0 + _ ≤ _; exact Nat.le_of_eq rfl) (hb hby d8_28) (fun _ _ => ⟨rfl, e1, (by decide : 0 + 0 ≤ _), (by decide : 0 + 0 ≤ _)⟩)
  dsimp only [Pt.U, Pt.locs, Pt.cells, Pt.slots] at X2 l2 y2 z2 st2 hQ2
  subst l2 y2 z2
  refine own_Go.by (fun tq kq => st2.trans kq) ?_
  obtain ⟨rfl, rfl, e2⟩ := hQ2
  have N2 := Fr.app N1 (Fr.nil n0)
  show own_Go p.tables e below _ (T2.setTop (mkF m 31 #[.val (Value.ref a1), .val (Value.int (0 : Int32)), .val (Value.int (1 : Int32)), .val (Value.int (1 : Int32))] [(Value.int c0)]))
  refine own_Go.by (fun tq kq => XS.bipush X2.here hx rfl (hb hby d8_31) kq) ?_
  show own_Go p.tables e below _ (T2.setTop (mkF m 33 #[.val (Value.ref a1), .val (Value.int (0 : Int32)), .val (Value.int (1 : Int32)), .val (Value.int (1 : Int32))] [(Value.int (46 : Int32)), (Value.int c0)]))
  refine own_Go.by (fun tq kq => XS.icmpNo X2.here hx rfl (hb hby d8_33) rfl (teq hd0).2 kq) ?_
  show own_Go p.tables e below _ (T2.setTop (mkF m 36 #[.val (Value.ref a1), .val (Value.int (0 : Int32)), .val (Value.int (1 : Int32)), .val (Value.int (1 : Int32))] []))
  refine own_Go.by (fun tq kq => XS.iconst X2.here hx rfl (hb hby d8_36) kq) ?_
  show own_Go p.tables e below _ (T2.setTop (mkF m 37 #[.val (Value.ref a1), .val (Value.int (0 : Int32)), .val (Value.int (1 : Int32)), .val (Value.int (1 : Int32))] [(Value.int (1 : Int32))]))
  refine own_Go.by (fun tq kq => XS.goto X2.here hx rfl (pc0 := 37) (pc' := 41) rfl (hb hby d8_37) (by decide) (by decide) kq) ?_
  show own_Go p.tables e below _ (T2.setTop (mkF m 41 #[.val (Value.ref a1), .val (Value.int (0 : Int32)), .val (Value.int (1 : Int32)), .val (Value.int (1 : Int32))] [(Value.int (1 : Int32))]))
  obtain ⟨fs, hr, hrun, hended, hW, hsame⟩ := X2.leave (v := some (Value.int (nar .boolean (1 : Int32)))) (fun h => by rw [Bd.returns] at h; cases h)
  refine own_Go.fin (retN X2 hx (t := .boolean) Bd.returns (by simp) (hb hby d8_41) hr) ⟨hrun, hended, _, _, rfl, ?_, ⟨_, rfl⟩, hW, hsame.mono (by decide) (by decide)⟩
  show Q8_0_1_t Z a1 t kb c0 c1 c2 c3 zc vf h0 n0 _ T2.heap _
  rw [e2]
  exact ⟨rfl, N2, rfl⟩

theorem own_ef_8_0_1_f (m : MethodId) (a1 : Addr) : entryFrame m #[(Value.ref a1), (Value.int (0 : Int32)), (Value.int (1 : Int32))] 4 = mkF m 0 #[.val (Value.ref a1), .val (Value.int (0 : Int32)), .val (Value.int (1 : Int32)), .unset] [] := by first | (simp [entryFrame, mkF, argsToLocals, Value.category]; done) | rfl
def Q8_0_1_f (Z : State) (a1 : Addr) (t : Addr) (kb : ClassId) (c0 : Int32) (c1 : Int32) (c2 : Int32) (c3 : Int32) (zc : Int32) (vf : Value) (h0 : Heap) (n0 : Nat) (v : Option Value) (h : Heap) (L : List Loc) : Prop := v = some (Value.int (0 : Int32)) ∧ Fr n0 L ∧ h = h0
set_option maxRecDepth 65536 in
set_option maxHeartbeats 40000000 in
theorem rm8_0_1_f (l : Launch) (Z : State) (a0 : Array Value) (hw : ∀ d ∈ tables_1, d.before a0 Z = true) (ws : List Jvm.Cond) (a1 : Addr) (t : Addr) (kb : ClassId) (c0 : Int32) (c1 : Int32) (c2 : Int32) (c3 : Int32) (zc : Int32) (vf : Value) (h0 : Heap) (n0 : Nat) (O0 : Old Z n0 h0) (H0 : Exa Z h0 a1 "java/lang/String") (H1 : Fld Z h0 a1 "java/lang/String" "value" "[B" (Value.ref t)) (H2 : Fld Z h0 a1 "java/lang/String" "coder" "B" (Value.int (0 : Int32))) (H3 : Arv Z h0 t kb .byte (4 : Int32) ((([c0, c1, c2, c3] : List Int32).map (fun c => c.toInt8.toInt32)).map Value.int) (Value.int (0 : Int32))) (hp : ∀ c ∈ ([c0, c1, c2, c3] : List Int32), ¬ c < 0 ∧ ¬ (255 : Int32) < c) (H5 : Sta Z Z.heap "java/lang/String" "COMPACT_STRINGS" "Z" (Value.int zc)) (H6 : Sta Z Z.heap "jdk/internal/util/Preconditions" "SIOOBE_FORMATTER" "Ljava/util/function/BiFunction;" vf) (hzc : ¬ (zc = (0 : Int32))) (rvf : vf.isRef = true) (hd0 : ¬ (c0 = (46 : Int32))) :
    MetFree l (⟨"com/example/enlace/enlace/DotSegments", "isDotSegment", "(Ljava/lang/String;II)Z"⟩ : MethodName) (head1 (Jvm.Cond.code (⟨"com/example/enlace/enlace/DotSegments", "isDotSegment", "(Ljava/lang/String;II)Z"⟩ : MethodName) prog_3_method_4_code 4 (some .boolean) :: ws) ({ frames := 4, cells := 0, slots := 0, locals := 53 } : Room)) (fun a U => a = #[(Value.ref a1), (Value.int (0 : Int32)), (Value.int (1 : Int32))] ∧ Z.Warmed39 U.vm ∧ U.heap = h0) (fun _ _ _ _ _ => True) (fun _ U o U' => ∃ v L, o = .returned v ∧ Q8_0_1_f Z a1 t kb c0 c1 c2 c3 zc vf h0 n0 v U'.heap L ∧ FrameEnd U o U' L ({ frames := 4, cells := 0, slots := 0, locals := 53 } : Room).cells ({ frames := 4, cells := 0, slots := 0, locals := 53 } : Room).slots) := by
  refine MetFree.of_bodySF (plainFor_of_name own_pn_com_example_enlace_enlace_DotSegments) hisR ?_
  intro p e s m args below meth c s₁ Bd hml0 hP hK
  obtain ⟨rfl, hZ, hh⟩ := hP
  have hx := Bd.exec
  have hby := Bd.bytes
  have hml : c.maxLocals = 4 := hml0
  have hown : s.vm.findClass "com/example/enlace/enlace/DotSegments" = some m.cls := findClass_of_methodNamed Bd.named
  have hnm := (name_of_methodNamed Bd.named Bd.method).1
  have X0 : Stand p l e ({ frames := 4, cells := 0, slots := 0, locals := 53 } : Room) s m #[(Value.ref a1), (Value.int (0 : Int32)), (Value.int (1 : Int32))] below meth c s₁ [] 0 0 := Stand.of_body Bd
  have e0 : s₁.heap = h0 := by rw [← hh, Bd.state]; rfl
  have N0 := Fr.nil n0
  have K0 : Keep h0 h0 [] := Keep.refl h0 []
  show own_Go p.tables e below _ (s₁.setTop (entryFrame m #[(Value.ref a1), (Value.int (0 : Int32)), (Value.int (1 : Int32))] 4))
  refine own_Go.by (fun tq kq => castTop (own_ef_8_0_1_f m a1) kq) ?_
  show own_Go p.tables e below _ (s₁.setTop (mkF m 0 #[.val (Value.ref a1), .val (Value.int (0 : Int32)), .val (Value.int (1 : Int32)), .unset] []))
  refine own_Go.by (fun tq kq => XS.iloadN X0.here hx rfl (hb hby d8_0) rfl kq) ?_
  show own_Go p.tables e below _ (s₁.setTop (mkF m 1 #[.val (Value.ref a1), .val (Value.int (0 : Int32)), .val (Value.int (1 : Int32)), .unset] [(Value.int (1 : Int32))]))
  refine own_Go.by (fun tq kq => XS.iloadN X0.here hx rfl (hb hby d8_1) rfl kq) ?_
  show own_Go p.tables e below _ (s₁.setTop (mkF m 2 #[.val (Value.ref a1), .val (Value.int (0 : Int32)), .val (Value.int (1 : Int32)), .unset] [(Value.int (0 : Int32)), (Value.int (1 : Int32))]))
  refine own_Go.by (fun tq kq => XS.isub X0.here hx rfl (hb hby d8_2) rfl kq) ?_
  show own_Go p.tables e below _ (s₁.setTop (mkF m 3 #[.val (Value.ref a1), .val (Value.int (0 : Int32)), .val (Value.int (1 : Int32)), .unset] [(Value.int (1 : Int32))]))
  refine own_Go.by (fun tq kq => XS.istoreN X0.here hx rfl (hb hby d8_3) rfl (l' := #[.val (Value.ref a1), .val (Value.int (0 : Int32)), .val (Value.int (1 : Int32)), .val (Value.int (1 : Int32))]) rfl kq) ?_
  show own_Go p.tables e below _ (s₁.setTop (mkF m 4 #[.val (Value.ref a1), .val (Value.int (0 : Int32)), .val (Value.int (1 : Int32)), .val (Value.int (1 : Int32))] []))
  refine own_Go.by (fun tq kq => XS.iloadN X0.here hx rfl (hb hby d8_4) rfl kq) ?_
  show own_Go p.tables e below _ (s₁.setTop (mkF m 5 #[.val (Value.ref a1), .val (Value.int (0 : Int32)), .val (Value.int (1 : Int32)), .val (Value.int (1 : Int32))] [(Value.int (1 : Int32))]))
  refine own_Go.by (fun tq kq => XS.iconst X0.here hx rfl (hb hby d8_5) kq) ?_
  show own_Go p.tables e below _ (s₁.setTop (mkF m 6 #[.val (Value.ref a1), .val (Value.int (0 : Int32)), .val (Value.int (1 : Int32)), .val (Value.int (1 : Int32))] [(Value.int (1 : Int32)), (Value.int (1 : Int32))]))
  refine own_Go.by (fun tq kq => XS.icmpYes X0.here hx rfl (pc0 := 6) (pc' := 14) rfl (hb hby d8_6) rfl (teq (by decide : (1 : Int32) = (1 : Int32))).1 (by decide) (by decide) kq) ?_
  show own_Go p.tables e below _ (s₁.setTop (mkF m 14 #[.val (Value.ref a1), .val (Value.int (0 : Int32)), .val (Value.int (1 : Int32)), .val (Value.int (1 : Int32))] []))
  refine own_Go.by (fun tq kq => XS.aloadN X0.here hx rfl (hb hby d8_14) rfl rfl kq) ?_
  show own_Go p.tables e below _ (s₁.setTop (mkF m 15 #[.val (Value.ref a1), .val (Value.int (0 : Int32)), .val (Value.int (1 : Int32)), .val (Value.int (1 : Int32))] [(Value.ref a1)]))
  refine own_Go.by (fun tq kq => XS.iloadN X0.here hx rfl (hb hby d8_15) rfl kq) ?_
  show own_Go p.tables e below _ (s₁.setTop (mkF m 16 #[.val (Value.ref a1), .val (Value.int (0 : Int32)), .val (Value.int (1 : Int32)), .val (Value.int (1 : Int32))] [(Value.int (0 : Int32)), (Value.ref a1)]))
  have hcd1 : StrChars.Road.CodA ([c0, c1, c2, c3] : List Int32) 0 (4 : Int32) ((([c0, c1, c2, c3] : List Int32).map (fun c => c.toInt8.toInt32)).map Value.int) := StrChars.Road.codOf (n := 4) rfl (fun x hx => (hp x hx).2)
  obtain ⟨cq1, kq1, q1a, q1b, q1c⟩ := isOf hZ e0 H0
  obtain ⟨_, _, ⟨T1, L1, k1, n1⟩, -, X1, ⟨Lc1, hQ1, l1, y1, z1⟩, st1⟩ := X0.virtualBack hx (y := (⟨"java/lang/String", "charAt", "(I)C"⟩ : MethodName)) (z := (⟨"java/lang/String", "charAt", "(I)C"⟩ : MethodName)) hown (mvT hZ (hw _ (List.mem_of_getElem? (i := 39) rfl))) (mvT hZ (hw _ (List.mem_of_getElem? (i := 40) rfl))) (notFace_of_selects (args := #[]) (mvT hZ (hw _ (List.mem_of_getElem? (i := 42) rfl)))) (mvT hZ (hw _ (List.mem_of_getElem? (i := 42) rfl))) (mvT hZ (hw _ (List.mem_of_getElem? (i := 41) rfl))) (by decide) (StrChars.Road.chN (W := 0) hZ (fun d hd => hw d (own_hch d hd)) (kI := 4) (hw _ (List.mem_of_getElem? (i := 6) rfl)) H0 H1 H2 H3 hcd1 (own_up _ hp) (H5.ext O0.2) hzc (H6.ext O0.2) rvf (Nat.le_of_ble_eq_true rfl) (i := 0) (Nat.le_of_ble_eq_true rfl) (j := (0 : Int32)) rfl (by decide) (by decide)) q1a q1c (g := (mkF m 16 #[.val (Value.ref a1), .val (Value.int (0 : Int32)), .val (Value.int (1 : Int32)), .val (Value.int (1 : Int32))] [(Value.int (0 : Int32)), (Value.ref a1)])) rfl (by rw [hml]; rfl) (Steps.refl _) (argsL := [(Value.int (0 : Int32))]) (rest := []) (lenOf own_pd0 rfl) rfl (by show 2 * 0 + _ ≤ _; exact Nat.le_of_eq rfl) (hb hby d8_16) (fun _ _ => ⟨rfl, e0, (by decide : 0 + 0 ≤ _), (by decide : 0 + 0 ≤ _)⟩)
  dsimp only [Pt.U, Pt.locs, Pt.cells, Pt.slots] at X1 l1 y1 z1 st1 hQ1
  subst l1 y1 z1
  refine own_Go.by (fun tq kq => st1.trans kq) ?_
  obtain ⟨rfl, rfl, e1⟩ := hQ1
  have N1 := Fr.app N0 (Fr.nil n0)
  show own_Go p.tables e below _ (T1.setTop (mkF m 19 #[.val (Value.ref a1), .val (Value.int (0 : Int32)), .val (Value.int (1 : Int32)), .val (Value.int (1 : Int32))] [(Value.int c0)]))
  refine own_Go.by (fun tq kq => XS.bipush X1.here hx rfl (hb hby d8_19) kq) ?_
  show own_Go p.tables e below _ (T1.setTop (mkF m 21 #[.val (Value.ref a1), .val (Value.int (0 : Int32)), .val (Value.int (1 : Int32)), .val (Value.int (1 : Int32))] [(Value.int (46 : Int32)), (Value.int c0)]))
  refine own_Go.by (fun tq kq => XS.icmpYes X1.here hx rfl (pc0 := 21) (pc' := 40) rfl (hb hby d8_21) rfl (feq hd0).2 (by decide) (by decide) kq) ?_
  show own_Go p.tables e below _ (T1.setTop (mkF m 40 #[.val (Value.ref a1), .val (Value.int (0 : Int32)), .val (Value.int (1 : Int32)), .val (Value.int (1 : Int32))] []))
  refine own_Go.by (fun tq kq => XS.iconst X1.here hx rfl (hb hby d8_40) kq) ?_
  show own_Go p.tables e below _ (T1.setTop (mkF m 41 #[.val (Value.ref a1), .val (Value.int (0 : Int32)), .val (Value.int (1 : Int32)), .val (Value.int (1 : Int32))] [(Value.int (0 : Int32))]))
  obtain ⟨fs, hr, hrun, hended, hW, hsame⟩ := X1.leave (v := some (Value.int (nar .boolean (0 : Int32)))) (fun h => by rw [Bd.returns] at h; cases h)
  refine own_Go.fin (retN X1 hx (t := .boolean) Bd.returns (by simp) (hb hby d8_41) hr) ⟨hrun, hended, _, _, rfl, ?_, ⟨_, rfl⟩, hW, hsame.mono (by decide) (by decide)⟩
  show Q8_0_1_f Z a1 t kb c0 c1 c2 c3 zc vf h0 n0 _ T1.heap _
  rw [e1]
  exact ⟨rfl, N1, rfl⟩

theorem own_ef_8_0_2_tt (m : MethodId) (a1 : Addr) : entryFrame m #[(Value.ref a1), (Value.int (0 : Int32)), (Value.int (2 : Int32))] 4 = mkF m 0 #[.val (Value.ref a1), .val (Value.int (0 : Int32)), .val (Value.int (2 : Int32)), .unset] [] := by first | (simp [entryFrame, mkF, argsToLocals, Value.category]; done) | rfl
def Q8_0_2_tt (Z : State) (a1 : Addr) (t : Addr) (kb : ClassId) (c0 : Int32) (c1 : Int32) (c2 : Int32) (c3 : Int32) (zc : Int32) (vf : Value) (h0 : Heap) (n0 : Nat) (v : Option Value) (h : Heap) (L : List Loc) : Prop := v = some (Value.int (1 : Int32)) ∧ Fr n0 L ∧ h = h0
set_option maxRecDepth 65536 in
set_option maxHeartbeats 40000000 in
theorem rm8_0_2_tt (l : Launch) (Z : State) (a0 : Array Value) (hw : ∀ d ∈ tables_1, d.before a0 Z = true) (ws : List Jvm.Cond) (a1 : Addr) (t : Addr) (kb : ClassId) (c0 : Int32) (c1 : Int32) (c2 : Int32) (c3 : Int32) (zc : Int32) (vf : Value) (h0 : Heap) (n0 : Nat) (O0 : Old Z n0 h0) (H0 : Exa Z h0 a1 "java/lang/String") (H1 : Fld Z h0 a1 "java/lang/String" "value" "[B" (Value.ref t)) (H2 : Fld Z h0 a1 "java/lang/String" "coder" "B" (Value.int (0 : Int32))) (H3 : Arv Z h0 t kb .byte (4 : Int32) ((([c0, c1, c2, c3] : List Int32).map (fun c => c.toInt8.toInt32)).map Value.int) (Value.int (0 : Int32))) (hp : ∀ c ∈ ([c0, c1, c2, c3] : List Int32), ¬ c < 0 ∧ ¬ (255 : Int32) < c) (H5 : Sta Z Z.heap "java/lang/String" "COMPACT_STRINGS" "Z" (Value.int zc)) (H6 : Sta Z Z.heap "jdk/internal/util/Preconditions" "SIOOBE_FORMATTER" "Ljava/util/function/BiFunction;" vf) (hzc : ¬ (zc = (0 : Int32))) (rvf : vf.isRef = true) (hd0 : c0 = (46 : Int32)) (hd1 : c1 = (46 : Int32)) :
    MetFree l (⟨"com/example/enlace/enlace/DotSegments", "isDotSegment", "(Ljava/lang/String;II)Z"⟩ : MethodName) (head1 (Jvm.Cond.code (⟨"com/example/enlace/enlace/DotSegments", "isDotSegment", "(Ljava/lang/String;II)Z"⟩ : MethodName) prog_3_method_4_code 4 (some .boolean) :: ws) ({ frames := 4, cells := 0, slots := 0, locals := 53 } : Room)) (fun a U => a = #[(Value.ref a1), (Value.int (0 : Int32)), (Value.int (2 : Int32))] ∧ Z.Warmed39 U.vm ∧ U.heap = h0) (fun _ _ _ _ _ => True) (fun _ U o U' => ∃ v L, o = .returned v ∧ Q8_0_2_tt Z a1 t kb c0 c1 c2 c3 zc vf h0 n0 v U'.heap L ∧ FrameEnd U o U' L ({ frames := 4, cells := 0, slots := 0, locals := 53 } : Room).cells ({ frames := 4, cells := 0, slots := 0, locals := 53 } : Room).slots) := by
  refine MetFree.of_bodySF (plainFor_of_name own_pn_com_example_enlace_enlace_DotSegments) hisR ?_
  intro p e s m args below meth c s₁ Bd hml0 hP hK
  obtain ⟨rfl, hZ, hh⟩ := hP
  have hx := Bd.exec
  have hby := Bd.bytes
  have hml : c.maxLocals = 4 := hml0
  have hown : s.vm.findClass "com/example/enlace/enlace/DotSegments" = some m.cls := findClass_of_methodNamed Bd.named
  have hnm := (name_of_methodNamed Bd.named Bd.method).1
  have X0 : Stand p l e ({ frames := 4, cells := 0, slots := 0, locals := 53 } : Room) s m #[(Value.ref a1), (Value.int (0 : Int32)), (Value.int (2 : Int32))] below meth c s₁ [] 0 0 := Stand.of_body Bd
  have e0 : s₁.heap = h0 := by rw [← hh, Bd.state]; rfl
  have N0 := Fr.nil n0
  have K0 : Keep h0 h0 [] := Keep.refl h0 []
  show own_Go p.tables e below _ (s₁.setTop (entryFrame m #[(Value.ref a1), (Value.int (0 : Int32)), (Value.int (2 : Int32))] 4))
  refine own_Go.by (fun tq kq => castTop (own_ef_8_0_2_tt m a1) kq) ?_
  show own_Go p.tables e below _ (s₁.setTop (mkF m 0 #[.val (Value.ref a1), .val (Value.int (0 : Int32)), .val (Value.int (2 : Int32)), .unset] []))
  refine own_Go.by (fun tq kq => XS.iloadN X0.here hx rfl (hb hby d8_0) rfl kq) ?_
  show own_Go p.tables e below _ (s₁.setTop (mkF m 1 #[.val (Value.ref a1), .val (Value.int (0 : Int32)), .val (Value.int (2 : Int32)), .unset] [(Value.int (2 : Int32))]))
  refine own_Go.by (fun tq kq => XS.iloadN X0.here hx rfl (hb hby d8_1) rfl kq) ?_
  show own_Go p.tables e below _ (s₁.setTop (mkF m 2 #[.val (Value.ref a1), .val (Value.int (0 : Int32)), .val (Value.int (2 : Int32)), .unset] [(Value.int (0 : Int32)), (Value.int (2 : Int32))]))
  refine own_Go.by (fun tq kq => XS.isub X0.here hx rfl (hb hby d8_2) rfl kq) ?_
  show own_Go p.tables e below _ (s₁.setTop (mkF m 3 #[.val (Value.ref a1), .val (Value.int (0 : Int32)), .val (Value.int (2 : Int32)), .unset] [(Value.int (2 : Int32))]))
  refine own_Go.by (fun tq kq => XS.istoreN X0.here hx rfl (hb hby d8_3) rfl (l' := #[.val (Value.ref a1), .val (Value.int (0 : Int32)), .val (Value.int (2 : Int32)), .val (Value.int (2 : Int32))]) rfl kq) ?_
  show own_Go p.tables e below _ (s₁.setTop (mkF m 4 #[.val (Value.ref a1), .val (Value.int (0 : Int32)), .val (Value.int (2 : Int32)), .val (Value.int (2 : Int32))] []))
  refine own_Go.by (fun tq kq => XS.iloadN X0.here hx rfl (hb hby d8_4) rfl kq) ?_
  show own_Go p.tables e below _ (s₁.setTop (mkF m 5 #[.val (Value.ref a1), .val (Value.int (0 : Int32)), .val (Value.int (2 : Int32)), .val (Value.int (2 : Int32))] [(Value.int (2 : Int32))]))
  refine own_Go.by (fun tq kq => XS.iconst X0.here hx rfl (hb hby d8_5) kq) ?_
  show own_Go p.tables e below _ (s₁.setTop (mkF m 6 #[.val (Value.ref a1), .val (Value.int (0 : Int32)), .val (Value.int (2 : Int32)), .val (Value.int (2 : Int32))] [(Value.int (1 : Int32)), (Value.int (2 : Int32))]))
  refine own_Go.by (fun tq kq => XS.icmpNo X0.here hx rfl (hb hby d8_6) rfl (feq (by decide : ¬ ((2 : Int32) = (1 : Int32)))).1 kq) ?_
  show own_Go p.tables e below _ (s₁.setTop (mkF m 9 #[.val (Value.ref a1), .val (Value.int (0 : Int32)), .val (Value.int (2 : Int32)), .val (Value.int (2 : Int32))] []))
  refine own_Go.by (fun tq kq => XS.iloadN X0.here hx rfl (hb hby d8_9) rfl kq) ?_
  show own_Go p.tables e below _ (s₁.setTop (mkF m 10 #[.val (Value.ref a1), .val (Value.int (0 : Int32)), .val (Value.int (2 : Int32)), .val (Value.int (2 : Int32))] [(Value.int (2 : Int32))]))
  refine own_Go.by (fun tq kq => XS.iconst X0.here hx rfl (hb hby d8_10) kq) ?_
  show own_Go p.tables e below _ (s₁.setTop (mkF m 11 #[.val (Value.ref a1), .val (Value.int (0 : Int32)), .val (Value.int (2 : Int32)), .val (Value.int (2 : Int32))] [(Value.int (2 : Int32)), (Value.int (2 : Int32))]))
  refine own_Go.by (fun tq kq => XS.icmpNo X0.here hx rfl (hb hby d8_11) rfl (teq (by decide : (2 : Int32) = (2 : Int32))).2 kq) ?_
  show own_Go p.tables e below _ (s₁.setTop (mkF m 14 #[.val (Value.ref a1), .val (Value.int (0 : Int32)), .val (Value.int (2 : Int32)), .val (Value.int (2 : Int32))] []))
  refine own_Go.by (fun tq kq => XS.aloadN X0.here hx rfl (hb hby d8_14) rfl rfl kq) ?_
  show own_Go p.tables e below _ (s₁.setTop (mkF m 15 #[.val (Value.ref a1), .val (Value.int (0 : Int32)), .val (Value.int (2 : Int32)), .val (Value.int (2 : Int32))] [(Value.ref a1)]))
  refine own_Go.by (fun tq kq => XS.iloadN X0.here hx rfl (hb hby d8_15) rfl kq) ?_
  show own_Go p.tables e below _ (s₁.setTop (mkF m 16 #[.val (Value.ref a1), .val (Value.int (0 : Int32)), .val (Value.int (2 : Int32)), .val (Value.int (2 : Int32))] [(Value.int (0 : Int32)), (Value.ref a1)]))
  have hcd1 : StrChars.Road.CodA ([c0, c1, c2, c3] : List Int32) 0 (4 : Int32) ((([c0, c1, c2, c3] : List Int32).map (fun c => c.toInt8.toInt32)).map Value.int) := StrChars.Road.codOf (n := 4) rfl (fun x hx => (hp x hx).2)
  obtain ⟨cq1, kq1, q1a, q1b, q1c⟩ := isOf hZ e0 H0
  obtain ⟨_, _, ⟨T1, L1, k1, n1⟩, -, X1, ⟨Lc1, hQ1, l1, y1, z1⟩, st1⟩ := X0.virtualBack hx (y := (⟨"java/lang/String", "charAt", "(I)C"⟩ : MethodName)) (z := (⟨"java/lang/String", "charAt", "(I)C"⟩ : MethodName)) hown (mvT hZ (hw _ (List.mem_of_getElem? (i := 39) rfl))) (mvT hZ (hw _ (List.mem_of_getElem? (i := 40) rfl))) (notFace_of_selects (args := #[]) (mvT hZ (hw _ (List.mem_of_getElem? (i := 42) rfl)))) (mvT hZ (hw _ (List.mem_of_getElem? (i := 42) rfl))) (mvT hZ (hw _ (List.mem_of_getElem? (i := 41) rfl))) (by decide) (StrChars.Road.chN (W := 0) hZ (fun d hd => hw d (own_hch d hd)) (kI := 4) (hw _ (List.mem_of_getElem? (i := 6) rfl)) H0 H1 H2 H3 hcd1 (own_up _ hp) (H5.ext O0.2) hzc (H6.ext O0.2) rvf (Nat.le_of_ble_eq_true rfl) (i := 0) (Nat.le_of_ble_eq_true rfl) (j := (0 : Int32)) rfl (by decide) (by decide)) q1a q1c (g := (mkF m 16 #[.val (Value.ref a1), .val (Value.int (0 : Int32)), .val (Value.int (2 : Int32)), .val (Value.int (2 : Int32))] [(Value.int (0 : Int32)), (Value.ref a1)])) rfl (by rw [hml]; rfl) (Steps.refl _) (argsL := [(Value.int (0 : Int32))]) (rest := []) (lenOf own_pd0 rfl) rfl (by show 2 * 0 + _ ≤ _; exact Nat.le_of_eq rfl) (hb hby d8_16) (fun _ _ => ⟨rfl, e0, (by decide : 0 + 0 ≤ _), (by decide : 0 + 0 ≤ _)⟩)
  dsimp only [Pt.U, Pt.locs, Pt.cells, Pt.slots] at X1 l1 y1 z1 st1 hQ1
  subst l1 y1 z1
  refine own_Go.by (fun tq kq => st1.trans kq) ?_
  obtain ⟨rfl, rfl, e1⟩ := hQ1
  have N1 := Fr.app N0 (Fr.nil n0)
  show own_Go p.tables e below _ (T1.setTop (mkF m 19 #[.val (Value.ref a1), .val (Value.int (0 : Int32)), .val (Value.int (2 : Int32)), .val (Value.int (2 : Int32))] [(Value.int c0)]))
  refine own_Go.by (fun tq kq => XS.bipush X1.here hx rfl (hb hby d8_19) kq) ?_
  show own_Go p.tables e below _ (T1.setTop (mkF m 21 #[.val (Value.ref a1), .val (Value.int (0 : Int32)), .val (Value.int (2 : Int32)), .val (Value.int (2 : Int32))] [(Value.int (46 : Int32)), (Value.int c0)]))
  refine own_Go.by (fun tq kq => XS.icmpNo X1.here hx rfl (hb hby d8_21) rfl (teq hd0).2 kq) ?_
  show own_Go p.tables e below _ (T1.setTop (mkF m 24 #[.val (Value.ref a1), .val (Value.int (0 : Int32)), .val (Value.int (2 : Int32)), .val (Value.int (2 : Int32))] []))
  refine own_Go.by (fun tq kq => XS.aloadN X1.here hx rfl (hb hby d8_24) rfl rfl kq) ?_
  show own_Go p.tables e below _ (T1.setTop (mkF m 25 #[.val (Value.ref a1), .val (Value.int (0 : Int32)), .val (Value.int (2 : Int32)), .val (Value.int (2 : Int32))] [(Value.ref a1)]))
  refine own_Go.by (fun tq kq => XS.iloadN X1.here hx rfl (hb hby d8_25) rfl kq) ?_
  show own_Go p.tables e below _ (T1.setTop (mkF m 26 #[.val (Value.ref a1), .val (Value.int (0 : Int32)), .val (Value.int (2 : Int32)), .val (Value.int (2 : Int32))] [(Value.int (2 : Int32)), (Value.ref a1)]))
  refine own_Go.by (fun tq kq => XS.iconst X1.here hx rfl (hb hby d8_26) kq) ?_
  show own_Go p.tables e below _ (T1.setTop (mkF m 27 #[.val (Value.ref a1), .val (Value.int (0 : Int32)), .val (Value.int (2 : Int32)), .val (Value.int (2 : Int32))] [(Value.int (1 : Int32)), (Value.int (2 : Int32)), (Value.ref a1)]))
  refine own_Go.by (fun tq kq => XS.isub X1.here hx rfl (hb hby d8_27) rfl kq) ?_
  show own_Go p.tables e below _ (T1.setTop (mkF m 28 #[.val (Value.ref a1), .val (Value.int (0 : Int32)), .val (Value.int (2 : Int32)), .val (Value.int (2 : Int32))] [(Value.int (1 : Int32)), (Value.ref a1)]))
  have hcd2 : StrChars.Road.CodA ([c0, c1, c2, c3] : List Int32) 0 (4 : Int32) ((([c0, c1, c2, c3] : List Int32).map (fun c => c.toInt8.toInt32)).map Value.int) := StrChars.Road.codOf (n := 4) rfl (fun x hx => (hp x hx).2)
  obtain ⟨cq2, kq2, q2a, q2b, q2c⟩ := isOf hZ e1 H0
  obtain ⟨_, _, ⟨T2, L2, k2, n2⟩, -, X2, ⟨Lc2, hQ2, l2, y2, z2⟩, st2⟩ := X1.virtualBack hx (y := (⟨"java/lang/String", "charAt", "(I)C"⟩ : MethodName)) (z := (⟨"java/lang/String", "charAt", "(I)C"⟩ : MethodName)) hown (mvT hZ (hw _ (List.mem_of_getElem? (i := 39) rfl))) (mvT hZ (hw _ (List.mem_of_getElem? (i := 40) rfl))) (notFace_of_selects (args := #[]) (mvT hZ (hw _ (List.mem_of_getElem? (i := 42) rfl)))) (mvT hZ (hw _ (List.mem_of_getElem? (i := 42) rfl))) (mvT hZ (hw _ (List.mem_of_getElem? (i := 41) rfl))) (by decide) (StrChars.Road.chN (W := 0) hZ (fun d hd => hw d (own_hch d hd)) (kI := 4) (hw _ (List.mem_of_getElem? (i := 6) rfl)) H0 H1 H2 H3 hcd2 (own_up _ hp) (H5.ext O0.2) hzc (H6.ext O0.2) rvf (Nat.le_of_ble_eq_true rfl) (i := 1) (Nat.le_of_ble_eq_true rfl) (j := (1 : Int32)) rfl (by decide) (by decide)) q2a q2c (g := (mkF m 28 #[.val (Value.ref a1), .val (Value.int (0 : Int32)), .val (Value.int (2 : Int32)), .val (Value.int (2 : Int32))] [(Value.int (1 : Int32)), (Value.ref a1)])) rfl (by rw [hml]; rfl) (Steps.refl _) (argsL := [(Value.int (1 : Int32))]) (rest := []) (lenOf own_pd0 rfl) rfl (by show 2 * 0 + _ ≤ _; exact Nat.le_of_eq rfl) (hb hby d8_28) (fun _ _ => ⟨rfl, e1, (by decide : 0 + 0 ≤ _), (by decide : 0 + 0 ≤ _)⟩)
  dsimp only [Pt.U, Pt.locs, Pt.cells, Pt.slots] at X2 l2 y2 z2 st2 hQ2
  subst l2 y2 z2
  refine own_Go.by (fun tq kq => st2.trans kq) ?_
  obtain ⟨rfl, rfl, e2⟩ := hQ2
  have N2 := Fr.app N1 (Fr.nil n0)
  show own_Go p.tables e below _ (T2.setTop (mkF m 31 #[.val (Value.ref a1), .val (Value.int (0 : Int32)), .val (Value.int (2 : Int32)), .val (Value.int (2 : Int32))] [(Value.int c1)]))
  refine own_Go.by (fun tq kq => XS.bipush X2.here hx rfl (hb hby d8_31) kq) ?_
  show own_Go p.tables e below _ (T2.setTop (mkF m 33 #[.val (Value.ref a1), .val (Value.int (0 : Int32)), .val (Value.int (2 : Int32)), .val (Value.int (2 : Int32))] [(Value.int (46 : Int32)), (Value.int c1)]))
  refine own_Go.by (fun tq kq => XS.icmpNo X2.here hx rfl (hb hby d8_33) rfl (teq hd1).2 kq) ?_
  show own_Go p.tables e below _ (T2.setTop (mkF m 36 #[.val (Value.ref a1), .val (Value.int (0 : Int32)), .val (Value.int (2 : Int32)), .val (Value.int (2 : Int32))] []))
  refine own_Go.by (fun tq kq => XS.iconst X2.here hx rfl (hb hby d8_36) kq) ?_
  show own_Go p.tables e below _ (T2.setTop (mkF m 37 #[.val (Value.ref a1), .val (Value.int (0 : Int32)), .val (Value.int (2 : Int32)), .val (Value.int (2 : Int32))] [(Value.int (1 : Int32))]))
  refine own_Go.by (fun tq kq => XS.goto X2.here hx rfl (pc0 := 37) (pc' := 41) rfl (hb hby d8_37) (by decide) (by decide) kq) ?_
  show own_Go p.tables e below _ (T2.setTop (mkF m 41 #[.val (Value.ref a1), .val (Value.int (0 : Int32)), .val (Value.int (2 : Int32)), .val (Value.int (2 : Int32))] [(Value.int (1 : Int32))]))
  obtain ⟨fs, hr, hrun, hended, hW, hsame⟩ := X2.leave (v := some (Value.int (nar .boolean (1 : Int32)))) (fun h => by rw [Bd.returns] at h; cases h)
  refine own_Go.fin (retN X2 hx (t := .boolean) Bd.returns (by simp) (hb hby d8_41) hr) ⟨hrun, hended, _, _, rfl, ?_, ⟨_, rfl⟩, hW, hsame.mono (by decide) (by decide)⟩
  show Q8_0_2_tt Z a1 t kb c0 c1 c2 c3 zc vf h0 n0 _ T2.heap _
  rw [e2]
  exact ⟨rfl, N2, rfl⟩

theorem own_ef_8_0_2_tf (m : MethodId) (a1 : Addr) : entryFrame m #[(Value.ref a1), (Value.int (0 : Int32)), (Value.int (2 : Int32))] 4 = mkF m 0 #[.val (Value.ref a1), .val (Value.int (0 : Int32)), .val (Value.int (2 : Int32)), .unset] [] := by first | (simp [entryFrame, mkF, argsToLocals, Value.category]; done) | rfl
def Q8_0_2_tf (Z : State) (a1 : Addr) (t : Addr) (kb : ClassId) (c0 : Int32) (c1 : Int32) (c2 : Int32) (c3 : Int32) (zc : Int32) (vf : Value) (h0 : Heap) (n0 : Nat) (v : Option Value) (h : Heap) (L : List Loc) : Prop := v = some (Value.int (0 : Int32)) ∧ Fr n0 L ∧ h = h0
set_option maxRecDepth 65536 in
set_option maxHeartbeats 40000000 in
theorem rm8_0_2_tf (l : Launch) (Z : State) (a0 : Array Value) (hw : ∀ d ∈ tables_1, d.before a0 Z = true) (ws : List Jvm.Cond) (a1 : Addr) (t : Addr) (kb : ClassId) (c0 : Int32) (c1 : Int32) (c2 : Int32) (c3 : Int32) (zc : Int32) (vf : Value) (h0 : Heap) (n0 : Nat) (O0 : Old Z n0 h0) (H0 : Exa Z h0 a1 "java/lang/String") (H1 : Fld Z h0 a1 "java/lang/String" "value" "[B" (Value.ref t)) (H2 : Fld Z h0 a1 "java/lang/String" "coder" "B" (Value.int (0 : Int32))) (H3 : Arv Z h0 t kb .byte (4 : Int32) ((([c0, c1, c2, c3] : List Int32).map (fun c => c.toInt8.toInt32)).map Value.int) (Value.int (0 : Int32))) (hp : ∀ c ∈ ([c0, c1, c2, c3] : List Int32), ¬ c < 0 ∧ ¬ (255 : Int32) < c) (H5 : Sta Z Z.heap "java/lang/String" "COMPACT_STRINGS" "Z" (Value.int zc)) (H6 : Sta Z Z.heap "jdk/internal/util/Preconditions" "SIOOBE_FORMATTER" "Ljava/util/function/BiFunction;" vf) (hzc : ¬ (zc = (0 : Int32))) (rvf : vf.isRef = true) (hd0 : c0 = (46 : Int32)) (hd1 : ¬ (c1 = (46 : Int32))) :
    MetFree l (⟨"com/example/enlace/enlace/DotSegments", "isDotSegment", "(Ljava/lang/String;II)Z"⟩ : MethodName) (head1 (Jvm.Cond.code (⟨"com/example/enlace/enlace/DotSegments", "isDotSegment", "(Ljava/lang/String;II)Z"⟩ : MethodName) prog_3_method_4_code 4 (some .boolean) :: ws) ({ frames := 4, cells := 0, slots := 0, locals := 53 } : Room)) (fun a U => a = #[(Value.ref a1), (Value.int (0 : Int32)), (Value.int (2 : Int32))] ∧ Z.Warmed39 U.vm ∧ U.heap = h0) (fun _ _ _ _ _ => True) (fun _ U o U' => ∃ v L, o = .returned v ∧ Q8_0_2_tf Z a1 t kb c0 c1 c2 c3 zc vf h0 n0 v U'.heap L ∧ FrameEnd U o U' L ({ frames := 4, cells := 0, slots := 0, locals := 53 } : Room).cells ({ frames := 4, cells := 0, slots := 0, locals := 53 } : Room).slots) := by
  refine MetFree.of_bodySF (plainFor_of_name own_pn_com_example_enlace_enlace_DotSegments) hisR ?_
  intro p e s m args below meth c s₁ Bd hml0 hP hK
  obtain ⟨rfl, hZ, hh⟩ := hP
  have hx := Bd.exec
  have hby := Bd.bytes
  have hml : c.maxLocals = 4 := hml0
  have hown : s.vm.findClass "com/example/enlace/enlace/DotSegments" = some m.cls := findClass_of_methodNamed Bd.named
  have hnm := (name_of_methodNamed Bd.named Bd.method).1
  have X0 : Stand p l e ({ frames := 4, cells := 0, slots := 0, locals := 53 } : Room) s m #[(Value.ref a1), (Value.int (0 : Int32)), (Value.int (2 : Int32))] below meth c s₁ [] 0 0 := Stand.of_body Bd
  have e0 : s₁.heap = h0 := by rw [← hh, Bd.state]; rfl
  have N0 := Fr.nil n0
  have K0 : Keep h0 h0 [] := Keep.refl h0 []
  show own_Go p.tables e below _ (s₁.setTop (entryFrame m #[(Value.ref a1), (Value.int (0 : Int32)), (Value.int (2 : Int32))] 4))
  refine own_Go.by (fun tq kq => castTop (own_ef_8_0_2_tf m a1) kq) ?_
  show own_Go p.tables e below _ (s₁.setTop (mkF m 0 #[.val (Value.ref a1), .val (Value.int (0 : Int32)), .val (Value.int (2 : Int32)), .unset] []))
  refine own_Go.by (fun tq kq => XS.iloadN X0.here hx rfl (hb hby d8_0) rfl kq) ?_
  show own_Go p.tables e below _ (s₁.setTop (mkF m 1 #[.val (Value.ref a1), .val (Value.int (0 : Int32)), .val (Value.int (2 : Int32)), .unset] [(Value.int (2 : Int32))]))
  refine own_Go.by (fun tq kq => XS.iloadN X0.here hx rfl (hb hby d8_1) rfl kq) ?_
  show own_Go p.tables e below _ (s₁.setTop (mkF m 2 #[.val (Value.ref a1), .val (Value.int (0 : Int32)), .val (Value.int (2 : Int32)), .unset] [(Value.int (0 : Int32)), (Value.int (2 : Int32))]))
  refine own_Go.by (fun tq kq => XS.isub X0.here hx rfl (hb hby d8_2) rfl kq) ?_
  show own_Go p.tables e below _ (s₁.setTop (mkF m 3 #[.val (Value.ref a1), .val (Value.int (0 : Int32)), .val (Value.int (2 : Int32)), .unset] [(Value.int (2 : Int32))]))
  refine own_Go.by (fun tq kq => XS.istoreN X0.here hx rfl (hb hby d8_3) rfl (l' := #[.val (Value.ref a1), .val (Value.int (0 : Int32)), .val (Value.int (2 : Int32)), .val (Value.int (2 : Int32))]) rfl kq) ?_
  show own_Go p.tables e below _ (s₁.setTop (mkF m 4 #[.val (Value.ref a1), .val (Value.int (0 : Int32)), .val (Value.int (2 : Int32)), .val (Value.int (2 : Int32))] []))
  refine own_Go.by (fun tq kq => XS.iloadN X0.here hx rfl (hb hby d8_4) rfl kq) ?_
  show own_Go p.tables e below _ (s₁.setTop (mkF m 5 #[.val (Value.ref a1), .val (Value.int (0 : Int32)), .val (Value.int (2 : Int32)), .val (Value.int (2 : Int32))] [(Value.int (2 : Int32))]))
  refine own_Go.by (fun tq kq => XS.iconst X0.here hx rfl (hb hby d8_5) kq) ?_
  show own_Go p.tables e below _ (s₁.setTop (mkF m 6 #[.val (Value.ref a1), .val (Value.int (0 : Int32)), .val (Value.int (2 : Int32)), .val (Value.int (2 : Int32))] [(Value.int (1 : Int32)), (Value.int (2 : Int32))]))
  refine own_Go.by (fun tq kq => XS.icmpNo X0.here hx rfl (hb hby d8_6) rfl (feq (by decide : ¬ ((2 : Int32) = (1 : Int32)))).1 kq) ?_
  show own_Go p.tables e below _ (s₁.setTop (mkF m 9 #[.val (Value.ref a1), .val (Value.int (0 : Int32)), .val (Value.int (2 : Int32)), .val (Value.int (2 : Int32))] []))
  refine own_Go.by (fun tq kq => XS.iloadN X0.here hx rfl (hb hby d8_9) rfl kq) ?_
  show own_Go p.tables e below _ (s₁.setTop (mkF m 10 #[.val (Value.ref a1), .val (Value.int (0 : Int32)), .val (Value.int (2 : Int32)), .val (Value.int (2 : Int32))] [(Value.int (2 : Int32))]))
  refine own_Go.by (fun tq kq => XS.iconst X0.here hx rfl (hb hby d8_10) kq) ?_
  show own_Go p.tables e below _ (s₁.setTop (mkF m 11 #[.val (Value.ref a1), .val (Value.int (0 : Int32)), .val (Value.int (2 : Int32)), .val (Value.int (2 : Int32))] [(Value.int (2 : Int32)), (Value.int (2 : Int32))]))
  refine own_Go.by (fun tq kq => XS.icmpNo X0.here hx rfl (hb hby d8_11) rfl (teq (by decide : (2 : Int32) = (2 : Int32))).2 kq) ?_
  show own_Go p.tables e below _ (s₁.setTop (mkF m 14 #[.val (Value.ref a1), .val (Value.int (0 : Int32)), .val (Value.int (2 : Int32)), .val (Value.int (2 : Int32))] []))
  refine own_Go.by (fun tq kq => XS.aloadN X0.here hx rfl (hb hby d8_14) rfl rfl kq) ?_
  show own_Go p.tables e below _ (s₁.setTop (mkF m 15 #[.val (Value.ref a1), .val (Value.int (0 : Int32)), .val (Value.int (2 : Int32)), .val (Value.int (2 : Int32))] [(Value.ref a1)]))
  refine own_Go.by (fun tq kq => XS.iloadN X0.here hx rfl (hb hby d8_15) rfl kq) ?_
  show own_Go p.tables e below _ (s₁.setTop (mkF m 16 #[.val (Value.ref a1), .val (Value.int (0 : Int32)), .val (Value.int (2 : Int32)), .val (Value.int (2 : Int32))] [(Value.int (0 : Int32)), (Value.ref a1)]))
  have hcd1 : StrChars.Road.CodA ([c0, c1, c2, c3] : List Int32) 0 (4 : Int32) ((([c0, c1, c2, c3] : List Int32).map (fun c => c.toInt8.toInt32)).map Value.int) := StrChars.Road.codOf (n := 4) rfl (fun x hx => (hp x hx).2)
  obtain ⟨cq1, kq1, q1a, q1b, q1c⟩ := isOf hZ e0 H0
  obtain ⟨_, _, ⟨T1, L1, k1, n1⟩, -, X1, ⟨Lc1, hQ1, l1, y1, z1⟩, st1⟩ := X0.virtualBack hx (y := (⟨"java/lang/String", "charAt", "(I)C"⟩ : MethodName)) (z := (⟨"java/lang/String", "charAt", "(I)C"⟩ : MethodName)) hown (mvT hZ (hw _ (List.mem_of_getElem? (i := 39) rfl))) (mvT hZ (hw _ (List.mem_of_getElem? (i := 40) rfl))) (notFace_of_selects (args := #[]) (mvT hZ (hw _ (List.mem_of_getElem? (i := 42) rfl)))) (mvT hZ (hw _ (List.mem_of_getElem? (i := 42) rfl))) (mvT hZ (hw _ (List.mem_of_getElem? (i := 41) rfl))) (by decide) (StrChars.Road.chN (W := 0) hZ (fun d hd => hw d (own_hch d hd)) (kI := 4) (hw _ (List.mem_of_getElem? (i := 6) rfl)) H0 H1 H2 H3 hcd1 (own_up _ hp) (H5.ext O0.2) hzc (H6.ext O0.2) rvf (Nat.le_of_ble_eq_true rfl) (i := 0) (Nat.le_of_ble_eq_true rfl) (j := (0 : Int32)) rfl (by decide) (by decide)) q1a q1c (g := (mkF m 16 #[.val (Value.ref a1), .val (Value.int (0 : Int32)), .val (Value.int (2 : Int32)), .val (Value.int (2 : Int32))] [(Value.int (0 : Int32)), (Value.ref a1)])) rfl (by rw [hml]; rfl) (Steps.refl _) (argsL := [(Value.int (0 : Int32))]) (rest := []) (lenOf own_pd0 rfl) rfl (by show 2 * 0 + _ ≤ _; exact Nat.le_of_eq rfl) (hb hby d8_16) (fun _ _ => ⟨rfl, e0, (by decide : 0 + 0 ≤ _), (by decide : 0 + 0 ≤ _)⟩)
  dsimp only [Pt.U, Pt.locs, Pt.cells, Pt.slots] at X1 l1 y1 z1 st1 hQ1
  subst l1 y1 z1
  refine own_Go.by (fun tq kq => st1.trans kq) ?_
  obtain ⟨rfl, rfl, e1⟩ := hQ1
  have N1 := Fr.app N0 (Fr.nil n0)
  show own_Go p.tables e below _ (T1.setTop (mkF m 19 #[.val (Value.ref a1), .val (Value.int (0 : Int32)), .val (Value.int (2 : Int32)), .val (Value.int (2 : Int32))] [(Value.int c0)]))
  refine own_Go.by (fun tq kq => XS.bipush X1.here hx rfl (hb hby d8_19) kq) ?_
  show own_Go p.tables e below _ (T1.setTop (mkF m 21 #[.val (Value.ref a1), .val (Value.int (0 : Int32)), .val (Value.int (2 : Int32)), .val (Value.int (2 : Int32))] [(Value.int (46 : Int32)), (Value.int c0)]))
  refine own_Go.by (fun tq kq => XS.icmpNo X1.here hx rfl (hb hby d8_21) rfl (teq hd0).2 kq) ?_
  show own_Go p.tables e below _ (T1.setTop (mkF m 24 #[.val (Value.ref a1), .val (Value.int (0 : Int32)), .val (Value.int (2 : Int32)), .val (Value.int (2 : Int32))] []))
  refine own_Go.by (fun tq kq => XS.aloadN X1.here hx rfl (hb hby d8_24) rfl rfl kq) ?_
  show own_Go p.tables e below _ (T1.setTop (mkF m 25 #[.val (Value.ref a1), .val (Value.int (0 : Int32)), .val (Value.int (2 : Int32)), .val (Value.int (2 : Int32))] [(Value.ref a1)]))
  refine own_Go.by (fun tq kq => XS.iloadN X1.here hx rfl (hb hby d8_25) rfl kq) ?_
  show own_Go p.tables e below _ (T1.setTop (mkF m 26 #[.val (Value.ref a1), .val (Value.int (0 : Int32)), .val (Value.int (2 : Int32)), .val (Value.int (2 : Int32))] [(Value.int (2 : Int32)), (Value.ref a1)]))
  refine own_Go.by (fun tq kq => XS.iconst X1.here hx rfl (hb hby d8_26) kq) ?_
  show own_Go p.tables e below _ (T1.setTop (mkF m 27 #[.val (Value.ref a1), .val (Value.int (0 : Int32)), .val (Value.int (2 : Int32)), .val (Value.int (2 : Int32))] [(Value.int (1 : Int32)), (Value.int (2 : Int32)), (Value.ref a1)]))
  refine own_Go.by (fun tq kq => XS.isub X1.here hx rfl (hb hby d8_27) rfl kq) ?_
  show own_Go p.tables e below _ (T1.setTop (mkF m 28 #[.val (Value.ref a1), .val (Value.int (0 : Int32)), .val (Value.int (2 : Int32)), .val (Value.int (2 : Int32))] [(Value.int (1 : Int32)), (Value.ref a1)]))
  have hcd2 : StrChars.Road.CodA ([c0, c1, c2, c3] : List Int32) 0 (4 : Int32) ((([c0, c1, c2, c3] : List Int32).map (fun c => c.toInt8.toInt32)).map Value.int) := StrChars.Road.codOf (n := 4) rfl (fun x hx => (hp x hx).2)
  obtain ⟨cq2, kq2, q2a, q2b, q2c⟩ := isOf hZ e1 H0
  obtain ⟨_, _, ⟨T2, L2, k2, n2⟩, -, X2, ⟨Lc2, hQ2, l2, y2, z2⟩, st2⟩ := X1.virtualBack hx (y := (⟨"java/lang/String", "charAt", "(I)C"⟩ : MethodName)) (z := (⟨"java/lang/String", "charAt", "(I)C"⟩ : MethodName)) hown (mvT hZ (hw _ (List.mem_of_getElem? (i := 39) rfl))) (mvT hZ (hw _ (List.mem_of_getElem? (i := 40) rfl))) (notFace_of_selects (args := #[]) (mvT hZ (hw _ (List.mem_of_getElem? (i := 42) rfl)))) (mvT hZ (hw _ (List.mem_of_getElem? (i := 42) rfl))) (mvT hZ (hw _ (List.mem_of_getElem? (i := 41) rfl))) (by decide) (StrChars.Road.chN (W := 0) hZ (fun d hd => hw d (own_hch d hd)) (kI := 4) (hw _ (List.mem_of_getElem? (i := 6) rfl)) H0 H1 H2 H3 hcd2 (own_up _ hp) (H5.ext O0.2) hzc (H6.ext O0.2) rvf (Nat.le_of_ble_eq_true rfl) (i := 1) (Nat.le_of_ble_eq_true rfl) (j := (1 : Int32)) rfl (by decide) (by decide)) q2a q2c (g := (mkF m 28 #[.val (Value.ref a1), .val (Value.int (0 : Int32)), .val (Value.int (2 : Int32)), .val (Value.int (2 : Int32))] [(Value.int (1 : Int32)), (Value.ref a1)])) rfl (by rw [hml]; rfl) (Steps.refl _) (argsL := [(Value.int (1 : Int32))]) (rest := []) (lenOf own_pd0 rfl) rfl (by show 2 * 0 + _ ≤ _; exact Nat.le_of_eq rfl) (hb hby d8_28) (fun _ _ => ⟨rfl, e1, (by decide : 0 + 0 ≤ _), (by decide : 0 + 0 ≤ _)⟩)
  dsimp only [Pt.U, Pt.locs, Pt.cells, Pt.slots] at X2 l2 y2 z2 st2 hQ2
  subst l2 y2 z2
  refine own_Go.by (fun tq kq => st2.trans kq) ?_
  obtain ⟨rfl, rfl, e2⟩ := hQ2
  have N2 := Fr.app N1 (Fr.nil n0)
  show own_Go p.tables e below _ (T2.setTop (mkF m 31 #[.val (Value.ref a1), .val (Value.int (0 : Int32)), .val (Value.int (2 : Int32)), .val (Value.int (2 : Int32))] [(Value.int c1)]))
  refine own_Go.by (fun tq kq => XS.bipush X2.here hx rfl (hb hby d8_31) kq) ?_
  show own_Go p.tables e below _ (T2.setTop (mkF m 33 #[.val (Value.ref a1), .val (Value.int (0 : Int32)), .val (Value.int (2 : Int32)), .val (Value.int (2 : Int32))] [(Value.int (46 : Int32)), (Value.int c1)]))
  refine own_Go.by (fun tq kq => XS.icmpYes X2.here hx rfl (pc0 := 33) (pc' := 40) rfl (hb hby d8_33) rfl (feq hd1).2 (by decide) (by decide) kq) ?_
  show own_Go p.tables e below _ (T2.setTop (mkF m 40 #[.val (Value.ref a1), .val (Value.int (0 : Int32)), .val (Value.int (2 : Int32)), .val (Value.int (2 : Int32))] []))
  refine own_Go.by (fun tq kq => XS.iconst X2.here hx rfl (hb hby d8_40) kq) ?_
  show own_Go p.tables e below _ (T2.setTop (mkF m 41 #[.val (Value.ref a1), .val (Value.int (0 : Int32)), .val (Value.int (2 : Int32)), .val (Value.int (2 : Int32))] [(Value.int (0 : Int32))]))
  obtain ⟨fs, hr, hrun, hended, hW, hsame⟩ := X2.leave (v := some (Value.int (nar .boolean (0 : Int32)))) (fun h => by rw [Bd.returns] at h; cases h)
  refine own_Go.fin (retN X2 hx (t := .boolean) Bd.returns (by simp) (hb hby d8_41) hr) ⟨hrun, hended, _, _, rfl, ?_, ⟨_, rfl⟩, hW, hsame.mono (by decide) (by decide)⟩
  show Q8_0_2_tf Z a1 t kb c0 c1 c2 c3 zc vf h0 n0 _ T2.heap _
  rw [e2]
  exact ⟨rfl, N2, rfl⟩

theorem own_ef_8_0_2_f (m : MethodId) (a1 : Addr) : entryFrame m #[(Value.ref a1), (Value.int (0 : Int32)), (Value.int (2 : Int32))] 4 = mkF m 0 #[.val (Value.ref a1), .val (Value.int (0 : Int32)), .val (Value.int (2 : Int32)), .unset] [] := by first | (simp [entryFrame, mkF, argsToLocals, Value.category]; done) | rfl
def Q8_0_2_f (Z : State) (a1 : Addr) (t : Addr) (kb : ClassId) (c0 : Int32) (c1 : Int32) (c2 : Int32) (c3 : Int32) (zc : Int32) (vf : Value) (h0 : Heap) (n0 : Nat) (v : Option Value) (h : Heap) (L : List Loc) : Prop := v = some (Value.int (0 : Int32)) ∧ Fr n0 L ∧ h = h0
set_option maxRecDepth 65536 in
set_option maxHeartbeats 40000000 in
theorem rm8_0_2_f (l : Launch) (Z : State) (a0 : Array Value) (hw : ∀ d ∈ tables_1, d.before a0 Z = true) (ws : List Jvm.Cond) (a1 : Addr) (t : Addr) (kb : ClassId) (c0 : Int32) (c1 : Int32) (c2 : Int32) (c3 : Int32) (zc : Int32) (vf : Value) (h0 : Heap) (n0 : Nat) (O0 : Old Z n0 h0) (H0 : Exa Z h0 a1 "java/lang/String") (H1 : Fld Z h0 a1 "java/lang/String" "value" "[B" (Value.ref t)) (H2 : Fld Z h0 a1 "java/lang/String" "coder" "B" (Value.int (0 : Int32))) (H3 : Arv Z h0 t kb .byte (4 : Int32) ((([c0, c1, c2, c3] : List Int32).map (fun c => c.toInt8.toInt32)).map Value.int) (Value.int (0 : Int32))) (hp : ∀ c ∈ ([c0, c1, c2, c3] : List Int32), ¬ c < 0 ∧ ¬ (255 : Int32) < c) (H5 : Sta Z Z.heap "java/lang/String" "COMPACT_STRINGS" "Z" (Value.int zc)) (H6 : Sta Z Z.heap "jdk/internal/util/Preconditions" "SIOOBE_FORMATTER" "Ljava/util/function/BiFunction;" vf) (hzc : ¬ (zc = (0 : Int32))) (rvf : vf.isRef = true) (hd0 : ¬ (c0 = (46 : Int32))) :
    MetFree l (⟨"com/example/enlace/enlace/DotSegments", "isDotSegment", "(Ljava/lang/String;II)Z"⟩ : MethodName) (head1 (Jvm.Cond.code (⟨"com/example/enlace/enlace/DotSegments", "isDotSegment", "(Ljava/lang/String;II)Z"⟩ : MethodName) prog_3_method_4_code 4 (some .boolean) :: ws) ({ frames := 4, cells := 0, slots := 0, locals := 53 } : Room)) (fun a U => a = #[(Value.ref a1), (Value.int (0 : Int32)), (Value.int (2 : Int32))] ∧ Z.Warmed39 U.vm ∧ U.heap = h0) (fun _ _ _ _ _ => True) (fun _ U o U' => ∃ v L, o = .returned v ∧ Q8_0_2_f Z a1 t kb c0 c1 c2 c3 zc vf h0 n0 v U'.heap L ∧ FrameEnd U o U' L ({ frames := 4, cells := 0, slots := 0, locals := 53 } : Room).cells ({ frames := 4, cells := 0, slots := 0, locals := 53 } : Room).slots) := by
  refine MetFree.of_bodySF (plainFor_of_name own_pn_com_example_enlace_enlace_DotSegments) hisR ?_
  intro p e s m args below meth c s₁ Bd hml0 hP hK
  obtain ⟨rfl, hZ, hh⟩ := hP
  have hx := Bd.exec
  have hby := Bd.bytes
  have hml : c.maxLocals = 4 := hml0
  have hown : s.vm.findClass "com/example/enlace/enlace/DotSegments" = some m.cls := findClass_of_methodNamed Bd.named
  have hnm := (name_of_methodNamed Bd.named Bd.method).1
  have X0 : Stand p l e ({ frames := 4, cells := 0, slots := 0, locals := 53 } : Room) s m #[(Value.ref a1), (Value.int (0 : Int32)), (Value.int (2 : Int32))] below meth c s₁ [] 0 0 := Stand.of_body Bd
  have e0 : s₁.heap = h0 := by rw [← hh, Bd.state]; rfl
  have N0 := Fr.nil n0
  have K0 : Keep h0 h0 [] := Keep.refl h0 []
  show own_Go p.tables e below _ (s₁.setTop (entryFrame m #[(Value.ref a1), (Value.int (0 : Int32)), (Value.int (2 : Int32))] 4))
  refine own_Go.by (fun tq kq => castTop (own_ef_8_0_2_f m a1) kq) ?_
  show own_Go p.tables e below _ (s₁.setTop (mkF m 0 #[.val (Value.ref a1), .val (Value.int (0 : Int32)), .val (Value.int (2 : Int32)), .unset] []))
  refine own_Go.by (fun tq kq => XS.iloadN X0.here hx rfl (hb hby d8_0) rfl kq) ?_
  show own_Go p.tables e below _ (s₁.setTop (mkF m 1 #[.val (Value.ref a1), .val (Value.int (0 : Int32)), .val (Value.int (2 : Int32)), .unset] [(Value.int (2 : Int32))]))
  refine own_Go.by (fun tq kq => XS.iloadN X0.here hx rfl (hb hby d8_1) rfl kq) ?_
  show own_Go p.tables e below _ (s₁.setTop (mkF m 2 #[.val (Value.ref a1), .val (Value.int (0 : Int32)), .val (Value.int (2 : Int32)), .unset] [(Value.int (0 : Int32)), (Value.int (2 : Int32))]))
  refine own_Go.by (fun tq kq => XS.isub X0.here hx rfl (hb hby d8_2) rfl kq) ?_
  show own_Go p.tables e below _ (s₁.setTop (mkF m 3 #[.val (Value.ref a1), .val (Value.int (0 : Int32)), .val (Value.int (2 : Int32)), .unset] [(Value.int (2 : Int32))]))
  refine own_Go.by (fun tq kq => XS.istoreN X0.here hx rfl (hb hby d8_3) rfl (l' := #[.val (Value.ref a1), .val (Value.int (0 : Int32)), .val (Value.int (2 : Int32)), .val (Value.int (2 : Int32))]) rfl kq) ?_
  show own_Go p.tables e below _ (s₁.setTop (mkF m 4 #[.val (Value.ref a1), .val (Value.int (0 : Int32)), .val (Value.int (2 : Int32)), .val (Value.int (2 : Int32))] []))
  refine own_Go.by (fun tq kq => XS.iloadN X0.here hx rfl (hb hby d8_4) rfl kq) ?_
  show own_Go p.tables e below _ (s₁.setTop (mkF m 5 #[.val (Value.ref a1), .val (Value.int (0 : Int32)), .val (Value.int (2 : Int32)), .val (Value.int (2 : Int32))] [(Value.int (2 : Int32))]))
  refine own_Go.by (fun tq kq => XS.iconst X0.here hx rfl (hb hby d8_5) kq) ?_
  show own_Go p.tables e below _ (s₁.setTop (mkF m 6 #[.val (Value.ref a1), .val (Value.int (0 : Int32)), .val (Value.int (2 : Int32)), .val (Value.int (2 : Int32))] [(Value.int (1 : Int32)), (Value.int (2 : Int32))]))
  refine own_Go.by (fun tq kq => XS.icmpNo X0.here hx rfl (hb hby d8_6) rfl (feq (by decide : ¬ ((2 : Int32) = (1 : Int32)))).1 kq) ?_
  show own_Go p.tables e below _ (s₁.setTop (mkF m 9 #[.val (Value.ref a1), .val (Value.int (0 : Int32)), .val (Value.int (2 : Int32)), .val (Value.int (2 : Int32))] []))
  refine own_Go.by (fun tq kq => XS.iloadN X0.here hx rfl (hb hby d8_9) rfl kq) ?_
  show own_Go p.tables e below _ (s₁.setTop (mkF m 10 #[.val (Value.ref a1), .val (Value.int (0 : Int32)), .val (Value.int (2 : Int32)), .val (Value.int (2 : Int32))] [(Value.int (2 : Int32))]))
  refine own_Go.by (fun tq kq => XS.iconst X0.here hx rfl (hb hby d8_10) kq) ?_
  show own_Go p.tables e below _ (s₁.setTop (mkF m 11 #[.val (Value.ref a1), .val (Value.int (0 : Int32)), .val (Value.int (2 : Int32)), .val (Value.int (2 : Int32))] [(Value.int (2 : Int32)), (Value.int (2 : Int32))]))
  refine own_Go.by (fun tq kq => XS.icmpNo X0.here hx rfl (hb hby d8_11) rfl (teq (by decide : (2 : Int32) = (2 : Int32))).2 kq) ?_
  show own_Go p.tables e below _ (s₁.setTop (mkF m 14 #[.val (Value.ref a1), .val (Value.int (0 : Int32)), .val (Value.int (2 : Int32)), .val (Value.int (2 : Int32))] []))
  refine own_Go.by (fun tq kq => XS.aloadN X0.here hx rfl (hb hby d8_14) rfl rfl kq) ?_
  show own_Go p.tables e below _ (s₁.setTop (mkF m 15 #[.val (Value.ref a1), .val (Value.int (0 : Int32)), .val (Value.int (2 : Int32)), .val (Value.int (2 : Int32))] [(Value.ref a1)]))
  refine own_Go.by (fun tq kq => XS.iloadN X0.here hx rfl (hb hby d8_15) rfl kq) ?_
  show own_Go p.tables e below _ (s₁.setTop (mkF m 16 #[.val (Value.ref a1), .val (Value.int (0 : Int32)), .val (Value.int (2 : Int32)), .val (Value.int (2 : Int32))] [(Value.int (0 : Int32)), (Value.ref a1)]))
  have hcd1 : StrChars.Road.CodA ([c0, c1, c2, c3] : List Int32) 0 (4 : Int32) ((([c0, c1, c2, c3] : List Int32).map (fun c => c.toInt8.toInt32)).map Value.int) := StrChars.Road.codOf (n := 4) rfl (fun x hx => (hp x hx).2)
  obtain ⟨cq1, kq1, q1a, q1b, q1c⟩ := isOf hZ e0 H0
  obtain ⟨_, _, ⟨T1, L1, k1, n1⟩, -, X1, ⟨Lc1, hQ1, l1, y1, z1⟩, st1⟩ := X0.virtualBack hx (y := (⟨"java/lang/String", "charAt", "(I)C"⟩ : MethodName)) (z := (⟨"java/lang/String", "charAt", "(I)C"⟩ : MethodName)) hown (mvT hZ (hw _ (List.mem_of_getElem? (i := 39) rfl))) (mvT hZ (hw _ (List.mem_of_getElem? (i := 40) rfl))) (notFace_of_selects (args := #[]) (mvT hZ (hw _ (List.mem_of_getElem? (i := 42) rfl)))) (mvT hZ (hw _ (List.mem_of_getElem? (i := 42) rfl))) (mvT hZ (hw _ (List.mem_of_getElem? (i := 41) rfl))) (by decide) (StrChars.Road.chN (W := 0) hZ (fun d hd => hw d (own_hch d hd)) (kI := 4) (hw _ (List.mem_of_getElem? (i := 6) rfl)) H0 H1 H2 H3 hcd1 (own_up _ hp) (H5.ext O0.2) hzc (H6.ext O0.2) rvf (Nat.le_of_ble_eq_true rfl) (i := 0) (Nat.le_of_ble_eq_true rfl) (j := (0 : Int32)) rfl (by decide) (by decide)) q1a q1c (g := (mkF m 16 #[.val (Value.ref a1), .val (Value.int (0 : Int32)), .val (Value.int (2 : Int32)), .val (Value.int (2 : Int32))] [(Value.int (0 : Int32)), (Value.ref a1)])) rfl (by rw [hml]; rfl) (Steps.refl _) (argsL := [(Value.int (0 : Int32))]) (rest := []) (lenOf own_pd0 rfl) rfl (by show 2 * 0 + _ ≤ _; exact Nat.le_of_eq rfl) (hb hby d8_16) (fun _ _ => ⟨rfl, e0, (by decide : 0 + 0 ≤ _), (by decide : 0 + 0 ≤ _)⟩)
  dsimp only [Pt.U, Pt.locs, Pt.cells, Pt.slots] at X1 l1 y1 z1 st1 hQ1
  subst l1 y1 z1
  refine own_Go.by (fun tq kq => st1.trans kq) ?_
  obtain ⟨rfl, rfl, e1⟩ := hQ1
  have N1 := Fr.app N0 (Fr.nil n0)
  show own_Go p.tables e below _ (T1.setTop (mkF m 19 #[.val (Value.ref a1), .val (Value.int (0 : Int32)), .val (Value.int (2 : Int32)), .val (Value.int (2 : Int32))] [(Value.int c0)]))
  refine own_Go.by (fun tq kq => XS.bipush X1.here hx rfl (hb hby d8_19) kq) ?_
  show own_Go p.tables e below _ (T1.setTop (mkF m 21 #[.val (Value.ref a1), .val (Value.int (0 : Int32)), .val (Value.int (2 : Int32)), .val (Value.int (2 : Int32))] [(Value.int (46 : Int32)), (Value.int c0)]))
  refine own_Go.by (fun tq kq => XS.icmpYes X1.here hx rfl (pc0 := 21) (pc' := 40) rfl (hb hby d8_21) rfl (feq hd0).2 (by decide) (by decide) kq) ?_
  show own_Go p.tables e below _ (T1.setTop (mkF m 40 #[.val (Value.ref a1), .val (Value.int (0 : Int32)), .val (Value.int (2 : Int32)), .val (Value.int (2 : Int32))] []))
  refine own_Go.by (fun tq kq => XS.iconst X1.here hx rfl (hb hby d8_40) kq) ?_
  show own_Go p.tables e below _ (T1.setTop (mkF m 41 #[.val (Value.ref a1), .val (Value.int (0 : Int32)), .val (Value.int (2 : Int32)), .val (Value.int (2 : Int32))] [(Value.int (0 : Int32))]))
  obtain ⟨fs, hr, hrun, hended, hW, hsame⟩ := X1.leave (v := some (Value.int (nar .boolean (0 : Int32)))) (fun h => by rw [Bd.returns] at h; cases h)
  refine own_Go.fin (retN X1 hx (t := .boolean) Bd.returns (by simp) (hb hby d8_41) hr) ⟨hrun, hended, _, _, rfl, ?_, ⟨_, rfl⟩, hW, hsame.mono (by decide) (by decide)⟩
  show Q8_0_2_f Z a1 t kb c0 c1 c2 c3 zc vf h0 n0 _ T1.heap _
  rw [e1]
  exact ⟨rfl, N1, rfl⟩

theorem own_ef_8_0_3_x (m : MethodId) (a1 : Addr) : entryFrame m #[(Value.ref a1), (Value.int (0 : Int32)), (Value.int (3 : Int32))] 4 = mkF m 0 #[.val (Value.ref a1), .val (Value.int (0 : Int32)), .val (Value.int (3 : Int32)), .unset] [] := by first | (simp [entryFrame, mkF, argsToLocals, Value.category]; done) | rfl
def Q8_0_3_x (Z : State) (a1 : Addr) (t : Addr) (kb : ClassId) (c0 : Int32) (c1 : Int32) (c2 : Int32) (c3 : Int32) (zc : Int32) (vf : Value) (h0 : Heap) (n0 : Nat) (v : Option Value) (h : Heap) (L : List Loc) : Prop := v = some (Value.int (0 : Int32)) ∧ Fr n0 L ∧ h = h0
set_option maxRecDepth 65536 in
set_option maxHeartbeats 40000000 in
theorem rm8_0_3_x (l : Launch) (Z : State) (a0 : Array Value) (hw : ∀ d ∈ tables_1, d.before a0 Z = true) (ws : List Jvm.Cond) (a1 : Addr) (t : Addr) (kb : ClassId) (c0 : Int32) (c1 : Int32) (c2 : Int32) (c3 : Int32) (zc : Int32) (vf : Value) (h0 : Heap) (n0 : Nat) (O0 : Old Z n0 h0) (H0 : Exa Z h0 a1 "java/lang/String") (H1 : Fld Z h0 a1 "java/lang/String" "value" "[B" (Value.ref t)) (H2 : Fld Z h0 a1 "java/lang/String" "coder" "B" (Value.int (0 : Int32))) (H3 : Arv Z h0 t kb .byte (4 : Int32) ((([c0, c1, c2, c3] : List Int32).map (fun c => c.toInt8.toInt32)).map Value.int) (Value.int (0 : Int32))) (hp : ∀ c ∈ ([c0, c1, c2, c3] : List Int32), ¬ c < 0 ∧ ¬ (255 : Int32) < c) (H5 : Sta Z Z.heap "java/lang/String" "COMPACT_STRINGS" "Z" (Value.int zc)) (H6 : Sta Z Z.heap "jdk/internal/util/Preconditions" "SIOOBE_FORMATTER" "Ljava/util/function/BiFunction;" vf) (hzc : ¬ (zc = (0 : Int32))) (rvf : vf.isRef = true) :
    MetFree l (⟨"com/example/enlace/enlace/DotSegments", "isDotSegment", "(Ljava/lang/String;II)Z"⟩ : MethodName) (head1 (Jvm.Cond.code (⟨"com/example/enlace/enlace/DotSegments", "isDotSegment", "(Ljava/lang/String;II)Z"⟩ : MethodName) prog_3_method_4_code 4 (some .boolean) :: ws) ({ frames := 0, cells := 0, slots := 0, locals := 0 } : Room)) (fun a U => a = #[(Value.ref a1), (Value.int (0 : Int32)), (Value.int (3 : Int32))] ∧ Z.Warmed39 U.vm ∧ U.heap = h0) (fun _ _ _ _ _ => True) (fun _ U o U' => ∃ v L, o = .returned v ∧ Q8_0_3_x Z a1 t kb c0 c1 c2 c3 zc vf h0 n0 v U'.heap L ∧ FrameEnd U o U' L ({ frames := 0, cells := 0, slots := 0, locals := 0 } : Room).cells ({ frames := 0, cells := 0, slots := 0, locals := 0 } : Room).slots) := by
  refine MetFree.of_bodySF (plainFor_of_name own_pn_com_example_enlace_enlace_DotSegments) hisR ?_
  intro p e s m args below meth c s₁ Bd hml0 hP hK
  obtain ⟨rfl, hZ, hh⟩ := hP
  have hx := Bd.exec
  have hby := Bd.bytes
  have hml : c.maxLocals = 4 := hml0
  have hown : s.vm.findClass "com/example/enlace/enlace/DotSegments" = some m.cls := findClass_of_methodNamed Bd.named
  have hnm := (name_of_methodNamed Bd.named Bd.method).1
  have X0 : Stand p l e ({ frames := 0, cells := 0, slots := 0, locals := 0 } : Room) s m #[(Value.ref a1), (Value.int (0 : Int32)), (Value.int (3 : Int32))] below meth c s₁ [] 0 0 := Stand.of_body Bd
  have e0 : s₁.heap = h0 := by rw [← hh, Bd.state]; rfl
  have N0 := Fr.nil n0
  have K0 : Keep h0 h0 [] := Keep.refl h0 []
  show own_Go p.tables e below _ (s₁.setTop (entryFrame m #[(Value.ref a1), (Value.int (0 : Int32)), (Value.int (3 : Int32))] 4))
  refine own_Go.by (fun tq kq => castTop (own_ef_8_0_3_x m a1) kq) ?_
  show own_Go p.tables e below _ (s₁.setTop (mkF m 0 #[.val (Value.ref a1), .val (Value.int (0 : Int32)), .val (Value.int (3 : Int32)), .unset] []))
  refine own_Go.by (fun tq kq => XS.iloadN X0.here hx rfl (hb hby d8_0) rfl kq) ?_
  show own_Go p.tables e below _ (s₁.setTop (mkF m 1 #[.val (Value.ref a1), .val (Value.int (0 : Int32)), .val (Value.int (3 : Int32)), .unset] [(Value.int (3 : Int32))]))
  refine own_Go.by (fun tq kq => XS.iloadN X0.here hx rfl (hb hby d8_1) rfl kq) ?_
  show own_Go p.tables e below _ (s₁.setTop (mkF m 2 #[.val (Value.ref a1), .val (Value.int (0 : Int32)), .val (Value.int (3 : Int32)), .unset] [(Value.int (0 : Int32)), (Value.int (3 : Int32))]))
  refine own_Go.by (fun tq kq => XS.isub X0.here hx rfl (hb hby d8_2) rfl kq) ?_
  show own_Go p.tables e below _ (s₁.setTop (mkF m 3 #[.val (Value.ref a1), .val (Value.int (0 : Int32)), .val (Value.int (3 : Int32)), .unset] [(Value.int (3 : Int32))]))
  refine own_Go.by (fun tq kq => XS.istoreN X0.here hx rfl (hb hby d8_3) rfl (l' := #[.val (Value.ref a1), .val (Value.int (0 : Int32)), .val (Value.int (3 : Int32)), .val (Value.int (3 : Int32))]) rfl kq) ?_
  show own_Go p.tables e below _ (s₁.setTop (mkF m 4 #[.val (Value.ref a1), .val (Value.int (0 : Int32)), .val (Value.int (3 : Int32)), .val (Value.int (3 : Int32))] []))
  refine own_Go.by (fun tq kq => XS.iloadN X0.here hx rfl (hb hby d8_4) rfl kq) ?_
  show own_Go p.tables e below _ (s₁.setTop (mkF m 5 #[.val (Value.ref a1), .val (Value.int (0 : Int32)), .val (Value.int (3 : Int32)), .val (Value.int (3 : Int32))] [(Value.int (3 : Int32))]))
  refine own_Go.by (fun tq kq => XS.iconst X0.here hx rfl (hb hby d8_5) kq) ?_
  show own_Go p.tables e below _ (s₁.setTop (mkF m 6 #[.val (Value.ref a1), .val (Value.int (0 : Int32)), .val (Value.int (3 : Int32)), .val (Value.int (3 : Int32))] [(Value.int (1 : Int32)), (Value.int (3 : Int32))]))
  refine own_Go.by (fun tq kq => XS.icmpNo X0.here hx rfl (hb hby d8_6) rfl (feq (by decide : ¬ ((3 : Int32) = (1 : Int32)))).1 kq) ?_
  show own_Go p.tables e below _ (s₁.setTop (mkF m 9 #[.val (Value.ref a1), .val (Value.int (0 : Int32)), .val (Value.int (3 : Int32)), .val (Value.int (3 : Int32))] []))
  refine own_Go.by (fun tq kq => XS.iloadN X0.here hx rfl (hb hby d8_9) rfl kq) ?_
  show own_Go p.tables e below _ (s₁.setTop (mkF m 10 #[.val (Value.ref a1), .val (Value.int (0 : Int32)), .val (Value.int (3 : Int32)), .val (Value.int (3 : Int32))] [(Value.int (3 : Int32))]))
  refine own_Go.by (fun tq kq => XS.iconst X0.here hx rfl (hb hby d8_10) kq) ?_
  show own_Go p.tables e below _ (s₁.setTop (mkF m 11 #[.val (Value.ref a1), .val (Value.int (0 : Int32)), .val (Value.int (3 : Int32)), .val (Value.int (3 : Int32))] [(Value.int (2 : Int32)), (Value.int (3 : Int32))]))
  refine own_Go.by (fun tq kq => XS.icmpYes X0.here hx rfl (pc0 := 11) (pc' := 40) rfl (hb hby d8_11) rfl (feq (by decide : ¬ ((3 : Int32) = (2 : Int32)))).2 (by decide) (by decide) kq) ?_
  show own_Go p.tables e below _ (s₁.setTop (mkF m 40 #[.val (Value.ref a1), .val (Value.int (0 : Int32)), .val (Value.int (3 : Int32)), .val (Value.int (3 : Int32))] []))
  refine own_Go.by (fun tq kq => XS.iconst X0.here hx rfl (hb hby d8_40) kq) ?_
  show own_Go p.tables e below _ (s₁.setTop (mkF m 41 #[.val (Value.ref a1), .val (Value.int (0 : Int32)), .val (Value.int (3 : Int32)), .val (Value.int (3 : Int32))] [(Value.int (0 : Int32))]))
  obtain ⟨fs, hr, hrun, hended, hW, hsame⟩ := X0.leave (v := some (Value.int (nar .boolean (0 : Int32)))) (fun h => by rw [Bd.returns] at h; cases h)
  refine own_Go.fin (retN X0 hx (t := .boolean) Bd.returns (by simp) (hb hby d8_41) hr) ⟨hrun, hended, _, _, rfl, ?_, ⟨_, rfl⟩, hW, hsame.mono (by decide) (by decide)⟩
  show Q8_0_3_x Z a1 t kb c0 c1 c2 c3 zc vf h0 n0 _ s₁.heap _
  rw [e0]
  exact ⟨rfl, N0, rfl⟩

theorem own_ef_8_0_4_x (m : MethodId) (a1 : Addr) : entryFrame m #[(Value.ref a1), (Value.int (0 : Int32)), (Value.int (4 : Int32))] 4 = mkF m 0 #[.val (Value.ref a1), .val (Value.int (0 : Int32)), .val (Value.int (4 : Int32)), .unset] [] := by first | (simp [entryFrame, mkF, argsToLocals, Value.category]; done) | rfl
def Q8_0_4_x (Z : State) (a1 : Addr) (t : Addr) (kb : ClassId) (c0 : Int32) (c1 : Int32) (c2 : Int32) (c3 : Int32) (zc : Int32) (vf : Value) (h0 : Heap) (n0 : Nat) (v : Option Value) (h : Heap) (L : List Loc) : Prop := v = some (Value.int (0 : Int32)) ∧ Fr n0 L ∧ h = h0
set_option maxRecDepth 65536 in
set_option maxHeartbeats 40000000 in
theorem rm8_0_4_x (l : Launch) (Z : State) (a0 : Array Value) (hw : ∀ d ∈ tables_1, d.before a0 Z = true) (ws : List Jvm.Cond) (a1 : Addr) (t : Addr) (kb : ClassId) (c0 : Int32) (c1 : Int32) (c2 : Int32) (c3 : Int32) (zc : Int32) (vf : Value) (h0 : Heap) (n0 : Nat) (O0 : Old Z n0 h0) (H0 : Exa Z h0 a1 "java/lang/String") (H1 : Fld Z h0 a1 "java/lang/String" "value" "[B" (Value.ref t)) (H2 : Fld Z h0 a1 "java/lang/String" "coder" "B" (Value.int (0 : Int32))) (H3 : Arv Z h0 t kb .byte (4 : Int32) ((([c0, c1, c2, c3] : List Int32).map (fun c => c.toInt8.toInt32)).map Value.int) (Value.int (0 : Int32))) (hp : ∀ c ∈ ([c0, c1, c2, c3] : List Int32), ¬ c < 0 ∧ ¬ (255 : Int32) < c) (H5 : Sta Z Z.heap "java/lang/String" "COMPACT_STRINGS" "Z" (Value.int zc)) (H6 : Sta Z Z.heap "jdk/internal/util/Preconditions" "SIOOBE_FORMATTER" "Ljava/util/function/BiFunction;" vf) (hzc : ¬ (zc = (0 : Int32))) (rvf : vf.isRef = true) :
    MetFree l (⟨"com/example/enlace/enlace/DotSegments", "isDotSegment", "(Ljava/lang/String;II)Z"⟩ : MethodName) (head1 (Jvm.Cond.code (⟨"com/example/enlace/enlace/DotSegments", "isDotSegment", "(Ljava/lang/String;II)Z"⟩ : MethodName) prog_3_method_4_code 4 (some .boolean) :: ws) ({ frames := 0, cells := 0, slots := 0, locals := 0 } : Room)) (fun a U => a = #[(Value.ref a1), (Value.int (0 : Int32)), (Value.int (4 : Int32))] ∧ Z.Warmed39 U.vm ∧ U.heap = h0) (fun _ _ _ _ _ => True) (fun _ U o U' => ∃ v L, o = .returned v ∧ Q8_0_4_x Z a1 t kb c0 c1 c2 c3 zc vf h0 n0 v U'.heap L ∧ FrameEnd U o U' L ({ frames := 0, cells := 0, slots := 0, locals := 0 } : Room).cells ({ frames := 0, cells := 0, slots := 0, locals := 0 } : Room).slots) := by
  refine MetFree.of_bodySF (plainFor_of_name own_pn_com_example_enlace_enlace_DotSegments) hisR ?_
  intro p e s m args below meth c s₁ Bd hml0 hP hK
  obtain ⟨rfl, hZ, hh⟩ := hP
  have hx := Bd.exec
  have hby := Bd.bytes
  have hml : c.maxLocals = 4 := hml0
  have hown : s.vm.findClass "com/example/enlace/enlace/DotSegments" = some m.cls := findClass_of_methodNamed Bd.named
  have hnm := (name_of_methodNamed Bd.named Bd.method).1
  have X0 : Stand p l e ({ frames := 0, cells := 0, slots := 0, locals := 0 } : Room) s m #[(Value.ref a1), (Value.int (0 : Int32)), (Value.int (4 : Int32))] below meth c s₁ [] 0 0 := Stand.of_body Bd
  have e0 : s₁.heap = h0 := by rw [← hh, Bd.state]; rfl
  have N0 := Fr.nil n0
  have K0 : Keep h0 h0 [] := Keep.refl h0 []
  show own_Go p.tables e below _ (s₁.setTop (entryFrame m #[(Value.ref a1), (Value.int (0 : Int32)), (Value.int (4 : Int32))] 4))
  refine own_Go.by (fun tq kq => castTop (own_ef_8_0_4_x m a1) kq) ?_
  show own_Go p.tables e below _ (s₁.setTop (mkF m 0 #[.val (Value.ref a1), .val (Value.int (0 : Int32)), .val (Value.int (4 : Int32)), .unset] []))
  refine own_Go.by (fun tq kq => XS.iloadN X0.here hx rfl (hb hby d8_0) rfl kq) ?_
  show own_Go p.tables e below _ (s₁.setTop (mkF m 1 #[.val (Value.ref a1), .val (Value.int (0 : Int32)), .val (Value.int (4 : Int32)), .unset] [(Value.int (4 : Int32))]))
  refine own_Go.by (fun tq kq => XS.iloadN X0.here hx rfl (hb hby d8_1) rfl kq) ?_
  show own_Go p.tables e below _ (s₁.setTop (mkF m 2 #[.val (Value.ref a1), .val (Value.int (0 : Int32)), .val (Value.int (4 : Int32)), .unset] [(Value.int (0 : Int32)), (Value.int (4 : Int32))]))
  refine own_Go.by (fun tq kq => XS.isub X0.here hx rfl (hb hby d8_2) rfl kq) ?_
  show own_Go p.tables e below _ (s₁.setTop (mkF m 3 #[.val (Value.ref a1), .val (Value.int (0 : Int32)), .val (Value.int (4 : Int32)), .unset] [(Value.int (4 : Int32))]))
  refine own_Go.by (fun tq kq => XS.istoreN X0.here hx rfl (hb hby d8_3) rfl (l' := #[.val (Value.ref a1), .val (Value.int (0 : Int32)), .val (Value.int (4 : Int32)), .val (Value.int (4 : Int32))]) rfl kq) ?_
  show own_Go p.tables e below _ (s₁.setTop (mkF m 4 #[.val (Value.ref a1), .val (Value.int (0 : Int32)), .val (Value.int (4 : Int32)), .val (Value.int (4 : Int32))] []))
  refine own_Go.by (fun tq kq => XS.iloadN X0.here hx rfl (hb hby d8_4) rfl kq) ?_
  show own_Go p.tables e below _ (s₁.setTop (mkF m 5 #[.val (Value.ref a1), .val (Value.int (0 : Int32)), .val (Value.int (4 : Int32)), .val (Value.int (4 : Int32))] [(Value.int (4 : Int32))]))
  refine own_Go.by (fun tq kq => XS.iconst X0.here hx rfl (hb hby d8_5) kq) ?_
  show own_Go p.tables e below _ (s₁.setTop (mkF m 6 #[.val (Value.ref a1), .val (Value.int (0 : Int32)), .val (Value.int (4 : Int32)), .val (Value.int (4 : Int32))] [(Value.int (1 : Int32)), (Value.int (4 : Int32))]))
  refine own_Go.by (fun tq kq => XS.icmpNo X0.here hx rfl (hb hby d8_6) rfl (feq (by decide : ¬ ((4 : Int32) = (1 : Int32)))).1 kq) ?_
  show own_Go p.tables e below _ (s₁.setTop (mkF m 9 #[.val (Value.ref a1), .val (Value.int (0 : Int32)), .val (Value.int (4 : Int32)), .val (Value.int (4 : Int32))] []))
  refine own_Go.by (fun tq kq => XS.iloadN X0.here hx rfl (hb hby d8_9) rfl kq) ?_
  show own_Go p.tables e below _ (s₁.setTop (mkF m 10 #[.val (Value.ref a1), .val (Value.int (0 : Int32)), .val (Value.int (4 : Int32)), .val (Value.int (4 : Int32))] [(Value.int (4 : Int32))]))
  refine own_Go.by (fun tq kq => XS.iconst X0.here hx rfl (hb hby d8_10) kq) ?_
  show own_Go p.tables e below _ (s₁.setTop (mkF m 11 #[.val (Value.ref a1), .val (Value.int (0 : Int32)), .val (Value.int (4 : Int32)), .val (Value.int (4 : Int32))] [(Value.int (2 : Int32)), (Value.int (4 : Int32))]))
  refine own_Go.by (fun tq kq => XS.icmpYes X0.here hx rfl (pc0 := 11) (pc' := 40) rfl (hb hby d8_11) rfl (feq (by decide : ¬ ((4 : Int32) = (2 : Int32)))).2 (by decide) (by decide) kq) ?_
  show own_Go p.tables e below _ (s₁.setTop (mkF m 40 #[.val (Value.ref a1), .val (Value.int (0 : Int32)), .val (Value.int (4 : Int32)), .val (Value.int (4 : Int32))] []))
  refine own_Go.by (fun tq kq => XS.iconst X0.here hx rfl (hb hby d8_40) kq) ?_
  show own_Go p.tables e below _ (s₁.setTop (mkF m 41 #[.val (Value.ref a1), .val (Value.int (0 : Int32)), .val (Value.int (4 : Int32)), .val (Value.int (4 : Int32))] [(Value.int (0 : Int32))]))
  obtain ⟨fs, hr, hrun, hended, hW, hsame⟩ := X0.leave (v := some (Value.int (nar .boolean (0 : Int32)))) (fun h => by rw [Bd.returns] at h; cases h)
  refine own_Go.fin (retN X0 hx (t := .boolean) Bd.returns (by simp) (hb hby d8_41) hr) ⟨hrun, hended, _, _, rfl, ?_, ⟨_, rfl⟩, hW, hsame.mono (by decide) (by decide)⟩
  show Q8_0_4_x Z a1 t kb c0 c1 c2 c3 zc vf h0 n0 _ s₁.heap _
  rw [e0]
  exact ⟨rfl, N0, rfl⟩

theorem own_ef_8_1_1_x (m : MethodId) (a1 : Addr) : entryFrame m #[(Value.ref a1), (Value.int (1 : Int32)), (Value.int (1 : Int32))] 4 = mkF m 0 #[.val (Value.ref a1), .val (Value.int (1 : Int32)), .val (Value.int (1 : Int32)), .unset] [] := by first | (simp [entryFrame, mkF, argsToLocals, Value.category]; done) | rfl
def Q8_1_1_x (Z : State) (a1 : Addr) (t : Addr) (kb : ClassId) (c0 : Int32) (c1 : Int32) (c2 : Int32) (c3 : Int32) (zc : Int32) (vf : Value) (h0 : Heap) (n0 : Nat) (v : Option Value) (h : Heap) (L : List Loc) : Prop := v = some (Value.int (0 : Int32)) ∧ Fr n0 L ∧ h = h0
set_option maxRecDepth 65536 in
set_option maxHeartbeats 40000000 in
theorem rm8_1_1_x (l : Launch) (Z : State) (a0 : Array Value) (hw : ∀ d ∈ tables_1, d.before a0 Z = true) (ws : List Jvm.Cond) (a1 : Addr) (t : Addr) (kb : ClassId) (c0 : Int32) (c1 : Int32) (c2 : Int32) (c3 : Int32) (zc : Int32) (vf : Value) (h0 : Heap) (n0 : Nat) (O0 : Old Z n0 h0) (H0 : Exa Z h0 a1 "java/lang/String") (H1 : Fld Z h0 a1 "java/lang/String" "value" "[B" (Value.ref t)) (H2 : Fld Z h0 a1 "java/lang/String" "coder" "B" (Value.int (0 : Int32))) (H3 : Arv Z h0 t kb .byte (4 : Int32) ((([c0, c1, c2, c3] : List Int32).map (fun c => c.toInt8.toInt32)).map Value.int) (Value.int (0 : Int32))) (hp : ∀ c ∈ ([c0, c1, c2, c3] : List Int32), ¬ c < 0 ∧ ¬ (255 : Int32) < c) (H5 : Sta Z Z.heap "java/lang/String" "COMPACT_STRINGS" "Z" (Value.int zc)) (H6 : Sta Z Z.heap "jdk/internal/util/Preconditions" "SIOOBE_FORMATTER" "Ljava/util/function/BiFunction;" vf) (hzc : ¬ (zc = (0 : Int32))) (rvf : vf.isRef = true) :
    MetFree l (⟨"com/example/enlace/enlace/DotSegments", "isDotSegment", "(Ljava/lang/String;II)Z"⟩ : MethodName) (head1 (Jvm.Cond.code (⟨"com/example/enlace/enlace/DotSegments", "isDotSegment", "(Ljava/lang/String;II)Z"⟩ : MethodName) prog_3_method_4_code 4 (some .boolean) :: ws) ({ frames := 0, cells := 0, slots := 0, locals := 0 } : Room)) (fun a U => a = #[(Value.ref a1), (Value.int (1 : Int32)), (Value.int (1 : Int32))] ∧ Z.Warmed39 U.vm ∧ U.heap = h0) (fun _ _ _ _ _ => True) (fun _ U o U' => ∃ v L, o = .returned v ∧ Q8_1_1_x Z a1 t kb c0 c1 c2 c3 zc vf h0 n0 v U'.heap L ∧ FrameEnd U o U' L ({ frames := 0, cells := 0, slots := 0, locals := 0 } : Room).cells ({ frames := 0, cells := 0, slots := 0, locals := 0 } : Room).slots) := by
  refine MetFree.of_bodySF (plainFor_of_name own_pn_com_example_enlace_enlace_DotSegments) hisR ?_
  intro p e s m args below meth c s₁ Bd hml0 hP hK
  obtain ⟨rfl, hZ, hh⟩ := hP
  have hx := Bd.exec
  have hby := Bd.bytes
  have hml : c.maxLocals = 4 := hml0
  have hown : s.vm.findClass "com/example/enlace/enlace/DotSegments" = some m.cls := findClass_of_methodNamed Bd.named
  have hnm := (name_of_methodNamed Bd.named Bd.method).1
  have X0 : Stand p l e ({ frames := 0, cells := 0, slots := 0, locals := 0 } : Room) s m #[(Value.ref a1), (Value.int (1 : Int32)), (Value.int (1 : Int32))] below meth c s₁ [] 0 0 := Stand.of_body Bd
  have e0 : s₁.heap = h0 := by rw [← hh, Bd.state]; rfl
  have N0 := Fr.nil n0
  have K0 : Keep h0 h0 [] := Keep.refl h0 []
  show own_Go p.tables e below _ (s₁.setTop (entryFrame m #[(Value.ref a1), (Value.int (1 : Int32)), (Value.int (1 : Int32))] 4))
  refine own_Go.by (fun tq kq => castTop (own_ef_8_1_1_x m a1) kq) ?_
  show own_Go p.tables e below _ (s₁.setTop (mkF m 0 #[.val (Value.ref a1), .val (Value.int (1 : Int32)), .val (Value.int (1 : Int32)), .unset] []))
  refine own_Go.by (fun tq kq => XS.iloadN X0.here hx rfl (hb hby d8_0) rfl kq) ?_
  show own_Go p.tables e below _ (s₁.setTop (mkF m 1 #[.val (Value.ref a1), .val (Value.int (1 : Int32)), .val (Value.int (1 : Int32)), .unset] [(Value.int (1 : Int32))]))
  refine own_Go.by (fun tq kq => XS.iloadN X0.here hx rfl (hb hby d8_1) rfl kq) ?_
  show own_Go p.tables e below _ (s₁.setTop (mkF m 2 #[.val (Value.ref a1), .val (Value.int (1 : Int32)), .val (Value.int (1 : Int32)), .unset] [(Value.int (1 : Int32)), (Value.int (1 : Int32))]))
  refine own_Go.by (fun tq kq => XS.isub X0.here hx rfl (hb hby d8_2) rfl kq) ?_
  show own_Go p.tables e below _ (s₁.setTop (mkF m 3 #[.val (Value.ref a1), .val (Value.int (1 : Int32)), .val (Value.int (1 : Int32)), .unset] [(Value.int (0 : Int32))]))
  refine own_Go.by (fun tq kq => XS.istoreN X0.here hx rfl (hb hby d8_3) rfl (l' := #[.val (Value.ref a1), .val (Value.int (1 : Int32)), .val (Value.int (1 : Int32)), .val (Value.int (0 : Int32))]) rfl kq) ?_
  show own_Go p.tables e below _ (s₁.setTop (mkF m 4 #[.val (Value.ref a1), .val (Value.int (1 : Int32)), .val (Value.int (1 : Int32)), .val (Value.int (0 : Int32))] []))
  refine own_Go.by (fun tq kq => XS.iloadN X0.here hx rfl (hb hby d8_4) rfl kq) ?_
  show own_Go p.tables e below _ (s₁.setTop (mkF m 5 #[.val (Value.ref a1), .val (Value.int (1 : Int32)), .val (Value.int (1 : Int32)), .val (Value.int (0 : Int32))] [(Value.int (0 : Int32))]))
  refine own_Go.by (fun tq kq => XS.iconst X0.here hx rfl (hb hby d8_5) kq) ?_
  show own_Go p.tables e below _ (s₁.setTop (mkF m 6 #[.val (Value.ref a1), .val (Value.int (1 : Int32)), .val (Value.int (1 : Int32)), .val (Value.int (0 : Int32))] [(Value.int (1 : Int32)), (Value.int (0 : Int32))]))
  refine own_Go.by (fun tq kq => XS.icmpNo X0.here hx rfl (hb hby d8_6) rfl (feq (by decide : ¬ ((0 : Int32) = (1 : Int32)))).1 kq) ?_
  show own_Go p.tables e below _ (s₁.setTop (mkF m 9 #[.val (Value.ref a1), .val (Value.int (1 : Int32)), .val (Value.int (1 : Int32)), .val (Value.int (0 : Int32))] []))
  refine own_Go.by (fun tq kq => XS.iloadN X0.here hx rfl (hb hby d8_9) rfl kq) ?_
  show own_Go p.tables e below _ (s₁.setTop (mkF m 10 #[.val (Value.ref a1), .val (Value.int (1 : Int32)), .val (Value.int (1 : Int32)), .val (Value.int (0 : Int32))] [(Value.int (0 : Int32))]))
  refine own_Go.by (fun tq kq => XS.iconst X0.here hx rfl (hb hby d8_10) kq) ?_
  show own_Go p.tables e below _ (s₁.setTop (mkF m 11 #[.val (Value.ref a1), .val (Value.int (1 : Int32)), .val (Value.int (1 : Int32)), .val (Value.int (0 : Int32))] [(Value.int (2 : Int32)), (Value.int (0 : Int32))]))
  refine own_Go.by (fun tq kq => XS.icmpYes X0.here hx rfl (pc0 := 11) (pc' := 40) rfl (hb hby d8_11) rfl (feq (by decide : ¬ ((0 : Int32) = (2 : Int32)))).2 (by decide) (by decide) kq) ?_
  show own_Go p.tables e below _ (s₁.setTop (mkF m 40 #[.val (Value.ref a1), .val (Value.int (1 : Int32)), .val (Value.int (1 : Int32)), .val (Value.int (0 : Int32))] []))
  refine own_Go.by (fun tq kq => XS.iconst X0.here hx rfl (hb hby d8_40) kq) ?_
  show own_Go p.tables e below _ (s₁.setTop (mkF m 41 #[.val (Value.ref a1), .val (Value.int (1 : Int32)), .val (Value.int (1 : Int32)), .val (Value.int (0 : Int32))] [(Value.int (0 : Int32))]))
  obtain ⟨fs, hr, hrun, hended, hW, hsame⟩ := X0.leave (v := some (Value.int (nar .boolean (0 : Int32)))) (fun h => by rw [Bd.returns] at h; cases h)
  refine own_Go.fin (retN X0 hx (t := .boolean) Bd.returns (by simp) (hb hby d8_41) hr) ⟨hrun, hended, _, _, rfl, ?_, ⟨_, rfl⟩, hW, hsame.mono (by decide) (by decide)⟩
  show Q8_1_1_x Z a1 t kb c0 c1 c2 c3 zc vf h0 n0 _ s₁.heap _
  rw [e0]
  exact ⟨rfl, N0, rfl⟩

theorem own_ef_8_1_2_t (m : MethodId) (a1 : Addr) : entryFrame m #[(Value.ref a1), (Value.int (1 : Int32)), (Value.int (2 : Int32))] 4 = mkF m 0 #[.val (Value.ref a1), .val (Value.int (1 : Int32)), .val (Value.int (2 : Int32)), .unset] [] := by first | (simp [entryFrame, mkF, argsToLocals, Value.category]; done) | rfl
def Q8_1_2_t (Z : State) (a1 : Addr) (t : Addr) (kb : ClassId) (c0 : Int32) (c1 : Int32) (c2 : Int32) (c3 : Int32) (zc : Int32) (vf : Value) (h0 : Heap) (n0 : Nat) (v : Option Value) (h : Heap) (L : List Loc) : Prop := v = some (Value.int (1 : Int32)) ∧ Fr n0 L ∧ h = h0
set_option maxRecDepth 65536 in
set_option maxHeartbeats 40000000 in
theorem rm8_1_2_t (l : Launch) (Z : State) (a0 : Array Value) (hw : ∀ d ∈ tables_1, d.before a0 Z = true) (ws : List Jvm.Cond) (a1 : Addr) (t : Addr) (kb : ClassId) (c0 : Int32) (c1 : Int32) (c2 : Int32) (c3 : Int32) (zc : Int32) (vf : Value) (h0 : Heap) (n0 : Nat) (O0 : Old Z n0 h0) (H0 : Exa Z h0 a1 "java/lang/String") (H1 : Fld Z h0 a1 "java/lang/String" "value" "[B" (Value.ref t)) (H2 : Fld Z h0 a1 "java/lang/String" "coder" "B" (Value.int (0 : Int32))) (H3 : Arv Z h0 t kb .byte (4 : Int32) ((([c0, c1, c2, c3] : List Int32).map (fun c => c.toInt8.toInt32)).map Value.int) (Value.int (0 : Int32))) (hp : ∀ c ∈ ([c0, c1, c2, c3] : List Int32), ¬ c < 0 ∧ ¬ (255 : Int32) < c) (H5 : Sta Z Z.heap "java/lang/String" "COMPACT_STRINGS" "Z" (Value.int zc)) (H6 : Sta Z Z.heap "jdk/internal/util/Preconditions" "SIOOBE_FORMATTER" "Ljava/util/function/BiFunction;" vf) (hzc : ¬ (zc = (0 : Int32))) (rvf : vf.isRef = true) (hd0 : c1 = (46 : Int32)) :
    MetFree l (⟨"com/example/enlace/enlace/DotSegments", "isDotSegment", "(Ljava/lang/String;II)Z"⟩ : MethodName) (head1 (Jvm.Cond.code (⟨"com/example/enlace/enlace/DotSegments", "isDotSegment", "(Ljava/lang/String;II)Z"⟩ : MethodName) prog_3_method_4_code 4 (some .boolean) :: ws) ({ frames := 4, cells := 0, slots := 0, locals := 53 } : Room)) (fun a U => a = #[(Value.ref a1), (Value.int (1 : Int32)), (Value.int (2 : Int32))] ∧ Z.Warmed39 U.vm ∧ U.heap = h0) (fun _ _ _ _ _ => True) (fun _ U o U' => ∃ v L, o = .returned v ∧ Q8_1_2_t Z a1 t kb c0 c1 c2 c3 zc vf h0 n0 v U'.heap L ∧ FrameEnd U o U' L ({ frames := 4, cells := 0, slots := 0, locals := 53 } : Room).cells ({ frames := 4, cells := 0, slots := 0, locals := 53 } : Room).slots) := by
  refine MetFree.of_bodySF (plainFor_of_name own_pn_com_example_enlace_enlace_DotSegments) hisR ?_
  intro p e s m args below meth c s₁ Bd hml0 hP hK
  obtain ⟨rfl, hZ, hh⟩ := hP
  have hx := Bd.exec
  have hby := Bd.bytes
  have hml : c.maxLocals = 4 := hml0
  have hown : s.vm.findClass "com/example/enlace/enlace/DotSegments" = some m.cls := findClass_of_methodNamed Bd.named
  have hnm := (name_of_methodNamed Bd.named Bd.method).1
  have X0 : Stand p l e ({ frames := 4, cells := 0, slots := 0, locals := 53 } : Room) s m #[(Value.ref a1), (Value.int (1 : Int32)), (Value.int (2 : Int32))] below meth c s₁ [] 0 0 := Stand.of_body Bd
  have e0 : s₁.heap = h0 := by rw [← hh, Bd.state]; rfl
  have N0 := Fr.nil n0
  have K0 : Keep h0 h0 [] := Keep.refl h0 []
  show own_Go p.tables e below _ (s₁.setTop (entryFrame m #[(Value.ref a1), (Value.int (1 : Int32)), (Value.int (2 : Int32))] 4))
  refine own_Go.by (fun tq kq => castTop (own_ef_8_1_2_t m a1) kq) ?_
  show own_Go p.tables e below _ (s₁.setTop (mkF m 0 #[.val (Value.ref a1), .val (Value.int (1 : Int32)), .val (Value.int (2 : Int32)), .unset] []))
  refine own_Go.by (fun tq kq => XS.iloadN X0.here hx rfl (hb hby d8_0) rfl kq) ?_
  show own_Go p.tables e below _ (s₁.setTop (mkF m 1 #[.val (Value.ref a1), .val (Value.int (1 : Int32)), .val (Value.int (2 : Int32)), .unset] [(Value.int (2 : Int32))]))
  refine own_Go.by (fun tq kq => XS.iloadN X0.here hx rfl (hb hby d8_1) rfl kq) ?_
  show own_Go p.tables e below _ (s₁.setTop (mkF m 2 #[.val (Value.ref a1), .val (Value.int (1 : Int32)), .val (Value.int (2 : Int32)), .unset] [(Value.int (1 : Int32)), (Value.int (2 : Int32))]))
  refine own_Go.by (fun tq kq => XS.isub X0.here hx rfl (hb hby d8_2) rfl kq) ?_
  show own_Go p.tables e below _ (s₁.setTop (mkF m 3 #[.val (Value.ref a1), .val (Value.int (1 : Int32)), .val (Value.int (2 : Int32)), .unset] [(Value.int (1 : Int32))]))
  refine own_Go.by (fun tq kq => XS.istoreN X0.here hx rfl (hb hby d8_3) rfl (l' := #[.val (Value.ref a1), .val (Value.int (1 : Int32)), .val (Value.int (2 : Int32)), .val (Value.int (1 : Int32))]) rfl kq) ?_
  show own_Go p.tables e below _ (s₁.setTop (mkF m 4 #[.val (Value.ref a1), .val (Value.int (1 : Int32)), .val (Value.int (2 : Int32)), .val (Value.int (1 : Int32))] []))
  refine own_Go.by (fun tq kq => XS.iloadN X0.here hx rfl (hb hby d8_4) rfl kq) ?_
  show own_Go p.tables e below _ (s₁.setTop (mkF m 5 #[.val (Value.ref a1), .val (Value.int (1 : Int32)), .val (Value.int (2 : Int32)), .val (Value.int (1 : Int32))] [(Value.int (1 : Int32))]))
  refine own_Go.by (fun tq kq => XS.iconst X0.here hx rfl (hb hby d8_5) kq) ?_
  show own_Go p.tables e below _ (s₁.setTop (mkF m 6 #[.val (Value.ref a1), .val (Value.int (1 : Int32)), .val (Value.int (2 : Int32)), .val (Value.int (1 : Int32))] [(Value.int (1 : Int32)), (Value.int (1 : Int32))]))
  refine own_Go.by (fun tq kq => XS.icmpYes X0.here hx rfl (pc0 := 6) (pc' := 14) rfl (hb hby d8_6) rfl (teq (by decide : (1 : Int32) = (1 : Int32))).1 (by decide) (by decide) kq) ?_
  show own_Go p.tables e below _ (s₁.setTop (mkF m 14 #[.val (Value.ref a1), .val (Value.int (1 : Int32)), .val (Value.int (2 : Int32)), .val (Value.int (1 : Int32))] []))
  refine own_Go.by (fun tq kq => XS.aloadN X0.here hx rfl (hb hby d8_14) rfl rfl kq) ?_
  show own_Go p.tables e below _ (s₁.setTop (mkF m 15 #[.val (Value.ref a1), .val (Value.int (1 : Int32)), .val (Value.int (2 : Int32)), .val (Value.int (1 : Int32))] [(Value.ref a1)]))
  refine own_Go.by (fun tq kq => XS.iloadN X0.here hx rfl (hb hby d8_15) rfl kq) ?_
  show own_Go p.tables e below _ (s₁.setTop (mkF m 16 #[.val (Value.ref a1), .val (Value.int (1 : Int32)), .val (Value.int (2 : Int32)), .val (Value.int (1 : Int32))] [(Value.int (1 : Int32)), (Value.ref a1)]))
  have hcd1 : StrChars.Road.CodA ([c0, c1, c2, c3] : List Int32) 0 (4 : Int32) ((([c0, c1, c2, c3] : List Int32).map (fun c => c.toInt8.toInt32)).map Value.int) := StrChars.Road.codOf (n := 4) rfl (fun x hx => (hp x hx).2)
  obtain ⟨cq1, kq1, q1a, q1b, q1c⟩ := isOf hZ e0 H0
  obtain ⟨_, _, ⟨T1, L1, k1, n1⟩, -, X1, ⟨Lc1, hQ1, l1, y1, z1⟩, st1⟩ := X0.virtualBack hx (y := (⟨"java/lang/String", "charAt", "(I)C"⟩ : MethodName)) (z := (⟨"java/lang/String", "charAt", "(I)C"⟩ : MethodName)) hown (mvT hZ (hw _ (List.mem_of_getElem? (i := 39) rfl))) (mvT hZ (hw _ (List.mem_of_getElem? (i := 40) rfl))) (notFace_of_selects (args := #[]) (mvT hZ (hw _ (List.mem_of_getElem? (i := 42) rfl)))) (mvT hZ (hw _ (List.mem_of_getElem? (i := 42) rfl))) (mvT hZ (hw _ (List.mem_of_getElem? (i := 41) rfl))) (by decide) (StrChars.Road.chN (W := 0) hZ (fun d hd => hw d (own_hch d hd)) (kI := 4) (hw _ (List.mem_of_getElem? (i := 6) rfl)) H0 H1 H2 H3 hcd1 (own_up _ hp) (H5.ext O0.2) hzc (H6.ext O0.2) rvf (Nat.le_of_ble_eq_true rfl) (i := 1) (Nat.le_of_ble_eq_true rfl) (j := (1 : Int32)) rfl (by decide) (by decide)) q1a q1c (g := (mkF m 16 #[.val (Value.ref a1), .val (Value.int (1 : Int32)), .val (Value.int (2 : Int32)), .val (Value.int (1 : Int32))] [(Value.int (1 : Int32)), (Value.ref a1)])) rfl (by rw [hml]; rfl) (Steps.refl _) (argsL := [(Value.int (1 : Int32))]) (rest := []) (lenOf own_pd0 rfl) rfl (by show 2 * 0 + _ ≤ _; exact Nat.le_of_eq rfl) (hb hby d8_16) (fun _ _ => ⟨rfl, e0, (by decide : 0 + 0 ≤ _), (by decide : 0 + 0 ≤ _)⟩)
  dsimp only [Pt.U, Pt.locs, Pt.cells, Pt.slots] at X1 l1 y1 z1 st1 hQ1
  subst l1 y1 z1
  refine own_Go.by (fun tq kq => st1.trans kq) ?_
  obtain ⟨rfl, rfl, e1⟩ := hQ1
  have N1 := Fr.app N0 (Fr.nil n0)
  show own_Go p.tables e below _ (T1.setTop (mkF m 19 #[.val (Value.ref a1), .val (Value.int (1 : Int32)), .val (Value.int (2 : Int32)), .val (Value.int (1 : Int32))] [(Value.int c1)]))
  refine own_Go.by (fun tq kq => XS.bipush X1.here hx rfl (hb hby d8_19) kq) ?_
  show own_Go p.tables e below _ (T1.setTop (mkF m 21 #[.val (Value.ref a1), .val (Value.int (1 : Int32)), .val (Value.int (2 : Int32)), .val (Value.int (1 : Int32))] [(Value.int (46 : Int32)), (Value.int c1)]))
  refine own_Go.by (fun tq kq => XS.icmpNo X1.here hx rfl (hb hby d8_21) rfl (teq hd0).2 kq) ?_
  show own_Go p.tables e below _ (T1.setTop (mkF m 24 #[.val (Value.ref a1), .val (Value.int (1 : Int32)), .val (Value.int (2 : Int32)), .val (Value.int (1 : Int32))] []))
  refine own_Go.by (fun tq kq => XS.aloadN X1.here hx rfl (hb hby d8_24) rfl rfl kq) ?_
  show own_Go p.tables e below _ (T1.setTop (mkF m 25 #[.val (Value.ref a1), .val (Value.int (1 : Int32)), .val (Value.int (2 : Int32)), .val (Value.int (1 : Int32))] [(Value.ref a1)]))
  refine own_Go.by (fun tq kq => XS.iloadN X1.here hx rfl (hb hby d8_25) rfl kq) ?_
  show own_Go p.tables e below _ (T1.setTop (mkF m 26 #[.val (Value.ref a1), .val (Value.int (1 : Int32)), .val (Value.int (2 : Int32)), .val (Value.int (1 : Int32))] [(Value.int (2 : Int32)), (Value.ref a1)]))
  refine own_Go.by (fun tq kq => XS.iconst X1.here hx rfl (hb hby d8_26) kq) ?_
  show own_Go p.tables e below _ (T1.setTop (mkF m 27 #[.val (Value.ref a1), .val (Value.int (1 : Int32)), .val (Value.int (2 : Int32)), .val (Value.int (1 : Int32))] [(Value.int (1 : Int32)), (Value.int (2 : Int32)), (Value.ref a1)]))
  refine own_Go.by (fun tq kq => XS.isub X1.here hx rfl (hb hby d8_27) rfl kq) ?_
  show own_Go p.tables e below _ (T1.setTop (mkF m 28 #[.val (Value.ref a1), .val (Value.int (1 : Int32)), .val (Value.int (2 : Int32)), .val (Value.int (1 : Int32))] [(Value.int (1 : Int32)), (Value.ref a1)]))
  have hcd2 : StrChars.Road.CodA ([c0, c1, c2, c3] : List Int32) 0 (4 : Int32) ((([c0, c1, c2, c3] : List Int32).map (fun c => c.toInt8.toInt32)).map Value.int) := StrChars.Road.codOf (n := 4) rfl (fun x hx => (hp x hx).2)
  obtain ⟨cq2, kq2, q2a, q2b, q2c⟩ := isOf hZ e1 H0
  obtain ⟨_, _, ⟨T2, L2, k2, n2⟩, -, X2, ⟨Lc2, hQ2, l2, y2, z2⟩, st2⟩ := X1.virtualBack hx (y := (⟨"java/lang/String", "charAt", "(I)C"⟩ : MethodName)) (z := (⟨"java/lang/String", "charAt", "(I)C"⟩ : MethodName)) hown (mvT hZ (hw _ (List.mem_of_getElem? (i := 39) rfl))) (mvT hZ (hw _ (List.mem_of_getElem? (i := 40) rfl))) (notFace_of_selects (args := #[]) (mvT hZ (hw _ (List.mem_of_getElem? (i := 42) rfl)))) (mvT hZ (hw _ (List.mem_of_getElem? (i := 42) rfl))) (mvT hZ (hw _ (List.mem_of_getElem? (i := 41) rfl))) (by decide) (StrChars.Road.chN (W := 0) hZ (fun d hd => hw d (own_hch d hd)) (kI := 4) (hw _ (List.mem_of_getElem? (i := 6) rfl)) H0 H1 H2 H3 hcd2 (own_up _ hp) (H5.ext O0.2) hzc (H6.ext O0.2) rvf (Nat.le_of_ble_eq_true rfl) (i := 1) (Nat.le_of_ble_eq_true rfl) (j := (1 : Int32)) rfl (by decide) (by decide)) q2a q2c (g := (mkF m 28 #[.val (Value.ref a1), .val (Value.int (1 : Int32)), .val (Value.int (2 : Int32)), .val (Value.int (1 : Int32))] [(Value.int (1 : Int32)), (Value.ref a1)])) rfl (by rw [hml]; rfl) (Steps.refl _) (argsL := [(Value.int (1 : Int32))]) (rest := []) (lenOf own_pd0 rfl) rfl (by show 2 * 0 + _ ≤ _; exact Nat.le_of_eq rfl) (hb hby d8_28) (fun _ _ => ⟨rfl, e1, (by decide : 0 + 0 ≤ _), (by decide : 0 + 0 ≤ _)⟩)
  dsimp only [Pt.U, Pt.locs, Pt.cells, Pt.slots] at X2 l2 y2 z2 st2 hQ2
  subst l2 y2 z2
  refine own_Go.by (fun tq kq => st2.trans kq) ?_
  obtain ⟨rfl, rfl, e2⟩ := hQ2
  have N2 := Fr.app N1 (Fr.nil n0)
  show own_Go p.tables e below _ (T2.setTop (mkF m 31 #[.val (Value.ref a1), .val (Value.int (1 : Int32)), .val (Value.int (2 : Int32)), .val (Value.int (1 : Int32))] [(Value.int c1)]))
  refine own_Go.by (fun tq kq => XS.bipush X2.here hx rfl (hb hby d8_31) kq) ?_
  show own_Go p.tables e below _ (T2.setTop (mkF m 33 #[.val (Value.ref a1), .val (Value.int (1 : Int32)), .val (Value.int (2 : Int32)), .val (Value.int (1 : Int32))] [(Value.int (46 : Int32)), (Value.int c1)]))
  refine own_Go.by (fun tq kq => XS.icmpNo X2.here hx rfl (hb hby d8_33) rfl (teq hd0).2 kq) ?_
  show own_Go p.tables e below _ (T2.setTop (mkF m 36 #[.val (Value.ref a1), .val (Value.int (1 : Int32)), .val (Value.int (2 : Int32)), .val (Value.int (1 : Int32))] []))
  refine own_Go.by (fun tq kq => XS.iconst X2.here hx rfl (hb hby d8_36) kq) ?_
  show own_Go p.tables e below _ (T2.setTop (mkF m 37 #[.val (Value.ref a1), .val (Value.int (1 : Int32)), .val (Value.int (2 : Int32)), .val (Value.int (1 : Int32))] [(Value.int (1 : Int32))]))
  refine own_Go.by (fun tq kq => XS.goto X2.here hx rfl (pc0 := 37) (pc' := 41) rfl (hb hby d8_37) (by decide) (by decide) kq) ?_
  show own_Go p.tables e below _ (T2.setTop (mkF m 41 #[.val (Value.ref a1), .val (Value.int (1 : Int32)), .val (Value.int (2 : Int32)), .val (Value.int (1 : Int32))] [(Value.int (1 : Int32))]))
  obtain ⟨fs, hr, hrun, hended, hW, hsame⟩ := X2.leave (v := some (Value.int (nar .boolean (1 : Int32)))) (fun h => by rw [Bd.returns] at h; cases h)
  refine own_Go.fin (retN X2 hx (t := .boolean) Bd.returns (by simp) (hb hby d8_41) hr) ⟨hrun, hended, _, _, rfl, ?_, ⟨_, rfl⟩, hW, hsame.mono (by decide) (by decide)⟩
  show Q8_1_2_t Z a1 t kb c0 c1 c2 c3 zc vf h0 n0 _ T2.heap _
  rw [e2]
  exact ⟨rfl, N2, rfl⟩

theorem own_ef_8_1_2_f (m : MethodId) (a1 : Addr) : entryFrame m #[(Value.ref a1), (Value.int (1 : Int32)), (Value.int (2 : Int32))] 4 = mkF m 0 #[.val (Value.ref a1), .val (Value.int (1 : Int32)), .val (Value.int (2 : Int32)), .unset] [] := by first | (simp [entryFrame, mkF, argsToLocals, Value.category]; done) | rfl
def Q8_1_2_f (Z : State) (a1 : Addr) (t : Addr) (kb : ClassId) (c0 : Int32) (c1 : Int32) (c2 : Int32) (c3 : Int32) (zc : Int32) (vf : Value) (h0 : Heap) (n0 : Nat) (v : Option Value) (h : Heap) (L : List Loc) : Prop := v = some (Value.int (0 : Int32)) ∧ Fr n0 L ∧ h = h0
set_option maxRecDepth 65536 in
set_option maxHeartbeats 40000000 in
theorem rm8_1_2_f (l : Launch) (Z : State) (a0 : Array Value) (hw : ∀ d ∈ tables_1, d.before a0 Z = true) (ws : List Jvm.Cond) (a1 : Addr) (t : Addr) (kb : ClassId) (c0 : Int32) (c1 : Int32) (c2 : Int32) (c3 : Int32) (zc : Int32) (vf : Value) (h0 : Heap) (n0 : Nat) (O0 : Old Z n0 h0) (H0 : Exa Z h0 a1 "java/lang/String") (H1 : Fld Z h0 a1 "java/lang/String" "value" "[B" (Value.ref t)) (H2 : Fld Z h0 a1 "java/lang/String" "coder" "B" (Value.int (0 : Int32))) (H3 : Arv Z h0 t kb .byte (4 : Int32) ((([c0, c1, c2, c3] : List Int32).map (fun c => c.toInt8.toInt32)).map Value.int) (Value.int (0 : Int32))) (hp : ∀ c ∈ ([c0, c1, c2, c3] : List Int32), ¬ c < 0 ∧ ¬ (255 : Int32) < c) (H5 : Sta Z Z.heap "java/lang/String" "COMPACT_STRINGS" "Z" (Value.int zc)) (H6 : Sta Z Z.heap "jdk/internal/util/Preconditions" "SIOOBE_FORMATTER" "Ljava/util/function/BiFunction;" vf) (hzc : ¬ (zc = (0 : Int32))) (rvf : vf.isRef = true) (hd0 : ¬ (c1 = (46 : Int32))) :
    MetFree l (⟨"com/example/enlace/enlace/DotSegments", "isDotSegment", "(Ljava/lang/String;II)Z"⟩ : MethodName) (head1 (Jvm.Cond.code (⟨"com/example/enlace/enlace/DotSegments", "isDotSegment", "(Ljava/lang/String;II)Z"⟩ : MethodName) prog_3_method_4_code 4 (some .boolean) :: ws) ({ frames := 4, cells := 0, slots := 0, locals := 53 } : Room)) (fun a U => a = #[(Value.ref a1), (Value.int (1 : Int32)), (Value.int (2 : Int32))] ∧ Z.Warmed39 U.vm ∧ U.heap = h0) (fun _ _ _ _ _ => True) (fun _ U o U' => ∃ v L, o = .returned v ∧ Q8_1_2_f Z a1 t kb c0 c1 c2 c3 zc vf h0 n0 v U'.heap L ∧ FrameEnd U o U' L ({ frames := 4, cells := 0, slots := 0, locals := 53 } : Room).cells ({ frames := 4, cells := 0, slots := 0, locals := 53 } : Room).slots) := by
  refine MetFree.of_bodySF (plainFor_of_name own_pn_com_example_enlace_enlace_DotSegments) hisR ?_
  intro p e s m args below meth c s₁ Bd hml0 hP hK
  obtain ⟨rfl, hZ, hh⟩ := hP
  have hx := Bd.exec
  have hby := Bd.bytes
  have hml : c.maxLocals = 4 := hml0
  have hown : s.vm.findClass "com/example/enlace/enlace/DotSegments" = some m.cls := findClass_of_methodNamed Bd.named
  have hnm := (name_of_methodNamed Bd.named Bd.method).1
  have X0 : Stand p l e ({ frames := 4, cells := 0, slots := 0, locals := 53 } : Room) s m #[(Value.ref a1), (Value.int (1 : Int32)), (Value.int (2 : Int32))] below meth c s₁ [] 0 0 := Stand.of_body Bd
  have e0 : s₁.heap = h0 := by rw [← hh, Bd.state]; rfl
  have N0 := Fr.nil n0
  have K0 : Keep h0 h0 [] := Keep.refl h0 []
  show own_Go p.tables e below _ (s₁.setTop (entryFrame m #[(Value.ref a1), (Value.int (1 : Int32)), (Value.int (2 : Int32))] 4))
  refine own_Go.by (fun tq kq => castTop (own_ef_8_1_2_f m a1) kq) ?_
  show own_Go p.tables e below _ (s₁.setTop (mkF m 0 #[.val (Value.ref a1), .val (Value.int (1 : Int32)), .val (Value.int (2 : Int32)), .unset] []))
  refine own_Go.by (fun tq kq => XS.iloadN X0.here hx rfl (hb hby d8_0) rfl kq) ?_
  show own_Go p.tables e below _ (s₁.setTop (mkF m 1 #[.val (Value.ref a1), .val (Value.int (1 : Int32)), .val (Value.int (2 : Int32)), .unset] [(Value.int (2 : Int32))]))
  refine own_Go.by (fun tq kq => XS.iloadN X0.here hx rfl (hb hby d8_1) rfl kq) ?_
  show own_Go p.tables e below _ (s₁.setTop (mkF m 2 #[.val (Value.ref a1), .val (Value.int (1 : Int32)), .val (Value.int (2 : Int32)), .unset] [(Value.int (1 : Int32)), (Value.int (2 : Int32))]))
  refine own_Go.by (fun tq kq => XS.isub X0.here hx rfl (hb hby d8_2) rfl kq) ?_
  show own_Go p.tables e below _ (s₁.setTop (mkF m 3 #[.val (Value.ref a1), .val (Value.int (1 : Int32)), .val (Value.int (2 : Int32)), .unset] [(Value.int (1 : Int32))]))
  refine own_Go.by (fun tq kq => XS.istoreN X0.here hx rfl (hb hby d8_3) rfl (l' := #[.val (Value.ref a1), .val (Value.int (1 : Int32)), .val (Value.int (2 : Int32)), .val (Value.int (1 : Int32))]) rfl kq) ?_
  show own_Go p.tables e below _ (s₁.setTop (mkF m 4 #[.val (Value.ref a1), .val (Value.int (1 : Int32)), .val (Value.int (2 : Int32)), .val (Value.int (1 : Int32))] []))
  refine own_Go.by (fun tq kq => XS.iloadN X0.here hx rfl (hb hby d8_4) rfl kq) ?_
  show own_Go p.tables e below _ (s₁.setTop (mkF m 5 #[.val (Value.ref a1), .val (Value.int (1 : Int32)), .val (Value.int (2 : Int32)), .val (Value.int (1 : Int32))] [(Value.int (1 : Int32))]))
  refine own_Go.by (fun tq kq => XS.iconst X0.here hx rfl (hb hby d8_5) kq) ?_
  show own_Go p.tables e below _ (s₁.setTop (mkF m 6 #[.val (Value.ref a1), .val (Value.int (1 : Int32)), .val (Value.int (2 : Int32)), .val (Value.int (1 : Int32))] [(Value.int (1 : Int32)), (Value.int (1 : Int32))]))
  refine own_Go.by (fun tq kq => XS.icmpYes X0.here hx rfl (pc0 := 6) (pc' := 14) rfl (hb hby d8_6) rfl (teq (by decide : (1 : Int32) = (1 : Int32))).1 (by decide) (by decide) kq) ?_
  show own_Go p.tables e below _ (s₁.setTop (mkF m 14 #[.val (Value.ref a1), .val (Value.int (1 : Int32)), .val (Value.int (2 : Int32)), .val (Value.int (1 : Int32))] []))
  refine own_Go.by (fun tq kq => XS.aloadN X0.here hx rfl (hb hby d8_14) rfl rfl kq) ?_
  show own_Go p.tables e below _ (s₁.setTop (mkF m 15 #[.val (Value.ref a1), .val (Value.int (1 : Int32)), .val (Value.int (2 : Int32)), .val (Value.int (1 : Int32))] [(Value.ref a1)]))
  refine own_Go.by (fun tq kq => XS.iloadN X0.here hx rfl (hb hby d8_15) rfl kq) ?_
  show own_Go p.tables e below _ (s₁.setTop (mkF m 16 #[.val (Value.ref a1), .val (Value.int (1 : Int32)), .val (Value.int (2 : Int32)), .val (Value.int (1 : Int32))] [(Value.int (1 : Int32)), (Value.ref a1)]))
  have hcd1 : StrChars.Road.CodA ([c0, c1, c2, c3] : List Int32) 0 (4 : Int32) ((([c0, c1, c2, c3] : List Int32).map (fun c => c.toInt8.toInt32)).map Value.int) := StrChars.Road.codOf (n := 4) rfl (fun x hx => (hp x hx).2)
  obtain ⟨cq1, kq1, q1a, q1b, q1c⟩ := isOf hZ e0 H0
  obtain ⟨_, _, ⟨T1, L1, k1, n1⟩, -, X1, ⟨Lc1, hQ1, l1, y1, z1⟩, st1⟩ := X0.virtualBack hx (y := (⟨"java/lang/String", "charAt", "(I)C"⟩ : MethodName)) (z := (⟨"java/lang/String", "charAt", "(I)C"⟩ : MethodName)) hown (mvT hZ (hw _ (List.mem_of_getElem? (i := 39) rfl))) (mvT hZ (hw _ (List.mem_of_getElem? (i := 40) rfl))) (notFace_of_selects (args := #[]) (mvT hZ (hw _ (List.mem_of_getElem? (i := 42) rfl)))) (mvT hZ (hw _ (List.mem_of_getElem? (i := 42) rfl))) (mvT hZ (hw _ (List.mem_of_getElem? (i := 41) rfl))) (by decide) (StrChars.Road.chN (W := 0) hZ (fun d hd => hw d (own_hch d hd)) (kI := 4) (hw _ (List.mem_of_getElem? (i := 6) rfl)) H0 H1 H2 H3 hcd1 (own_up _ hp) (H5.ext O0.2) hzc (H6.ext O0.2) rvf (Nat.le_of_ble_eq_true rfl) (i := 1) (Nat.le_of_ble_eq_true rfl) (j := (1 : Int32)) rfl (by decide) (by decide)) q1a q1c (g := (mkF m 16 #[.val (Value.ref a1), .val (Value.int (1 : Int32)), .val (Value.int (2 : Int32)), .val (Value.int (1 : Int32))] [(Value.int (1 : Int32)), (Value.ref a1)])) rfl (by rw [hml]; rfl) (Steps.refl _) (argsL := [(Value.int (1 : Int32))]) (rest := []) (lenOf own_pd0 rfl) rfl (by show 2 * 0 + _ ≤ _; exact Nat.le_of_eq rfl) (hb hby d8_16) (fun _ _ => ⟨rfl, e0, (by decide : 0 + 0 ≤ _), (by decide : 0 + 0 ≤ _)⟩)
  dsimp only [Pt.U, Pt.locs, Pt.cells, Pt.slots] at X1 l1 y1 z1 st1 hQ1
  subst l1 y1 z1
  refine own_Go.by (fun tq kq => st1.trans kq) ?_
  obtain ⟨rfl, rfl, e1⟩ := hQ1
  have N1 := Fr.app N0 (Fr.nil n0)
  show own_Go p.tables e below _ (T1.setTop (mkF m 19 #[.val (Value.ref a1), .val (Value.int (1 : Int32)), .val (Value.int (2 : Int32)), .val (Value.int (1 : Int32))] [(Value.int c1)]))
  refine own_Go.by (fun tq kq => XS.bipush X1.here hx rfl (hb hby d8_19) kq) ?_
  show own_Go p.tables e below _ (T1.setTop (mkF m 21 #[.val (Value.ref a1), .val (Value.int (1 : Int32)), .val (Value.int (2 : Int32)), .val (Value.int (1 : Int32))] [(Value.int (46 : Int32)), (Value.int c1)]))
  refine own_Go.by (fun tq kq => XS.icmpYes X1.here hx rfl (pc0 := 21) (pc' := 40) rfl (hb hby d8_21) rfl (feq hd0).2 (by decide) (by decide) kq) ?_
  show own_Go p.tables e below _ (T1.setTop (mkF m 40 #[.val (Value.ref a1), .val (Value.int (1 : Int32)), .val (Value.int (2 : Int32)), .val (Value.int (1 : Int32))] []))
  refine own_Go.by (fun tq kq => XS.iconst X1.here hx rfl (hb hby d8_40) kq) ?_
  show own_Go p.tables e below _ (T1.setTop (mkF m 41 #[.val (Value.ref a1), .val (Value.int (1 : Int32)), .val (Value.int (2 : Int32)), .val (Value.int (1 : Int32))] [(Value.int (0 : Int32))]))
  obtain ⟨fs, hr, hrun, hended, hW, hsame⟩ := X1.leave (v := some (Value.int (nar .boolean (0 : Int32)))) (fun h => by rw [Bd.returns] at h; cases h)
  refine own_Go.fin (retN X1 hx (t := .boolean) Bd.returns (by simp) (hb hby d8_41) hr) ⟨hrun, hended, _, _, rfl, ?_, ⟨_, rfl⟩, hW, hsame.mono (by decide) (by decide)⟩
  show Q8_1_2_f Z a1 t kb c0 c1 c2 c3 zc vf h0 n0 _ T1.heap _
  rw [e1]
  exact ⟨rfl, N1, rfl⟩

theorem own_ef_8_1_3_tt (m : MethodId) (a1 : Addr) : entryFrame m #[(Value.ref a1), (Value.int (1 : Int32)), (Value.int (3 : Int32))] 4 = mkF m 0 #[.val (Value.ref a1), .val (Value.int (1 : Int32)), .val (Value.int (3 : Int32)), .unset] [] := by first | (simp [entryFrame, mkF, argsToLocals, Value.category]; done) | rfl
def Q8_1_3_tt (Z : State) (a1 : Addr) (t : Addr) (kb : ClassId) (c0 : Int32) (c1 : Int32) (c2 : Int32) (c3 : Int32) (zc : Int32) (vf : Value) (h0 : Heap) (n0 : Nat) (v : Option Value) (h : Heap) (L : List Loc) : Prop := v = some (Value.int (1 : Int32)) ∧ Fr n0 L ∧ h = h0
set_option maxRecDepth 65536 in
set_option maxHeartbeats 40000000 in
theorem rm8_1_3_tt (l : Launch) (Z : State) (a0 : Array Value) (hw : ∀ d ∈ tables_1, d.before a0 Z = true) (ws : List Jvm.Cond) (a1 : Addr) (t : Addr) (kb : ClassId) (c0 : Int32) (c1 : Int32) (c2 : Int32) (c3 : Int32) (zc : Int32) (vf : Value) (h0 : Heap) (n0 : Nat) (O0 : Old Z n0 h0) (H0 : Exa Z h0 a1 "java/lang/String") (H1 : Fld Z h0 a1 "java/lang/String" "value" "[B" (Value.ref t)) (H2 : Fld Z h0 a1 "java/lang/String" "coder" "B" (Value.int (0 : Int32))) (H3 : Arv Z h0 t kb .byte (4 : Int32) ((([c0, c1, c2, c3] : List Int32).map (fun c => c.toInt8.toInt32)).map Value.int) (Value.int (0 : Int32))) (hp : ∀ c ∈ ([c0, c1, c2, c3] : List Int32), ¬ c < 0 ∧ ¬ (255 : Int32) < c) (H5 : Sta Z Z.heap "java/lang/String" "COMPACT_STRINGS" "Z" (Value.int zc)) (H6 : Sta Z Z.heap "jdk/internal/util/Preconditions" "SIOOBE_FORMATTER" "Ljava/util/function/BiFunction;" vf) (hzc : ¬ (zc = (0 : Int32))) (rvf : vf.isRef = true) (hd0 : c1 = (46 : Int32)) (hd1 : c2 = (46 : Int32)) :
    MetFree l (⟨"com/example/enlace/enlace/DotSegments", "isDotSegment", "(Ljava/lang/String;II)Z"⟩ : MethodName) (head1 (Jvm.Cond.code (⟨"com/example/enlace/enlace/DotSegments", "isDotSegment", "(Ljava/lang/String;II)Z"⟩ : MethodName) prog_3_method_4_code 4 (some .boolean) :: ws) ({ frames := 4, cells := 0, slots := 0, locals := 53 } : Room)) (fun a U => a = #[(Value.ref a1), (Value.int (1 : Int32)), (Value.int (3 : Int32))] ∧ Z.Warmed39 U.vm ∧ U.heap = h0) (fun _ _ _ _ _ => True) (fun _ U o U' => ∃ v L, o = .returned v ∧ Q8_1_3_tt Z a1 t kb c0 c1 c2 c3 zc vf h0 n0 v U'.heap L ∧ FrameEnd U o U' L ({ frames := 4, cells := 0, slots := 0, locals := 53 } : Room).cells ({ frames := 4, cells := 0, slots := 0, locals := 53 } : Room).slots) := by
  refine MetFree.of_bodySF (plainFor_of_name own_pn_com_example_enlace_enlace_DotSegments) hisR ?_
  intro p e s m args below meth c s₁ Bd hml0 hP hK
  obtain ⟨rfl, hZ, hh⟩ := hP
  have hx := Bd.exec
  have hby := Bd.bytes
  have hml : c.maxLocals = 4 := hml0
  have hown : s.vm.findClass "com/example/enlace/enlace/DotSegments" = some m.cls := findClass_of_methodNamed Bd.named
  have hnm := (name_of_methodNamed Bd.named Bd.method).1
  have X0 : Stand p l e ({ frames := 4, cells := 0, slots := 0, locals := 53 } : Room) s m #[(Value.ref a1), (Value.int (1 : Int32)), (Value.int (3 : Int32))] below meth c s₁ [] 0 0 := Stand.of_body Bd
  have e0 : s₁.heap = h0 := by rw [← hh, Bd.state]; rfl
  have N0 := Fr.nil n0
  have K0 : Keep h0 h0 [] := Keep.refl h0 []
  show own_Go p.tables e below _ (s₁.setTop (entryFrame m #[(Value.ref a1), (Value.int (1 : Int32)), (Value.int (3 : Int32))] 4))
  refine own_Go.by (fun tq kq => castTop (own_ef_8_1_3_tt m a1) kq) ?_
  show own_Go p.tables e below _ (s₁.setTop (mkF m 0 #[.val (Value.ref a1), .val (Value.int (1 : Int32)), .val (Value.int (3 : Int32)), .unset] []))
  refine own_Go.by (fun tq kq => XS.iloadN X0.here hx rfl (hb hby d8_0) rfl kq) ?_
  show own_Go p.tables e below _ (s₁.setTop (mkF m 1 #[.val (Value.ref a1), .val (Value.int (1 : Int32)), .val (Value.int (3 : Int32)), .unset] [(Value.int (3 : Int32))]))
  refine own_Go.by (fun tq kq => XS.iloadN X0.here hx rfl (hb hby d8_1) rfl kq) ?_
  show own_Go p.tables e below _ (s₁.setTop (mkF m 2 #[.val (Value.ref a1), .val (Value.int (1 : Int32)), .val (Value.int (3 : Int32)), .unset] [(Value.int (1 : Int32)), (Value.int (3 : Int32))]))
  refine own_Go.by (fun tq kq => XS.isub X0.here hx rfl (hb hby d8_2) rfl kq) ?_
  show own_Go p.tables e below _ (s₁.setTop (mkF m 3 #[.val (Value.ref a1), .val (Value.int (1 : Int32)), .val (Value.int (3 : Int32)), .unset] [(Value.int (2 : Int32))]))
  refine own_Go.by (fun tq kq => XS.istoreN X0.here hx rfl (hb hby d8_3) rfl (l' := #[.val (Value.ref a1), .val (Value.int (1 : Int32)), .val (Value.int (3 : Int32)), .val (Value.int (2 : Int32))]) rfl kq) ?_
  show own_Go p.tables e below _ (s₁.setTop (mkF m 4 #[.val (Value.ref a1), .val (Value.int (1 : Int32)), .val (Value.int (3 : Int32)), .val (Value.int (2 : Int32))] []))
  refine own_Go.by (fun tq kq => XS.iloadN X0.here hx rfl (hb hby d8_4) rfl kq) ?_
  show own_Go p.tables e below _ (s₁.setTop (mkF m 5 #[.val (Value.ref a1), .val (Value.int (1 : Int32)), .val (Value.int (3 : Int32)), .val (Value.int (2 : Int32))] [(Value.int (2 : Int32))]))
  refine own_Go.by (fun tq kq => XS.iconst X0.here hx rfl (hb hby d8_5) kq) ?_
  show own_Go p.tables e below _ (s₁.setTop (mkF m 6 #[.val (Value.ref a1), .val (Value.int (1 : Int32)), .val (Value.int (3 : Int32)), .val (Value.int (2 : Int32))] [(Value.int (1 : Int32)), (Value.int (2 : Int32))]))
  refine own_Go.by (fun tq kq => XS.icmpNo X0.here hx rfl (hb hby d8_6) rfl (feq (by decide : ¬ ((2 : Int32) = (1 : Int32)))).1 kq) ?_
  show own_Go p.tables e below _ (s₁.setTop (mkF m 9 #[.val (Value.ref a1), .val (Value.int (1 : Int32)), .val (Value.int (3 : Int32)), .val (Value.int (2 : Int32))] []))
  refine own_Go.by (fun tq kq => XS.iloadN X0.here hx rfl (hb hby d8_9) rfl kq) ?_
  show own_Go p.tables e below _ (s₁.setTop (mkF m 10 #[.val (Value.ref a1), .val (Value.int (1 : Int32)), .val (Value.int (3 : Int32)), .val (Value.int (2 : Int32))] [(Value.int (2 : Int32))]))
  refine own_Go.by (fun tq kq => XS.iconst X0.here hx rfl (hb hby d8_10) kq) ?_
  show own_Go p.tables e below _ (s₁.setTop (mkF m 11 #[.val (Value.ref a1), .val (Value.int (1 : Int32)), .val (Value.int (3 : Int32)), .val (Value.int (2 : Int32))] [(Value.int (2 : Int32)), (Value.int (2 : Int32))]))
  refine own_Go.by (fun tq kq => XS.icmpNo X0.here hx rfl (hb hby d8_11) rfl (teq (by decide : (2 : Int32) = (2 : Int32))).2 kq) ?_
  show own_Go p.tables e below _ (s₁.setTop (mkF m 14 #[.val (Value.ref a1), .val (Value.int (1 : Int32)), .val (Value.int (3 : Int32)), .val (Value.int (2 : Int32))] []))
  refine own_Go.by (fun tq kq => XS.aloadN X0.here hx rfl (hb hby d8_14) rfl rfl kq) ?_
  show own_Go p.tables e below _ (s₁.setTop (mkF m 15 #[.val (Value.ref a1), .val (Value.int (1 : Int32)), .val (Value.int (3 : Int32)), .val (Value.int (2 : Int32))] [(Value.ref a1)]))
  refine own_Go.by (fun tq kq => XS.iloadN X0.here hx rfl (hb hby d8_15) rfl kq) ?_
  show own_Go p.tables e below _ (s₁.setTop (mkF m 16 #[.val (Value.ref a1), .val (Value.int (1 : Int32)), .val (Value.int (3 : Int32)), .val (Value.int (2 : Int32))] [(Value.int (1 : Int32)), (Value.ref a1)]))
  have hcd1 : StrChars.Road.CodA ([c0, c1, c2, c3] : List Int32) 0 (4 : Int32) ((([c0, c1, c2, c3] : List Int32).map (fun c => c.toInt8.toInt32)).map Value.int) := StrChars.Road.codOf (n := 4) rfl (fun x hx => (hp x hx).2)
  obtain ⟨cq1, kq1, q1a, q1b, q1c⟩ := isOf hZ e0 H0
  obtain ⟨_, _, ⟨T1, L1, k1, n1⟩, -, X1, ⟨Lc1, hQ1, l1, y1, z1⟩, st1⟩ := X0.virtualBack hx (y := (⟨"java/lang/String", "charAt", "(I)C"⟩ : MethodName)) (z := (⟨"java/lang/String", "charAt", "(I)C"⟩ : MethodName)) hown (mvT hZ (hw _ (List.mem_of_getElem? (i := 39) rfl))) (mvT hZ (hw _ (List.mem_of_getElem? (i := 40) rfl))) (notFace_of_selects (args := #[]) (mvT hZ (hw _ (List.mem_of_getElem? (i := 42) rfl)))) (mvT hZ (hw _ (List.mem_of_getElem? (i := 42) rfl))) (mvT hZ (hw _ (List.mem_of_getElem? (i := 41) rfl))) (by decide) (StrChars.Road.chN (W := 0) hZ (fun d hd => hw d (own_hch d hd)) (kI := 4) (hw _ (List.mem_of_getElem? (i := 6) rfl)) H0 H1 H2 H3 hcd1 (own_up _ hp) (H5.ext O0.2) hzc (H6.ext O0.2) rvf (Nat.le_of_ble_eq_true rfl) (i := 1) (Nat.le_of_ble_eq_true rfl) (j := (1 : Int32)) rfl (by decide) (by decide)) q1a q1c (g := (mkF m 16 #[.val (Value.ref a1), .val (Value.int (1 : Int32)), .val (Value.int (3 : Int32)), .val (Value.int (2 : Int32))] [(Value.int (1 : Int32)), (Value.ref a1)])) rfl (by rw [hml]; rfl) (Steps.refl _) (argsL := [(Value.int (1 : Int32))]) (rest := []) (lenOf own_pd0 rfl) rfl (by show 2 * 0 + _ ≤ _; exact Nat.le_of_eq rfl) (hb hby d8_16) (fun _ _ => ⟨rfl, e0, (by decide : 0 + 0 ≤ _), (by decide : 0 + 0 ≤ _)⟩)
  dsimp only [Pt.U, Pt.locs, Pt.cells, Pt.slots] at X1 l1 y1 z1 st1 hQ1
  subst l1 y1 z1
  refine own_Go.by (fun tq kq => st1.trans kq) ?_
  obtain ⟨rfl, rfl, e1⟩ := hQ1
  have N1 := Fr.app N0 (Fr.nil n0)
  show own_Go p.tables e below _ (T1.setTop (mkF m 19 #[.val (Value.ref a1), .val (Value.int (1 : Int32)), .val (Value.int (3 : Int32)), .val (Value.int (2 : Int32))] [(Value.int c1)]))
  refine own_Go.by (fun tq kq => XS.bipush X1.here hx rfl (hb hby d8_19) kq) ?_
  show own_Go p.tables e below _ (T1.setTop (mkF m 21 #[.val (Value.ref a1), .val (Value.int (1 : Int32)), .val (Value.int (3 : Int32)), .val (Value.int (2 : Int32))] [(Value.int (46 : Int32)), (Value.int c1)]))
  refine own_Go.by (fun tq kq => XS.icmpNo X1.here hx rfl (hb hby d8_21) rfl (teq hd0).2 kq) ?_
  show own_Go p.tables e below _ (T1.setTop (mkF m 24 #[.val (Value.ref a1), .val (Value.int (1 : Int32)), .val (Value.int (3 : Int32)), .val (Value.int (2 : Int32))] []))
  refine own_Go.by (fun tq kq => XS.aloadN X1.here hx rfl (hb hby d8_24) rfl rfl kq) ?_
  show own_Go p.tables e below _ (T1.setTop (mkF m 25 #[.val (Value.ref a1), .val (Value.int (1 : Int32)), .val (Value.int (3 : Int32)), .val (Value.int (2 : Int32))] [(Value.ref a1)]))
  refine own_Go.by (fun tq kq => XS.iloadN X1.here hx rfl (hb hby d8_25) rfl kq) ?_
  show own_Go p.tables e below _ (T1.setTop (mkF m 26 #[.val (Value.ref a1), .val (Value.int (1 : Int32)), .val (Value.int (3 : Int32)), .val (Value.int (2 : Int32))] [(Value.int (3 : Int32)), (Value.ref a1)]))
  refine own_Go.by (fun tq kq => XS.iconst X1.here hx rfl (hb hby d8_26) kq) ?_
  show own_Go p.tables e below _ (T1.setTop (mkF m 27 #[.val (Value.ref a1), .val (Value.int (1 : Int32)), .val (Value.int (3 : Int32)), .val (Value.int (2 : Int32))] [(Value.int (1 : Int32)), (Value.int (3 : Int32)), (Value.ref a1)]))
  refine own_Go.by (fun tq kq => XS.isub X1.here hx rfl (hb hby d8_27) rfl kq) ?_
  show own_Go p.tables e below _ (T1.setTop (mkF m 28 #[.val (Value.ref a1), .val (Value.int (1 : Int32)), .val (Value.int (3 : Int32)), .val (Value.int (2 : Int32))] [(Value.int (2 : Int32)), (Value.ref a1)]))
  have hcd2 : StrChars.Road.CodA ([c0, c1, c2, c3] : List Int32) 0 (4 : Int32) ((([c0, c1, c2, c3] : List Int32).map (fun c => c.toInt8.toInt32)).map Value.int) := StrChars.Road.codOf (n := 4) rfl (fun x hx => (hp x hx).2)
  obtain ⟨cq2, kq2, q2a, q2b, q2c⟩ := isOf hZ e1 H0
  obtain ⟨_, _, ⟨T2, L2, k2, n2⟩, -, X2, ⟨Lc2, hQ2, l2, y2, z2⟩, st2⟩ := X1.virtualBack hx (y := (⟨"java/lang/String", "charAt", "(I)C"⟩ : MethodName)) (z := (⟨"java/lang/String", "charAt", "(I)C"⟩ : MethodName)) hown (mvT hZ (hw _ (List.mem_of_getElem? (i := 39) rfl))) (mvT hZ (hw _ (List.mem_of_getElem? (i := 40) rfl))) (notFace_of_selects (args := #[]) (mvT hZ (hw _ (List.mem_of_getElem? (i := 42) rfl)))) (mvT hZ (hw _ (List.mem_of_getElem? (i := 42) rfl))) (mvT hZ (hw _ (List.mem_of_getElem? (i := 41) rfl))) (by decide) (StrChars.Road.chN (W := 0) hZ (fun d hd => hw d (own_hch d hd)) (kI := 4) (hw _ (List.mem_of_getElem? (i := 6) rfl)) H0 H1 H2 H3 hcd2 (own_up _ hp) (H5.ext O0.2) hzc (H6.ext O0.2) rvf (Nat.le_of_ble_eq_true rfl) (i := 2) (Nat.le_of_ble_eq_true rfl) (j := (2 : Int32)) rfl (by decide) (by decide)) q2a q2c (g := (mkF m 28 #[.val (Value.ref a1), .val (Value.int (1 : Int32)), .val (Value.int (3 : Int32)), .val (Value.int (2 : Int32))] [(Value.int (2 : Int32)), (Value.ref a1)])) rfl (by rw [hml]; rfl) (Steps.refl _) (argsL := [(Value.int (2 : Int32))]) (rest := []) (lenOf own_pd0 rfl) rfl (by show 2 * 0 + _ ≤ _; exact Nat.le_of_eq rfl) (hb hby d8_28) (fun _ _ => ⟨rfl, e1, (by decide : 0 + 0 ≤ _), (by decide : 0 + 0 ≤ _)⟩)
  dsimp only [Pt.U, Pt.locs, Pt.cells, Pt.slots] at X2 l2 y2 z2 st2 hQ2
  subst l2 y2 z2
  refine own_Go.by (fun tq kq => st2.trans kq) ?_
  obtain ⟨rfl, rfl, e2⟩ := hQ2
  have N2 := Fr.app N1 (Fr.nil n0)
  show own_Go p.tables e below _ (T2.setTop (mkF m 31 #[.val (Value.ref a1), .val (Value.int (1 : Int32)), .val (Value.int (3 : Int32)), .val (Value.int (2 : Int32))] [(Value.int c2)]))
  refine own_Go.by (fun tq kq => XS.bipush X2.here hx rfl (hb hby d8_31) kq) ?_
  show own_Go p.tables e below _ (T2.setTop (mkF m 33 #[.val (Value.ref a1), .val (Value.int (1 : Int32)), .val (Value.int (3 : Int32)), .val (Value.int (2 : Int32))] [(Value.int (46 : Int32)), (Value.int c2)]))
  refine own_Go.by (fun tq kq => XS.icmpNo X2.here hx rfl (hb hby d8_33) rfl (teq hd1).2 kq) ?_
  show own_Go p.tables e below _ (T2.setTop (mkF m 36 #[.val (Value.ref a1), .val (Value.int (1 : Int32)), .val (Value.int (3 : Int32)), .val (Value.int (2 : Int32))] []))
  refine own_Go.by (fun tq kq => XS.iconst X2.here hx rfl (hb hby d8_36) kq) ?_
  show own_Go p.tables e below _ (T2.setTop (mkF m 37 #[.val (Value.ref a1), .val (Value.int (1 : Int32)), .val (Value.int (3 : Int32)), .val (Value.int (2 : Int32))] [(Value.int (1 : Int32))]))
  refine own_Go.by (fun tq kq => XS.goto X2.here hx rfl (pc0 := 37) (pc' := 41) rfl (hb hby d8_37) (by decide) (by decide) kq) ?_
  show own_Go p.tables e below _ (T2.setTop (mkF m 41 #[.val (Value.ref a1), .val (Value.int (1 : Int32)), .val (Value.int (3 : Int32)), .val (Value.int (2 : Int32))] [(Value.int (1 : Int32))]))
  obtain ⟨fs, hr, hrun, hended, hW, hsame⟩ := X2.leave (v := some (Value.int (nar .boolean (1 : Int32)))) (fun h => by rw [Bd.returns] at h; cases h)
  refine own_Go.fin (retN X2 hx (t := .boolean) Bd.returns (by simp) (hb hby d8_41) hr) ⟨hrun, hended, _, _, rfl, ?_, ⟨_, rfl⟩, hW, hsame.mono (by decide) (by decide)⟩
  show Q8_1_3_tt Z a1 t kb c0 c1 c2 c3 zc vf h0 n0 _ T2.heap _
  rw [e2]
  exact ⟨rfl, N2, rfl⟩

theorem own_ef_8_1_3_tf (m : MethodId) (a1 : Addr) : entryFrame m #[(Value.ref a1), (Value.int (1 : Int32)), (Value.int (3 : Int32))] 4 = mkF m 0 #[.val (Value.ref a1), .val (Value.int (1 : Int32)), .val (Value.int (3 : Int32)), .unset] [] := by first | (simp [entryFrame, mkF, argsToLocals, Value.category]; done) | rfl
def Q8_1_3_tf (Z : State) (a1 : Addr) (t : Addr) (kb : ClassId) (c0 : Int32) (c1 : Int32) (c2 : Int32) (c3 : Int32) (zc : Int32) (vf : Value) (h0 : Heap) (n0 : Nat) (v : Option Value) (h : Heap) (L : List Loc) : Prop := v = some (Value.int (0 : Int32)) ∧ Fr n0 L ∧ h = h0
set_option maxRecDepth 65536 in
set_option maxHeartbeats 40000000 in
theorem rm8_1_3_tf (l : Launch) (Z : State) (a0 : Array Value) (hw : ∀ d ∈ tables_1, d.before a0 Z = true) (ws : List Jvm.Cond) (a1 : Addr) (t : Addr) (kb : ClassId) (c0 : Int32) (c1 : Int32) (c2 : Int32) (c3 : Int32) (zc : Int32) (vf : Value) (h0 : Heap) (n0 : Nat) (O0 : Old Z n0 h0) (H0 : Exa Z h0 a1 "java/lang/String") (H1 : Fld Z h0 a1 "java/lang/String" "value" "[B" (Value.ref t)) (H2 : Fld Z h0 a1 "java/lang/String" "coder" "B" (Value.int (0 : Int32))) (H3 : Arv Z h0 t kb .byte (4 : Int32) ((([c0, c1, c2, c3] : List Int32).map (fun c => c.toInt8.toInt32)).map Value.int) (Value.int (0 : Int32))) (hp : ∀ c ∈ ([c0, c1, c2, c3] : List Int32), ¬ c < 0 ∧ ¬ (255 : Int32) < c) (H5 : Sta Z Z.heap "java/lang/String" "COMPACT_STRINGS" "Z" (Value.int zc)) (H6 : Sta Z Z.heap "jdk/internal/util/Preconditions" "SIOOBE_FORMATTER" "Ljava/util/function/BiFunction;" vf) (hzc : ¬ (zc = (0 : Int32))) (rvf : vf.isRef = true) (hd0 : c1 = (46 : Int32)) (hd1 : ¬ (c2 = (46 : Int32))) :
    MetFree l (⟨"com/example/enlace/enlace/DotSegments", "isDotSegment", "(Ljava/lang/String;II)Z"⟩ : MethodName) (head1 (Jvm.Cond.code (⟨"com/example/enlace/enlace/DotSegments", "isDotSegment", "(Ljava/lang/String;II)Z"⟩ : MethodName) prog_3_method_4_code 4 (some .boolean) :: ws) ({ frames := 4, cells := 0, slots := 0, locals := 53 } : Room)) (fun a U => a = #[(Value.ref a1), (Value.int (1 : Int32)), (Value.int (3 : Int32))] ∧ Z.Warmed39 U.vm ∧ U.heap = h0) (fun _ _ _ _ _ => True) (fun _ U o U' => ∃ v L, o = .returned v ∧ Q8_1_3_tf Z a1 t kb c0 c1 c2 c3 zc vf h0 n0 v U'.heap L ∧ FrameEnd U o U' L ({ frames := 4, cells := 0, slots := 0, locals := 53 } : Room).cells ({ frames := 4, cells := 0, slots := 0, locals := 53 } : Room).slots) := by
  refine MetFree.of_bodySF (plainFor_of_name own_pn_com_example_enlace_enlace_DotSegments) hisR ?_
  intro p e s m args below meth c s₁ Bd hml0 hP hK
  obtain ⟨rfl, hZ, hh⟩ := hP
  have hx := Bd.exec
  have hby := Bd.bytes
  have hml : c.maxLocals = 4 := hml0
  have hown : s.vm.findClass "com/example/enlace/enlace/DotSegments" = some m.cls := findClass_of_methodNamed Bd.named
  have hnm := (name_of_methodNamed Bd.named Bd.method).1
  have X0 : Stand p l e ({ frames := 4, cells := 0, slots := 0, locals := 53 } : Room) s m #[(Value.ref a1), (Value.int (1 : Int32)), (Value.int (3 : Int32))] below meth c s₁ [] 0 0 := Stand.of_body Bd
  have e0 : s₁.heap = h0 := by rw [← hh, Bd.state]; rfl
  have N0 := Fr.nil n0
  have K0 : Keep h0 h0 [] := Keep.refl h0 []
  show own_Go p.tables e below _ (s₁.setTop (entryFrame m #[(Value.ref a1), (Value.int (1 : Int32)), (Value.int (3 : Int32))] 4))
  refine own_Go.by (fun tq kq => castTop (own_ef_8_1_3_tf m a1) kq) ?_
  show own_Go p.tables e below _ (s₁.setTop (mkF m 0 #[.val (Value.ref a1), .val (Value.int (1 : Int32)), .val (Value.int (3 : Int32)), .unset] []))
  refine own_Go.by (fun tq kq => XS.iloadN X0.here hx rfl (hb hby d8_0) rfl kq) ?_
  show own_Go p.tables e below _ (s₁.setTop (mkF m 1 #[.val (Value.ref a1), .val (Value.int (1 : Int32)), .val (Value.int (3 : Int32)), .unset] [(Value.int (3 : Int32))]))
  refine own_Go.by (fun tq kq => XS.iloadN X0.here hx rfl (hb hby d8_1) rfl kq) ?_
  show own_Go p.tables e below _ (s₁.setTop (mkF m 2 #[.val (Value.ref a1), .val (Value.int (1 : Int32)), .val (Value.int (3 : Int32)), .unset] [(Value.int (1 : Int32)), (Value.int (3 : Int32))]))
  refine own_Go.by (fun tq kq => XS.isub X0.here hx rfl (hb hby d8_2) rfl kq) ?_
  show own_Go p.tables e below _ (s₁.setTop (mkF m 3 #[.val (Value.ref a1), .val (Value.int (1 : Int32)), .val (Value.int (3 : Int32)), .unset] [(Value.int (2 : Int32))]))
  refine own_Go.by (fun tq kq => XS.istoreN X0.here hx rfl (hb hby d8_3) rfl (l' := #[.val (Value.ref a1), .val (Value.int (1 : Int32)), .val (Value.int (3 : Int32)), .val (Value.int (2 : Int32))]) rfl kq) ?_
  show own_Go p.tables e below _ (s₁.setTop (mkF m 4 #[.val (Value.ref a1), .val (Value.int (1 : Int32)), .val (Value.int (3 : Int32)), .val (Value.int (2 : Int32))] []))
  refine own_Go.by (fun tq kq => XS.iloadN X0.here hx rfl (hb hby d8_4) rfl kq) ?_
  show own_Go p.tables e below _ (s₁.setTop (mkF m 5 #[.val (Value.ref a1), .val (Value.int (1 : Int32)), .val (Value.int (3 : Int32)), .val (Value.int (2 : Int32))] [(Value.int (2 : Int32))]))
  refine own_Go.by (fun tq kq => XS.iconst X0.here hx rfl (hb hby d8_5) kq) ?_
  show own_Go p.tables e below _ (s₁.setTop (mkF m 6 #[.val (Value.ref a1), .val (Value.int (1 : Int32)), .val (Value.int (3 : Int32)), .val (Value.int (2 : Int32))] [(Value.int (1 : Int32)), (Value.int (2 : Int32))]))
  refine own_Go.by (fun tq kq => XS.icmpNo X0.here hx rfl (hb hby d8_6) rfl (feq (by decide : ¬ ((2 : Int32) = (1 : Int32)))).1 kq) ?_
  show own_Go p.tables e below _ (s₁.setTop (mkF m 9 #[.val (Value.ref a1), .val (Value.int (1 : Int32)), .val (Value.int (3 : Int32)), .val (Value.int (2 : Int32))] []))
  refine own_Go.by (fun tq kq => XS.iloadN X0.here hx rfl (hb hby d8_9) rfl kq) ?_
  show own_Go p.tables e below _ (s₁.setTop (mkF m 10 #[.val (Value.ref a1), .val (Value.int (1 : Int32)), .val (Value.int (3 : Int32)), .val (Value.int (2 : Int32))] [(Value.int (2 : Int32))]))
  refine own_Go.by (fun tq kq => XS.iconst X0.here hx rfl (hb hby d8_10) kq) ?_
  show own_Go p.tables e below _ (s₁.setTop (mkF m 11 #[.val (Value.ref a1), .val (Value.int (1 : Int32)), .val (Value.int (3 : Int32)), .val (Value.int (2 : Int32))] [(Value.int (2 : Int32)), (Value.int (2 : Int32))]))
  refine own_Go.by (fun tq kq => XS.icmpNo X0.here hx rfl (hb hby d8_11) rfl (teq (by decide : (2 : Int32) = (2 : Int32))).2 kq) ?_
  show own_Go p.tables e below _ (s₁.setTop (mkF m 14 #[.val (Value.ref a1), .val (Value.int (1 : Int32)), .val (Value.int (3 : Int32)), .val (Value.int (2 : Int32))] []))
  refine own_Go.by (fun tq kq => XS.aloadN X0.here hx rfl (hb hby d8_14) rfl rfl kq) ?_
  show own_Go p.tables e below _ (s₁.setTop (mkF m 15 #[.val (Value.ref a1), .val (Value.int (1 : Int32)), .val (Value.int (3 : Int32)), .val (Value.int (2 : Int32))] [(Value.ref a1)]))
  refine own_Go.by (fun tq kq => XS.iloadN X0.here hx rfl (hb hby d8_15) rfl kq) ?_
  show own_Go p.tables e below _ (s₁.setTop (mkF m 16 #[.val (Value.ref a1), .val (Value.int (1 : Int32)), .val (Value.int (3 : Int32)), .val (Value.int (2 : Int32))] [(Value.int (1 : Int32)), (Value.ref a1)]))
  have hcd1 : StrChars.Road.CodA ([c0, c1, c2, c3] : List Int32) 0 (4 : Int32) ((([c0, c1, c2, c3] : List Int32).map (fun c => c.toInt8.toInt32)).map Value.int) := StrChars.Road.codOf (n := 4) rfl (fun x hx => (hp x hx).2)
  obtain ⟨cq1, kq1, q1a, q1b, q1c⟩ := isOf hZ e0 H0
  obtain ⟨_, _, ⟨T1, L1, k1, n1⟩, -, X1, ⟨Lc1, hQ1, l1, y1, z1⟩, st1⟩ := X0.virtualBack hx (y := (⟨"java/lang/String", "charAt", "(I)C"⟩ : MethodName)) (z := (⟨"java/lang/String", "charAt", "(I)C"⟩ : MethodName)) hown (mvT hZ (hw _ (List.mem_of_getElem? (i := 39) rfl))) (mvT hZ (hw _ (List.mem_of_getElem? (i := 40) rfl))) (notFace_of_selects (args := #[]) (mvT hZ (hw _ (List.mem_of_getElem? (i := 42) rfl)))) (mvT hZ (hw _ (List.mem_of_getElem? (i := 42) rfl))) (mvT hZ (hw _ (List.mem_of_getElem? (i := 41) rfl))) (by decide) (StrChars.Road.chN (W := 0) hZ (fun d hd => hw d (own_hch d hd)) (kI := 4) (hw _ (List.mem_of_getElem? (i := 6) rfl)) H0 H1 H2 H3 hcd1 (own_up _ hp) (H5.ext O0.2) hzc (H6.ext O0.2) rvf (Nat.le_of_ble_eq_true rfl) (i := 1) (Nat.le_of_ble_eq_true rfl) (j := (1 : Int32)) rfl (by decide) (by decide)) q1a q1c (g := (mkF m 16 #[.val (Value.ref a1), .val (Value.int (1 : Int32)), .val (Value.int (3 : Int32)), .val (Value.int (2 : Int32))] [(Value.int (1 : Int32)), (Value.ref a1)])) rfl (by rw [hml]; rfl) (Steps.refl _) (argsL := [(Value.int (1 : Int32))]) (rest := []) (lenOf own_pd0 rfl) rfl (by show 2 * 0 + _ ≤ _; exact Nat.le_of_eq rfl) (hb hby d8_16) (fun _ _ => ⟨rfl, e0, (by decide : 0 + 0 ≤ _), (by decide : 0 + 0 ≤ _)⟩)
  dsimp only [Pt.U, Pt.locs, Pt.cells, Pt.slots] at X1 l1 y1 z1 st1 hQ1
  subst l1 y1 z1
  refine own_Go.by (fun tq kq => st1.trans kq) ?_
  obtain ⟨rfl, rfl, e1⟩ := hQ1
  have N1 := Fr.app N0 (Fr.nil n0)
  show own_Go p.tables e below _ (T1.setTop (mkF m 19 #[.val (Value.ref a1), .val (Value.int (1 : Int32)), .val (Value.int (3 : Int32)), .val (Value.int (2 : Int32))] [(Value.int c1)]))
  refine own_Go.by (fun tq kq => XS.bipush X1.here hx rfl (hb hby d8_19) kq) ?_
  show own_Go p.tables e below _ (T1.setTop (mkF m 21 #[.val (Value.ref a1), .val (Value.int (1 : Int32)), .val (Value.int (3 : Int32)), .val (Value.int (2 : Int32))] [(Value.int (46 : Int32)), (Value.int c1)]))
  refine own_Go.by (fun tq kq => XS.icmpNo X1.here hx rfl (hb hby d8_21) rfl (teq hd0).2 kq) ?_
  show own_Go p.tables e below _ (T1.setTop (mkF m 24 #[.val (Value.ref a1), .val (Value.int (1 : Int32)), .val (Value.int (3 : Int32)), .val (Value.int (2 : Int32))] []))
  refine own_Go.by (fun tq kq => XS.aloadN X1.here hx rfl (hb hby d8_24) rfl rfl kq) ?_
  show own_Go p.tables e below _ (T1.setTop (mkF m 25 #[.val (Value.ref a1), .val (Value.int (1 : Int32)), .val (Value.int (3 : Int32)), .val (Value.int (2 : Int32))] [(Value.ref a1)]))
  refine own_Go.by (fun tq kq => XS.iloadN X1.here hx rfl (hb hby d8_25) rfl kq) ?_
  show own_Go p.tables e below _ (T1.setTop (mkF m 26 #[.val (Value.ref a1), .val (Value.int (1 : Int32)), .val (Value.int (3 : Int32)), .val (Value.int (2 : Int32))] [(Value.int (3 : Int32)), (Value.ref a1)]))
  refine own_Go.by (fun tq kq => XS.iconst X1.here hx rfl (hb hby d8_26) kq) ?_
  show own_Go p.tables e below _ (T1.setTop (mkF m 27 #[.val (Value.ref a1), .val (Value.int (1 : Int32)), .val (Value.int (3 : Int32)), .val (Value.int (2 : Int32))] [(Value.int (1 : Int32)), (Value.int (3 : Int32)), (Value.ref a1)]))
  refine own_Go.by (fun tq kq => XS.isub X1.here hx rfl (hb hby d8_27) rfl kq) ?_
  show own_Go p.tables e below _ (T1.setTop (mkF m 28 #[.val (Value.ref a1), .val (Value.int (1 : Int32)), .val (Value.int (3 : Int32)), .val (Value.int (2 : Int32))] [(Value.int (2 : Int32)), (Value.ref a1)]))
  have hcd2 : StrChars.Road.CodA ([c0, c1, c2, c3] : List Int32) 0 (4 : Int32) ((([c0, c1, c2, c3] : List Int32).map (fun c => c.toInt8.toInt32)).map Value.int) := StrChars.Road.codOf (n := 4) rfl (fun x hx => (hp x hx).2)
  obtain ⟨cq2, kq2, q2a, q2b, q2c⟩ := isOf hZ e1 H0
  obtain ⟨_, _, ⟨T2, L2, k2, n2⟩, -, X2, ⟨Lc2, hQ2, l2, y2, z2⟩, st2⟩ := X1.virtualBack hx (y := (⟨"java/lang/String", "charAt", "(I)C"⟩ : MethodName)) (z := (⟨"java/lang/String", "charAt", "(I)C"⟩ : MethodName)) hown (mvT hZ (hw _ (List.mem_of_getElem? (i := 39) rfl))) (mvT hZ (hw _ (List.mem_of_getElem? (i := 40) rfl))) (notFace_of_selects (args := #[]) (mvT hZ (hw _ (List.mem_of_getElem? (i := 42) rfl)))) (mvT hZ (hw _ (List.mem_of_getElem? (i := 42) rfl))) (mvT hZ (hw _ (List.mem_of_getElem? (i := 41) rfl))) (by decide) (StrChars.Road.chN (W := 0) hZ (fun d hd => hw d (own_hch d hd)) (kI := 4) (hw _ (List.mem_of_getElem? (i := 6) rfl)) H0 H1 H2 H3 hcd2 (own_up _ hp) (H5.ext O0.2) hzc (H6.ext O0.2) rvf (Nat.le_of_ble_eq_true rfl) (i := 2) (Nat.le_of_ble_eq_true rfl) (j := (2 : Int32)) rfl (by decide) (by decide)) q2a q2c (g := (mkF m 28 #[.val (Value.ref a1), .val (Value.int (1 : Int32)), .val (Value.int (3 : Int32)), .val (Value.int (2 : Int32))] [(Value.int (2 : Int32)), (Value.ref a1)])) rfl (by rw [hml]; rfl) (Steps.refl _) (argsL := [(Value.int (2 : Int32))]) (rest := []) (lenOf own_pd0 rfl) rfl (by show 2 * 0 + _ ≤ _; exact Nat.le_of_eq rfl) (hb hby d8_28) (fun _ _ => ⟨rfl, e1, (by decide : 0 + 0 ≤ _), (by decide : 0 + 0 ≤ _)⟩)
  dsimp only [Pt.U, Pt.locs, Pt.cells, Pt.slots] at X2 l2 y2 z2 st2 hQ2
  subst l2 y2 z2
  refine own_Go.by (fun tq kq => st2.trans kq) ?_
  obtain ⟨rfl, rfl, e2⟩ := hQ2
  have N2 := Fr.app N1 (Fr.nil n0)
  show own_Go p.tables e below _ (T2.setTop (mkF m 31 #[.val (Value.ref a1), .val (Value.int (1 : Int32)), .val (Value.int (3 : Int32)), .val (Value.int (2 : Int32))] [(Value.int c2)]))
  refine own_Go.by (fun tq kq => XS.bipush X2.here hx rfl (hb hby d8_31) kq) ?_
  show own_Go p.tables e below _ (T2.setTop (mkF m 33 #[.val (Value.ref a1), .val (Value.int (1 : Int32)), .val (Value.int (3 : Int32)), .val (Value.int (2 : Int32))] [(Value.int (46 : Int32)), (Value.int c2)]))
  refine own_Go.by (fun tq kq => XS.icmpYes X2.here hx rfl (pc0 := 33) (pc' := 40) rfl (hb hby d8_33) rfl (feq hd1).2 (by decide) (by decide) kq) ?_
  show own_Go p.tables e below _ (T2.setTop (mkF m 40 #[.val (Value.ref a1), .val (Value.int (1 : Int32)), .val (Value.int (3 : Int32)), .val (Value.int (2 : Int32))] []))
  refine own_Go.by (fun tq kq => XS.iconst X2.here hx rfl (hb hby d8_40) kq) ?_
  show own_Go p.tables e below _ (T2.setTop (mkF m 41 #[.val (Value.ref a1), .val (Value.int (1 : Int32)), .val (Value.int (3 : Int32)), .val (Value.int (2 : Int32))] [(Value.int (0 : Int32))]))
  obtain ⟨fs, hr, hrun, hended, hW, hsame⟩ := X2.leave (v := some (Value.int (nar .boolean (0 : Int32)))) (fun h => by rw [Bd.returns] at h; cases h)
  refine own_Go.fin (retN X2 hx (t := .boolean) Bd.returns (by simp) (hb hby d8_41) hr) ⟨hrun, hended, _, _, rfl, ?_, ⟨_, rfl⟩, hW, hsame.mono (by decide) (by decide)⟩
  show Q8_1_3_tf Z a1 t kb c0 c1 c2 c3 zc vf h0 n0 _ T2.heap _
  rw [e2]
  exact ⟨rfl, N2, rfl⟩

theorem own_ef_8_1_3_f (m : MethodId) (a1 : Addr) : entryFrame m #[(Value.ref a1), (Value.int (1 : Int32)), (Value.int (3 : Int32))] 4 = mkF m 0 #[.val (Value.ref a1), .val (Value.int (1 : Int32)), .val (Value.int (3 : Int32)), .unset] [] := by first | (simp [entryFrame, mkF, argsToLocals, Value.category]; done) | rfl
def Q8_1_3_f (Z : State) (a1 : Addr) (t : Addr) (kb : ClassId) (c0 : Int32) (c1 : Int32) (c2 : Int32) (c3 : Int32) (zc : Int32) (vf : Value) (h0 : Heap) (n0 : Nat) (v : Option Value) (h : Heap) (L : List Loc) : Prop := v = some (Value.int (0 : Int32)) ∧ Fr n0 L ∧ h = h0
set_option maxRecDepth 65536 in
set_option maxHeartbeats 40000000 in
theorem rm8_1_3_f (l : Launch) (Z : State) (a0 : Array Value) (hw : ∀ d ∈ tables_1, d.before a0 Z = true) (ws : List Jvm.Cond) (a1 : Addr) (t : Addr) (kb : ClassId) (c0 : Int32) (c1 : Int32) (c2 : Int32) (c3 : Int32) (zc : Int32) (vf : Value) (h0 : Heap) (n0 : Nat) (O0 : Old Z n0 h0) (H0 : Exa Z h0 a1 "java/lang/String") (H1 : Fld Z h0 a1 "java/lang/String" "value" "[B" (Value.ref t)) (H2 : Fld Z h0 a1 "java/lang/String" "coder" "B" (Value.int (0 : Int32))) (H3 : Arv Z h0 t kb .byte (4 : Int32) ((([c0, c1, c2, c3] : List Int32).map (fun c => c.toInt8.toInt32)).map Value.int) (Value.int (0 : Int32))) (hp : ∀ c ∈ ([c0, c1, c2, c3] : List Int32), ¬ c < 0 ∧ ¬ (255 : Int32) < c) (H5 : Sta Z Z.heap "java/lang/String" "COMPACT_STRINGS" "Z" (Value.int zc)) (H6 : Sta Z Z.heap "jdk/internal/util/Preconditions" "SIOOBE_FORMATTER" "Ljava/util/function/BiFunction;" vf) (hzc : ¬ (zc = (0 : Int32))) (rvf : vf.isRef = true) (hd0 : ¬ (c1 = (46 : Int32))) :
    MetFree l (⟨"com/example/enlace/enlace/DotSegments", "isDotSegment", "(Ljava/lang/String;II)Z"⟩ : MethodName) (head1 (Jvm.Cond.code (⟨"com/example/enlace/enlace/DotSegments", "isDotSegment", "(Ljava/lang/String;II)Z"⟩ : MethodName) prog_3_method_4_code 4 (some .boolean) :: ws) ({ frames := 4, cells := 0, slots := 0, locals := 53 } : Room)) (fun a U => a = #[(Value.ref a1), (Value.int (1 : Int32)), (Value.int (3 : Int32))] ∧ Z.Warmed39 U.vm ∧ U.heap = h0) (fun _ _ _ _ _ => True) (fun _ U o U' => ∃ v L, o = .returned v ∧ Q8_1_3_f Z a1 t kb c0 c1 c2 c3 zc vf h0 n0 v U'.heap L ∧ FrameEnd U o U' L ({ frames := 4, cells := 0, slots := 0, locals := 53 } : Room).cells ({ frames := 4, cells := 0, slots := 0, locals := 53 } : Room).slots) := by
  refine MetFree.of_bodySF (plainFor_of_name own_pn_com_example_enlace_enlace_DotSegments) hisR ?_
  intro p e s m args below meth c s₁ Bd hml0 hP hK
  obtain ⟨rfl, hZ, hh⟩ := hP
  have hx := Bd.exec
  have hby := Bd.bytes
  have hml : c.maxLocals = 4 := hml0
  have hown : s.vm.findClass "com/example/enlace/enlace/DotSegments" = some m.cls := findClass_of_methodNamed Bd.named
  have hnm := (name_of_methodNamed Bd.named Bd.method).1
  have X0 : Stand p l e ({ frames := 4, cells := 0, slots := 0, locals := 53 } : Room) s m #[(Value.ref a1), (Value.int (1 : Int32)), (Value.int (3 : Int32))] below meth c s₁ [] 0 0 := Stand.of_body Bd
  have e0 : s₁.heap = h0 := by rw [← hh, Bd.state]; rfl
  have N0 := Fr.nil n0
  have K0 : Keep h0 h0 [] := Keep.refl h0 []
  show own_Go p.tables e below _ (s₁.setTop (entryFrame m #[(Value.ref a1), (Value.int (1 : Int32)), (Value.int (3 : Int32))] 4))
  refine own_Go.by (fun tq kq => castTop (own_ef_8_1_3_f m a1) kq) ?_
  show own_Go p.tables e below _ (s₁.setTop (mkF m 0 #[.val (Value.ref a1), .val (Value.int (1 : Int32)), .val (Value.int (3 : Int32)), .unset] []))
  refine own_Go.by (fun tq kq => XS.iloadN X0.here hx rfl (hb hby d8_0) rfl kq) ?_
  show own_Go p.tables e below _ (s₁.setTop (mkF m 1 #[.val (Value.ref a1), .val (Value.int (1 : Int32)), .val (Value.int (3 : Int32)), .unset] [(Value.int (3 : Int32))]))
  refine own_Go.by (fun tq kq => XS.iloadN X0.here hx rfl (hb hby d8_1) rfl kq) ?_
  show own_Go p.tables e below _ (s₁.setTop (mkF m 2 #[.val (Value.ref a1), .val (Value.int (1 : Int32)), .val (Value.int (3 : Int32)), .unset] [(Value.int (1 : Int32)), (Value.int (3 : Int32))]))
  refine own_Go.by (fun tq kq => XS.isub X0.here hx rfl (hb hby d8_2) rfl kq) ?_
  show own_Go p.tables e below _ (s₁.setTop (mkF m 3 #[.val (Value.ref a1), .val (Value.int (1 : Int32)), .val (Value.int (3 : Int32)), .unset] [(Value.int (2 : Int32))]))
  refine own_Go.by (fun tq kq => XS.istoreN X0.here hx rfl (hb hby d8_3) rfl (l' := #[.val (Value.ref a1), .val (Value.int (1 : Int32)), .val (Value.int (3 : Int32)), .val (Value.int (2 : Int32))]) rfl kq) ?_
  show own_Go p.tables e below _ (s₁.setTop (mkF m 4 #[.val (Value.ref a1), .val (Value.int (1 : Int32)), .val (Value.int (3 : Int32)), .val (Value.int (2 : Int32))] []))
  refine own_Go.by (fun tq kq => XS.iloadN X0.here hx rfl (hb hby d8_4) rfl kq) ?_
  show own_Go p.tables e below _ (s₁.setTop (mkF m 5 #[.val (Value.ref a1), .val (Value.int (1 : Int32)), .val (Value.int (3 : Int32)), .val (Value.int (2 : Int32))] [(Value.int (2 : Int32))]))
  refine own_Go.by (fun tq kq => XS.iconst X0.here hx rfl (hb hby d8_5) kq) ?_
  show own_Go p.tables e below _ (s₁.setTop (mkF m 6 #[.val (Value.ref a1), .val (Value.int (1 : Int32)), .val (Value.int (3 : Int32)), .val (Value.int (2 : Int32))] [(Value.int (1 : Int32)), (Value.int (2 : Int32))]))
  refine own_Go.by (fun tq kq => XS.icmpNo X0.here hx rfl (hb hby d8_6) rfl (feq (by decide : ¬ ((2 : Int32) = (1 : Int32)))).1 kq) ?_
  show own_Go p.tables e below _ (s₁.setTop (mkF m 9 #[.val (Value.ref a1), .val (Value.int (1 : Int32)), .val (Value.int (3 : Int32)), .val (Value.int (2 : Int32))] []))
  refine own_Go.by (fun tq kq => XS.iloadN X0.here hx rfl (hb hby d8_9) rfl kq) ?_
  show own_Go p.tables e below _ (s₁.setTop (mkF m 10 #[.val (Value.ref a1), .val (Value.int (1 : Int32)), .val (Value.int (3 : Int32)), .val (Value.int (2 : Int32))] [(Value.int (2 : Int32))]))
  refine own_Go.by (fun tq kq => XS.iconst X0.here hx rfl (hb hby d8_10) kq) ?_
  show own_Go p.tables e below _ (s₁.setTop (mkF m 11 #[.val (Value.ref a1), .val (Value.int (1 : Int32)), .val (Value.int (3 : Int32)), .val (Value.int (2 : Int32))] [(Value.int (2 : Int32)), (Value.int (2 : Int32))]))
  refine own_Go.by (fun tq kq => XS.icmpNo X0.here hx rfl (hb hby d8_11) rfl (teq (by decide : (2 : Int32) = (2 : Int32))).2 kq) ?_
  show own_Go p.tables e below _ (s₁.setTop (mkF m 14 #[.val (Value.ref a1), .val (Value.int (1 : Int32)), .val (Value.int (3 : Int32)), .val (Value.int (2 : Int32))] []))
  refine own_Go.by (fun tq kq => XS.aloadN X0.here hx rfl (hb hby d8_14) rfl rfl kq) ?_
  show own_Go p.tables e below _ (s₁.setTop (mkF m 15 #[.val (Value.ref a1), .val (Value.int (1 : Int32)), .val (Value.int (3 : Int32)), .val (Value.int (2 : Int32))] [(Value.ref a1)]))
  refine own_Go.by (fun tq kq => XS.iloadN X0.here hx rfl (hb hby d8_15) rfl kq) ?_
  show own_Go p.tables e below _ (s₁.setTop (mkF m 16 #[.val (Value.ref a1), .val (Value.int (1 : Int32)), .val (Value.int (3 : Int32)), .val (Value.int (2 : Int32))] [(Value.int (1 : Int32)), (Value.ref a1)]))
  have hcd1 : StrChars.Road.CodA ([c0, c1, c2, c3] : List Int32) 0 (4 : Int32) ((([c0, c1, c2, c3] : List Int32).map (fun c => c.toInt8.toInt32)).map Value.int) := StrChars.Road.codOf (n := 4) rfl (fun x hx => (hp x hx).2)
  obtain ⟨cq1, kq1, q1a, q1b, q1c⟩ := isOf hZ e0 H0
  obtain ⟨_, _, ⟨T1, L1, k1, n1⟩, -, X1, ⟨Lc1, hQ1, l1, y1, z1⟩, st1⟩ := X0.virtualBack hx (y := (⟨"java/lang/String", "charAt", "(I)C"⟩ : MethodName)) (z := (⟨"java/lang/String", "charAt", "(I)C"⟩ : MethodName)) hown (mvT hZ (hw _ (List.mem_of_getElem? (i := 39) rfl))) (mvT hZ (hw _ (List.mem_of_getElem? (i := 40) rfl))) (notFace_of_selects (args := #[]) (mvT hZ (hw _ (List.mem_of_getElem? (i := 42) rfl)))) (mvT hZ (hw _ (List.mem_of_getElem? (i := 42) rfl))) (mvT hZ (hw _ (List.mem_of_getElem? (i := 41) rfl))) (by decide) (StrChars.Road.chN (W := 0) hZ (fun d hd => hw d (own_hch d hd)) (kI := 4) (hw _ (List.mem_of_getElem? (i := 6) rfl)) H0 H1 H2 H3 hcd1 (own_up _ hp) (H5.ext O0.2) hzc (H6.ext O0.2) rvf (Nat.le_of_ble_eq_true rfl) (i := 1) (Nat.le_of_ble_eq_true rfl) (j := (1 : Int32)) rfl (by decide) (by decide)) q1a q1c (g := (mkF m 16 #[.val (Value.ref a1), .val (Value.int (1 : Int32)), .val (Value.int (3 : Int32)), .val (Value.int (2 : Int32))] [(Value.int (1 : Int32)), (Value.ref a1)])) rfl (by rw [hml]; rfl) (Steps.refl _) (argsL := [(Value.int (1 : Int32))]) (rest := []) (lenOf own_pd0 rfl) rfl (by show 2 * 0 + _ ≤ _; exact Nat.le_of_eq rfl) (hb hby d8_16) (fun _ _ => ⟨rfl, e0, (by decide : 0 + 0 ≤ _), (by decide : 0 + 0 ≤ _)⟩)
  dsimp only [Pt.U, Pt.locs, Pt.cells, Pt.slots] at X1 l1 y1 z1 st1 hQ1
  subst l1 y1 z1
  refine own_Go.by (fun tq kq => st1.trans kq) ?_
  obtain ⟨rfl, rfl, e1⟩ := hQ1
  have N1 := Fr.app N0 (Fr.nil n0)
  show own_Go p.tables e below _ (T1.setTop (mkF m 19 #[.val (Value.ref a1), .val (Value.int (1 : Int32)), .val (Value.int (3 : Int32)), .val (Value.int (2 : Int32))] [(Value.int c1)]))
  refine own_Go.by (fun tq kq => XS.bipush X1.here hx rfl (hb hby d8_19) kq) ?_
  show own_Go p.tables e below _ (T1.setTop (mkF m 21 #[.val (Value.ref a1), .val (Value.int (1 : Int32)), .val (Value.int (3 : Int32)), .val (Value.int (2 : Int32))] [(Value.int (46 : Int32)), (Value.int c1)]))
  refine own_Go.by (fun tq kq => XS.icmpYes X1.here hx rfl (pc0 := 21) (pc' := 40) rfl (hb hby d8_21) rfl (feq hd0).2 (by decide) (by decide) kq) ?_
  show own_Go p.tables e below _ (T1.setTop (mkF m 40 #[.val (Value.ref a1), .val (Value.int (1 : Int32)), .val (Value.int (3 : Int32)), .val (Value.int (2 : Int32))] []))
  refine own_Go.by (fun tq kq => XS.iconst X1.here hx rfl (hb hby d8_40) kq) ?_
  show own_Go p.tables e below _ (T1.setTop (mkF m 41 #[.val (Value.ref a1), .val (Value.int (1 : Int32)), .val (Value.int (3 : Int32)), .val (Value.int (2 : Int32))] [(Value.int (0 : Int32))]))
  obtain ⟨fs, hr, hrun, hended, hW, hsame⟩ := X1.leave (v := some (Value.int (nar .boolean (0 : Int32)))) (fun h => by rw [Bd.returns] at h; cases h)
  refine own_Go.fin (retN X1 hx (t := .boolean) Bd.returns (by simp) (hb hby d8_41) hr) ⟨hrun, hended, _, _, rfl, ?_, ⟨_, rfl⟩, hW, hsame.mono (by decide) (by decide)⟩
  show Q8_1_3_f Z a1 t kb c0 c1 c2 c3 zc vf h0 n0 _ T1.heap _
  rw [e1]
  exact ⟨rfl, N1, rfl⟩

theorem own_ef_8_1_4_x (m : MethodId) (a1 : Addr) : entryFrame m #[(Value.ref a1), (Value.int (1 : Int32)), (Value.int (4 : Int32))] 4 = mkF m 0 #[.val (Value.ref a1), .val (Value.int (1 : Int32)), .val (Value.int (4 : Int32)), .unset] [] := by first | (simp [entryFrame, mkF, argsToLocals, Value.category]; done) | rfl
def Q8_1_4_x (Z : State) (a1 : Addr) (t : Addr) (kb : ClassId) (c0 : Int32) (c1 : Int32) (c2 : Int32) (c3 : Int32) (zc : Int32) (vf : Value) (h0 : Heap) (n0 : Nat) (v : Option Value) (h : Heap) (L : List Loc) : Prop := v = some (Value.int (0 : Int32)) ∧ Fr n0 L ∧ h = h0
set_option maxRecDepth 65536 in
set_option maxHeartbeats 40000000 in
theorem rm8_1_4_x (l : Launch) (Z : State) (a0 : Array Value) (hw : ∀ d ∈ tables_1, d.before a0 Z = true) (ws : List Jvm.Cond) (a1 : Addr) (t : Addr) (kb : ClassId) (c0 : Int32) (c1 : Int32) (c2 : Int32) (c3 : Int32) (zc : Int32) (vf : Value) (h0 : Heap) (n0 : Nat) (O0 : Old Z n0 h0) (H0 : Exa Z h0 a1 "java/lang/String") (H1 : Fld Z h0 a1 "java/lang/String" "value" "[B" (Value.ref t)) (H2 : Fld Z h0 a1 "java/lang/String" "coder" "B" (Value.int (0 : Int32))) (H3 : Arv Z h0 t kb .byte (4 : Int32) ((([c0, c1, c2, c3] : List Int32).map (fun c => c.toInt8.toInt32)).map Value.int) (Value.int (0 : Int32))) (hp : ∀ c ∈ ([c0, c1, c2, c3] : List Int32), ¬ c < 0 ∧ ¬ (255 : Int32) < c) (H5 : Sta Z Z.heap "java/lang/String" "COMPACT_STRINGS" "Z" (Value.int zc)) (H6 : Sta Z Z.heap "jdk/internal/util/Preconditions" "SIOOBE_FORMATTER" "Ljava/util/function/BiFunction;" vf) (hzc : ¬ (zc = (0 : Int32))) (rvf : vf.isRef = true) :
    MetFree l (⟨"com/example/enlace/enlace/DotSegments", "isDotSegment", "(Ljava/lang/String;II)Z"⟩ : MethodName) (head1 (Jvm.Cond.code (⟨"com/example/enlace/enlace/DotSegments", "isDotSegment", "(Ljava/lang/String;II)Z"⟩ : MethodName) prog_3_method_4_code 4 (some .boolean) :: ws) ({ frames := 0, cells := 0, slots := 0, locals := 0 } : Room)) (fun a U => a = #[(Value.ref a1), (Value.int (1 : Int32)), (Value.int (4 : Int32))] ∧ Z.Warmed39 U.vm ∧ U.heap = h0) (fun _ _ _ _ _ => True) (fun _ U o U' => ∃ v L, o = .returned v ∧ Q8_1_4_x Z a1 t kb c0 c1 c2 c3 zc vf h0 n0 v U'.heap L ∧ FrameEnd U o U' L ({ frames := 0, cells := 0, slots := 0, locals := 0 } : Room).cells ({ frames := 0, cells := 0, slots := 0, locals := 0 } : Room).slots) := by
  refine MetFree.of_bodySF (plainFor_of_name own_pn_com_example_enlace_enlace_DotSegments) hisR ?_
  intro p e s m args below meth c s₁ Bd hml0 hP hK
  obtain ⟨rfl, hZ, hh⟩ := hP
  have hx := Bd.exec
  have hby := Bd.bytes
  have hml : c.maxLocals = 4 := hml0
  have hown : s.vm.findClass "com/example/enlace/enlace/DotSegments" = some m.cls := findClass_of_methodNamed Bd.named
  have hnm := (name_of_methodNamed Bd.named Bd.method).1
  have X0 : Stand p l e ({ frames := 0, cells := 0, slots := 0, locals := 0 } : Room) s m #[(Value.ref a1), (Value.int (1 : Int32)), (Value.int (4 : Int32))] below meth c s₁ [] 0 0 := Stand.of_body Bd
  have e0 : s₁.heap = h0 := by rw [← hh, Bd.state]; rfl
  have N0 := Fr.nil n0
  have K0 : Keep h0 h0 [] := Keep.refl h0 []
  show own_Go p.tables e below _ (s₁.setTop (entryFrame m #[(Value.ref a1), (Value.int (1 : Int32)), (Value.int (4 : Int32))] 4))
  refine own_Go.by (fun tq kq => castTop (own_ef_8_1_4_x m a1) kq) ?_
  show own_Go p.tables e below _ (s₁.setTop (mkF m 0 #[.val (Value.ref a1), .val (Value.int (1 : Int32)), .val (Value.int (4 : Int32)), .unset] []))
  refine own_Go.by (fun tq kq => XS.iloadN X0.here hx rfl (hb hby d8_0) rfl kq) ?_
  show own_Go p.tables e below _ (s₁.setTop (mkF m 1 #[.val (Value.ref a1), .val (Value.int (1 : Int32)), .val (Value.int (4 : Int32)), .unset] [(Value.int (4 : Int32))]))
  refine own_Go.by (fun tq kq => XS.iloadN X0.here hx rfl (hb hby d8_1) rfl kq) ?_
  show own_Go p.tables e below _ (s₁.setTop (mkF m 2 #[.val (Value.ref a1), .val (Value.int (1 : Int32)), .val (Value.int (4 : Int32)), .unset] [(Value.int (1 : Int32)), (Value.int (4 : Int32))]))
  refine own_Go.by (fun tq kq => XS.isub X0.here hx rfl (hb hby d8_2) rfl kq) ?_
  show own_Go p.tables e below _ (s₁.setTop (mkF m 3 #[.val (Value.ref a1), .val (Value.int (1 : Int32)), .val (Value.int (4 : Int32)), .unset] [(Value.int (3 : Int32))]))
  refine own_Go.by (fun tq kq => XS.istoreN X0.here hx rfl (hb hby d8_3) rfl (l' := #[.val (Value.ref a1), .val (Value.int (1 : Int32)), .val (Value.int (4 : Int32)), .val (Value.int (3 : Int32))]) rfl kq) ?_
  show own_Go p.tables e below _ (s₁.setTop (mkF m 4 #[.val (Value.ref a1), .val (Value.int (1 : Int32)), .val (Value.int (4 : Int32)), .val (Value.int (3 : Int32))] []))
  refine own_Go.by (fun tq kq => XS.iloadN X0.here hx rfl (hb hby d8_4) rfl kq) ?_
  show own_Go p.tables e below _ (s₁.setTop (mkF m 5 #[.val (Value.ref a1), .val (Value.int (1 : Int32)), .val (Value.int (4 : Int32)), .val (Value.int (3 : Int32))] [(Value.int (3 : Int32))]))
  refine own_Go.by (fun tq kq => XS.iconst X0.here hx rfl (hb hby d8_5) kq) ?_
  show own_Go p.tables e below _ (s₁.setTop (mkF m 6 #[.val (Value.ref a1), .val (Value.int (1 : Int32)), .val (Value.int (4 : Int32)), .val (Value.int (3 : Int32))] [(Value.int (1 : Int32)), (Value.int (3 : Int32))]))
  refine own_Go.by (fun tq kq => XS.icmpNo X0.here hx rfl (hb hby d8_6) rfl (feq (by decide : ¬ ((3 : Int32) = (1 : Int32)))).1 kq) ?_
  show own_Go p.tables e below _ (s₁.setTop (mkF m 9 #[.val (Value.ref a1), .val (Value.int (1 : Int32)), .val (Value.int (4 : Int32)), .val (Value.int (3 : Int32))] []))
  refine own_Go.by (fun tq kq => XS.iloadN X0.here hx rfl (hb hby d8_9) rfl kq) ?_
  show own_Go p.tables e below _ (s₁.setTop (mkF m 10 #[.val (Value.ref a1), .val (Value.int (1 : Int32)), .val (Value.int (4 : Int32)), .val (Value.int (3 : Int32))] [(Value.int (3 : Int32))]))
  refine own_Go.by (fun tq kq => XS.iconst X0.here hx rfl (hb hby d8_10) kq) ?_
  show own_Go p.tables e below _ (s₁.setTop (mkF m 11 #[.val (Value.ref a1), .val (Value.int (1 : Int32)), .val (Value.int (4 : Int32)), .val (Value.int (3 : Int32))] [(Value.int (2 : Int32)), (Value.int (3 : Int32))]))
  refine own_Go.by (fun tq kq => XS.icmpYes X0.here hx rfl (pc0 := 11) (pc' := 40) rfl (hb hby d8_11) rfl (feq (by decide : ¬ ((3 : Int32) = (2 : Int32)))).2 (by decide) (by decide) kq) ?_
  show own_Go p.tables e below _ (s₁.setTop (mkF m 40 #[.val (Value.ref a1), .val (Value.int (1 : Int32)), .val (Value.int (4 : Int32)), .val (Value.int (3 : Int32))] []))
  refine own_Go.by (fun tq kq => XS.iconst X0.here hx rfl (hb hby d8_40) kq) ?_
  show own_Go p.tables e below _ (s₁.setTop (mkF m 41 #[.val (Value.ref a1), .val (Value.int (1 : Int32)), .val (Value.int (4 : Int32)), .val (Value.int (3 : Int32))] [(Value.int (0 : Int32))]))
  obtain ⟨fs, hr, hrun, hended, hW, hsame⟩ := X0.leave (v := some (Value.int (nar .boolean (0 : Int32)))) (fun h => by rw [Bd.returns] at h; cases h)
  refine own_Go.fin (retN X0 hx (t := .boolean) Bd.returns (by simp) (hb hby d8_41) hr) ⟨hrun, hended, _, _, rfl, ?_, ⟨_, rfl⟩, hW, hsame.mono (by decide) (by decide)⟩
  show Q8_1_4_x Z a1 t kb c0 c1 c2 c3 zc vf h0 n0 _ s₁.heap _
  rw [e0]
  exact ⟨rfl, N0, rfl⟩

theorem own_ef_8_2_2_x (m : MethodId) (a1 : Addr) : entryFrame m #[(Value.ref a1), (Value.int (2 : Int32)), (Value.int (2 : Int32))] 4 = mkF m 0 #[.val (Value.ref a1), .val (Value.int (2 : Int32)), .val (Value.int (2 : Int32)), .unset] [] := by first | (simp [entryFrame, mkF, argsToLocals, Value.category]; done) | rfl
def Q8_2_2_x (Z : State) (a1 : Addr) (t : Addr) (kb : ClassId) (c0 : Int32) (c1 : Int32) (c2 : Int32) (c3 : Int32) (zc : Int32) (vf : Value) (h0 : Heap) (n0 : Nat) (v : Option Value) (h : Heap) (L : List Loc) : Prop := v = some (Value.int (0 : Int32)) ∧ Fr n0 L ∧ h = h0
set_option maxRecDepth 65536 in
set_option maxHeartbeats 40000000 in
theorem rm8_2_2_x (l : Launch) (Z : State) (a0 : Array Value) (hw : ∀ d ∈ tables_1, d.before a0 Z = true) (ws : List Jvm.Cond) (a1 : Addr) (t : Addr) (kb : ClassId) (c0 : Int32) (c1 : Int32) (c2 : Int32) (c3 : Int32) (zc : Int32) (vf : Value) (h0 : Heap) (n0 : Nat) (O0 : Old Z n0 h0) (H0 : Exa Z h0 a1 "java/lang/String") (H1 : Fld Z h0 a1 "java/lang/String" "value" "[B" (Value.ref t)) (H2 : Fld Z h0 a1 "java/lang/String" "coder" "B" (Value.int (0 : Int32))) (H3 : Arv Z h0 t kb .byte (4 : Int32) ((([c0, c1, c2, c3] : List Int32).map (fun c => c.toInt8.toInt32)).map Value.int) (Value.int (0 : Int32))) (hp : ∀ c ∈ ([c0, c1, c2, c3] : List Int32), ¬ c < 0 ∧ ¬ (255 : Int32) < c) (H5 : Sta Z Z.heap "java/lang/String" "COMPACT_STRINGS" "Z" (Value.int zc)) (H6 : Sta Z Z.heap "jdk/internal/util/Preconditions" "SIOOBE_FORMATTER" "Ljava/util/function/BiFunction;" vf) (hzc : ¬ (zc = (0 : Int32))) (rvf : vf.isRef = true) :
    MetFree l (⟨"com/example/enlace/enlace/DotSegments", "isDotSegment", "(Ljava/lang/String;II)Z"⟩ : MethodName) (head1 (Jvm.Cond.code (⟨"com/example/enlace/enlace/DotSegments", "isDotSegment", "(Ljava/lang/String;II)Z"⟩ : MethodName) prog_3_method_4_code 4 (some .boolean) :: ws) ({ frames := 0, cells := 0, slots := 0, locals := 0 } : Room)) (fun a U => a = #[(Value.ref a1), (Value.int (2 : Int32)), (Value.int (2 : Int32))] ∧ Z.Warmed39 U.vm ∧ U.heap = h0) (fun _ _ _ _ _ => True) (fun _ U o U' => ∃ v L, o = .returned v ∧ Q8_2_2_x Z a1 t kb c0 c1 c2 c3 zc vf h0 n0 v U'.heap L ∧ FrameEnd U o U' L ({ frames := 0, cells := 0, slots := 0, locals := 0 } : Room).cells ({ frames := 0, cells := 0, slots := 0, locals := 0 } : Room).slots) := by
  refine MetFree.of_bodySF (plainFor_of_name own_pn_com_example_enlace_enlace_DotSegments) hisR ?_
  intro p e s m args below meth c s₁ Bd hml0 hP hK
  obtain ⟨rfl, hZ, hh⟩ := hP
  have hx := Bd.exec
  have hby := Bd.bytes
  have hml : c.maxLocals = 4 := hml0
  have hown : s.vm.findClass "com/example/enlace/enlace/DotSegments" = some m.cls := findClass_of_methodNamed Bd.named
  have hnm := (name_of_methodNamed Bd.named Bd.method).1
  have X0 : Stand p l e ({ frames := 0, cells := 0, slots := 0, locals := 0 } : Room) s m #[(Value.ref a1), (Value.int (2 : Int32)), (Value.int (2 : Int32))] below meth c s₁ [] 0 0 := Stand.of_body Bd
  have e0 : s₁.heap = h0 := by rw [← hh, Bd.state]; rfl
  have N0 := Fr.nil n0
  have K0 : Keep h0 h0 [] := Keep.refl h0 []
  show own_Go p.tables e below _ (s₁.setTop (entryFrame m #[(Value.ref a1), (Value.int (2 : Int32)), (Value.int (2 : Int32))] 4))
  refine own_Go.by (fun tq kq => castTop (own_ef_8_2_2_x m a1) kq) ?_
  show own_Go p.tables e below _ (s₁.setTop (mkF m 0 #[.val (Value.ref a1), .val (Value.int (2 : Int32)), .val (Value.int (2 : Int32)), .unset] []))
  refine own_Go.by (fun tq kq => XS.iloadN X0.here hx rfl (hb hby d8_0) rfl kq) ?_
  show own_Go p.tables e below _ (s₁.setTop (mkF m 1 #[.val (Value.ref a1), .val (Value.int (2 : Int32)), .val (Value.int (2 : Int32)), .unset] [(Value.int (2 : Int32))]))
  refine own_Go.by (fun tq kq => XS.iloadN X0.here hx rfl (hb hby d8_1) rfl kq) ?_
  show own_Go p.tables e below _ (s₁.setTop (mkF m 2 #[.val (Value.ref a1), .val (Value.int (2 : Int32)), .val (Value.int (2 : Int32)), .unset] [(Value.int (2 : Int32)), (Value.int (2 : Int32))]))
  refine own_Go.by (fun tq kq => XS.isub X0.here hx rfl (hb hby d8_2) rfl kq) ?_
  show own_Go p.tables e below _ (s₁.setTop (mkF m 3 #[.val (Value.ref a1), .val (Value.int (2 : Int32)), .val (Value.int (2 : Int32)), .unset] [(Value.int (0 : Int32))]))
  refine own_Go.by (fun tq kq => XS.istoreN X0.here hx rfl (hb hby d8_3) rfl (l' := #[.val (Value.ref a1), .val (Value.int (2 : Int32)), .val (Value.int (2 : Int32)), .val (Value.int (0 : Int32))]) rfl kq) ?_
  show own_Go p.tables e below _ (s₁.setTop (mkF m 4 #[.val (Value.ref a1), .val (Value.int (2 : Int32)), .val (Value.int (2 : Int32)), .val (Value.int (0 : Int32))] []))
  refine own_Go.by (fun tq kq => XS.iloadN X0.here hx rfl (hb hby d8_4) rfl kq) ?_
  show own_Go p.tables e below _ (s₁.setTop (mkF m 5 #[.val (Value.ref a1), .val (Value.int (2 : Int32)), .val (Value.int (2 : Int32)), .val (Value.int (0 : Int32))] [(Value.int (0 : Int32))]))
  refine own_Go.by (fun tq kq => XS.iconst X0.here hx rfl (hb hby d8_5) kq) ?_
  show own_Go p.tables e below _ (s₁.setTop (mkF m 6 #[.val (Value.ref a1), .val (Value.int (2 : Int32)), .val (Value.int (2 : Int32)), .val (Value.int (0 : Int32))] [(Value.int (1 : Int32)), (Value.int (0 : Int32))]))
  refine own_Go.by (fun tq kq => XS.icmpNo X0.here hx rfl (hb hby d8_6) rfl (feq (by decide : ¬ ((0 : Int32) = (1 : Int32)))).1 kq) ?_
  show own_Go p.tables e below _ (s₁.setTop (mkF m 9 #[.val (Value.ref a1), .val (Value.int (2 : Int32)), .val (Value.int (2 : Int32)), .val (Value.int (0 : Int32))] []))
  refine own_Go.by (fun tq kq => XS.iloadN X0.here hx rfl (hb hby d8_9) rfl kq) ?_
  show own_Go p.tables e below _ (s₁.setTop (mkF m 10 #[.val (Value.ref a1), .val (Value.int (2 : Int32)), .val (Value.int (2 : Int32)), .val (Value.int (0 : Int32))] [(Value.int (0 : Int32))]))
  refine own_Go.by (fun tq kq => XS.iconst X0.here hx rfl (hb hby d8_10) kq) ?_
  show own_Go p.tables e below _ (s₁.setTop (mkF m 11 #[.val (Value.ref a1), .val (Value.int (2 : Int32)), .val (Value.int (2 : Int32)), .val (Value.int (0 : Int32))] [(Value.int (2 : Int32)), (Value.int (0 : Int32))]))
  refine own_Go.by (fun tq kq => XS.icmpYes X0.here hx rfl (pc0 := 11) (pc' := 40) rfl (hb hby d8_11) rfl (feq (by decide : ¬ ((0 : Int32) = (2 : Int32)))).2 (by decide) (by decide) kq) ?_
  show own_Go p.tables e below _ (s₁.setTop (mkF m 40 #[.val (Value.ref a1), .val (Value.int (2 : Int32)), .val (Value.int (2 : Int32)), .val (Value.int (0 : Int32))] []))
  refine own_Go.by (fun tq kq => XS.iconst X0.here hx rfl (hb hby d8_40) kq) ?_
  show own_Go p.tables e below _ (s₁.setTop (mkF m 41 #[.val (Value.ref a1), .val (Value.int (2 : Int32)), .val (Value.int (2 : Int32)), .val (Value.int (0 : Int32))] [(Value.int (0 : Int32))]))
  obtain ⟨fs, hr, hrun, hended, hW, hsame⟩ := X0.leave (v := some (Value.int (nar .boolean (0 : Int32)))) (fun h => by rw [Bd.returns] at h; cases h)
  refine own_Go.fin (retN X0 hx (t := .boolean) Bd.returns (by simp) (hb hby d8_41) hr) ⟨hrun, hended, _, _, rfl, ?_, ⟨_, rfl⟩, hW, hsame.mono (by decide) (by decide)⟩
  show Q8_2_2_x Z a1 t kb c0 c1 c2 c3 zc vf h0 n0 _ s₁.heap _
  rw [e0]
  exact ⟨rfl, N0, rfl⟩

theorem own_ef_8_2_3_t (m : MethodId) (a1 : Addr) : entryFrame m #[(Value.ref a1), (Value.int (2 : Int32)), (Value.int (3 : Int32))] 4 = mkF m 0 #[.val (Value.ref a1), .val (Value.int (2 : Int32)), .val (Value.int (3 : Int32)), .unset] [] := by first | (simp [entryFrame, mkF, argsToLocals, Value.category]; done) | rfl
def Q8_2_3_t (Z : State) (a1 : Addr) (t : Addr) (kb : ClassId) (c0 : Int32) (c1 : Int32) (c2 : Int32) (c3 : Int32) (zc : Int32) (vf : Value) (h0 : Heap) (n0 : Nat) (v : Option Value) (h : Heap) (L : List Loc) : Prop := v = some (Value.int (1 : Int32)) ∧ Fr n0 L ∧ h = h0
set_option maxRecDepth 65536 in
set_option maxHeartbeats 40000000 in
theorem rm8_2_3_t (l : Launch) (Z : State) (a0 : Array Value) (hw : ∀ d ∈ tables_1, d.before a0 Z = true) (ws : List Jvm.Cond) (a1 : Addr) (t : Addr) (kb : ClassId) (c0 : Int32) (c1 : Int32) (c2 : Int32) (c3 : Int32) (zc : Int32) (vf : Value) (h0 : Heap) (n0 : Nat) (O0 : Old Z n0 h0) (H0 : Exa Z h0 a1 "java/lang/String") (H1 : Fld Z h0 a1 "java/lang/String" "value" "[B" (Value.ref t)) (H2 : Fld Z h0 a1 "java/lang/String" "coder" "B" (Value.int (0 : Int32))) (H3 : Arv Z h0 t kb .byte (4 : Int32) ((([c0, c1, c2, c3] : List Int32).map (fun c => c.toInt8.toInt32)).map Value.int) (Value.int (0 : Int32))) (hp : ∀ c ∈ ([c0, c1, c2, c3] : List Int32), ¬ c < 0 ∧ ¬ (255 : Int32) < c) (H5 : Sta Z Z.heap "java/lang/String" "COMPACT_STRINGS" "Z" (Value.int zc)) (H6 : Sta Z Z.heap "jdk/internal/util/Preconditions" "SIOOBE_FORMATTER" "Ljava/util/function/BiFunction;" vf) (hzc : ¬ (zc = (0 : Int32))) (rvf : vf.isRef = true) (hd0 : c2 = (46 : Int32)) :
    MetFree l (⟨"com/example/enlace/enlace/DotSegments", "isDotSegment", "(Ljava/lang/String;II)Z"⟩ : MethodName) (head1 (Jvm.Cond.code (⟨"com/example/enlace/enlace/DotSegments", "isDotSegment", "(Ljava/lang/String;II)Z"⟩ : MethodName) prog_3_method_4_code 4 (some .boolean) :: ws) ({ frames := 4, cells := 0, slots := 0, locals := 53 } : Room)) (fun a U => a = #[(Value.ref a1), (Value.int (2 : Int32)), (Value.int (3 : Int32))] ∧ Z.Warmed39 U.vm ∧ U.heap = h0) (fun _ _ _ _ _ => True) (fun _ U o U' => ∃ v L, o = .returned v ∧ Q8_2_3_t Z a1 t kb c0 c1 c2 c3 zc vf h0 n0 v U'.heap L ∧ FrameEnd U o U' L ({ frames := 4, cells := 0, slots := 0, locals := 53 } : Room).cells ({ frames := 4, cells := 0, slots := 0, locals := 53 } : Room).slots) := by
  refine MetFree.of_bodySF (plainFor_of_name own_pn_com_example_enlace_enlace_DotSegments) hisR ?_
  intro p e s m args below meth c s₁ Bd hml0 hP hK
  obtain ⟨rfl, hZ, hh⟩ := hP
  have hx := Bd.exec
  have hby := Bd.bytes
  have hml : c.maxLocals = 4 := hml0
  have hown : s.vm.findClass "com/example/enlace/enlace/DotSegments" = some m.cls := findClass_of_methodNamed Bd.named
  have hnm := (name_of_methodNamed Bd.named Bd.method).1
  have X0 : Stand p l e ({ frames := 4, cells := 0, slots := 0, locals := 53 } : Room) s m #[(Value.ref a1), (Value.int (2 : Int32)), (Value.int (3 : Int32))] below meth c s₁ [] 0 0 := Stand.of_body Bd
  have e0 : s₁.heap = h0 := by rw [← hh, Bd.state]; rfl
  have N0 := Fr.nil n0
  have K0 : Keep h0 h0 [] := Keep.refl h0 []
  show own_Go p.tables e below _ (s₁.setTop (entryFrame m #[(Value.ref a1), (Value.int (2 : Int32)), (Value.int (3 : Int32))] 4))
  refine own_Go.by (fun tq kq => castTop (own_ef_8_2_3_t m a1) kq) ?_
  show own_Go p.tables e below _ (s₁.setTop (mkF m 0 #[.val (Value.ref a1), .val (Value.int (2 : Int32)), .val (Value.int (3 : Int32)), .unset] []))
  refine own_Go.by (fun tq kq => XS.iloadN X0.here hx rfl (hb hby d8_0) rfl kq) ?_
  show own_Go p.tables e below _ (s₁.setTop (mkF m 1 #[.val (Value.ref a1), .val (Value.int (2 : Int32)), .val (Value.int (3 : Int32)), .unset] [(Value.int (3 : Int32))]))
  refine own_Go.by (fun tq kq => XS.iloadN X0.here hx rfl (hb hby d8_1) rfl kq) ?_
  show own_Go p.tables e below _ (s₁.setTop (mkF m 2 #[.val (Value.ref a1), .val (Value.int (2 : Int32)), .val (Value.int (3 : Int32)), .unset] [(Value.int (2 : Int32)), (Value.int (3 : Int32))]))
  refine own_Go.by (fun tq kq => XS.isub X0.here hx rfl (hb hby d8_2) rfl kq) ?_
  show own_Go p.tables e below _ (s₁.setTop (mkF m 3 #[.val (Value.ref a1), .val (Value.int (2 : Int32)), .val (Value.int (3 : Int32)), .unset] [(Value.int (1 : Int32))]))
  refine own_Go.by (fun tq kq => XS.istoreN X0.here hx rfl (hb hby d8_3) rfl (l' := #[.val (Value.ref a1), .val (Value.int (2 : Int32)), .val (Value.int (3 : Int32)), .val (Value.int (1 : Int32))]) rfl kq) ?_
  show own_Go p.tables e below _ (s₁.setTop (mkF m 4 #[.val (Value.ref a1), .val (Value.int (2 : Int32)), .val (Value.int (3 : Int32)), .val (Value.int (1 : Int32))] []))
  refine own_Go.by (fun tq kq => XS.iloadN X0.here hx rfl (hb hby d8_4) rfl kq) ?_
  show own_Go p.tables e below _ (s₁.setTop (mkF m 5 #[.val (Value.ref a1), .val (Value.int (2 : Int32)), .val (Value.int (3 : Int32)), .val (Value.int (1 : Int32))] [(Value.int (1 : Int32))]))
  refine own_Go.by (fun tq kq => XS.iconst X0.here hx rfl (hb hby d8_5) kq) ?_
  show own_Go p.tables e below _ (s₁.setTop (mkF m 6 #[.val (Value.ref a1), .val (Value.int (2 : Int32)), .val (Value.int (3 : Int32)), .val (Value.int (1 : Int32))] [(Value.int (1 : Int32)), (Value.int (1 : Int32))]))
  refine own_Go.by (fun tq kq => XS.icmpYes X0.here hx rfl (pc0 := 6) (pc' := 14) rfl (hb hby d8_6) rfl (teq (by decide : (1 : Int32) = (1 : Int32))).1 (by decide) (by decide) kq) ?_
  show own_Go p.tables e below _ (s₁.setTop (mkF m 14 #[.val (Value.ref a1), .val (Value.int (2 : Int32)), .val (Value.int (3 : Int32)), .val (Value.int (1 : Int32))] []))
  refine own_Go.by (fun tq kq => XS.aloadN X0.here hx rfl (hb hby d8_14) rfl rfl kq) ?_
  show own_Go p.tables e below _ (s₁.setTop (mkF m 15 #[.val (Value.ref a1), .val (Value.int (2 : Int32)), .val (Value.int (3 : Int32)), .val (Value.int (1 : Int32))] [(Value.ref a1)]))
  refine own_Go.by (fun tq kq => XS.iloadN X0.here hx rfl (hb hby d8_15) rfl kq) ?_
  show own_Go p.tables e below _ (s₁.setTop (mkF m 16 #[.val (Value.ref a1), .val (Value.int (2 : Int32)), .val (Value.int (3 : Int32)), .val (Value.int (1 : Int32))] [(Value.int (2 : Int32)), (Value.ref a1)]))
  have hcd1 : StrChars.Road.CodA ([c0, c1, c2, c3] : List Int32) 0 (4 : Int32) ((([c0, c1, c2, c3] : List Int32).map (fun c => c.toInt8.toInt32)).map Value.int) := StrChars.Road.codOf (n := 4) rfl (fun x hx => (hp x hx).2)
  obtain ⟨cq1, kq1, q1a, q1b, q1c⟩ := isOf hZ e0 H0
  obtain ⟨_, _, ⟨T1, L1, k1, n1⟩, -, X1, ⟨Lc1, hQ1, l1, y1, z1⟩, st1⟩ := X0.virtualBack hx (y := (⟨"java/lang/String", "charAt", "(I)C"⟩ : MethodName)) (z := (⟨"java/lang/String", "charAt", "(I)C"⟩ : MethodName)) hown (mvT hZ (hw _ (List.mem_of_getElem? (i := 39) rfl))) (mvT hZ (hw _ (List.mem_of_getElem? (i := 40) rfl))) (notFace_of_selects (args := #[]) (mvT hZ (hw _ (List.mem_of_getElem? (i := 42) rfl)))) (mvT hZ (hw _ (List.mem_of_getElem? (i := 42) rfl))) (mvT hZ (hw _ (List.mem_of_getElem? (i := 41) rfl))) (by decide) (StrChars.Road.chN (W := 0) hZ (fun d hd => hw d (own_hch d hd)) (kI := 4) (hw _ (List.mem_of_getElem? (i := 6) rfl)) H0 H1 H2 H3 hcd1 (own_up _ hp) (H5.ext O0.2) hzc (H6.ext O0.2) rvf (Nat.le_of_ble_eq_true rfl) (i := 2) (Nat.le_of_ble_eq_true rfl) (j := (2 : Int32)) rfl (by decide) (by decide)) q1a q1c (g := (mkF m 16 #[.val (Value.ref a1), .val (Value.int (2 : Int32)), .val (Value.int (3 : Int32)), .val (Value.int (1 : Int32))] [(Value.int (2 : Int32)), (Value.ref a1)])) rfl (by rw [hml]; rfl) (Steps.refl _) (argsL := [(Value.int (2 : Int32))]) (rest := []) (lenOf own_pd0 rfl) rfl (by show 2 * 0 + _ ≤ _; exact Nat.le_of_eq rfl) (hb hby d8_16) (fun _ _ => ⟨rfl, e0, (by decide : 0 + 0 ≤ _), (by decide : 0 + 0 ≤ _)⟩)
  dsimp only [Pt.U, Pt.locs, Pt.cells, Pt.slots] at X1 l1 y1 z1 st1 hQ1
  subst l1 y1 z1
  refine own_Go.by (fun tq kq => st1.trans kq) ?_
  obtain ⟨rfl, rfl, e1⟩ := hQ1
  have N1 := Fr.app N0 (Fr.nil n0)
  show own_Go p.tables e below _ (T1.setTop (mkF m 19 #[.val (Value.ref a1), .val (Value.int (2 : Int32)), .val (Value.int (3 : Int32)), .val (Value.int (1 : Int32))] [(Value.int c2)]))
  refine own_Go.by (fun tq kq => XS.bipush X1.here hx rfl (hb hby d8_19) kq) ?_
  show own_Go p.tables e below _ (T1.setTop (mkF m 21 #[.val (Value.ref a1), .val (Value.int (2 : Int32)), .val (Value.int (3 : Int32)), .val (Value.int (1 : Int32))] [(Value.int (46 : Int32)), (Value.int c2)]))
  refine own_Go.by (fun tq kq => XS.icmpNo X1.here hx rfl (hb hby d8_21) rfl (teq hd0).2 kq) ?_
  show own_Go p.tables e below _ (T1.setTop (mkF m 24 #[.val (Value.ref a1), .val (Value.int (2 : Int32)), .val (Value.int (3 : Int32)), .val (Value.int (1 : Int32))] []))
  refine own_Go.by (fun tq kq => XS.aloadN X1.here hx rfl (hb hby d8_24) rfl rfl kq) ?_
  show own_Go p.tables e below _ (T1.setTop (mkF m 25 #[.val (Value.ref a1), .val (Value.int (2 : Int32)), .val (Value.int (3 : Int32)), .val (Value.int (1 : Int32))] [(Value.ref a1)]))
  refine own_Go.by (fun tq kq => XS.iloadN X1.here hx rfl (hb hby d8_25) rfl kq) ?_
  show own_Go p.tables e below _ (T1.setTop (mkF m 26 #[.val (Value.ref a1), .val (Value.int (2 : Int32)), .val (Value.int (3 : Int32)), .val (Value.int (1 : Int32))] [(Value.int (3 : Int32)), (Value.ref a1)]))
  refine own_Go.by (fun tq kq => XS.iconst X1.here hx rfl (hb hby d8_26) kq) ?_
  show own_Go p.tables e below _ (T1.setTop (mkF m 27 #[.val (Value.ref a1), .val (Value.int (2 : Int32)), .val (Value.int (3 : Int32)), .val (Value.int (1 : Int32))] [(Value.int (1 : Int32)), (Value.int (3 : Int32)), (Value.ref a1)]))
  refine own_Go.by (fun tq kq => XS.isub X1.here hx rfl (hb hby d8_27) rfl kq) ?_
  show own_Go p.tables e below _ (T1.setTop (mkF m 28 #[.val (Value.ref a1), .val (Value.int (2 : Int32)), .val (Value.int (3 : Int32)), .val (Value.int (1 : Int32))] [(Value.int (2 : Int32)), (Value.ref a1)]))
  have hcd2 : StrChars.Road.CodA ([c0, c1, c2, c3] : List Int32) 0 (4 : Int32) ((([c0, c1, c2, c3] : List Int32).map (fun c => c.toInt8.toInt32)).map Value.int) := StrChars.Road.codOf (n := 4) rfl (fun x hx => (hp x hx).2)
  obtain ⟨cq2, kq2, q2a, q2b, q2c⟩ := isOf hZ e1 H0
  obtain ⟨_, _, ⟨T2, L2, k2, n2⟩, -, X2, ⟨Lc2, hQ2, l2, y2, z2⟩, st2⟩ := X1.virtualBack hx (y := (⟨"java/lang/String", "charAt", "(I)C"⟩ : MethodName)) (z := (⟨"java/lang/String", "charAt", "(I)C"⟩ : MethodName)) hown (mvT hZ (hw _ (List.mem_of_getElem? (i := 39) rfl))) (mvT hZ (hw _ (List.mem_of_getElem? (i := 40) rfl))) (notFace_of_selects (args := #[]) (mvT hZ (hw _ (List.mem_of_getElem? (i := 42) rfl)))) (mvT hZ (hw _ (List.mem_of_getElem? (i := 42) rfl))) (mvT hZ (hw _ (List.mem_of_getElem? (i := 41) rfl))) (by decide) (StrChars.Road.chN (W := 0) hZ (fun d hd => hw d (own_hch d hd)) (kI := 4) (hw _ (List.mem_of_getElem? (i := 6) rfl)) H0 H1 H2 H3 hcd2 (own_up _ hp) (H5.ext O0.2) hzc (H6.ext O0.2) rvf (Nat.le_of_ble_eq_true rfl) (i := 2) (Nat.le_of_ble_eq_true rfl) (j := (2 : Int32)) rfl (by decide) (by decide)) q2a q2c (g := (mkF m 28 #[.val (Value.ref a1), .val (Value.int (2 : Int32)), .val (Value.int (3 : Int32)), .val (Value.int (1 : Int32))] [(Value.int (2 : Int32)), (Value.ref a1)])) rfl (by rw [hml]; rfl) (Steps.refl _) (argsL := [(Value.int (2 : Int32))]) (rest := []) (lenOf own_pd0 rfl) rfl (by show 2 * 0 + _ ≤ _; exact Nat.le_of_eq rfl) (hb hby d8_28) (fun _ _ => ⟨rfl, e1, (by decide : 0 + 0 ≤ _), (by decide : 0 + 0 ≤ _)⟩)
  dsimp only [Pt.U, Pt.locs, Pt.cells, Pt.slots] at X2 l2 y2 z2 st2 hQ2
  subst l2 y2 z2
  refine own_Go.by (fun tq kq => st2.trans kq) ?_
  obtain ⟨rfl, rfl, e2⟩ := hQ2
  have N2 := Fr.app N1 (Fr.nil n0)
  show own_Go p.tables e below _ (T2.setTop (mkF m 31 #[.val (Value.ref a1), .val (Value.int (2 : Int32)), .val (Value.int (3 : Int32)), .val (Value.int (1 : Int32))] [(Value.int c2)]))
  refine own_Go.by (fun tq kq => XS.bipush X2.here hx rfl (hb hby d8_31) kq) ?_
  show own_Go p.tables e below _ (T2.setTop (mkF m 33 #[.val (Value.ref a1), .val (Value.int (2 : Int32)), .val (Value.int (3 : Int32)), .val (Value.int (1 : Int32))] [(Value.int (46 : Int32)), (Value.int c2)]))
  refine own_Go.by (fun tq kq => XS.icmpNo X2.here hx rfl (hb hby d8_33) rfl (teq hd0).2 kq) ?_
  show own_Go p.tables e below _ (T2.setTop (mkF m 36 #[.val (Value.ref a1), .val (Value.int (2 : Int32)), .val (Value.int (3 : Int32)), .val (Value.int (1 : Int32))] []))
  refine own_Go.by (fun tq kq => XS.iconst X2.here hx rfl (hb hby d8_36) kq) ?_
  show own_Go p.tables e below _ (T2.setTop (mkF m 37 #[.val (Value.ref a1), .val (Value.int (2 : Int32)), .val (Value.int (3 : Int32)), .val (Value.int (1 : Int32))] [(Value.int (1 : Int32))]))
  refine own_Go.by (fun tq kq => XS.goto X2.here hx rfl (pc0 := 37) (pc' := 41) rfl (hb hby d8_37) (by decide) (by decide) kq) ?_
  show own_Go p.tables e below _ (T2.setTop (mkF m 41 #[.val (Value.ref a1), .val (Value.int (2 : Int32)), .val (Value.int (3 : Int32)), .val (Value.int (1 : Int32))] [(Value.int (1 : Int32))]))
  obtain ⟨fs, hr, hrun, hended, hW, hsame⟩ := X2.leave (v := some (Value.int (nar .boolean (1 : Int32)))) (fun h => by rw [Bd.returns] at h; cases h)
  refine own_Go.fin (retN X2 hx (t := .boolean) Bd.returns (by simp) (hb hby d8_41) hr) ⟨hrun, hended, _, _, rfl, ?_, ⟨_, rfl⟩, hW, hsame.mono (by decide) (by decide)⟩
  show Q8_2_3_t Z a1 t kb c0 c1 c2 c3 zc vf h0 n0 _ T2.heap _
  rw [e2]
  exact ⟨rfl, N2, rfl⟩

theorem own_ef_8_2_3_f (m : MethodId) (a1 : Addr) : entryFrame m #[(Value.ref a1), (Value.int (2 : Int32)), (Value.int (3 : Int32))] 4 = mkF m 0 #[.val (Value.ref a1), .val (Value.int (2 : Int32)), .val (Value.int (3 : Int32)), .unset] [] := by first | (simp [entryFrame, mkF, argsToLocals, Value.category]; done) | rfl
def Q8_2_3_f (Z : State) (a1 : Addr) (t : Addr) (kb : ClassId) (c0 : Int32) (c1 : Int32) (c2 : Int32) (c3 : Int32) (zc : Int32) (vf : Value) (h0 : Heap) (n0 : Nat) (v : Option Value) (h : Heap) (L : List Loc) : Prop := v = some (Value.int (0 : Int32)) ∧ Fr n0 L ∧ h = h0
set_option maxRecDepth 65536 in
set_option maxHeartbeats 40000000 in
theorem rm8_2_3_f (l : Launch) (Z : State) (a0 : Array Value) (hw : ∀ d ∈ tables_1, d.before a0 Z = true) (ws : List Jvm.Cond) (a1 : Addr) (t : Addr) (kb : ClassId) (c0 : Int32) (c1 : Int32) (c2 : Int32) (c3 : Int32) (zc : Int32) (vf : Value) (h0 : Heap) (n0 : Nat) (O0 : Old Z n0 h0) (H0 : Exa Z h0 a1 "java/lang/String") (H1 : Fld Z h0 a1 "java/lang/String" "value" "[B" (Value.ref t)) (H2 : Fld Z h0 a1 "java/lang/String" "coder" "B" (Value.int (0 : Int32))) (H3 : Arv Z h0 t kb .byte (4 : Int32) ((([c0, c1, c2, c3] : List Int32).map (fun c => c.toInt8.toInt32)).map Value.int) (Value.int (0 : Int32))) (hp : ∀ c ∈ ([c0, c1, c2, c3] : List Int32), ¬ c < 0 ∧ ¬ (255 : Int32) < c) (H5 : Sta Z Z.heap "java/lang/String" "COMPACT_STRINGS" "Z" (Value.int zc)) (H6 : Sta Z Z.heap "jdk/internal/util/Preconditions" "SIOOBE_FORMATTER" "Ljava/util/function/BiFunction;" vf) (hzc : ¬ (zc = (0 : Int32))) (rvf : vf.isRef = true) (hd0 : ¬ (c2 = (46 : Int32))) :
    MetFree l (⟨"com/example/enlace/enlace/DotSegments", "isDotSegment", "(Ljava/lang/String;II)Z"⟩ : MethodName) (head1 (Jvm.Cond.code (⟨"com/example/enlace/enlace/DotSegments", "isDotSegment", "(Ljava/lang/String;II)Z"⟩ : MethodName) prog_3_method_4_code 4 (some .boolean) :: ws) ({ frames := 4, cells := 0, slots := 0, locals := 53 } : Room)) (fun a U => a = #[(Value.ref a1), (Value.int (2 : Int32)), (Value.int (3 : Int32))] ∧ Z.Warmed39 U.vm ∧ U.heap = h0) (fun _ _ _ _ _ => True) (fun _ U o U' => ∃ v L, o = .returned v ∧ Q8_2_3_f Z a1 t kb c0 c1 c2 c3 zc vf h0 n0 v U'.heap L ∧ FrameEnd U o U' L ({ frames := 4, cells := 0, slots := 0, locals := 53 } : Room).cells ({ frames := 4, cells := 0, slots := 0, locals := 53 } : Room).slots) := by
  refine MetFree.of_bodySF (plainFor_of_name own_pn_com_example_enlace_enlace_DotSegments) hisR ?_
  intro p e s m args below meth c s₁ Bd hml0 hP hK
  obtain ⟨rfl, hZ, hh⟩ := hP
  have hx := Bd.exec
  have hby := Bd.bytes
  have hml : c.maxLocals = 4 := hml0
  have hown : s.vm.findClass "com/example/enlace/enlace/DotSegments" = some m.cls := findClass_of_methodNamed Bd.named
  have hnm := (name_of_methodNamed Bd.named Bd.method).1
  have X0 : Stand p l e ({ frames := 4, cells := 0, slots := 0, locals := 53 } : Room) s m #[(Value.ref a1), (Value.int (2 : Int32)), (Value.int (3 : Int32))] below meth c s₁ [] 0 0 := Stand.of_body Bd
  have e0 : s₁.heap = h0 := by rw [← hh, Bd.state]; rfl
  have N0 := Fr.nil n0
  have K0 : Keep h0 h0 [] := Keep.refl h0 []
  show own_Go p.tables e below _ (s₁.setTop (entryFrame m #[(Value.ref a1), (Value.int (2 : Int32)), (Value.int (3 : Int32))] 4))
  refine own_Go.by (fun tq kq => castTop (own_ef_8_2_3_f m a1) kq) ?_
  show own_Go p.tables e below _ (s₁.setTop (mkF m 0 #[.val (Value.ref a1), .val (Value.int (2 : Int32)), .val (Value.int (3 : Int32)), .unset] []))
  refine own_Go.by (fun tq kq => XS.iloadN X0.here hx rfl (hb hby d8_0) rfl kq) ?_
  show own_Go p.tables e below _ (s₁.setTop (mkF m 1 #[.val (Value.ref a1), .val (Value.int (2 : Int32)), .val (Value.int (3 : Int32)), .unset] [(Value.int (3 : Int32))]))
  refine own_Go.by (fun tq kq => XS.iloadN X0.here hx rfl (hb hby d8_1) rfl kq) ?_
  show own_Go p.tables e below _ (s₁.setTop (mkF m 2 #[.val (Value.ref a1), .val (Value.int (2 : Int32)), .val (Value.int (3 : Int32)), .unset] [(Value.int (2 : Int32)), (Value.int (3 : Int32))]))
  refine own_Go.by (fun tq kq => XS.isub X0.here hx rfl (hb hby d8_2) rfl kq) ?_
  show own_Go p.tables e below _ (s₁.setTop (mkF m 3 #[.val (Value.ref a1), .val (Value.int (2 : Int32)), .val (Value.int (3 : Int32)), .unset] [(Value.int (1 : Int32))]))
  refine own_Go.by (fun tq kq => XS.istoreN X0.here hx rfl (hb hby d8_3) rfl (l' := #[.val (Value.ref a1), .val (Value.int (2 : Int32)), .val (Value.int (3 : Int32)), .val (Value.int (1 : Int32))]) rfl kq) ?_
  show own_Go p.tables e below _ (s₁.setTop (mkF m 4 #[.val (Value.ref a1), .val (Value.int (2 : Int32)), .val (Value.int (3 : Int32)), .val (Value.int (1 : Int32))] []))
  refine own_Go.by (fun tq kq => XS.iloadN X0.here hx rfl (hb hby d8_4) rfl kq) ?_
  show own_Go p.tables e below _ (s₁.setTop (mkF m 5 #[.val (Value.ref a1), .val (Value.int (2 : Int32)), .val (Value.int (3 : Int32)), .val (Value.int (1 : Int32))] [(Value.int (1 : Int32))]))
  refine own_Go.by (fun tq kq => XS.iconst X0.here hx rfl (hb hby d8_5) kq) ?_
  show own_Go p.tables e below _ (s₁.setTop (mkF m 6 #[.val (Value.ref a1), .val (Value.int (2 : Int32)), .val (Value.int (3 : Int32)), .val (Value.int (1 : Int32))] [(Value.int (1 : Int32)), (Value.int (1 : Int32))]))
  refine own_Go.by (fun tq kq => XS.icmpYes X0.here hx rfl (pc0 := 6) (pc' := 14) rfl (hb hby d8_6) rfl (teq (by decide : (1 : Int32) = (1 : Int32))).1 (by decide) (by decide) kq) ?_
  show own_Go p.tables e below _ (s₁.setTop (mkF m 14 #[.val (Value.ref a1), .val (Value.int (2 : Int32)), .val (Value.int (3 : Int32)), .val (Value.int (1 : Int32))] []))
  refine own_Go.by (fun tq kq => XS.aloadN X0.here hx rfl (hb hby d8_14) rfl rfl kq) ?_
  show own_Go p.tables e below _ (s₁.setTop (mkF m 15 #[.val (Value.ref a1), .val (Value.int (2 : Int32)), .val (Value.int (3 : Int32)), .val (Value.int (1 : Int32))] [(Value.ref a1)]))
  refine own_Go.by (fun tq kq => XS.iloadN X0.here hx rfl (hb hby d8_15) rfl kq) ?_
  show own_Go p.tables e below _ (s₁.setTop (mkF m 16 #[.val (Value.ref a1), .val (Value.int (2 : Int32)), .val (Value.int (3 : Int32)), .val (Value.int (1 : Int32))] [(Value.int (2 : Int32)), (Value.ref a1)]))
  have hcd1 : StrChars.Road.CodA ([c0, c1, c2, c3] : List Int32) 0 (4 : Int32) ((([c0, c1, c2, c3] : List Int32).map (fun c => c.toInt8.toInt32)).map Value.int) := StrChars.Road.codOf (n := 4) rfl (fun x hx => (hp x hx).2)
  obtain ⟨cq1, kq1, q1a, q1b, q1c⟩ := isOf hZ e0 H0
  obtain ⟨_, _, ⟨T1, L1, k1, n1⟩, -, X1, ⟨Lc1, hQ1, l1, y1, z1⟩, st1⟩ := X0.virtualBack hx (y := (⟨"java/lang/String", "charAt", "(I)C"⟩ : MethodName)) (z := (⟨"java/lang/String", "charAt", "(I)C"⟩ : MethodName)) hown (mvT hZ (hw _ (List.mem_of_getElem? (i := 39) rfl))) (mvT hZ (hw _ (List.mem_of_getElem? (i := 40) rfl))) (notFace_of_selects (args := #[]) (mvT hZ (hw _ (List.mem_of_getElem? (i := 42) rfl)))) (mvT hZ (hw _ (List.mem_of_getElem? (i := 42) rfl))) (mvT hZ (hw _ (List.mem_of_getElem? (i := 41) rfl))) (by decide) (StrChars.Road.chN (W := 0) hZ (fun d hd => hw d (own_hch d hd)) (kI := 4) (hw _ (List.mem_of_getElem? (i := 6) rfl)) H0 H1 H2 H3 hcd1 (own_up _ hp) (H5.ext O0.2) hzc (H6.ext O0.2) rvf (Nat.le_of_ble_eq_true rfl) (i := 2) (Nat.le_of_ble_eq_true rfl) (j := (2 : Int32)) rfl (by decide) (by decide)) q1a q1c (g := (mkF m 16 #[.val (Value.ref a1), .val (Value.int (2 : Int32)), .val (Value.int (3 : Int32)), .val (Value.int (1 : Int32))] [(Value.int (2 : Int32)), (Value.ref a1)])) rfl (by rw [hml]; rfl) (Steps.refl _) (argsL := [(Value.int (2 : Int32))]) (rest := []) (lenOf own_pd0 rfl) rfl (by show 2 * 0 + _ ≤ _; exact Nat.le_of_eq rfl) (hb hby d8_16) (fun _ _ => ⟨rfl, e0, (by decide : 0 + 0 ≤ _), (by decide : 0 + 0 ≤ _)⟩)
  dsimp only [Pt.U, Pt.locs, Pt.cells, Pt.slots] at X1 l1 y1 z1 st1 hQ1
  subst l1 y1 z1
  refine own_Go.by (fun tq kq => st1.trans kq) ?_
  obtain ⟨rfl, rfl, e1⟩ := hQ1
  have N1 := Fr.app N0 (Fr.nil n0)
  show own_Go p.tables e below _ (T1.setTop (mkF m 19 #[.val (Value.ref a1), .val (Value.int (2 : Int32)), .val (Value.int (3 : Int32)), .val (Value.int (1 : Int32))] [(Value.int c2)]))
  refine own_Go.by (fun tq kq => XS.bipush X1.here hx rfl (hb hby d8_19) kq) ?_
  show own_Go p.tables e below _ (T1.setTop (mkF m 21 #[.val (Value.ref a1), .val (Value.int (2 : Int32)), .val (Value.int (3 : Int32)), .val (Value.int (1 : Int32))] [(Value.int (46 : Int32)), (Value.int c2)]))
  refine own_Go.by (fun tq kq => XS.icmpYes X1.here hx rfl (pc0 := 21) (pc' := 40) rfl (hb hby d8_21) rfl (feq hd0).2 (by decide) (by decide) kq) ?_
  show own_Go p.tables e below _ (T1.setTop (mkF m 40 #[.val (Value.ref a1), .val (Value.int (2 : Int32)), .val (Value.int (3 : Int32)), .val (Value.int (1 : Int32))] []))
  refine own_Go.by (fun tq kq => XS.iconst X1.here hx rfl (hb hby d8_40) kq) ?_
  show own_Go p.tables e below _ (T1.setTop (mkF m 41 #[.val (Value.ref a1), .val (Value.int (2 : Int32)), .val (Value.int (3 : Int32)), .val (Value.int (1 : Int32))] [(Value.int (0 : Int32))]))
  obtain ⟨fs, hr, hrun, hended, hW, hsame⟩ := X1.leave (v := some (Value.int (nar .boolean (0 : Int32)))) (fun h => by rw [Bd.returns] at h; cases h)
  refine own_Go.fin (retN X1 hx (t := .boolean) Bd.returns (by simp) (hb hby d8_41) hr) ⟨hrun, hended, _, _, rfl, ?_, ⟨_, rfl⟩, hW, hsame.mono (by decide) (by decide)⟩
  show Q8_2_3_f Z a1 t kb c0 c1 c2 c3 zc vf h0 n0 _ T1.heap _
  rw [e1]
  exact ⟨rfl, N1, rfl⟩

theorem own_ef_8_2_4_tt (m : MethodId) (a1 : Addr) : entryFrame m #[(Value.ref a1), (Value.int (2 : Int32)), (Value.int (4 : Int32))] 4 = mkF m 0 #[.val (Value.ref a1), .val (Value.int (2 : Int32)), .val (Value.int (4 : Int32)), .unset] [] := by first | (simp [entryFrame, mkF, argsToLocals, Value.category]; done) | rfl
def Q8_2_4_tt (Z : State) (a1 : Addr) (t : Addr) (kb : ClassId) (c0 : Int32) (c1 : Int32) (c2 : Int32) (c3 : Int32) (zc : Int32) (vf : Value) (h0 : Heap) (n0 : Nat) (v : Option Value) (h : Heap) (L : List Loc) : Prop := v = some (Value.int (1 : Int32)) ∧ Fr n0 L ∧ h = h0
set_option maxRecDepth 65536 in
set_option maxHeartbeats 40000000 in
theorem rm8_2_4_tt (l : Launch) (Z : State) (a0 : Array Value) (hw : ∀ d ∈ tables_1, d.before a0 Z = true) (ws : List Jvm.Cond) (a1 : Addr) (t : Addr) (kb : ClassId) (c0 : Int32) (c1 : Int32) (c2 : Int32) (c3 : Int32) (zc : Int32) (vf : Value) (h0 : Heap) (n0 : Nat) (O0 : Old Z n0 h0) (H0 : Exa Z h0 a1 "java/lang/String") (H1 : Fld Z h0 a1 "java/lang/String" "value" "[B" (Value.ref t)) (H2 : Fld Z h0 a1 "java/lang/String" "coder" "B" (Value.int (0 : Int32))) (H3 : Arv Z h0 t kb .byte (4 : Int32) ((([c0, c1, c2, c3] : List Int32).map (fun c => c.toInt8.toInt32)).map Value.int) (Value.int (0 : Int32))) (hp : ∀ c ∈ ([c0, c1, c2, c3] : List Int32), ¬ c < 0 ∧ ¬ (255 : Int32) < c) (H5 : Sta Z Z.heap "java/lang/String" "COMPACT_STRINGS" "Z" (Value.int zc)) (H6 : Sta Z Z.heap "jdk/internal/util/Preconditions" "SIOOBE_FORMATTER" "Ljava/util/function/BiFunction;" vf) (hzc : ¬ (zc = (0 : Int32))) (rvf : vf.isRef = true) (hd0 : c2 = (46 : Int32)) (hd1 : c3 = (46 : Int32)) :
    MetFree l (⟨"com/example/enlace/enlace/DotSegments", "isDotSegment", "(Ljava/lang/String;II)Z"⟩ : MethodName) (head1 (Jvm.Cond.code (⟨"com/example/enlace/enlace/DotSegments", "isDotSegment", "(Ljava/lang/String;II)Z"⟩ : MethodName) prog_3_method_4_code 4 (some .boolean) :: ws) ({ frames := 4, cells := 0, slots := 0, locals := 53 } : Room)) (fun a U => a = #[(Value.ref a1), (Value.int (2 : Int32)), (Value.int (4 : Int32))] ∧ Z.Warmed39 U.vm ∧ U.heap = h0) (fun _ _ _ _ _ => True) (fun _ U o U' => ∃ v L, o = .returned v ∧ Q8_2_4_tt Z a1 t kb c0 c1 c2 c3 zc vf h0 n0 v U'.heap L ∧ FrameEnd U o U' L ({ frames := 4, cells := 0, slots := 0, locals := 53 } : Room).cells ({ frames := 4, cells := 0, slots := 0, locals := 53 } : Room).slots) := by
  refine MetFree.of_bodySF (plainFor_of_name own_pn_com_example_enlace_enlace_DotSegments) hisR ?_
  intro p e s m args below meth c s₁ Bd hml0 hP hK
  obtain ⟨rfl, hZ, hh⟩ := hP
  have hx := Bd.exec
  have hby := Bd.bytes
  have hml : c.maxLocals = 4 := hml0
  have hown : s.vm.findClass "com/example/enlace/enlace/DotSegments" = some m.cls := findClass_of_methodNamed Bd.named
  have hnm := (name_of_methodNamed Bd.named Bd.method).1
  have X0 : Stand p l e ({ frames := 4, cells := 0, slots := 0, locals := 53 } : Room) s m #[(Value.ref a1), (Value.int (2 : Int32)), (Value.int (4 : Int32))] below meth c s₁ [] 0 0 := Stand.of_body Bd
  have e0 : s₁.heap = h0 := by rw [← hh, Bd.state]; rfl
  have N0 := Fr.nil n0
  have K0 : Keep h0 h0 [] := Keep.refl h0 []
  show own_Go p.tables e below _ (s₁.setTop (entryFrame m #[(Value.ref a1), (Value.int (2 : Int32)), (Value.int (4 : Int32))] 4))
  refine own_Go.by (fun tq kq => castTop (own_ef_8_2_4_tt m a1) kq) ?_
  show own_Go p.tables e below _ (s₁.setTop (mkF m 0 #[.val (Value.ref a1), .val (Value.int (2 : Int32)), .val (Value.int (4 : Int32)), .unset] []))
  refine own_Go.by (fun tq kq => XS.iloadN X0.here hx rfl (hb hby d8_0) rfl kq) ?_
  show own_Go p.tables e below _ (s₁.setTop (mkF m 1 #[.val (Value.ref a1), .val (Value.int (2 : Int32)), .val (Value.int (4 : Int32)), .unset] [(Value.int (4 : Int32))]))
  refine own_Go.by (fun tq kq => XS.iloadN X0.here hx rfl (hb hby d8_1) rfl kq) ?_
  show own_Go p.tables e below _ (s₁.setTop (mkF m 2 #[.val (Value.ref a1), .val (Value.int (2 : Int32)), .val (Value.int (4 : Int32)), .unset] [(Value.int (2 : Int32)), (Value.int (4 : Int32))]))
  refine own_Go.by (fun tq kq => XS.isub X0.here hx rfl (hb hby d8_2) rfl kq) ?_
  show own_Go p.tables e below _ (s₁.setTop (mkF m 3 #[.val (Value.ref a1), .val (Value.int (2 : Int32)), .val (Value.int (4 : Int32)), .unset] [(Value.int (2 : Int32))]))
  refine own_Go.by (fun tq kq => XS.istoreN X0.here hx rfl (hb hby d8_3) rfl (l' := #[.val (Value.ref a1), .val (Value.int (2 : Int32)), .val (Value.int (4 : Int32)), .val (Value.int (2 : Int32))]) rfl kq) ?_
  show own_Go p.tables e below _ (s₁.setTop (mkF m 4 #[.val (Value.ref a1), .val (Value.int (2 : Int32)), .val (Value.int (4 : Int32)), .val (Value.int (2 : Int32))] []))
  refine own_Go.by (fun tq kq => XS.iloadN X0.here hx rfl (hb hby d8_4) rfl kq) ?_
  show own_Go p.tables e below _ (s₁.setTop (mkF m 5 #[.val (Value.ref a1), .val (Value.int (2 : Int32)), .val (Value.int (4 : Int32)), .val (Value.int (2 : Int32))] [(Value.int (2 : Int32))]))
  refine own_Go.by (fun tq kq => XS.iconst X0.here hx rfl (hb hby d8_5) kq) ?_
  show own_Go p.tables e below _ (s₁.setTop (mkF m 6 #[.val (Value.ref a1), .val (Value.int (2 : Int32)), .val (Value.int (4 : Int32)), .val (Value.int (2 : Int32))] [(Value.int (1 : Int32)), (Value.int (2 : Int32))]))
  refine own_Go.by (fun tq kq => XS.icmpNo X0.here hx rfl (hb hby d8_6) rfl (feq (by decide : ¬ ((2 : Int32) = (1 : Int32)))).1 kq) ?_
  show own_Go p.tables e below _ (s₁.setTop (mkF m 9 #[.val (Value.ref a1), .val (Value.int (2 : Int32)), .val (Value.int (4 : Int32)), .val (Value.int (2 : Int32))] []))
  refine own_Go.by (fun tq kq => XS.iloadN X0.here hx rfl (hb hby d8_9) rfl kq) ?_
  show own_Go p.tables e below _ (s₁.setTop (mkF m 10 #[.val (Value.ref a1), .val (Value.int (2 : Int32)), .val (Value.int (4 : Int32)), .val (Value.int (2 : Int32))] [(Value.int (2 : Int32))]))
  refine own_Go.by (fun tq kq => XS.iconst X0.here hx rfl (hb hby d8_10) kq) ?_
  show own_Go p.tables e below _ (s₁.setTop (mkF m 11 #[.val (Value.ref a1), .val (Value.int (2 : Int32)), .val (Value.int (4 : Int32)), .val (Value.int (2 : Int32))] [(Value.int (2 : Int32)), (Value.int (2 : Int32))]))
  refine own_Go.by (fun tq kq => XS.icmpNo X0.here hx rfl (hb hby d8_11) rfl (teq (by decide : (2 : Int32) = (2 : Int32))).2 kq) ?_
  show own_Go p.tables e below _ (s₁.setTop (mkF m 14 #[.val (Value.ref a1), .val (Value.int (2 : Int32)), .val (Value.int (4 : Int32)), .val (Value.int (2 : Int32))] []))
  refine own_Go.by (fun tq kq => XS.aloadN X0.here hx rfl (hb hby d8_14) rfl rfl kq) ?_
  show own_Go p.tables e below _ (s₁.setTop (mkF m 15 #[.val (Value.ref a1), .val (Value.int (2 : Int32)), .val (Value.int (4 : Int32)), .val (Value.int (2 : Int32))] [(Value.ref a1)]))
  refine own_Go.by (fun tq kq => XS.iloadN X0.here hx rfl (hb hby d8_15) rfl kq) ?_
  show own_Go p.tables e below _ (s₁.setTop (mkF m 16 #[.val (Value.ref a1), .val (Value.int (2 : Int32)), .val (Value.int (4 : Int32)), .val (Value.int (2 : Int32))] [(Value.int (2 : Int32)), (Value.ref a1)]))
  have hcd1 : StrChars.Road.CodA ([c0, c1, c2, c3] : List Int32) 0 (4 : Int32) ((([c0, c1, c2, c3] : List Int32).map (fun c => c.toInt8.toInt32)).map Value.int) := StrChars.Road.codOf (n := 4) rfl (fun x hx => (hp x hx).2)
  obtain ⟨cq1, kq1, q1a, q1b, q1c⟩ := isOf hZ e0 H0
  obtain ⟨_, _, ⟨T1, L1, k1, n1⟩, -, X1, ⟨Lc1, hQ1, l1, y1, z1⟩, st1⟩ := X0.virtualBack hx (y := (⟨"java/lang/String", "charAt", "(I)C"⟩ : MethodName)) (z := (⟨"java/lang/String", "charAt", "(I)C"⟩ : MethodName)) hown (mvT hZ (hw _ (List.mem_of_getElem? (i := 39) rfl))) (mvT hZ (hw _ (List.mem_of_getElem? (i := 40) rfl))) (notFace_of_selects (args := #[]) (mvT hZ (hw _ (List.mem_of_getElem? (i := 42) rfl)))) (mvT hZ (hw _ (List.mem_of_getElem? (i := 42) rfl))) (mvT hZ (hw _ (List.mem_of_getElem? (i := 41) rfl))) (by decide) (StrChars.Road.chN (W := 0) hZ (fun d hd => hw d (own_hch d hd)) (kI := 4) (hw _ (List.mem_of_getElem? (i := 6) rfl)) H0 H1 H2 H3 hcd1 (own_up _ hp) (H5.ext O0.2) hzc (H6.ext O0.2) rvf (Nat.le_of_ble_eq_true rfl) (i := 2) (Nat.le_of_ble_eq_true rfl) (j := (2 : Int32)) rfl (by decide) (by decide)) q1a q1c (g := (mkF m 16 #[.val (Value.ref a1), .val (Value.int (2 : Int32)), .val (Value.int (4 : Int32)), .val (Value.int (2 : Int32))] [(Value.int (2 : Int32)), (Value.ref a1)])) rfl (by rw [hml]; rfl) (Steps.refl _) (argsL := [(Value.int (2 : Int32))]) (rest := []) (lenOf own_pd0 rfl) rfl (by show 2 * 0 + _ ≤ _; exact Nat.le_of_eq rfl) (hb hby d8_16) (fun _ _ => ⟨rfl, e0, (by decide : 0 + 0 ≤ _), (by decide : 0 + 0 ≤ _)⟩)
  dsimp only [Pt.U, Pt.locs, Pt.cells, Pt.slots] at X1 l1 y1 z1 st1 hQ1
  subst l1 y1 z1
  refine own_Go.by (fun tq kq => st1.trans kq) ?_
  obtain ⟨rfl, rfl, e1⟩ := hQ1
  have N1 := Fr.app N0 (Fr.nil n0)
  show own_Go p.tables e below _ (T1.setTop (mkF m 19 #[.val (Value.ref a1), .val (Value.int (2 : Int32)), .val (Value.int (4 : Int32)), .val (Value.int (2 : Int32))] [(Value.int c2)]))
  refine own_Go.by (fun tq kq => XS.bipush X1.here hx rfl (hb hby d8_19) kq) ?_
  show own_Go p.tables e below _ (T1.setTop (mkF m 21 #[.val (Value.ref a1), .val (Value.int (2 : Int32)), .val (Value.int (4 : Int32)), .val (Value.int (2 : Int32))] [(Value.int (46 : Int32)), (Value.int c2)]))
  refine own_Go.by (fun tq kq => XS.icmpNo X1.here hx rfl (hb hby d8_21) rfl (teq hd0).2 kq) ?_
  show own_Go p.tables e below _ (T1.setTop (mkF m 24 #[.val (Value.ref a1), .val (Value.int (2 : Int32)), .val (Value.int (4 : Int32)), .val (Value.int (2 : Int32))] []))
  refine own_Go.by (fun tq kq => XS.aloadN X1.here hx rfl (hb hby d8_24) rfl rfl kq) ?_
  show own_Go p.tables e below _ (T1.setTop (mkF m 25 #[.val (Value.ref a1), .val (Value.int (2 : Int32)), .val (Value.int (4 : Int32)), .val (Value.int (2 : Int32))] [(Value.ref a1)]))
  refine own_Go.by (fun tq kq => XS.iloadN X1.here hx rfl (hb hby d8_25) rfl kq) ?_
  show own_Go p.tables e below _ (T1.setTop (mkF m 26 #[.val (Value.ref a1), .val (Value.int (2 : Int32)), .val (Value.int (4 : Int32)), .val (Value.int (2 : Int32))] [(Value.int (4 : Int32)), (Value.ref a1)]))
  refine own_Go.by (fun tq kq => XS.iconst X1.here hx rfl (hb hby d8_26) kq) ?_
  show own_Go p.tables e below _ (T1.setTop (mkF m 27 #[.val (Value.ref a1), .val (Value.int (2 : Int32)), .val (Value.int (4 : Int32)), .val (Value.int (2 : Int32))] [(Value.int (1 : Int32)), (Value.int (4 : Int32)), (Value.ref a1)]))
  refine own_Go.by (fun tq kq => XS.isub X1.here hx rfl (hb hby d8_27) rfl kq) ?_
  show own_Go p.tables e below _ (T1.setTop (mkF m 28 #[.val (Value.ref a1), .val (Value.int (2 : Int32)), .val (Value.int (4 : Int32)), .val (Value.int (2 : Int32))] [(Value.int (3 : Int32)), (Value.ref a1)]))
  have hcd2 : StrChars.Road.CodA ([c0, c1, c2, c3] : List Int32) 0 (4 : Int32) ((([c0, c1, c2, c3] : List Int32).map (fun c => c.toInt8.toInt32)).map Value.int) := StrChars.Road.codOf (n := 4) rfl (fun x hx => (hp x hx).2)
  obtain ⟨cq2, kq2, q2a, q2b, q2c⟩ := isOf hZ e1 H0
  obtain ⟨_, _, ⟨T2, L2, k2, n2⟩, -, X2, ⟨Lc2, hQ2, l2, y2, z2⟩, st2⟩ := X1.virtualBack hx (y := (⟨"java/lang/String", "charAt", "(I)C"⟩ : MethodName)) (z := (⟨"java/lang/String", "charAt", "(I)C"⟩ : MethodName)) hown (mvT hZ (hw _ (List.mem_of_getElem? (i := 39) rfl))) (mvT hZ (hw _ (List.mem_of_getElem? (i := 40) rfl))) (notFace_of_selects (args := #[]) (mvT hZ (hw _ (List.mem_of_getElem? (i := 42) rfl)))) (mvT hZ (hw _ (List.mem_of_getElem? (i := 42) rfl))) (mvT hZ (hw _ (List.mem_of_getElem? (i := 41) rfl))) (by decide) (StrChars.Road.chN (W := 0) hZ (fun d hd => hw d (own_hch d hd)) (kI := 4) (hw _ (List.mem_of_getElem? (i := 6) rfl)) H0 H1 H2 H3 hcd2 (own_up _ hp) (H5.ext O0.2) hzc (H6.ext O0.2) rvf (Nat.le_of_ble_eq_true rfl) (i := 3) (Nat.le_of_ble_eq_true rfl) (j := (3 : Int32)) rfl (by decide) (by decide)) q2a q2c (g := (mkF m 28 #[.val (Value.ref a1), .val (Value.int (2 : Int32)), .val (Value.int (4 : Int32)), .val (Value.int (2 : Int32))] [(Value.int (3 : Int32)), (Value.ref a1)])) rfl (by rw [hml]; rfl) (Steps.refl _) (argsL := [(Value.int (3 : Int32))]) (rest := []) (lenOf own_pd0 rfl) rfl (by show 2 * 0 + _ ≤ _; exact Nat.le_of_eq rfl) (hb hby d8_28) (fun _ _ => ⟨rfl, e1, (by decide : 0 + 0 ≤ _), (by decide : 0 + 0 ≤ _)⟩)
  dsimp only [Pt.U, Pt.locs, Pt.cells, Pt.slots] at X2 l2 y2 z2 st2 hQ2
  subst l2 y2 z2
  refine own_Go.by (fun tq kq => st2.trans kq) ?_
  obtain ⟨rfl, rfl, e2⟩ := hQ2
  have N2 := Fr.app N1 (Fr.nil n0)
  show own_Go p.tables e below _ (T2.setTop (mkF m 31 #[.val (Value.ref a1), .val (Value.int (2 : Int32)), .val (Value.int (4 : Int32)), .val (Value.int (2 : Int32))] [(Value.int c3)]))
  refine own_Go.by (fun tq kq => XS.bipush X2.here hx rfl (hb hby d8_31) kq) ?_
  show own_Go p.tables e below _ (T2.setTop (mkF m 33 #[.val (Value.ref a1), .val (Value.int (2 : Int32)), .val (Value.int (4 : Int32)), .val (Value.int (2 : Int32))] [(Value.int (46 : Int32)), (Value.int c3)]))
  refine own_Go.by (fun tq kq => XS.icmpNo X2.here hx rfl (hb hby d8_33) rfl (teq hd1).2 kq) ?_
  show own_Go p.tables e below _ (T2.setTop (mkF m 36 #[.val (Value.ref a1), .val (Value.int (2 : Int32)), .val (Value.int (4 : Int32)), .val (Value.int (2 : Int32))] []))
  refine own_Go.by (fun tq kq => XS.iconst X2.here hx rfl (hb hby d8_36) kq) ?_
  show own_Go p.tables e below _ (T2.setTop (mkF m 37 #[.val (Value.ref a1), .val (Value.int (2 : Int32)), .val (Value.int (4 : Int32)), .val (Value.int (2 : Int32))] [(Value.int (1 : Int32))]))
  refine own_Go.by (fun tq kq => XS.goto X2.here hx rfl (pc0 := 37) (pc' := 41) rfl (hb hby d8_37) (by decide) (by decide) kq) ?_
  show own_Go p.tables e below _ (T2.setTop (mkF m 41 #[.val (Value.ref a1), .val (Value.int (2 : Int32)), .val (Value.int (4 : Int32)), .val (Value.int (2 : Int32))] [(Value.int (1 : Int32))]))
  obtain ⟨fs, hr, hrun, hended, hW, hsame⟩ := X2.leave (v := some (Value.int (nar .boolean (1 : Int32)))) (fun h => by rw [Bd.returns] at h; cases h)
  refine own_Go.fin (retN X2 hx (t := .boolean) Bd.returns (by simp) (hb hby d8_41) hr) ⟨hrun, hended, _, _, rfl, ?_, ⟨_, rfl⟩, hW, hsame.mono (by decide) (by decide)⟩
  show Q8_2_4_tt Z a1 t kb c0 c1 c2 c3 zc vf h0 n0 _ T2.heap _
  rw [e2]
  exact ⟨rfl, N2, rfl⟩

theorem own_ef_8_2_4_tf (m : MethodId) (a1 : Addr) : entryFrame m #[(Value.ref a1), (Value.int (2 : Int32)), (Value.int (4 : Int32))] 4 = mkF m 0 #[.val (Value.ref a1), .val (Value.int (2 : Int32)), .val (Value.int (4 : Int32)), .unset] [] := by first | (simp [entryFrame, mkF, argsToLocals, Value.category]; done) | rfl
def Q8_2_4_tf (Z : State) (a1 : Addr) (t : Addr) (kb : ClassId) (c0 : Int32) (c1 : Int32) (c2 : Int32) (c3 : Int32) (zc : Int32) (vf : Value) (h0 : Heap) (n0 : Nat) (v : Option Value) (h : Heap) (L : List Loc) : Prop := v = some (Value.int (0 : Int32)) ∧ Fr n0 L ∧ h = h0
set_option maxRecDepth 65536 in
set_option maxHeartbeats 40000000 in
theorem rm8_2_4_tf (l : Launch) (Z : State) (a0 : Array Value) (hw : ∀ d ∈ tables_1, d.before a0 Z = true) (ws : List Jvm.Cond) (a1 : Addr) (t : Addr) (kb : ClassId) (c0 : Int32) (c1 : Int32) (c2 : Int32) (c3 : Int32) (zc : Int32) (vf : Value) (h0 : Heap) (n0 : Nat) (O0 : Old Z n0 h0) (H0 : Exa Z h0 a1 "java/lang/String") (H1 : Fld Z h0 a1 "java/lang/String" "value" "[B" (Value.ref t)) (H2 : Fld Z h0 a1 "java/lang/String" "coder" "B" (Value.int (0 : Int32))) (H3 : Arv Z h0 t kb .byte (4 : Int32) ((([c0, c1, c2, c3] : List Int32).map (fun c => c.toInt8.toInt32)).map Value.int) (Value.int (0 : Int32))) (hp : ∀ c ∈ ([c0, c1, c2, c3] : List Int32), ¬ c < 0 ∧ ¬ (255 : Int32) < c) (H5 : Sta Z Z.heap "java/lang/String" "COMPACT_STRINGS" "Z" (Value.int zc)) (H6 : Sta Z Z.heap "jdk/internal/util/Preconditions" "SIOOBE_FORMATTER" "Ljava/util/function/BiFunction;" vf) (hzc : ¬ (zc = (0 : Int32))) (rvf : vf.isRef = true) (hd0 : c2 = (46 : Int32)) (hd1 : ¬ (c3 = (46 : Int32))) :
    MetFree l (⟨"com/example/enlace/enlace/DotSegments", "isDotSegment", "(Ljava/lang/String;II)Z"⟩ : MethodName) (head1 (Jvm.Cond.code (⟨"com/example/enlace/enlace/DotSegments", "isDotSegment", "(Ljava/lang/String;II)Z"⟩ : MethodName) prog_3_method_4_code 4 (some .boolean) :: ws) ({ frames := 4, cells := 0, slots := 0, locals := 53 } : Room)) (fun a U => a = #[(Value.ref a1), (Value.int (2 : Int32)), (Value.int (4 : Int32))] ∧ Z.Warmed39 U.vm ∧ U.heap = h0) (fun _ _ _ _ _ => True) (fun _ U o U' => ∃ v L, o = .returned v ∧ Q8_2_4_tf Z a1 t kb c0 c1 c2 c3 zc vf h0 n0 v U'.heap L ∧ FrameEnd U o U' L ({ frames := 4, cells := 0, slots := 0, locals := 53 } : Room).cells ({ frames := 4, cells := 0, slots := 0, locals := 53 } : Room).slots) := by
  refine MetFree.of_bodySF (plainFor_of_name own_pn_com_example_enlace_enlace_DotSegments) hisR ?_
  intro p e s m args below meth c s₁ Bd hml0 hP hK
  obtain ⟨rfl, hZ, hh⟩ := hP
  have hx := Bd.exec
  have hby := Bd.bytes
  have hml : c.maxLocals = 4 := hml0
  have hown : s.vm.findClass "com/example/enlace/enlace/DotSegments" = some m.cls := findClass_of_methodNamed Bd.named
  have hnm := (name_of_methodNamed Bd.named Bd.method).1
  have X0 : Stand p l e ({ frames := 4, cells := 0, slots := 0, locals := 53 } : Room) s m #[(Value.ref a1), (Value.int (2 : Int32)), (Value.int (4 : Int32))] below meth c s₁ [] 0 0 := Stand.of_body Bd
  have e0 : s₁.heap = h0 := by rw [← hh, Bd.state]; rfl
  have N0 := Fr.nil n0
  have K0 : Keep h0 h0 [] := Keep.refl h0 []
  show own_Go p.tables e below _ (s₁.setTop (entryFrame m #[(Value.ref a1), (Value.int (2 : Int32)), (Value.int (4 : Int32))] 4))
  refine own_Go.by (fun tq kq => castTop (own_ef_8_2_4_tf m a1) kq) ?_
  show own_Go p.tables e below _ (s₁.setTop (mkF m 0 #[.val (Value.ref a1), .val (Value.int (2 : Int32)), .val (Value.int (4 : Int32)), .unset] []))
  refine own_Go.by (fun tq kq => XS.iloadN X0.here hx rfl (hb hby d8_0) rfl kq) ?_
  show own_Go p.tables e below _ (s₁.setTop (mkF m 1 #[.val (Value.ref a1), .val (Value.int (2 : Int32)), .val (Value.int (4 : Int32)), .unset] [(Value.int (4 : Int32))]))
  refine own_Go.by (fun tq kq => XS.iloadN X0.here hx rfl (hb hby d8_1) rfl kq) ?_
  show own_Go p.tables e below _ (s₁.setTop (mkF m 2 #[.val (Value.ref a1), .val (Value.int (2 : Int32)), .val (Value.int (4 : Int32)), .unset] [(Value.int (2 : Int32)), (Value.int (4 : Int32))]))
  refine own_Go.by (fun tq kq => XS.isub X0.here hx rfl (hb hby d8_2) rfl kq) ?_
  show own_Go p.tables e below _ (s₁.setTop (mkF m 3 #[.val (Value.ref a1), .val (Value.int (2 : Int32)), .val (Value.int (4 : Int32)), .unset] [(Value.int (2 : Int32))]))
  refine own_Go.by (fun tq kq => XS.istoreN X0.here hx rfl (hb hby d8_3) rfl (l' := #[.val (Value.ref a1), .val (Value.int (2 : Int32)), .val (Value.int (4 : Int32)), .val (Value.int (2 : Int32))]) rfl kq) ?_
  show own_Go p.tables e below _ (s₁.setTop (mkF m 4 #[.val (Value.ref a1), .val (Value.int (2 : Int32)), .val (Value.int (4 : Int32)), .val (Value.int (2 : Int32))] []))
  refine own_Go.by (fun tq kq => XS.iloadN X0.here hx rfl (hb hby d8_4) rfl kq) ?_
  show own_Go p.tables e below _ (s₁.setTop (mkF m 5 #[.val (Value.ref a1), .val (Value.int (2 : Int32)), .val (Value.int (4 : Int32)), .val (Value.int (2 : Int32))] [(Value.int (2 : Int32))]))
  refine own_Go.by (fun tq kq => XS.iconst X0.here hx rfl (hb hby d8_5) kq) ?_
  show own_Go p.tables e below _ (s₁.setTop (mkF m 6 #[.val (Value.ref a1), .val (Value.int (2 : Int32)), .val (Value.int (4 : Int32)), .val (Value.int (2 : Int32))] [(Value.int (1 : Int32)), (Value.int (2 : Int32))]))
  refine own_Go.by (fun tq kq => XS.icmpNo X0.here hx rfl (hb hby d8_6) rfl (feq (by decide : ¬ ((2 : Int32) = (1 : Int32)))).1 kq) ?_
  show own_Go p.tables e below _ (s₁.setTop (mkF m 9 #[.val (Value.ref a1), .val (Value.int (2 : Int32)), .val (Value.int (4 : Int32)), .val (Value.int (2 : Int32))] []))
  refine own_Go.by (fun tq kq => XS.iloadN X0.here hx rfl (hb hby d8_9) rfl kq) ?_
  show own_Go p.tables e below _ (s₁.setTop (mkF m 10 #[.val (Value.ref a1), .val (Value.int (2 : Int32)), .val (Value.int (4 : Int32)), .val (Value.int (2 : Int32))] [(Value.int (2 : Int32))]))
  refine own_Go.by (fun tq kq => XS.iconst X0.here hx rfl (hb hby d8_10) kq) ?_
  show own_Go p.tables e below _ (s₁.setTop (mkF m 11 #[.val (Value.ref a1), .val (Value.int (2 : Int32)), .val (Value.int (4 : Int32)), .val (Value.int (2 : Int32))] [(Value.int (2 : Int32)), (Value.int (2 : Int32))]))
  refine own_Go.by (fun tq kq => XS.icmpNo X0.here hx rfl (hb hby d8_11) rfl (teq (by decide : (2 : Int32) = (2 : Int32))).2 kq) ?_
  show own_Go p.tables e below _ (s₁.setTop (mkF m 14 #[.val (Value.ref a1), .val (Value.int (2 : Int32)), .val (Value.int (4 : Int32)), .val (Value.int (2 : Int32))] []))
  refine own_Go.by (fun tq kq => XS.aloadN X0.here hx rfl (hb hby d8_14) rfl rfl kq) ?_
  show own_Go p.tables e below _ (s₁.setTop (mkF m 15 #[.val (Value.ref a1), .val (Value.int (2 : Int32)), .val (Value.int (4 : Int32)), .val (Value.int (2 : Int32))] [(Value.ref a1)]))
  refine own_Go.by (fun tq kq => XS.iloadN X0.here hx rfl (hb hby d8_15) rfl kq) ?_
  show own_Go p.tables e below _ (s₁.setTop (mkF m 16 #[.val (Value.ref a1), .val (Value.int (2 : Int32)), .val (Value.int (4 : Int32)), .val (Value.int (2 : Int32))] [(Value.int (2 : Int32)), (Value.ref a1)]))
  have hcd1 : StrChars.Road.CodA ([c0, c1, c2, c3] : List Int32) 0 (4 : Int32) ((([c0, c1, c2, c3] : List Int32).map (fun c => c.toInt8.toInt32)).map Value.int) := StrChars.Road.codOf (n := 4) rfl (fun x hx => (hp x hx).2)
  obtain ⟨cq1, kq1, q1a, q1b, q1c⟩ := isOf hZ e0 H0
  obtain ⟨_, _, ⟨T1, L1, k1, n1⟩, -, X1, ⟨Lc1, hQ1, l1, y1, z1⟩, st1⟩ := X0.virtualBack hx (y := (⟨"java/lang/String", "charAt", "(I)C"⟩ : MethodName)) (z := (⟨"java/lang/String", "charAt", "(I)C"⟩ : MethodName)) hown (mvT hZ (hw _ (List.mem_of_getElem? (i := 39) rfl))) (mvT hZ (hw _ (List.mem_of_getElem? (i := 40) rfl))) (notFace_of_selects (args := #[]) (mvT hZ (hw _ (List.mem_of_getElem? (i := 42) rfl)))) (mvT hZ (hw _ (List.mem_of_getElem? (i := 42) rfl))) (mvT hZ (hw _ (List.mem_of_getElem? (i := 41) rfl))) (by decide) (StrChars.Road.chN (W := 0) hZ (fun d hd => hw d (own_hch d hd)) (kI := 4) (hw _ (List.mem_of_getElem? (i := 6) rfl)) H0 H1 H2 H3 hcd1 (own_up _ hp) (H5.ext O0.2) hzc (H6.ext O0.2) rvf (Nat.le_of_ble_eq_true rfl) (i := 2) (Nat.le_of_ble_eq_true rfl) (j := (2 : Int32)) rfl (by decide) (by decide)) q1a q1c (g := (mkF m 16 #[.val (Value.ref a1), .val (Value.int (2 : Int32)), .val (Value.int (4 : Int32)), .val (Value.int (2 : Int32))] [(Value.int (2 : Int32)), (Value.ref a1)])) rfl (by rw [hml]; rfl) (Steps.refl _) (argsL := [(Value.int (2 : Int32))]) (rest := []) (lenOf own_pd0 rfl) rfl (by show 2 * 0 + _ ≤ _; exact Nat.le_of_eq rfl) (hb hby d8_16) (fun _ _ => ⟨rfl, e0, (by decide : 0 + 0 ≤ _), (by decide : 0 + 0 ≤ _)⟩)
  dsimp only [Pt.U, Pt.locs, Pt.cells, Pt.slots] at X1 l1 y1 z1 st1 hQ1
  subst l1 y1 z1
  refine own_Go.by (fun tq kq => st1.trans kq) ?_
  obtain ⟨rfl, rfl, e1⟩ := hQ1
  have N1 := Fr.app N0 (Fr.nil n0)
  show own_Go p.tables e below _ (T1.setTop (mkF m 19 #[.val (Value.ref a1), .val (Value.int (2 : Int32)), .val (Value.int (4 : Int32)), .val (Value.int (2 : Int32))] [(Value.int c2)]))
  refine own_Go.by (fun tq kq => XS.bipush X1.here hx rfl (hb hby d8_19) kq) ?_
  show own_Go p.tables e below _ (T1.setTop (mkF m 21 #[.val (Value.ref a1), .val (Value.int (2 : Int32)), .val (Value.int (4 : Int32)), .val (Value.int (2 : Int32))] [(Value.int (46 : Int32)), (Value.int c2)]))
  refine own_Go.by (fun tq kq => XS.icmpNo X1.here hx rfl (hb hby d8_21) rfl (teq hd0).2 kq) ?_
  show own_Go p.tables e below _ (T1.setTop (mkF m 24 #[.val (Value.ref a1), .val (Value.int (2 : Int32)), .val (Value.int (4 : Int32)), .val (Value.int (2 : Int32))] []))
  refine own_Go.by (fun tq kq => XS.aloadN X1.here hx rfl (hb hby d8_24) rfl rfl kq) ?_
  show own_Go p.tables e below _ (T1.setTop (mkF m 25 #[.val (Value.ref a1), .val (Value.int (2 : Int32)), .val (Value.int (4 : Int32)), .val (Value.int (2 : Int32))] [(Value.ref a1)]))
  refine own_Go.by (fun tq kq => XS.iloadN X1.here hx rfl (hb hby d8_25) rfl kq) ?_
  show own_Go p.tables e below _ (T1.setTop (mkF m 26 #[.val (Value.ref a1), .val (Value.int (2 : Int32)), .val (Value.int (4 : Int32)), .val (Value.int (2 : Int32))] [(Value.int (4 : Int32)), (Value.ref a1)]))
  refine own_Go.by (fun tq kq => XS.iconst X1.here hx rfl (hb hby d8_26) kq) ?_
  show own_Go p.tables e below _ (T1.setTop (mkF m 27 #[.val (Value.ref a1), .val (Value.int (2 : Int32)), .val (Value.int (4 : Int32)), .val (Value.int (2 : Int32))] [(Value.int (1 : Int32)), (Value.int (4 : Int32)), (Value.ref a1)]))
  refine own_Go.by (fun tq kq => XS.isub X1.here hx rfl (hb hby d8_27) rfl kq) ?_
  show own_Go p.tables e below _ (T1.setTop (mkF m 28 #[.val (Value.ref a1), .val (Value.int (2 : Int32)), .val (Value.int (4 : Int32)), .val (Value.int (2 : Int32))] [(Value.int (3 : Int32)), (Value.ref a1)]))
  have hcd2 : StrChars.Road.CodA ([c0, c1, c2, c3] : List Int32) 0 (4 : Int32) ((([c0, c1, c2, c3] : List Int32).map (fun c => c.toInt8.toInt32)).map Value.int) := StrChars.Road.codOf (n := 4) rfl (fun x hx => (hp x hx).2)
  obtain ⟨cq2, kq2, q2a, q2b, q2c⟩ := isOf hZ e1 H0
  obtain ⟨_, _, ⟨T2, L2, k2, n2⟩, -, X2, ⟨Lc2, hQ2, l2, y2, z2⟩, st2⟩ := X1.virtualBack hx (y := (⟨"java/lang/String", "charAt", "(I)C"⟩ : MethodName)) (z := (⟨"java/lang/String", "charAt", "(I)C"⟩ : MethodName)) hown (mvT hZ (hw _ (List.mem_of_getElem? (i := 39) rfl))) (mvT hZ (hw _ (List.mem_of_getElem? (i := 40) rfl))) (notFace_of_selects (args := #[]) (mvT hZ (hw _ (List.mem_of_getElem? (i := 42) rfl)))) (mvT hZ (hw _ (List.mem_of_getElem? (i := 42) rfl))) (mvT hZ (hw _ (List.mem_of_getElem? (i := 41) rfl))) (by decide) (StrChars.Road.chN (W := 0) hZ (fun d hd => hw d (own_hch d hd)) (kI := 4) (hw _ (List.mem_of_getElem? (i := 6) rfl)) H0 H1 H2 H3 hcd2 (own_up _ hp) (H5.ext O0.2) hzc (H6.ext O0.2) rvf (Nat.le_of_ble_eq_true rfl) (i := 3) (Nat.le_of_ble_eq_true rfl) (j := (3 : Int32)) rfl (by decide) (by decide)) q2a q2c (g := (mkF m 28 #[.val (Value.ref a1), .val (Value.int (2 : Int32)), .val (Value.int (4 : Int32)), .val (Value.int (2 : Int32))] [(Value.int (3 : Int32)), (Value.ref a1)])) rfl (by rw [hml]; rfl) (Steps.refl _) (argsL := [(Value.int (3 : Int32))]) (rest := []) (lenOf own_pd0 rfl) rfl (by show 2 * 0 + _ ≤ _; exact Nat.le_of_eq rfl) (hb hby d8_28) (fun _ _ => ⟨rfl, e1, (by decide : 0 + 0 ≤ _), (by decide : 0 + 0 ≤ _)⟩)
  dsimp only [Pt.U, Pt.locs, Pt.cells, Pt.slots] at X2 l2 y2 z2 st2 hQ2
  subst l2 y2 z2
  refine own_Go.by (fun tq kq => st2.trans kq) ?_
  obtain ⟨rfl, rfl, e2⟩ := hQ2
  have N2 := Fr.app N1 (Fr.nil n0)
  show own_Go p.tables e below _ (T2.setTop (mkF m 31 #[.val (Value.ref a1), .val (Value.int (2 : Int32)), .val (Value.int (4 : Int32)), .val (Value.int (2 : Int32))] [(Value.int c3)]))
  refine own_Go.by (fun tq kq => XS.bipush X2.here hx rfl (hb hby d8_31) kq) ?_
  show own_Go p.tables e below _ (T2.setTop (mkF m 33 #[.val (Value.ref a1), .val (Value.int (2 : Int32)), .val (Value.int (4 : Int32)), .val (Value.int (2 : Int32))] [(Value.int (46 : Int32)), (Value.int c3)]))
  refine own_Go.by (fun tq kq => XS.icmpYes X2.here hx rfl (pc0 := 33) (pc' := 40) rfl (hb hby d8_33) rfl (feq hd1).2 (by decide) (by decide) kq) ?_
  show own_Go p.tables e below _ (T2.setTop (mkF m 40 #[.val (Value.ref a1), .val (Value.int (2 : Int32)), .val (Value.int (4 : Int32)), .val (Value.int (2 : Int32))] []))
  refine own_Go.by (fun tq kq => XS.iconst X2.here hx rfl (hb hby d8_40) kq) ?_
  show own_Go p.tables e below _ (T2.setTop (mkF m 41 #[.val (Value.ref a1), .val (Value.int (2 : Int32)), .val (Value.int (4 : Int32)), .val (Value.int (2 : Int32))] [(Value.int (0 : Int32))]))
  obtain ⟨fs, hr, hrun, hended, hW, hsame⟩ := X2.leave (v := some (Value.int (nar .boolean (0 : Int32)))) (fun h => by rw [Bd.returns] at h; cases h)
  refine own_Go.fin (retN X2 hx (t := .boolean) Bd.returns (by simp) (hb hby d8_41) hr) ⟨hrun, hended, _, _, rfl, ?_, ⟨_, rfl⟩, hW, hsame.mono (by decide) (by decide)⟩
  show Q8_2_4_tf Z a1 t kb c0 c1 c2 c3 zc vf h0 n0 _ T2.heap _
  rw [e2]
  exact ⟨rfl, N2, rfl⟩

theorem own_ef_8_2_4_f (m : MethodId) (a1 : Addr) : entryFrame m #[(Value.ref a1), (Value.int (2 : Int32)), (Value.int (4 : Int32))] 4 = mkF m 0 #[.val (Value.ref a1), .val (Value.int (2 : Int32)), .val (Value.int (4 : Int32)), .unset] [] := by first | (simp [entryFrame, mkF, argsToLocals, Value.category]; done) | rfl
def Q8_2_4_f (Z : State) (a1 : Addr) (t : Addr) (kb : ClassId) (c0 : Int32) (c1 : Int32) (c2 : Int32) (c3 : Int32) (zc : Int32) (vf : Value) (h0 : Heap) (n0 : Nat) (v : Option Value) (h : Heap) (L : List Loc) : Prop := v = some (Value.int (0 : Int32)) ∧ Fr n0 L ∧ h = h0
set_option maxRecDepth 65536 in
set_option maxHeartbeats 40000000 in
theorem rm8_2_4_f (l : Launch) (Z : State) (a0 : Array Value) (hw : ∀ d ∈ tables_1, d.before a0 Z = true) (ws : List Jvm.Cond) (a1 : Addr) (t : Addr) (kb : ClassId) (c0 : Int32) (c1 : Int32) (c2 : Int32) (c3 : Int32) (zc : Int32) (vf : Value) (h0 : Heap) (n0 : Nat) (O0 : Old Z n0 h0) (H0 : Exa Z h0 a1 "java/lang/String") (H1 : Fld Z h0 a1 "java/lang/String" "value" "[B" (Value.ref t)) (H2 : Fld Z h0 a1 "java/lang/String" "coder" "B" (Value.int (0 : Int32))) (H3 : Arv Z h0 t kb .byte (4 : Int32) ((([c0, c1, c2, c3] : List Int32).map (fun c => c.toInt8.toInt32)).map Value.int) (Value.int (0 : Int32))) (hp : ∀ c ∈ ([c0, c1, c2, c3] : List Int32), ¬ c < 0 ∧ ¬ (255 : Int32) < c) (H5 : Sta Z Z.heap "java/lang/String" "COMPACT_STRINGS" "Z" (Value.int zc)) (H6 : Sta Z Z.heap "jdk/internal/util/Preconditions" "SIOOBE_FORMATTER" "Ljava/util/function/BiFunction;" vf) (hzc : ¬ (zc = (0 : Int32))) (rvf : vf.isRef = true) (hd0 : ¬ (c2 = (46 : Int32))) :
    MetFree l (⟨"com/example/enlace/enlace/DotSegments", "isDotSegment", "(Ljava/lang/String;II)Z"⟩ : MethodName) (head1 (Jvm.Cond.code (⟨"com/example/enlace/enlace/DotSegments", "isDotSegment", "(Ljava/lang/String;II)Z"⟩ : MethodName) prog_3_method_4_code 4 (some .boolean) :: ws) ({ frames := 4, cells := 0, slots := 0, locals := 53 } : Room)) (fun a U => a = #[(Value.ref a1), (Value.int (2 : Int32)), (Value.int (4 : Int32))] ∧ Z.Warmed39 U.vm ∧ U.heap = h0) (fun _ _ _ _ _ => True) (fun _ U o U' => ∃ v L, o = .returned v ∧ Q8_2_4_f Z a1 t kb c0 c1 c2 c3 zc vf h0 n0 v U'.heap L ∧ FrameEnd U o U' L ({ frames := 4, cells := 0, slots := 0, locals := 53 } : Room).cells ({ frames := 4, cells := 0, slots := 0, locals := 53 } : Room).slots) := by
  refine MetFree.of_bodySF (plainFor_of_name own_pn_com_example_enlace_enlace_DotSegments) hisR ?_
  intro p e s m args below meth c s₁ Bd hml0 hP hK
  obtain ⟨rfl, hZ, hh⟩ := hP
  have hx := Bd.exec
  have hby := Bd.bytes
  have hml : c.maxLocals = 4 := hml0
  have hown : s.vm.findClass "com/example/enlace/enlace/DotSegments" = some m.cls := findClass_of_methodNamed Bd.named
  have hnm := (name_of_methodNamed Bd.named Bd.method).1
  have X0 : Stand p l e ({ frames := 4, cells := 0, slots := 0, locals := 53 } : Room) s m #[(Value.ref a1), (Value.int (2 : Int32)), (Value.int (4 : Int32))] below meth c s₁ [] 0 0 := Stand.of_body Bd
  have e0 : s₁.heap = h0 := by rw [← hh, Bd.state]; rfl
  have N0 := Fr.nil n0
  have K0 : Keep h0 h0 [] := Keep.refl h0 []
  show own_Go p.tables e below _ (s₁.setTop (entryFrame m #[(Value.ref a1), (Value.int (2 : Int32)), (Value.int (4 : Int32))] 4))
  refine own_Go.by (fun tq kq => castTop (own_ef_8_2_4_f m a1) kq) ?_
  show own_Go p.tables e below _ (s₁.setTop (mkF m 0 #[.val (Value.ref a1), .val (Value.int (2 : Int32)), .val (Value.int (4 : Int32)), .unset] []))
  refine own_Go.by (fun tq kq => XS.iloadN X0.here hx rfl (hb hby d8_0) rfl kq) ?_
  show own_Go p.tables e below _ (s₁.setTop (mkF m 1 #[.val (Value.ref a1), .val (Value.int (2 : Int32)), .val (Value.int (4 : Int32)), .unset] [(Value.int (4 : Int32))]))
  refine own_Go.by (fun tq kq => XS.iloadN X0.here hx rfl (hb hby d8_1) rfl kq) ?_
  show own_Go p.tables e below _ (s₁.setTop (mkF m 2 #[.val (Value.ref a1), .val (Value.int (2 : Int32)), .val (Value.int (4 : Int32)), .unset] [(Value.int (2 : Int32)), (Value.int (4 : Int32))]))
  refine own_Go.by (fun tq kq => XS.isub X0.here hx rfl (hb hby d8_2) rfl kq) ?_
  show own_Go p.tables e below _ (s₁.setTop (mkF m 3 #[.val (Value.ref a1), .val (Value.int (2 : Int32)), .val (Value.int (4 : Int32)), .unset] [(Value.int (2 : Int32))]))
  refine own_Go.by (fun tq kq => XS.istoreN X0.here hx rfl (hb hby d8_3) rfl (l' := #[.val (Value.ref a1), .val (Value.int (2 : Int32)), .val (Value.int (4 : Int32)), .val (Value.int (2 : Int32))]) rfl kq) ?_
  show own_Go p.tables e below _ (s₁.setTop (mkF m 4 #[.val (Value.ref a1), .val (Value.int (2 : Int32)), .val (Value.int (4 : Int32)), .val (Value.int (2 : Int32))] []))
  refine own_Go.by (fun tq kq => XS.iloadN X0.here hx rfl (hb hby d8_4) rfl kq) ?_
  show own_Go p.tables e below _ (s₁.setTop (mkF m 5 #[.val (Value.ref a1), .val (Value.int (2 : Int32)), .val (Value.int (4 : Int32)), .val (Value.int (2 : Int32))] [(Value.int (2 : Int32))]))
  refine own_Go.by (fun tq kq => XS.iconst X0.here hx rfl (hb hby d8_5) kq) ?_
  show own_Go p.tables e below _ (s₁.setTop (mkF m 6 #[.val (Value.ref a1), .val (Value.int (2 : Int32)), .val (Value.int (4 : Int32)), .val (Value.int (2 : Int32))] [(Value.int (1 : Int32)), (Value.int (2 : Int32))]))
  refine own_Go.by (fun tq kq => XS.icmpNo X0.here hx rfl (hb hby d8_6) rfl (feq (by decide : ¬ ((2 : Int32) = (1 : Int32)))).1 kq) ?_
  show own_Go p.tables e below _ (s₁.setTop (mkF m 9 #[.val (Value.ref a1), .val (Value.int (2 : Int32)), .val (Value.int (4 : Int32)), .val (Value.int (2 : Int32))] []))
  refine own_Go.by (fun tq kq => XS.iloadN X0.here hx rfl (hb hby d8_9) rfl kq) ?_
  show own_Go p.tables e below _ (s₁.setTop (mkF m 10 #[.val (Value.ref a1), .val (Value.int (2 : Int32)), .val (Value.int (4 : Int32)), .val (Value.int (2 : Int32))] [(Value.int (2 : Int32))]))
  refine own_Go.by (fun tq kq => XS.iconst X0.here hx rfl (hb hby d8_10) kq) ?_
  show own_Go p.tables e below _ (s₁.setTop (mkF m 11 #[.val (Value.ref a1), .val (Value.int (2 : Int32)), .val (Value.int (4 : Int32)), .val (Value.int (2 : Int32))] [(Value.int (2 : Int32)), (Value.int (2 : Int32))]))
  refine own_Go.by (fun tq kq => XS.icmpNo X0.here hx rfl (hb hby d8_11) rfl (teq (by decide : (2 : Int32) = (2 : Int32))).2 kq) ?_
  show own_Go p.tables e below _ (s₁.setTop (mkF m 14 #[.val (Value.ref a1), .val (Value.int (2 : Int32)), .val (Value.int (4 : Int32)), .val (Value.int (2 : Int32))] []))
  refine own_Go.by (fun tq kq => XS.aloadN X0.here hx rfl (hb hby d8_14) rfl rfl kq) ?_
  show own_Go p.tables e below _ (s₁.setTop (mkF m 15 #[.val (Value.ref a1), .val (Value.int (2 : Int32)), .val (Value.int (4 : Int32)), .val (Value.int (2 : Int32))] [(Value.ref a1)]))
  refine own_Go.by (fun tq kq => XS.iloadN X0.here hx rfl (hb hby d8_15) rfl kq) ?_
  show own_Go p.tables e below _ (s₁.setTop (mkF m 16 #[.val (Value.ref a1), .val (Value.int (2 : Int32)), .val (Value.int (4 : Int32)), .val (Value.int (2 : Int32))] [(Value.int (2 : Int32)), (Value.ref a1)]))
  have hcd1 : StrChars.Road.CodA ([c0, c1, c2, c3] : List Int32) 0 (4 : Int32) ((([c0, c1, c2, c3] : List Int32).map (fun c => c.toInt8.toInt32)).map Value.int) := StrChars.Road.codOf (n := 4) rfl (fun x hx => (hp x hx).2)
  obtain ⟨cq1, kq1, q1a, q1b, q1c⟩ := isOf hZ e0 H0
  obtain ⟨_, _, ⟨T1, L1, k1, n1⟩, -, X1, ⟨Lc1, hQ1, l1, y1, z1⟩, st1⟩ := X0.virtualBack hx (y := (⟨"java/lang/String", "charAt", "(I)C"⟩ : MethodName)) (z := (⟨"java/lang/String", "charAt", "(I)C"⟩ : MethodName)) hown (mvT hZ (hw _ (List.mem_of_getElem? (i := 39) rfl))) (mvT hZ (hw _ (List.mem_of_getElem? (i := 40) rfl))) (notFace_of_selects (args := #[]) (mvT hZ (hw _ (List.mem_of_getElem? (i := 42) rfl)))) (mvT hZ (hw _ (List.mem_of_getElem? (i := 42) rfl))) (mvT hZ (hw _ (List.mem_of_getElem? (i := 41) rfl))) (by decide) (StrChars.Road.chN (W := 0) hZ (fun d hd => hw d (own_hch d hd)) (kI := 4) (hw _ (List.mem_of_getElem? (i := 6) rfl)) H0 H1 H2 H3 hcd1 (own_up _ hp) (H5.ext O0.2) hzc (H6.ext O0.2) rvf (Nat.le_of_ble_eq_true rfl) (i := 2) (Nat.le_of_ble_eq_true rfl) (j := (2 : Int32)) rfl (by decide) (by decide)) q1a q1c (g := (mkF m 16 #[.val (Value.ref a1), .val (Value.int (2 : Int32)), .val (Value.int (4 : Int32)), .val (Value.int (2 : Int32))] [(Value.int (2 : Int32)), (Value.ref a1)])) rfl (by rw [hml]; rfl) (Steps.refl _) (argsL := [(Value.int (2 : Int32))]) (rest := []) (lenOf own_pd0 rfl) rfl (by show 2 * 0 + _ ≤ _; exact Nat.le_of_eq rfl) (hb hby d8_16) (fun _ _ => ⟨rfl, e0, (by decide : 0 + 0 ≤ _), (by decide : 0 + 0 ≤ _)⟩)
  dsimp only [Pt.U, Pt.locs, Pt.cells, Pt.slots] at X1 l1 y1 z1 st1 hQ1
  subst l1 y1 z1
  refine own_Go.by (fun tq kq => st1.trans kq) ?_
  obtain ⟨rfl, rfl, e1⟩ := hQ1
  have N1 := Fr.app N0 (Fr.nil n0)
  show own_Go p.tables e below _ (T1.setTop (mkF m 19 #[.val (Value.ref a1), .val (Value.int (2 : Int32)), .val (Value.int (4 : Int32)), .val (Value.int (2 : Int32))] [(Value.int c2)]))
  refine own_Go.by (fun tq kq => XS.bipush X1.here hx rfl (hb hby d8_19) kq) ?_
  show own_Go p.tables e below _ (T1.setTop (mkF m 21 #[.val (Value.ref a1), .val (Value.int (2 : Int32)), .val (Value.int (4 : Int32)), .val (Value.int (2 : Int32))] [(Value.int (46 : Int32)), (Value.int c2)]))
  refine own_Go.by (fun tq kq => XS.icmpYes X1.here hx rfl (pc0 := 21) (pc' := 40) rfl (hb hby d8_21) rfl (feq hd0).2 (by decide) (by decide) kq) ?_
  show own_Go p.tables e below _ (T1.setTop (mkF m 40 #[.val (Value.ref a1), .val (Value.int (2 : Int32)), .val (Value.int (4 : Int32)), .val (Value.int (2 : Int32))] []))
  refine own_Go.by (fun tq kq => XS.iconst X1.here hx rfl (hb hby d8_40) kq) ?_
  show own_Go p.tables e below _ (T1.setTop (mkF m 41 #[.val (Value.ref a1), .val (Value.int (2 : Int32)), .val (Value.int (4 : Int32)), .val (Value.int (2 : Int32))] [(Value.int (0 : Int32))]))
  obtain ⟨fs, hr, hrun, hended, hW, hsame⟩ := X1.leave (v := some (Value.int (nar .boolean (0 : Int32)))) (fun h => by rw [Bd.returns] at h; cases h)
  refine own_Go.fin (retN X1 hx (t := .boolean) Bd.returns (by simp) (hb hby d8_41) hr) ⟨hrun, hended, _, _, rfl, ?_, ⟨_, rfl⟩, hW, hsame.mono (by decide) (by decide)⟩
  show Q8_2_4_f Z a1 t kb c0 c1 c2 c3 zc vf h0 n0 _ T1.heap _
  rw [e1]
  exact ⟨rfl, N1, rfl⟩

theorem own_ef_8_3_3_x (m : MethodId) (a1 : Addr) : entryFrame m #[(Value.ref a1), (Value.int (3 : Int32)), (Value.int (3 : Int32))] 4 = mkF m 0 #[.val (Value.ref a1), .val (Value.int (3 : Int32)), .val (Value.int (3 : Int32)), .unset] [] := by first | (simp [entryFrame, mkF, argsToLocals, Value.category]; done) | rfl
def Q8_3_3_x (Z : State) (a1 : Addr) (t : Addr) (kb : ClassId) (c0 : Int32) (c1 : Int32) (c2 : Int32) (c3 : Int32) (zc : Int32) (vf : Value) (h0 : Heap) (n0 : Nat) (v : Option Value) (h : Heap) (L : List Loc) : Prop := v = some (Value.int (0 : Int32)) ∧ Fr n0 L ∧ h = h0
set_option maxRecDepth 65536 in
set_option maxHeartbeats 40000000 in
theorem rm8_3_3_x (l : Launch) (Z : State) (a0 : Array Value) (hw : ∀ d ∈ tables_1, d.before a0 Z = true) (ws : List Jvm.Cond) (a1 : Addr) (t : Addr) (kb : ClassId) (c0 : Int32) (c1 : Int32) (c2 : Int32) (c3 : Int32) (zc : Int32) (vf : Value) (h0 : Heap) (n0 : Nat) (O0 : Old Z n0 h0) (H0 : Exa Z h0 a1 "java/lang/String") (H1 : Fld Z h0 a1 "java/lang/String" "value" "[B" (Value.ref t)) (H2 : Fld Z h0 a1 "java/lang/String" "coder" "B" (Value.int (0 : Int32))) (H3 : Arv Z h0 t kb .byte (4 : Int32) ((([c0, c1, c2, c3] : List Int32).map (fun c => c.toInt8.toInt32)).map Value.int) (Value.int (0 : Int32))) (hp : ∀ c ∈ ([c0, c1, c2, c3] : List Int32), ¬ c < 0 ∧ ¬ (255 : Int32) < c) (H5 : Sta Z Z.heap "java/lang/String" "COMPACT_STRINGS" "Z" (Value.int zc)) (H6 : Sta Z Z.heap "jdk/internal/util/Preconditions" "SIOOBE_FORMATTER" "Ljava/util/function/BiFunction;" vf) (hzc : ¬ (zc = (0 : Int32))) (rvf : vf.isRef = true) :
    MetFree l (⟨"com/example/enlace/enlace/DotSegments", "isDotSegment", "(Ljava/lang/String;II)Z"⟩ : MethodName) (head1 (Jvm.Cond.code (⟨"com/example/enlace/enlace/DotSegments", "isDotSegment", "(Ljava/lang/String;II)Z"⟩ : MethodName) prog_3_method_4_code 4 (some .boolean) :: ws) ({ frames := 0, cells := 0, slots := 0, locals := 0 } : Room)) (fun a U => a = #[(Value.ref a1), (Value.int (3 : Int32)), (Value.int (3 : Int32))] ∧ Z.Warmed39 U.vm ∧ U.heap = h0) (fun _ _ _ _ _ => True) (fun _ U o U' => ∃ v L, o = .returned v ∧ Q8_3_3_x Z a1 t kb c0 c1 c2 c3 zc vf h0 n0 v U'.heap L ∧ FrameEnd U o U' L ({ frames := 0, cells := 0, slots := 0, locals := 0 } : Room).cells ({ frames := 0, cells := 0, slots := 0, locals := 0 } : Room).slots) := by
  refine MetFree.of_bodySF (plainFor_of_name own_pn_com_example_enlace_enlace_DotSegments) hisR ?_
  intro p e s m args below meth c s₁ Bd hml0 hP hK
  obtain ⟨rfl, hZ, hh⟩ := hP
  have hx := Bd.exec
  have hby := Bd.bytes
  have hml : c.maxLocals = 4 := hml0
  have hown : s.vm.findClass "com/example/enlace/enlace/DotSegments" = some m.cls := findClass_of_methodNamed Bd.named
  have hnm := (name_of_methodNamed Bd.named Bd.method).1
  have X0 : Stand p l e ({ frames := 0, cells := 0, slots := 0, locals := 0 } : Room) s m #[(Value.ref a1), (Value.int (3 : Int32)), (Value.int (3 : Int32))] below meth c s₁ [] 0 0 := Stand.of_body Bd
  have e0 : s₁.heap = h0 := by rw [← hh, Bd.state]; rfl
  have N0 := Fr.nil n0
  have K0 : Keep h0 h0 [] := Keep.refl h0 []
  show own_Go p.tables e below _ (s₁.setTop (entryFrame m #[(Value.ref a1), (Value.int (3 : Int32)), (Value.int (3 : Int32))] 4))
  refine own_Go.by (fun tq kq => castTop (own_ef_8_3_3_x m a1) kq) ?_
  show own_Go p.tables e below _ (s₁.setTop (mkF m 0 #[.val (Value.ref a1), .val (Value.int (3 : Int32)), .val (Value.int (3 : Int32)), .unset] []))
  refine own_Go.by (fun tq kq => XS.iloadN X0.here hx rfl (hb hby d8_0) rfl kq) ?_
  show own_Go p.tables e below _ (s₁.setTop (mkF m 1 #[.val (Value.ref a1), .val (Value.int (3 : Int32)), .val (Value.int (3 : Int32)), .unset] [(Value.int (3 : Int32))]))
  refine own_Go.by (fun tq kq => XS.iloadN X0.here hx rfl (hb hby d8_1) rfl kq) ?_
  show own_Go p.tables e below _ (s₁.setTop (mkF m 2 #[.val (Value.ref a1), .val (Value.int (3 : Int32)), .val (Value.int (3 : Int32)), .unset] [(Value.int (3 : Int32)), (Value.int (3 : Int32))]))
  refine own_Go.by (fun tq kq => XS.isub X0.here hx rfl (hb hby d8_2) rfl kq) ?_
  show own_Go p.tables e below _ (s₁.setTop (mkF m 3 #[.val (Value.ref a1), .val (Value.int (3 : Int32)), .val (Value.int (3 : Int32)), .unset] [(Value.int (0 : Int32))]))
  refine own_Go.by (fun tq kq => XS.istoreN X0.here hx rfl (hb hby d8_3) rfl (l' := #[.val (Value.ref a1), .val (Value.int (3 : Int32)), .val (Value.int (3 : Int32)), .val (Value.int (0 : Int32))]) rfl kq) ?_
  show own_Go p.tables e below _ (s₁.setTop (mkF m 4 #[.val (Value.ref a1), .val (Value.int (3 : Int32)), .val (Value.int (3 : Int32)), .val (Value.int (0 : Int32))] []))
  refine own_Go.by (fun tq kq => XS.iloadN X0.here hx rfl (hb hby d8_4) rfl kq) ?_
  show own_Go p.tables e below _ (s₁.setTop (mkF m 5 #[.val (Value.ref a1), .val (Value.int (3 : Int32)), .val (Value.int (3 : Int32)), .val (Value.int (0 : Int32))] [(Value.int (0 : Int32))]))
  refine own_Go.by (fun tq kq => XS.iconst X0.here hx rfl (hb hby d8_5) kq) ?_
  show own_Go p.tables e below _ (s₁.setTop (mkF m 6 #[.val (Value.ref a1), .val (Value.int (3 : Int32)), .val (Value.int (3 : Int32)), .val (Value.int (0 : Int32))] [(Value.int (1 : Int32)), (Value.int (0 : Int32))]))
  refine own_Go.by (fun tq kq => XS.icmpNo X0.here hx rfl (hb hby d8_6) rfl (feq (by decide : ¬ ((0 : Int32) = (1 : Int32)))).1 kq) ?_
  show own_Go p.tables e below _ (s₁.setTop (mkF m 9 #[.val (Value.ref a1), .val (Value.int (3 : Int32)), .val (Value.int (3 : Int32)), .val (Value.int (0 : Int32))] []))
  refine own_Go.by (fun tq kq => XS.iloadN X0.here hx rfl (hb hby d8_9) rfl kq) ?_
  show own_Go p.tables e below _ (s₁.setTop (mkF m 10 #[.val (Value.ref a1), .val (Value.int (3 : Int32)), .val (Value.int (3 : Int32)), .val (Value.int (0 : Int32))] [(Value.int (0 : Int32))]))
  refine own_Go.by (fun tq kq => XS.iconst X0.here hx rfl (hb hby d8_10) kq) ?_
  show own_Go p.tables e below _ (s₁.setTop (mkF m 11 #[.val (Value.ref a1), .val (Value.int (3 : Int32)), .val (Value.int (3 : Int32)), .val (Value.int (0 : Int32))] [(Value.int (2 : Int32)), (Value.int (0 : Int32))]))
  refine own_Go.by (fun tq kq => XS.icmpYes X0.here hx rfl (pc0 := 11) (pc' := 40) rfl (hb hby d8_11) rfl (feq (by decide : ¬ ((0 : Int32) = (2 : Int32)))).2 (by decide) (by decide) kq) ?_
  show own_Go p.tables e below _ (s₁.setTop (mkF m 40 #[.val (Value.ref a1), .val (Value.int (3 : Int32)), .val (Value.int (3 : Int32)), .val (Value.int (0 : Int32))] []))
  refine own_Go.by (fun tq kq => XS.iconst X0.here hx rfl (hb hby d8_40) kq) ?_
  show own_Go p.tables e below _ (s₁.setTop (mkF m 41 #[.val (Value.ref a1), .val (Value.int (3 : Int32)), .val (Value.int (3 : Int32)), .val (Value.int (0 : Int32))] [(Value.int (0 : Int32))]))
  obtain ⟨fs, hr, hrun, hended, hW, hsame⟩ := X0.leave (v := some (Value.int (nar .boolean (0 : Int32)))) (fun h => by rw [Bd.returns] at h; cases h)
  refine own_Go.fin (retN X0 hx (t := .boolean) Bd.returns (by simp) (hb hby d8_41) hr) ⟨hrun, hended, _, _, rfl, ?_, ⟨_, rfl⟩, hW, hsame.mono (by decide) (by decide)⟩
  show Q8_3_3_x Z a1 t kb c0 c1 c2 c3 zc vf h0 n0 _ s₁.heap _
  rw [e0]
  exact ⟨rfl, N0, rfl⟩

theorem own_ef_8_3_4_t (m : MethodId) (a1 : Addr) : entryFrame m #[(Value.ref a1), (Value.int (3 : Int32)), (Value.int (4 : Int32))] 4 = mkF m 0 #[.val (Value.ref a1), .val (Value.int (3 : Int32)), .val (Value.int (4 : Int32)), .unset] [] := by first | (simp [entryFrame, mkF, argsToLocals, Value.category]; done) | rfl
def Q8_3_4_t (Z : State) (a1 : Addr) (t : Addr) (kb : ClassId) (c0 : Int32) (c1 : Int32) (c2 : Int32) (c3 : Int32) (zc : Int32) (vf : Value) (h0 : Heap) (n0 : Nat) (v : Option Value) (h : Heap) (L : List Loc) : Prop := v = some (Value.int (1 : Int32)) ∧ Fr n0 L ∧ h = h0
set_option maxRecDepth 65536 in
set_option maxHeartbeats 40000000 in
theorem rm8_3_4_t (l : Launch) (Z : State) (a0 : Array Value) (hw : ∀ d ∈ tables_1, d.before a0 Z = true) (ws : List Jvm.Cond) (a1 : Addr) (t : Addr) (kb : ClassId) (c0 : Int32) (c1 : Int32) (c2 : Int32) (c3 : Int32) (zc : Int32) (vf : Value) (h0 : Heap) (n0 : Nat) (O0 : Old Z n0 h0) (H0 : Exa Z h0 a1 "java/lang/String") (H1 : Fld Z h0 a1 "java/lang/String" "value" "[B" (Value.ref t)) (H2 : Fld Z h0 a1 "java/lang/String" "coder" "B" (Value.int (0 : Int32))) (H3 : Arv Z h0 t kb .byte (4 : Int32) ((([c0, c1, c2, c3] : List Int32).map (fun c => c.toInt8.toInt32)).map Value.int) (Value.int (0 : Int32))) (hp : ∀ c ∈ ([c0, c1, c2, c3] : List Int32), ¬ c < 0 ∧ ¬ (255 : Int32) < c) (H5 : Sta Z Z.heap "java/lang/String" "COMPACT_STRINGS" "Z" (Value.int zc)) (H6 : Sta Z Z.heap "jdk/internal/util/Preconditions" "SIOOBE_FORMATTER" "Ljava/util/function/BiFunction;" vf) (hzc : ¬ (zc = (0 : Int32))) (rvf : vf.isRef = true) (hd0 : c3 = (46 : Int32)) :
    MetFree l (⟨"com/example/enlace/enlace/DotSegments", "isDotSegment", "(Ljava/lang/String;II)Z"⟩ : MethodName) (head1 (Jvm.Cond.code (⟨"com/example/enlace/enlace/DotSegments", "isDotSegment", "(Ljava/lang/String;II)Z"⟩ : MethodName) prog_3_method_4_code 4 (some .boolean) :: ws) ({ frames := 4, cells := 0, slots := 0, locals := 53 } : Room)) (fun a U => a = #[(Value.ref a1), (Value.int (3 : Int32)), (Value.int (4 : Int32))] ∧ Z.Warmed39 U.vm ∧ U.heap = h0) (fun _ _ _ _ _ => True) (fun _ U o U' => ∃ v L, o = .returned v ∧ Q8_3_4_t Z a1 t kb c0 c1 c2 c3 zc vf h0 n0 v U'.heap L ∧ FrameEnd U o U' L ({ frames := 4, cells := 0, slots := 0, locals := 53 } : Room).cells ({ frames := 4, cells := 0, slots := 0, locals := 53 } : Room).slots) := by
  refine MetFree.of_bodySF (plainFor_of_name own_pn_com_example_enlace_enlace_DotSegments) hisR ?_
  intro p e s m args below meth c s₁ Bd hml0 hP hK
  obtain ⟨rfl, hZ, hh⟩ := hP
  have hx := Bd.exec
  have hby := Bd.bytes
  have hml : c.maxLocals = 4 := hml0
  have hown : s.vm.findClass "com/example/enlace/enlace/DotSegments" = some m.cls := findClass_of_methodNamed Bd.named
  have hnm := (name_of_methodNamed Bd.named Bd.method).1
  have X0 : Stand p l e ({ frames := 4, cells := 0, slots := 0, locals := 53 } : Room) s m #[(Value.ref a1), (Value.int (3 : Int32)), (Value.int (4 : Int32))] below meth c s₁ [] 0 0 := Stand.of_body Bd
  have e0 : s₁.heap = h0 := by rw [← hh, Bd.state]; rfl
  have N0 := Fr.nil n0
  have K0 : Keep h0 h0 [] := Keep.refl h0 []
  show own_Go p.tables e below _ (s₁.setTop (entryFrame m #[(Value.ref a1), (Value.int (3 : Int32)), (Value.int (4 : Int32))] 4))
  refine own_Go.by (fun tq kq => castTop (own_ef_8_3_4_t m a1) kq) ?_
  show own_Go p.tables e below _ (s₁.setTop (mkF m 0 #[.val (Value.ref a1), .val (Value.int (3 : Int32)), .val (Value.int (4 : Int32)), .unset] []))
  refine own_Go.by (fun tq kq => XS.iloadN X0.here hx rfl (hb hby d8_0) rfl kq) ?_
  show own_Go p.tables e below _ (s₁.setTop (mkF m 1 #[.val (Value.ref a1), .val (Value.int (3 : Int32)), .val (Value.int (4 : Int32)), .unset] [(Value.int (4 : Int32))]))
  refine own_Go.by (fun tq kq => XS.iloadN X0.here hx rfl (hb hby d8_1) rfl kq) ?_
  show own_Go p.tables e below _ (s₁.setTop (mkF m 2 #[.val (Value.ref a1), .val (Value.int (3 : Int32)), .val (Value.int (4 : Int32)), .unset] [(Value.int (3 : Int32)), (Value.int (4 : Int32))]))
  refine own_Go.by (fun tq kq => XS.isub X0.here hx rfl (hb hby d8_2) rfl kq) ?_
  show own_Go p.tables e below _ (s₁.setTop (mkF m 3 #[.val (Value.ref a1), .val (Value.int (3 : Int32)), .val (Value.int (4 : Int32)), .unset] [(Value.int (1 : Int32))]))
  refine own_Go.by (fun tq kq => XS.istoreN X0.here hx rfl (hb hby d8_3) rfl (l' := #[.val (Value.ref a1), .val (Value.int (3 : Int32)), .val (Value.int (4 : Int32)), .val (Value.int (1 : Int32))]) rfl kq) ?_
  show own_Go p.tables e below _ (s₁.setTop (mkF m 4 #[.val (Value.ref a1), .val (Value.int (3 : Int32)), .val (Value.int (4 : Int32)), .val (Value.int (1 : Int32))] []))
  refine own_Go.by (fun tq kq => XS.iloadN X0.here hx rfl (hb hby d8_4) rfl kq) ?_
  show own_Go p.tables e below _ (s₁.setTop (mkF m 5 #[.val (Value.ref a1), .val (Value.int (3 : Int32)), .val (Value.int (4 : Int32)), .val (Value.int (1 : Int32))] [(Value.int (1 : Int32))]))
  refine own_Go.by (fun tq kq => XS.iconst X0.here hx rfl (hb hby d8_5) kq) ?_
  show own_Go p.tables e below _ (s₁.setTop (mkF m 6 #[.val (Value.ref a1), .val (Value.int (3 : Int32)), .val (Value.int (4 : Int32)), .val (Value.int (1 : Int32))] [(Value.int (1 : Int32)), (Value.int (1 : Int32))]))
  refine own_Go.by (fun tq kq => XS.icmpYes X0.here hx rfl (pc0 := 6) (pc' := 14) rfl (hb hby d8_6) rfl (teq (by decide : (1 : Int32) = (1 : Int32))).1 (by decide) (by decide) kq) ?_
  show own_Go p.tables e below _ (s₁.setTop (mkF m 14 #[.val (Value.ref a1), .val (Value.int (3 : Int32)), .val (Value.int (4 : Int32)), .val (Value.int (1 : Int32))] []))
  refine own_Go.by (fun tq kq => XS.aloadN X0.here hx rfl (hb hby d8_14) rfl rfl kq) ?_
  show own_Go p.tables e below _ (s₁.setTop (mkF m 15 #[.val (Value.ref a1), .val (Value.int (3 : Int32)), .val (Value.int (4 : Int32)), .val (Value.int (1 : Int32))] [(Value.ref a1)]))
  refine own_Go.by (fun tq kq => XS.iloadN X0.here hx rfl (hb hby d8_15) rfl kq) ?_
  show own_Go p.tables e below _ (s₁.setTop (mkF m 16 #[.val (Value.ref a1), .val (Value.int (3 : Int32)), .val (Value.int (4 : Int32)), .val (Value.int (1 : Int32))] [(Value.int (3 : Int32)), (Value.ref a1)]))
  have hcd1 : StrChars.Road.CodA ([c0, c1, c2, c3] : List Int32) 0 (4 : Int32) ((([c0, c1, c2, c3] : List Int32).map (fun c => c.toInt8.toInt32)).map Value.int) := StrChars.Road.codOf (n := 4) rfl (fun x hx => (hp x hx).2)
  obtain ⟨cq1, kq1, q1a, q1b, q1c⟩ := isOf hZ e0 H0
  obtain ⟨_, _, ⟨T1, L1, k1, n1⟩, -, X1, ⟨Lc1, hQ1, l1, y1, z1⟩, st1⟩ := X0.virtualBack hx (y := (⟨"java/lang/String", "charAt", "(I)C"⟩ : MethodName)) (z := (⟨"java/lang/String", "charAt", "(I)C"⟩ : MethodName)) hown (mvT hZ (hw _ (List.mem_of_getElem? (i := 39) rfl))) (mvT hZ (hw _ (List.mem_of_getElem? (i := 40) rfl))) (notFace_of_selects (args := #[]) (mvT hZ (hw _ (List.mem_of_getElem? (i := 42) rfl)))) (mvT hZ (hw _ (List.mem_of_getElem? (i := 42) rfl))) (mvT hZ (hw _ (List.mem_of_getElem? (i := 41) rfl))) (by decide) (StrChars.Road.chN (W := 0) hZ (fun d hd => hw d (own_hch d hd)) (kI := 4) (hw _ (List.mem_of_getElem? (i := 6) rfl)) H0 H1 H2 H3 hcd1 (own_up _ hp) (H5.ext O0.2) hzc (H6.ext O0.2) rvf (Nat.le_of_ble_eq_true rfl) (i := 3) (Nat.le_of_ble_eq_true rfl) (j := (3 : Int32)) rfl (by decide) (by decide)) q1a q1c (g := (mkF m 16 #[.val (Value.ref a1), .val (Value.int (3 : Int32)), .val (Value.int (4 : Int32)), .val (Value.int (1 : Int32))] [(Value.int (3 : Int32)), (Value.ref a1)])) rfl (by rw [hml]; rfl) (Steps.refl _) (argsL := [(Value.int (3 : Int32))]) (rest := []) (lenOf own_pd0 rfl) rfl (by show 2 * 0 + _ ≤ _; exact Nat.le_of_eq rfl) (hb hby d8_16) (fun _ _ => ⟨rfl, e0, (by decide : 0 + 0 ≤ _), (by decide : 0 + 0 ≤ _)⟩)
  dsimp only [Pt.U, Pt.locs, Pt.cells, Pt.slots] at X1 l1 y1 z1 st1 hQ1
  subst l1 y1 z1
  refine own_Go.by (fun tq kq => st1.trans kq) ?_
  obtain ⟨rfl, rfl, e1⟩ := hQ1
  have N1 := Fr.app N0 (Fr.nil n0)
  show own_Go p.tables e below _ (T1.setTop (mkF m 19 #[.val (Value.ref a1), .val (Value.int (3 : Int32)), .val (Value.int (4 : Int32)), .val (Value.int (1 : Int32))] [(Value.int c3)]))
  refine own_Go.by (fun tq kq => XS.bipush X1.here hx rfl (hb hby d8_19) kq) ?_
  show own_Go p.tables e below _ (T1.setTop (mkF m 21 #[.val (Value.ref a1), .val (Value.int (3 : Int32)), .val (Value.int (4 : Int32)), .val (Value.int (1 : Int32))] [(Value.int (46 : Int32)), (Value.int c3)]))
  refine own_Go.by (fun tq kq => XS.icmpNo X1.here hx rfl (hb hby d8_21) rfl (teq hd0).2 kq) ?_
  show own_Go p.tables e below _ (T1.setTop (mkF m 24 #[.val (Value.ref a1), .val (Value.int (3 : Int32)), .val (Value.int (4 : Int32)), .val (Value.int (1 : Int32))] []))
  refine own_Go.by (fun tq kq => XS.aloadN X1.here hx rfl (hb hby d8_24) rfl rfl kq) ?_
  show own_Go p.tables e below _ (T1.setTop (mkF m 25 #[.val (Value.ref a1), .val (Value.int (3 : Int32)), .val (Value.int (4 : Int32)), .val (Value.int (1 : Int32))] [(Value.ref a1)]))
  refine own_Go.by (fun tq kq => XS.iloadN X1.here hx rfl (hb hby d8_25) rfl kq) ?_
  show own_Go p.tables e below _ (T1.setTop (mkF m 26 #[.val (Value.ref a1), .val (Value.int (3 : Int32)), .val (Value.int (4 : Int32)), .val (Value.int (1 : Int32))] [(Value.int (4 : Int32)), (Value.ref a1)]))
  refine own_Go.by (fun tq kq => XS.iconst X1.here hx rfl (hb hby d8_26) kq) ?_
  show own_Go p.tables e below _ (T1.setTop (mkF m 27 #[.val (Value.ref a1), .val (Value.int (3 : Int32)), .val (Value.int (4 : Int32)), .val (Value.int (1 : Int32))] [(Value.int (1 : Int32)), (Value.int (4 : Int32)), (Value.ref a1)]))
  refine own_Go.by (fun tq kq => XS.isub X1.here hx rfl (hb hby d8_27) rfl kq) ?_
  show own_Go p.tables e below _ (T1.setTop (mkF m 28 #[.val (Value.ref a1), .val (Value.int (3 : Int32)), .val (Value.int (4 : Int32)), .val (Value.int (1 : Int32))] [(Value.int (3 : Int32)), (Value.ref a1)]))
  have hcd2 : StrChars.Road.CodA ([c0, c1, c2, c3] : List Int32) 0 (4 : Int32) ((([c0, c1, c2, c3] : List Int32).map (fun c => c.toInt8.toInt32)).map Value.int) := StrChars.Road.codOf (n := 4) rfl (fun x hx => (hp x hx).2)
  obtain ⟨cq2, kq2, q2a, q2b, q2c⟩ := isOf hZ e1 H0
  obtain ⟨_, _, ⟨T2, L2, k2, n2⟩, -, X2, ⟨Lc2, hQ2, l2, y2, z2⟩, st2⟩ := X1.virtualBack hx (y := (⟨"java/lang/String", "charAt", "(I)C"⟩ : MethodName)) (z := (⟨"java/lang/String", "charAt", "(I)C"⟩ : MethodName)) hown (mvT hZ (hw _ (List.mem_of_getElem? (i := 39) rfl))) (mvT hZ (hw _ (List.mem_of_getElem? (i := 40) rfl))) (notFace_of_selects (args := #[]) (mvT hZ (hw _ (List.mem_of_getElem? (i := 42) rfl)))) (mvT hZ (hw _ (List.mem_of_getElem? (i := 42) rfl))) (mvT hZ (hw _ (List.mem_of_getElem? (i := 41) rfl))) (by decide) (StrChars.Road.chN (W := 0) hZ (fun d hd => hw d (own_hch d hd)) (kI := 4) (hw _ (List.mem_of_getElem? (i := 6) rfl)) H0 H1 H2 H3 hcd2 (own_up _ hp) (H5.ext O0.2) hzc (H6.ext O0.2) rvf (Nat.le_of_ble_eq_true rfl) (i := 3) (Nat.le_of_ble_eq_true rfl) (j := (3 : Int32)) rfl (by decide) (by decide)) q2a q2c (g := (mkF m 28 #[.val (Value.ref a1), .val (Value.int (3 : Int32)), .val (Value.int (4 : Int32)), .val (Value.int (1 : Int32))] [(Value.int (3 : Int32)), (Value.ref a1)])) rfl (by rw [hml]; rfl) (Steps.refl _) (argsL := [(Value.int (3 : Int32))]) (rest := []) (lenOf own_pd0 rfl) rfl (by show 2 * 0 + _ ≤ _; exact Nat.le_of_eq rfl) (hb hby d8_28) (fun _ _ => ⟨rfl, e1, (by decide : 0 + 0 ≤ _), (by decide : 0 + 0 ≤ _)⟩)
  dsimp only [Pt.U, Pt.locs, Pt.cells, Pt.slots] at X2 l2 y2 z2 st2 hQ2
  subst l2 y2 z2
  refine own_Go.by (fun tq kq => st2.trans kq) ?_
  obtain ⟨rfl, rfl, e2⟩ := hQ2
  have N2 := Fr.app N1 (Fr.nil n0)
  show own_Go p.tables e below _ (T2.setTop (mkF m 31 #[.val (Value.ref a1), .val (Value.int (3 : Int32)), .val (Value.int (4 : Int32)), .val (Value.int (1 : Int32))] [(Value.int c3)]))
  refine own_Go.by (fun tq kq => XS.bipush X2.here hx rfl (hb hby d8_31) kq) ?_
  show own_Go p.tables e below _ (T2.setTop (mkF m 33 #[.val (Value.ref a1), .val (Value.int (3 : Int32)), .val (Value.int (4 : Int32)), .val (Value.int (1 : Int32))] [(Value.int (46 : Int32)), (Value.int c3)]))
  refine own_Go.by (fun tq kq => XS.icmpNo X2.here hx rfl (hb hby d8_33) rfl (teq hd0).2 kq) ?_
  show own_Go p.tables e below _ (T2.setTop (mkF m 36 #[.val (Value.ref a1), .val (Value.int (3 : Int32)), .val (Value.int (4 : Int32)), .val (Value.int (1 : Int32))] []))
  refine own_Go.by (fun tq kq => XS.iconst X2.here hx rfl (hb hby d8_36) kq) ?_
  show own_Go p.tables e below _ (T2.setTop (mkF m 37 #[.val (Value.ref a1), .val (Value.int (3 : Int32)), .val (Value.int (4 : Int32)), .val (Value.int (1 : Int32))] [(Value.int (1 : Int32))]))
  refine own_Go.by (fun tq kq => XS.goto X2.here hx rfl (pc0 := 37) (pc' := 41) rfl (hb hby d8_37) (by decide) (by decide) kq) ?_
  show own_Go p.tables e below _ (T2.setTop (mkF m 41 #[.val (Value.ref a1), .val (Value.int (3 : Int32)), .val (Value.int (4 : Int32)), .val (Value.int (1 : Int32))] [(Value.int (1 : Int32))]))
  obtain ⟨fs, hr, hrun, hended, hW, hsame⟩ := X2.leave (v := some (Value.int (nar .boolean (1 : Int32)))) (fun h => by rw [Bd.returns] at h; cases h)
  refine own_Go.fin (retN X2 hx (t := .boolean) Bd.returns (by simp) (hb hby d8_41) hr) ⟨hrun, hended, _, _, rfl, ?_, ⟨_, rfl⟩, hW, hsame.mono (by decide) (by decide)⟩
  show Q8_3_4_t Z a1 t kb c0 c1 c2 c3 zc vf h0 n0 _ T2.heap _
  rw [e2]
  exact ⟨rfl, N2, rfl⟩

theorem own_ef_8_3_4_f (m : MethodId) (a1 : Addr) : entryFrame m #[(Value.ref a1), (Value.int (3 : Int32)), (Value.int (4 : Int32))] 4 = mkF m 0 #[.val (Value.ref a1), .val (Value.int (3 : Int32)), .val (Value.int (4 : Int32)), .unset] [] := by first | (simp [entryFrame, mkF, argsToLocals, Value.category]; done) | rfl
def Q8_3_4_f (Z : State) (a1 : Addr) (t : Addr) (kb : ClassId) (c0 : Int32) (c1 : Int32) (c2 : Int32) (c3 : Int32) (zc : Int32) (vf : Value) (h0 : Heap) (n0 : Nat) (v : Option Value) (h : Heap) (L : List Loc) : Prop := v = some (Value.int (0 : Int32)) ∧ Fr n0 L ∧ h = h0
set_option maxRecDepth 65536 in
set_option maxHeartbeats 40000000 in
theorem rm8_3_4_f (l : Launch) (Z : State) (a0 : Array Value) (hw : ∀ d ∈ tables_1, d.before a0 Z = true) (ws : List Jvm.Cond) (a1 : Addr) (t : Addr) (kb : ClassId) (c0 : Int32) (c1 : Int32) (c2 : Int32) (c3 : Int32) (zc : Int32) (vf : Value) (h0 : Heap) (n0 : Nat) (O0 : Old Z n0 h0) (H0 : Exa Z h0 a1 "java/lang/String") (H1 : Fld Z h0 a1 "java/lang/String" "value" "[B" (Value.ref t)) (H2 : Fld Z h0 a1 "java/lang/String" "coder" "B" (Value.int (0 : Int32))) (H3 : Arv Z h0 t kb .byte (4 : Int32) ((([c0, c1, c2, c3] : List Int32).map (fun c => c.toInt8.toInt32)).map Value.int) (Value.int (0 : Int32))) (hp : ∀ c ∈ ([c0, c1, c2, c3] : List Int32), ¬ c < 0 ∧ ¬ (255 : Int32) < c) (H5 : Sta Z Z.heap "java/lang/String" "COMPACT_STRINGS" "Z" (Value.int zc)) (H6 : Sta Z Z.heap "jdk/internal/util/Preconditions" "SIOOBE_FORMATTER" "Ljava/util/function/BiFunction;" vf) (hzc : ¬ (zc = (0 : Int32))) (rvf : vf.isRef = true) (hd0 : ¬ (c3 = (46 : Int32))) :
    MetFree l (⟨"com/example/enlace/enlace/DotSegments", "isDotSegment", "(Ljava/lang/String;II)Z"⟩ : MethodName) (head1 (Jvm.Cond.code (⟨"com/example/enlace/enlace/DotSegments", "isDotSegment", "(Ljava/lang/String;II)Z"⟩ : MethodName) prog_3_method_4_code 4 (some .boolean) :: ws) ({ frames := 4, cells := 0, slots := 0, locals := 53 } : Room)) (fun a U => a = #[(Value.ref a1), (Value.int (3 : Int32)), (Value.int (4 : Int32))] ∧ Z.Warmed39 U.vm ∧ U.heap = h0) (fun _ _ _ _ _ => True) (fun _ U o U' => ∃ v L, o = .returned v ∧ Q8_3_4_f Z a1 t kb c0 c1 c2 c3 zc vf h0 n0 v U'.heap L ∧ FrameEnd U o U' L ({ frames := 4, cells := 0, slots := 0, locals := 53 } : Room).cells ({ frames := 4, cells := 0, slots := 0, locals := 53 } : Room).slots) := by
  refine MetFree.of_bodySF (plainFor_of_name own_pn_com_example_enlace_enlace_DotSegments) hisR ?_
  intro p e s m args below meth c s₁ Bd hml0 hP hK
  obtain ⟨rfl, hZ, hh⟩ := hP
  have hx := Bd.exec
  have hby := Bd.bytes
  have hml : c.maxLocals = 4 := hml0
  have hown : s.vm.findClass "com/example/enlace/enlace/DotSegments" = some m.cls := findClass_of_methodNamed Bd.named
  have hnm := (name_of_methodNamed Bd.named Bd.method).1
  have X0 : Stand p l e ({ frames := 4, cells := 0, slots := 0, locals := 53 } : Room) s m #[(Value.ref a1), (Value.int (3 : Int32)), (Value.int (4 : Int32))] below meth c s₁ [] 0 0 := Stand.of_body Bd
  have e0 : s₁.heap = h0 := by rw [← hh, Bd.state]; rfl
  have N0 := Fr.nil n0
  have K0 : Keep h0 h0 [] := Keep.refl h0 []
  show own_Go p.tables e below _ (s₁.setTop (entryFrame m #[(Value.ref a1), (Value.int (3 : Int32)), (Value.int (4 : Int32))] 4))
  refine own_Go.by (fun tq kq => castTop (own_ef_8_3_4_f m a1) kq) ?_
  show own_Go p.tables e below _ (s₁.setTop (mkF m 0 #[.val (Value.ref a1), .val (Value.int (3 : Int32)), .val (Value.int (4 : Int32)), .unset] []))
  refine own_Go.by (fun tq kq => XS.iloadN X0.here hx rfl (hb hby d8_0) rfl kq) ?_
  show own_Go p.tables e below _ (s₁.setTop (mkF m 1 #[.val (Value.ref a1), .val (Value.int (3 : Int32)), .val (Value.int (4 : Int32)), .unset] [(Value.int (4 : Int32))]))
  refine own_Go.by (fun tq kq => XS.iloadN X0.here hx rfl (hb hby d8_1) rfl kq) ?_
  show own_Go p.tables e below _ (s₁.setTop (mkF m 2 #[.val (Value.ref a1), .val (Value.int (3 : Int32)), .val (Value.int (4 : Int32)), .unset] [(Value.int (3 : Int32)), (Value.int (4 : Int32))]))
  refine own_Go.by (fun tq kq => XS.isub X0.here hx rfl (hb hby d8_2) rfl kq) ?_
  show own_Go p.tables e below _ (s₁.setTop (mkF m 3 #[.val (Value.ref a1), .val (Value.int (3 : Int32)), .val (Value.int (4 : Int32)), .unset] [(Value.int (1 : Int32))]))
  refine own_Go.by (fun tq kq => XS.istoreN X0.here hx rfl (hb hby d8_3) rfl (l' := #[.val (Value.ref a1), .val (Value.int (3 : Int32)), .val (Value.int (4 : Int32)), .val (Value.int (1 : Int32))]) rfl kq) ?_
  show own_Go p.tables e below _ (s₁.setTop (mkF m 4 #[.val (Value.ref a1), .val (Value.int (3 : Int32)), .val (Value.int (4 : Int32)), .val (Value.int (1 : Int32))] []))
  refine own_Go.by (fun tq kq => XS.iloadN X0.here hx rfl (hb hby d8_4) rfl kq) ?_
  show own_Go p.tables e below _ (s₁.setTop (mkF m 5 #[.val (Value.ref a1), .val (Value.int (3 : Int32)), .val (Value.int (4 : Int32)), .val (Value.int (1 : Int32))] [(Value.int (1 : Int32))]))
  refine own_Go.by (fun tq kq => XS.iconst X0.here hx rfl (hb hby d8_5) kq) ?_
  show own_Go p.tables e below _ (s₁.setTop (mkF m 6 #[.val (Value.ref a1), .val (Value.int (3 : Int32)), .val (Value.int (4 : Int32)), .val (Value.int (1 : Int32))] [(Value.int (1 : Int32)), (Value.int (1 : Int32))]))
  refine own_Go.by (fun tq kq => XS.icmpYes X0.here hx rfl (pc0 := 6) (pc' := 14) rfl (hb hby d8_6) rfl (teq (by decide : (1 : Int32) = (1 : Int32))).1 (by decide) (by decide) kq) ?_
  show own_Go p.tables e below _ (s₁.setTop (mkF m 14 #[.val (Value.ref a1), .val (Value.int (3 : Int32)), .val (Value.int (4 : Int32)), .val (Value.int (1 : Int32))] []))
  refine own_Go.by (fun tq kq => XS.aloadN X0.here hx rfl (hb hby d8_14) rfl rfl kq) ?_
  show own_Go p.tables e below _ (s₁.setTop (mkF m 15 #[.val (Value.ref a1), .val (Value.int (3 : Int32)), .val (Value.int (4 : Int32)), .val (Value.int (1 : Int32))] [(Value.ref a1)]))
  refine own_Go.by (fun tq kq => XS.iloadN X0.here hx rfl (hb hby d8_15) rfl kq) ?_
  show own_Go p.tables e below _ (s₁.setTop (mkF m 16 #[.val (Value.ref a1), .val (Value.int (3 : Int32)), .val (Value.int (4 : Int32)), .val (Value.int (1 : Int32))] [(Value.int (3 : Int32)), (Value.ref a1)]))
  have hcd1 : StrChars.Road.CodA ([c0, c1, c2, c3] : List Int32) 0 (4 : Int32) ((([c0, c1, c2, c3] : List Int32).map (fun c => c.toInt8.toInt32)).map Value.int) := StrChars.Road.codOf (n := 4) rfl (fun x hx => (hp x hx).2)
  obtain ⟨cq1, kq1, q1a, q1b, q1c⟩ := isOf hZ e0 H0
  obtain ⟨_, _, ⟨T1, L1, k1, n1⟩, -, X1, ⟨Lc1, hQ1, l1, y1, z1⟩, st1⟩ := X0.virtualBack hx (y := (⟨"java/lang/String", "charAt", "(I)C"⟩ : MethodName)) (z := (⟨"java/lang/String", "charAt", "(I)C"⟩ : MethodName)) hown (mvT hZ (hw _ (List.mem_of_getElem? (i := 39) rfl))) (mvT hZ (hw _ (List.mem_of_getElem? (i := 40) rfl))) (notFace_of_selects (args := #[]) (mvT hZ (hw _ (List.mem_of_getElem? (i := 42) rfl)))) (mvT hZ (hw _ (List.mem_of_getElem? (i := 42) rfl))) (mvT hZ (hw _ (List.mem_of_getElem? (i := 41) rfl))) (by decide) (StrChars.Road.chN (W := 0) hZ (fun d hd => hw d (own_hch d hd)) (kI := 4) (hw _ (List.mem_of_getElem? (i := 6) rfl)) H0 H1 H2 H3 hcd1 (own_up _ hp) (H5.ext O0.2) hzc (H6.ext O0.2) rvf (Nat.le_of_ble_eq_true rfl) (i := 3) (Nat.le_of_ble_eq_true rfl) (j := (3 : Int32)) rfl (by decide) (by decide)) q1a q1c (g := (mkF m 16 #[.val (Value.ref a1), .val (Value.int (3 : Int32)), .val (Value.int (4 : Int32)), .val (Value.int (1 : Int32))] [(Value.int (3 : Int32)), (Value.ref a1)])) rfl (by rw [hml]; rfl) (Steps.refl _) (argsL := [(Value.int (3 : Int32))]) (rest := []) (lenOf own_pd0 rfl) rfl (by show 2 * 0 + _ ≤ _; exact Nat.le_of_eq rfl) (hb hby d8_16) (fun _ _ => ⟨rfl, e0, (by decide : 0 + 0 ≤ _), (by decide : 0 + 0 ≤ _)⟩)
  dsimp only [Pt.U, Pt.locs, Pt.cells, Pt.slots] at X1 l1 y1 z1 st1 hQ1
  subst l1 y1 z1
  refine own_Go.by (fun tq kq => st1.trans kq) ?_
  obtain ⟨rfl, rfl, e1⟩ := hQ1
  have N1 := Fr.app N0 (Fr.nil n0)
  show own_Go p.tables e below _ (T1.setTop (mkF m 19 #[.val (Value.ref a1), .val (Value.int (3 : Int32)), .val (Value.int (4 : Int32)), .val (Value.int (1 : Int32))] [(Value.int c3)]))
  refine own_Go.by (fun tq kq => XS.bipush X1.here hx rfl (hb hby d8_19) kq) ?_
  show own_Go p.tables e below _ (T1.setTop (mkF m 21 #[.val (Value.ref a1), .val (Value.int (3 : Int32)), .val (Value.int (4 : Int32)), .val (Value.int (1 : Int32))] [(Value.int (46 : Int32)), (Value.int c3)]))
  refine own_Go.by (fun tq kq => XS.icmpYes X1.here hx rfl (pc0 := 21) (pc' := 40) rfl (hb hby d8_21) rfl (feq hd0).2 (by decide) (by decide) kq) ?_
  show own_Go p.tables e below _ (T1.setTop (mkF m 40 #[.val (Value.ref a1), .val (Value.int (3 : Int32)), .val (Value.int (4 : Int32)), .val (Value.int (1 : Int32))] []))
  refine own_Go.by (fun tq kq => XS.iconst X1.here hx rfl (hb hby d8_40) kq) ?_
  show own_Go p.tables e below _ (T1.setTop (mkF m 41 #[.val (Value.ref a1), .val (Value.int (3 : Int32)), .val (Value.int (4 : Int32)), .val (Value.int (1 : Int32))] [(Value.int (0 : Int32))]))
  obtain ⟨fs, hr, hrun, hended, hW, hsame⟩ := X1.leave (v := some (Value.int (nar .boolean (0 : Int32)))) (fun h => by rw [Bd.returns] at h; cases h)
  refine own_Go.fin (retN X1 hx (t := .boolean) Bd.returns (by simp) (hb hby d8_41) hr) ⟨hrun, hended, _, _, rfl, ?_, ⟨_, rfl⟩, hW, hsame.mono (by decide) (by decide)⟩
  show Q8_3_4_f Z a1 t kb c0 c1 c2 c3 zc vf h0 n0 _ T1.heap _
  rw [e1]
  exact ⟨rfl, N1, rfl⟩

theorem own_ef_8_4_4_x (m : MethodId) (a1 : Addr) : entryFrame m #[(Value.ref a1), (Value.int (4 : Int32)), (Value.int (4 : Int32))] 4 = mkF m 0 #[.val (Value.ref a1), .val (Value.int (4 : Int32)), .val (Value.int (4 : Int32)), .unset] [] := by first | (simp [entryFrame, mkF, argsToLocals, Value.category]; done) | rfl
def Q8_4_4_x (Z : State) (a1 : Addr) (t : Addr) (kb : ClassId) (c0 : Int32) (c1 : Int32) (c2 : Int32) (c3 : Int32) (zc : Int32) (vf : Value) (h0 : Heap) (n0 : Nat) (v : Option Value) (h : Heap) (L : List Loc) : Prop := v = some (Value.int (0 : Int32)) ∧ Fr n0 L ∧ h = h0
set_option maxRecDepth 65536 in
set_option maxHeartbeats 40000000 in
theorem rm8_4_4_x (l : Launch) (Z : State) (a0 : Array Value) (hw : ∀ d ∈ tables_1, d.before a0 Z = true) (ws : List Jvm.Cond) (a1 : Addr) (t : Addr) (kb : ClassId) (c0 : Int32) (c1 : Int32) (c2 : Int32) (c3 : Int32) (zc : Int32) (vf : Value) (h0 : Heap) (n0 : Nat) (O0 : Old Z n0 h0) (H0 : Exa Z h0 a1 "java/lang/String") (H1 : Fld Z h0 a1 "java/lang/String" "value" "[B" (Value.ref t)) (H2 : Fld Z h0 a1 "java/lang/String" "coder" "B" (Value.int (0 : Int32))) (H3 : Arv Z h0 t kb .byte (4 : Int32) ((([c0, c1, c2, c3] : List Int32).map (fun c => c.toInt8.toInt32)).map Value.int) (Value.int (0 : Int32))) (hp : ∀ c ∈ ([c0, c1, c2, c3] : List Int32), ¬ c < 0 ∧ ¬ (255 : Int32) < c) (H5 : Sta Z Z.heap "java/lang/String" "COMPACT_STRINGS" "Z" (Value.int zc)) (H6 : Sta Z Z.heap "jdk/internal/util/Preconditions" "SIOOBE_FORMATTER" "Ljava/util/function/BiFunction;" vf) (hzc : ¬ (zc = (0 : Int32))) (rvf : vf.isRef = true) :
    MetFree l (⟨"com/example/enlace/enlace/DotSegments", "isDotSegment", "(Ljava/lang/String;II)Z"⟩ : MethodName) (head1 (Jvm.Cond.code (⟨"com/example/enlace/enlace/DotSegments", "isDotSegment", "(Ljava/lang/String;II)Z"⟩ : MethodName) prog_3_method_4_code 4 (some .boolean) :: ws) ({ frames := 0, cells := 0, slots := 0, locals := 0 } : Room)) (fun a U => a = #[(Value.ref a1), (Value.int (4 : Int32)), (Value.int (4 : Int32))] ∧ Z.Warmed39 U.vm ∧ U.heap = h0) (fun _ _ _ _ _ => True) (fun _ U o U' => ∃ v L, o = .returned v ∧ Q8_4_4_x Z a1 t kb c0 c1 c2 c3 zc vf h0 n0 v U'.heap L ∧ FrameEnd U o U' L ({ frames := 0, cells := 0, slots := 0, locals := 0 } : Room).cells ({ frames := 0, cells := 0, slots := 0, locals := 0 } : Room).slots) := by
  refine MetFree.of_bodySF (plainFor_of_name own_pn_com_example_enlace_enlace_DotSegments) hisR ?_
  intro p e s m args below meth c s₁ Bd hml0 hP hK
  obtain ⟨rfl, hZ, hh⟩ := hP
  have hx := Bd.exec
  have hby := Bd.bytes
  have hml : c.maxLocals = 4 := hml0
  have hown : s.vm.findClass "com/example/enlace/enlace/DotSegments" = some m.cls := findClass_of_methodNamed Bd.named
  have hnm := (name_of_methodNamed Bd.named Bd.method).1
  have X0 : Stand p l e ({ frames := 0, cells := 0, slots := 0, locals := 0 } : Room) s m #[(Value.ref a1), (Value.int (4 : Int32)), (Value.int (4 : Int32))] below meth c s₁ [] 0 0 := Stand.of_body Bd
  have e0 : s₁.heap = h0 := by rw [← hh, Bd.state]; rfl
  have N0 := Fr.nil n0
  have K0 : Keep h0 h0 [] := Keep.refl h0 []
  show own_Go p.tables e below _ (s₁.setTop (entryFrame m #[(Value.ref a1), (Value.int (4 : Int32)), (Value.int (4 : Int32))] 4))
  refine own_Go.by (fun tq kq => castTop (own_ef_8_4_4_x m a1) kq) ?_
  show own_Go p.tables e below _ (s₁.setTop (mkF m 0 #[.val (Value.ref a1), .val (Value.int (4 : Int32)), .val (Value.int (4 : Int32)), .unset] []))
  refine own_Go.by (fun tq kq => XS.iloadN X0.here hx rfl (hb hby d8_0) rfl kq) ?_
  show own_Go p.tables e below _ (s₁.setTop (mkF m 1 #[.val (Value.ref a1), .val (Value.int (4 : Int32)), .val (Value.int (4 : Int32)), .unset] [(Value.int (4 : Int32))]))
  refine own_Go.by (fun tq kq => XS.iloadN X0.here hx rfl (hb hby d8_1) rfl kq) ?_
  show own_Go p.tables e below _ (s₁.setTop (mkF m 2 #[.val (Value.ref a1), .val (Value.int (4 : Int32)), .val (Value.int (4 : Int32)), .unset] [(Value.int (4 : Int32)), (Value.int (4 : Int32))]))
  refine own_Go.by (fun tq kq => XS.isub X0.here hx rfl (hb hby d8_2) rfl kq) ?_
  show own_Go p.tables e below _ (s₁.setTop (mkF m 3 #[.val (Value.ref a1), .val (Value.int (4 : Int32)), .val (Value.int (4 : Int32)), .unset] [(Value.int (0 : Int32))]))
  refine own_Go.by (fun tq kq => XS.istoreN X0.here hx rfl (hb hby d8_3) rfl (l' := #[.val (Value.ref a1), .val (Value.int (4 : Int32)), .val (Value.int (4 : Int32)), .val (Value.int (0 : Int32))]) rfl kq) ?_
  show own_Go p.tables e below _ (s₁.setTop (mkF m 4 #[.val (Value.ref a1), .val (Value.int (4 : Int32)), .val (Value.int (4 : Int32)), .val (Value.int (0 : Int32))] []))
  refine own_Go.by (fun tq kq => XS.iloadN X0.here hx rfl (hb hby d8_4) rfl kq) ?_
  show own_Go p.tables e below _ (s₁.setTop (mkF m 5 #[.val (Value.ref a1), .val (Value.int (4 : Int32)), .val (Value.int (4 : Int32)), .val (Value.int (0 : Int32))] [(Value.int (0 : Int32))]))
  refine own_Go.by (fun tq kq => XS.iconst X0.here hx rfl (hb hby d8_5) kq) ?_
  show own_Go p.tables e below _ (s₁.setTop (mkF m 6 #[.val (Value.ref a1), .val (Value.int (4 : Int32)), .val (Value.int (4 : Int32)), .val (Value.int (0 : Int32))] [(Value.int (1 : Int32)), (Value.int (0 : Int32))]))
  refine own_Go.by (fun tq kq => XS.icmpNo X0.here hx rfl (hb hby d8_6) rfl (feq (by decide : ¬ ((0 : Int32) = (1 : Int32)))).1 kq) ?_
  show own_Go p.tables e below _ (s₁.setTop (mkF m 9 #[.val (Value.ref a1), .val (Value.int (4 : Int32)), .val (Value.int (4 : Int32)), .val (Value.int (0 : Int32))] []))
  refine own_Go.by (fun tq kq => XS.iloadN X0.here hx rfl (hb hby d8_9) rfl kq) ?_
  show own_Go p.tables e below _ (s₁.setTop (mkF m 10 #[.val (Value.ref a1), .val (Value.int (4 : Int32)), .val (Value.int (4 : Int32)), .val (Value.int (0 : Int32))] [(Value.int (0 : Int32))]))
  refine own_Go.by (fun tq kq => XS.iconst X0.here hx rfl (hb hby d8_10) kq) ?_
  show own_Go p.tables e below _ (s₁.setTop (mkF m 11 #[.val (Value.ref a1), .val (Value.int (4 : Int32)), .val (Value.int (4 : Int32)), .val (Value.int (0 : Int32))] [(Value.int (2 : Int32)), (Value.int (0 : Int32))]))
  refine own_Go.by (fun tq kq => XS.icmpYes X0.here hx rfl (pc0 := 11) (pc' := 40) rfl (hb hby d8_11) rfl (feq (by decide : ¬ ((0 : Int32) = (2 : Int32)))).2 (by decide) (by decide) kq) ?_
  show own_Go p.tables e below _ (s₁.setTop (mkF m 40 #[.val (Value.ref a1), .val (Value.int (4 : Int32)), .val (Value.int (4 : Int32)), .val (Value.int (0 : Int32))] []))
  refine own_Go.by (fun tq kq => XS.iconst X0.here hx rfl (hb hby d8_40) kq) ?_
  show own_Go p.tables e below _ (s₁.setTop (mkF m 41 #[.val (Value.ref a1), .val (Value.int (4 : Int32)), .val (Value.int (4 : Int32)), .val (Value.int (0 : Int32))] [(Value.int (0 : Int32))]))
  obtain ⟨fs, hr, hrun, hended, hW, hsame⟩ := X0.leave (v := some (Value.int (nar .boolean (0 : Int32)))) (fun h => by rw [Bd.returns] at h; cases h)
  refine own_Go.fin (retN X0 hx (t := .boolean) Bd.returns (by simp) (hb hby d8_41) hr) ⟨hrun, hended, _, _, rfl, ?_, ⟨_, rfl⟩, hW, hsame.mono (by decide) (by decide)⟩
  show Q8_4_4_x Z a1 t kb c0 c1 c2 c3 zc vf h0 n0 _ s₁.heap _
  rw [e0]
  exact ⟨rfl, N0, rfl⟩

theorem own_pd1 : parseMethodDescriptor "([C)V" = some ⟨[(.array .char)], none⟩ := by decide +kernel
theorem own_pd2 : parseMethodDescriptor "(Ljava/lang/String;II)Z" = some ⟨[(.object "java/lang/String"), .int, .int], some .boolean⟩ := by decide +kernel
theorem own_ef_0 (m : MethodId) (p1 : Int32) (p2 : Int32) (p3 : Int32) (p4 : Int32) : entryFrame m #[(Value.int p1), (Value.int p2), (Value.int p3), (Value.int p4)] maxLocals = mkF m 0 #[.val (Value.int p1), .val (Value.int p2), .val (Value.int p3), .val (Value.int p4), .unset, .unset, .unset, .unset, .unset, .unset, .unset] [] := by first | (simp [entryFrame, mkF, argsToLocals, Value.category, maxLocals]; done) | rfl
def Q0 (Z : State) (p1 : Int32) (p2 : Int32) (p3 : Int32) (p4 : Int32) (zc : Int32) (vf : Value) (h0 : Heap) (n0 : Nat) (v : Option Value) (h : Heap) (L : List Loc) : Prop := v = some (Value.int (1 : Int32)) ∧ Fr n0 L ∧ Keep h0 h []
set_option maxRecDepth 65536 in
set_option maxHeartbeats 40000000 in
theorem rm0 (l : Launch) (Z : State) (a0 : Array Value) (hw : ∀ d ∈ tables_1, d.before a0 Z = true) (ws : List Jvm.Cond) (p1 : Int32) (p2 : Int32) (p3 : Int32) (p4 : Int32) (zc : Int32) (vf : Value) (h0 : Heap) (n0 : Nat) (O0 : Old Z n0 h0) (H0 : Sta Z Z.heap "java/lang/String" "COMPACT_STRINGS" "Z" (Value.int zc)) (H1 : Sta Z Z.heap "jdk/internal/util/Preconditions" "SIOOBE_FORMATTER" "Ljava/util/function/BiFunction;" vf) (hzc : ¬ (zc = (0 : Int32))) (rvf : vf.isRef = true) :
    MetFree l x (head1 (Jvm.Cond.code x code maxLocals ret :: ws) room_1) (fun a U => a = #[(Value.int p1), (Value.int p2), (Value.int p3), (Value.int p4)] ∧ Z.Warmed39 U.vm ∧ U.heap = h0) (fun _ _ _ _ _ => True) (fun _ U o U' => ∃ v L, o = .returned v ∧ Q0 Z p1 p2 p3 p4 zc vf h0 n0 v U'.heap L ∧ FrameEnd U o U' L room_1.cells room_1.slots) := by
  refine MetFree.of_bodySF (plainFor_of_name own_pn_com_example_enlace_enlace_DotSegmentsIsDotSegmentPinLaw) hisR ?_
  intro p e s m args below meth c s₁ Bd hml0 hP hK
  obtain ⟨rfl, hZ, hh⟩ := hP
  have hx := Bd.exec
  have hby := Bd.bytes
  have hml : c.maxLocals = 11 := hml0
  have hown : s.vm.findClass "com/example/enlace/enlace/DotSegmentsIsDotSegmentPinLaw" = some m.cls := findClass_of_methodNamed Bd.named
  have hnm := (name_of_methodNamed Bd.named Bd.method).1
  have X0 : Stand p l e room_1 s m #[(Value.int p1), (Value.int p2), (Value.int p3), (Value.int p4)] below meth c s₁ [] 0 0 := Stand.of_body Bd
  have e0 : s₁.heap = h0 := by rw [← hh, Bd.state]; rfl
  have N0 := Fr.nil n0
  have K0 : Keep h0 h0 [] := Keep.refl h0 []
  show own_Go p.tables e below _ (s₁.setTop (entryFrame m #[(Value.int p1), (Value.int p2), (Value.int p3), (Value.int p4)] maxLocals))
  refine own_Go.by (fun tq kq => castTop (own_ef_0 m p1 p2 p3 p4) kq) ?_
  show own_Go p.tables e below _ (s₁.setTop (mkF m 0 #[.val (Value.int p1), .val (Value.int p2), .val (Value.int p3), .val (Value.int p4), .unset, .unset, .unset, .unset, .unset, .unset, .unset] []))
  refine own_Go.by (fun tq kq => XS.iconst X0.here hx rfl (hb hby at_0) kq) ?_
  show own_Go p.tables e below _ (s₁.setTop (mkF m 1 #[.val (Value.int p1), .val (Value.int p2), .val (Value.int p3), .val (Value.int p4), .unset, .unset, .unset, .unset, .unset, .unset, .unset] [(Value.int (4 : Int32))]))
  obtain ⟨T1, h1, k1, X1, e1, E1, A1, Ea1, st1⟩ := newPE X0 hx hZ (hw _ (List.mem_of_getElem? (i := 0) rfl)) e0 (g := (mkF m 1 #[.val (Value.int p1), .val (Value.int p2), .val (Value.int p3), .val (Value.int p4), .unset, .unset, .unset, .unset, .unset, .unset, .unset] [(Value.int (4 : Int32))])) rfl (hb hby at_1) rfl (by decide : ¬ ((4 : Int32) < (0 : Int32))) (cap := 4) (by decide : (4 : Int32).toNatClampNeg ≤ 4) (by decide) (by decide) (by decide) (ad := "[C") rfl
  obtain ⟨ob1, y1⟩ : ∃ z, z = h0.size := ⟨_, rfl⟩
  rw [← y1] at A1 Ea1 st1
  refine own_Go.by st1 ?_
  have O2 := O0.ext E1
  have K2 := K0.ext E1
  have g3 : n0 ≤ ob1 := Nat.le_trans (own_old_le O0) (Nat.le_of_eq y1.symm)
  have z3 : h0.size ≤ ob1 := Nat.le_trans K0.1 (Nat.le_of_eq y1.symm)
  have V1 : Arv Z h1 ob1 k1 .char (4 : Int32) [(Value.int (0 : Int32)), (Value.int (0 : Int32)), (Value.int (0 : Int32)), (Value.int (0 : Int32))] (Value.int (0 : Int32)) := (Arv.new A1 (by decide : ¬ ((4 : Int32) < (0 : Int32)))).pad (pad_rep [] (Value.int (0 : Int32)) 4)
  show own_Go p.tables e below _ (T1.setTop (mkF m 3 #[.val (Value.int p1), .val (Value.int p2), .val (Value.int p3), .val (Value.int p4), .unset, .unset, .unset, .unset, .unset, .unset, .unset] [(Value.ref ob1)]))
  refine own_Go.by (fun tq kq => XS.astore X1.here hx rfl (hb hby at_3) rfl rfl (l' := #[.val (Value.int p1), .val (Value.int p2), .val (Value.int p3), .val (Value.int p4), .val (Value.ref ob1), .unset, .unset, .unset, .unset, .unset, .unset]) rfl kq) ?_
  show own_Go p.tables e below _ (T1.setTop (mkF m 5 #[.val (Value.int p1), .val (Value.int p2), .val (Value.int p3), .val (Value.int p4), .val (Value.ref ob1), .unset, .unset, .unset, .unset, .unset, .unset] []))
  refine own_Go.by (fun tq kq => XS.aload X1.here hx rfl (hb hby at_5) rfl rfl kq) ?_
  show own_Go p.tables e below _ (T1.setTop (mkF m 7 #[.val (Value.int p1), .val (Value.int p2), .val (Value.int p3), .val (Value.int p4), .val (Value.ref ob1), .unset, .unset, .unset, .unset, .unset, .unset] [(Value.ref ob1)]))
  refine own_Go.by (fun tq kq => XS.iconst X1.here hx rfl (hb hby at_7) kq) ?_
  show own_Go p.tables e below _ (T1.setTop (mkF m 8 #[.val (Value.int p1), .val (Value.int p2), .val (Value.int p3), .val (Value.int p4), .val (Value.ref ob1), .unset, .unset, .unset, .unset, .unset, .unset] [(Value.int (0 : Int32)), (Value.ref ob1)]))
  refine own_Go.by (fun tq kq => XS.iloadN X1.here hx rfl (hb hby at_8) rfl kq) ?_
  show own_Go p.tables e below _ (T1.setTop (mkF m 9 #[.val (Value.int p1), .val (Value.int p2), .val (Value.int p3), .val (Value.int p4), .val (Value.ref ob1), .unset, .unset, .unset, .unset, .unset, .unset] [(Value.int p1), (Value.int (0 : Int32)), (Value.ref ob1)]))
  obtain ⟨_, _, ⟨T4, L4, k4, n4⟩, -, X4, ⟨Lc4, hQ4, l4, y4, z4⟩, st4⟩ := Jvm.LawKit.callS X1 hx (y := (⟨"com/example/enlace/enlace/DotSegmentsIsDotSegmentPinLaw", "pick", "(I)C"⟩ : MethodName)) hown (mvT hZ (hw _ (List.mem_of_getElem? (i := 1) rfl))) (mvT hZ (hw _ (List.mem_of_getElem? (i := 2) rfl))) (mvT hZ (hw _ (List.mem_of_getElem? (i := 3) rfl))) (mvT hZ (hw _ (List.mem_of_getElem? (i := 4) rfl))) (by decide) (backOf (W := 2) (rm1 l Z a0 hw [] p1 h1 n0 O2 ) hZ (hw _ (List.mem_of_getElem? (i := 4) rfl)) (hw _ (List.mem_of_getElem? (i := 3) rfl)) (by decide) (by decide)) (g := (mkF m 9 #[.val (Value.int p1), .val (Value.int p2), .val (Value.int p3), .val (Value.int p4), .val (Value.ref ob1), .unset, .unset, .unset, .unset, .unset, .unset] [(Value.int p1), (Value.int (0 : Int32)), (Value.ref ob1)])) rfl (by rw [hml]; rfl) (argsL := [(Value.int p1)]) (rest := [(Value.int (0 : Int32)), (Value.ref ob1)]) (lenOf own_pd0 rfl) rfl (by show 2 * 0 + _ ≤ _; exact Nat.le_of_eq rfl) (hb hby at_9) (fun _ _ => ⟨rfl, e1, (by decide : 1 + 0 ≤ _), (by decide : 4 + 0 ≤ _)⟩)
  dsimp only [Pt.U, Pt.locs, Pt.cells, Pt.slots] at X4 l4 y4 z4 st4 hQ4
  subst l4 y4 z4
  refine own_Go.by st4 ?_
  obtain ⟨r_4, rfl, N4q, e4, p4_0⟩ := hQ4
  have N4 := Fr.app N0 N4q
  show own_Go p.tables e below _ (T4.setTop (mkF m 12 #[.val (Value.int p1), .val (Value.int p2), .val (Value.int p3), .val (Value.int p4), .val (Value.ref ob1), .unset, .unset, .unset, .unset, .unset, .unset] [(Value.int r_4), (Value.int (0 : Int32)), (Value.ref ob1)]))
  obtain ⟨cl5, Ar5, q5, S5, M5, Hh5, G5⟩ := id V1
  obtain ⟨T6, h6, X6, e6, W6, st6⟩ := stC X4 hx hZ e4 Ar5 (j := (0 : Int32)) (inb_of S5 ⟨(by decide : ¬ ((0 : Int32) < (0 : Int32))), (by decide : (0 : Int32) < (4 : Int32))⟩) (g := (mkF m 12 #[.val (Value.int p1), .val (Value.int p2), .val (Value.int p3), .val (Value.int p4), .val (Value.ref ob1), .unset, .unset, .unset, .unset, .unset, .unset] [(Value.int r_4), (Value.int (0 : Int32)), (Value.ref ob1)])) rfl rfl (hb hby at_12)
  refine own_Go.by st6 ?_
  have N6 := Fr.snoc X6 N4 g3
  have O7 := O2.wr W6 g3
  have K7 := K2.wr W6 (Or.inr z3)
  rw [show nar .char r_4 = r_4 from p4_0.2] at W6
  have V6 : Arv Z h6 ob1 k1 .char (4 : Int32) [(Value.int r_4), (Value.int (0 : Int32)), (Value.int (0 : Int32)), (Value.int (0 : Int32))] (Value.int (0 : Int32)) := Arv.set Ar5 q5 S5 M5 Hh5 G5 (own_fitC p4_0.2) W6 0 rfl (Nat.le_of_ble_eq_true rfl)
  show own_Go p.tables e below _ (T6.setTop (mkF m 13 #[.val (Value.int p1), .val (Value.int p2), .val (Value.int p3), .val (Value.int p4), .val (Value.ref ob1), .unset, .unset, .unset, .unset, .unset, .unset] []))
  refine own_Go.by (fun tq kq => XS.aload X6.here hx rfl (hb hby at_13) rfl rfl kq) ?_
  show own_Go p.tables e below _ (T6.setTop (mkF m 15 #[.val (Value.int p1), .val (Value.int p2), .val (Value.int p3), .val (Value.int p4), .val (Value.ref ob1), .unset, .unset, .unset, .unset, .unset, .unset] [(Value.ref ob1)]))
  refine own_Go.by (fun tq kq => XS.iconst X6.here hx rfl (hb hby at_15) kq) ?_
  show own_Go p.tables e below _ (T6.setTop (mkF m 16 #[.val (Value.int p1), .val (Value.int p2), .val (Value.int p3), .val (Value.int p4), .val (Value.ref ob1), .unset, .unset, .unset, .unset, .unset, .unset] [(Value.int (1 : Int32)), (Value.ref ob1)]))
  refine own_Go.by (fun tq kq => XS.iloadN X6.here hx rfl (hb hby at_16) rfl kq) ?_
  show own_Go p.tables e below _ (T6.setTop (mkF m 17 #[.val (Value.int p1), .val (Value.int p2), .val (Value.int p3), .val (Value.int p4), .val (Value.ref ob1), .unset, .unset, .unset, .unset, .unset, .unset] [(Value.int p1), (Value.int (1 : Int32)), (Value.ref ob1)]))
  refine own_Go.by (fun tq kq => XS.bipush X6.here hx rfl (hb hby at_17) kq) ?_
  show own_Go p.tables e below _ (T6.setTop (mkF m 19 #[.val (Value.int p1), .val (Value.int p2), .val (Value.int p3), .val (Value.int p4), .val (Value.ref ob1), .unset, .unset, .unset, .unset, .unset, .unset] [(Value.int (16 : Int32)), (Value.int p1), (Value.int (1 : Int32)), (Value.ref ob1)]))
  refine own_Go.by (fun tq kq => XS.iushr X6.here hx rfl (hb hby at_19) rfl kq) ?_
  show own_Go p.tables e below _ (T6.setTop (mkF m 20 #[.val (Value.int p1), .val (Value.int p2), .val (Value.int p3), .val (Value.int p4), .val (Value.ref ob1), .unset, .unset, .unset, .unset, .unset, .unset] [(Value.int ((p1.toUInt32 >>> ((16 : Int32) &&& 31).toUInt32).toInt32)), (Value.int (1 : Int32)), (Value.ref ob1)]))
  obtain ⟨_, _, ⟨T8, L8, k8, n8⟩, -, X8, ⟨Lc8, hQ8, l8, y8, z8⟩, st8⟩ := Jvm.LawKit.callS X6 hx (y := (⟨"com/example/enlace/enlace/DotSegmentsIsDotSegmentPinLaw", "pick", "(I)C"⟩ : MethodName)) hown (mvT hZ (hw _ (List.mem_of_getElem? (i := 1) rfl))) (mvT hZ (hw _ (List.mem_of_getElem? (i := 2) rfl))) (mvT hZ (hw _ (List.mem_of_getElem? (i := 3) rfl))) (mvT hZ (hw _ (List.mem_of_getElem? (i := 4) rfl))) (by decide) (backOf (W := 2) (rm1 l Z a0 hw [] ((p1.toUInt32 >>> ((16 : Int32) &&& 31).toUInt32).toInt32) h6 n0 O7 ) hZ (hw _ (List.mem_of_getElem? (i := 4) rfl)) (hw _ (List.mem_of_getElem? (i := 3) rfl)) (by decide) (by decide)) (g := (mkF m 20 #[.val (Value.int p1), .val (Value.int p2), .val (Value.int p3), .val (Value.int p4), .val (Value.ref ob1), .unset, .unset, .unset, .unset, .unset, .unset] [(Value.int ((p1.toUInt32 >>> ((16 : Int32) &&& 31).toUInt32).toInt32)), (Value.int (1 : Int32)), (Value.ref ob1)])) rfl (by rw [hml]; rfl) (argsL := [(Value.int ((p1.toUInt32 >>> ((16 : Int32) &&& 31).toUInt32).toInt32))]) (rest := [(Value.int (1 : Int32)), (Value.ref ob1)]) (lenOf own_pd0 rfl) rfl (by show 2 * 0 + _ ≤ _; exact Nat.le_of_eq rfl) (hb hby at_20) (fun _ _ => ⟨rfl, e6, (by decide : 1 + 0 ≤ _), (by decide : 4 + 0 ≤ _)⟩)
  dsimp only [Pt.U, Pt.locs, Pt.cells, Pt.slots] at X8 l8 y8 z8 st8 hQ8
  subst l8 y8 z8
  refine own_Go.by st8 ?_
  obtain ⟨r_8, rfl, N8q, e8, p8_0⟩ := hQ8
  have N8 := Fr.app N6 N8q
  show own_Go p.tables e below _ (T8.setTop (mkF m 23 #[.val (Value.int p1), .val (Value.int p2), .val (Value.int p3), .val (Value.int p4), .val (Value.ref ob1), .unset, .unset, .unset, .unset, .unset, .unset] [(Value.int r_8), (Value.int (1 : Int32)), (Value.ref ob1)]))
  obtain ⟨cl9, Ar9, q9, S9, M9, Hh9, G9⟩ := id V6
  obtain ⟨T10, h10, X10, e10, W10, st10⟩ := stC X8 hx hZ e8 Ar9 (j := (1 : Int32)) (inb_of S9 ⟨(by decide : ¬ ((1 : Int32) < (0 : Int32))), (by decide : (1 : Int32) < (4 : Int32))⟩) (g := (mkF m 23 #[.val (Value.int p1), .val (Value.int p2), .val (Value.int p3), .val (Value.int p4), .val (Value.ref ob1), .unset, .unset, .unset, .unset, .unset, .unset] [(Value.int r_8), (Value.int (1 : Int32)), (Value.ref ob1)])) rfl rfl (hb hby at_23)
  refine own_Go.by st10 ?_
  have N10 := Fr.snoc X10 N8 g3
  have O11 := O7.wr W10 g3
  have K11 := K7.wr W10 (Or.inr z3)
  rw [show nar .char r_8 = r_8 from p8_0.2] at W10
  have V10 : Arv Z h10 ob1 k1 .char (4 : Int32) [(Value.int r_4), (Value.int r_8), (Value.int (0 : Int32)), (Value.int (0 : Int32))] (Value.int (0 : Int32)) := Arv.set Ar9 q9 S9 M9 Hh9 G9 (own_fitC p8_0.2) W10 1 rfl (Nat.le_of_ble_eq_true rfl)
  show own_Go p.tables e below _ (T10.setTop (mkF m 24 #[.val (Value.int p1), .val (Value.int p2), .val (Value.int p3), .val (Value.int p4), .val (Value.ref ob1), .unset, .unset, .unset, .unset, .unset, .unset] []))
  refine own_Go.by (fun tq kq => XS.aload X10.here hx rfl (hb hby at_24) rfl rfl kq) ?_
  show own_Go p.tables e below _ (T10.setTop (mkF m 26 #[.val (Value.int p1), .val (Value.int p2), .val (Value.int p3), .val (Value.int p4), .val (Value.ref ob1), .unset, .unset, .unset, .unset, .unset, .unset] [(Value.ref ob1)]))
  refine own_Go.by (fun tq kq => XS.iconst X10.here hx rfl (hb hby at_26) kq) ?_
  show own_Go p.tables e below _ (T10.setTop (mkF m 27 #[.val (Value.int p1), .val (Value.int p2), .val (Value.int p3), .val (Value.int p4), .val (Value.ref ob1), .unset, .unset, .unset, .unset, .unset, .unset] [(Value.int (2 : Int32)), (Value.ref ob1)]))
  refine own_Go.by (fun tq kq => XS.iloadN X10.here hx rfl (hb hby at_27) rfl kq) ?_
  show own_Go p.tables e below _ (T10.setTop (mkF m 28 #[.val (Value.int p1), .val (Value.int p2), .val (Value.int p3), .val (Value.int p4), .val (Value.ref ob1), .unset, .unset, .unset, .unset, .unset, .unset] [(Value.int p2), (Value.int (2 : Int32)), (Value.ref ob1)]))
  obtain ⟨_, _, ⟨T12, L12, k12, n12⟩, -, X12, ⟨Lc12, hQ12, l12, y12, z12⟩, st12⟩ := Jvm.LawKit.callS X10 hx (y := (⟨"com/example/enlace/enlace/DotSegmentsIsDotSegmentPinLaw", "pick", "(I)C"⟩ : MethodName)) hown (mvT hZ (hw _ (List.mem_of_getElem? (i := 1) rfl))) (mvT hZ (hw _ (List.mem_of_getElem? (i := 2) rfl))) (mvT hZ (hw _ (List.mem_of_getElem? (i := 3) rfl))) (mvT hZ (hw _ (List.mem_of_getElem? (i := 4) rfl))) (by decide) (backOf (W := 2) (rm1 l Z a0 hw [] p2 h10 n0 O11 ) hZ (hw _ (List.mem_of_getElem? (i := 4) rfl)) (hw _ (List.mem_of_getElem? (i := 3) rfl)) (by decide) (by decide)) (g := (mkF m 28 #[.val (Value.int p1), .val (Value.int p2), .val (Value.int p3), .val (Value.int p4), .val (Value.ref ob1), .unset, .unset, .unset, .unset, .unset, .unset] [(Value.int p2), (Value.int (2 : Int32)), (Value.ref ob1)])) rfl (by rw [hml]; rfl) (argsL := [(Value.int p2)]) (rest := [(Value.int (2 : Int32)), (Value.ref ob1)]) (lenOf own_pd0 rfl) rfl (by show 2 * 0 + _ ≤ _; exact Nat.le_of_eq rfl) (hb hby at_28) (fun _ _ => ⟨rfl, e10, (by decide : 1 + 0 ≤ _), (by decide : 4 + 0 ≤ _)⟩)
  dsimp only [Pt.U, Pt.locs, Pt.cells, Pt.slots] at X12 l12 y12 z12 st12 hQ12
  subst l12 y12 z12
  refine own_Go.by st12 ?_
  obtain ⟨r_12, rfl, N12q, e12, p12_0⟩ := hQ12
  have N12 := Fr.app N10 N12q
  show own_Go p.tables e below _ (T12.setTop (mkF m 31 #[.val (Value.int p1), .val (Value.int p2), .val (Value.int p3), .val (Value.int p4), .val (Value.ref ob1), .unset, .unset, .unset, .unset, .unset, .unset] [(Value.int r_12), (Value.int (2 : Int32)), (Value.ref ob1)]))
  obtain ⟨cl13, Ar13, q13, S13, M13, Hh13, G13⟩ := id V10
  obtain ⟨T14, h14, X14, e14, W14, st14⟩ := stC X12 hx hZ e12 Ar13 (j := (2 : Int32)) (inb_of S13 ⟨(by decide : ¬ ((2 : Int32) < (0 : Int32))), (by decide : (2 : Int32) < (4 : Int32))⟩) (g := (mkF m 31 #[.val (Value.int p1), .val (Value.int p2), .val (Value.int p3), .val (Value.int p4), .val (Value.ref ob1), .unset, .unset, .unset, .unset, .unset, .unset] [(Value.int r_12), (Value.int (2 : Int32)), (Value.ref ob1)])) rfl rfl (hb hby at_31)
  refine own_Go.by st14 ?_
  have N14 := Fr.snoc X14 N12 g3
  have O15 := O11.wr W14 g3
  have K15 := K11.wr W14 (Or.inr z3)
  rw [show nar .char r_12 = r_12 from p12_0.2] at W14
  have V14 : Arv Z h14 ob1 k1 .char (4 : Int32) [(Value.int r_4), (Value.int r_8), (Value.int r_12), (Value.int (0 : Int32))] (Value.int (0 : Int32)) := Arv.set Ar13 q13 S13 M13 Hh13 G13 (own_fitC p12_0.2) W14 2 rfl (Nat.le_of_ble_eq_true rfl)
  show own_Go p.tables e below _ (T14.setTop (mkF m 32 #[.val (Value.int p1), .val (Value.int p2), .val (Value.int p3), .val (Value.int p4), .val (Value.ref ob1), .unset, .unset, .unset, .unset, .unset, .unset] []))
  refine own_Go.by (fun tq kq => XS.aload X14.here hx rfl (hb hby at_32) rfl rfl kq) ?_
  show own_Go p.tables e below _ (T14.setTop (mkF m 34 #[.val (Value.int p1), .val (Value.int p2), .val (Value.int p3), .val (Value.int p4), .val (Value.ref ob1), .unset, .unset, .unset, .unset, .unset, .unset] [(Value.ref ob1)]))
  refine own_Go.by (fun tq kq => XS.iconst X14.here hx rfl (hb hby at_34) kq) ?_
  show own_Go p.tables e below _ (T14.setTop (mkF m 35 #[.val (Value.int p1), .val (Value.int p2), .val (Value.int p3), .val (Value.int p4), .val (Value.ref ob1), .unset, .unset, .unset, .unset, .unset, .unset] [(Value.int (3 : Int32)), (Value.ref ob1)]))
  refine own_Go.by (fun tq kq => XS.iloadN X14.here hx rfl (hb hby at_35) rfl kq) ?_
  show own_Go p.tables e below _ (T14.setTop (mkF m 36 #[.val (Value.int p1), .val (Value.int p2), .val (Value.int p3), .val (Value.int p4), .val (Value.ref ob1), .unset, .unset, .unset, .unset, .unset, .unset] [(Value.int p2), (Value.int (3 : Int32)), (Value.ref ob1)]))
  refine own_Go.by (fun tq kq => XS.bipush X14.here hx rfl (hb hby at_36) kq) ?_
  show own_Go p.tables e below _ (T14.setTop (mkF m 38 #[.val (Value.int p1), .val (Value.int p2), .val (Value.int p3), .val (Value.int p4), .val (Value.ref ob1), .unset, .unset, .unset, .unset, .unset, .unset] [(Value.int (16 : Int32)), (Value.int p2), (Value.int (3 : Int32)), (Value.ref ob1)]))
  refine own_Go.by (fun tq kq => XS.iushr X14.here hx rfl (hb hby at_38) rfl kq) ?_
  show own_Go p.tables e below _ (T14.setTop (mkF m 39 #[.val (Value.int p1), .val (Value.int p2), .val (Value.int p3), .val (Value.int p4), .val (Value.ref ob1), .unset, .unset, .unset, .unset, .unset, .unset] [(Value.int ((p2.toUInt32 >>> ((16 : Int32) &&& 31).toUInt32).toInt32)), (Value.int (3 : Int32)), (Value.ref ob1)]))
  obtain ⟨_, _, ⟨T16, L16, k16, n16⟩, -, X16, ⟨Lc16, hQ16, l16, y16, z16⟩, st16⟩ := Jvm.LawKit.callS X14 hx (y := (⟨"com/example/enlace/enlace/DotSegmentsIsDotSegmentPinLaw", "pick", "(I)C"⟩ : MethodName)) hown (mvT hZ (hw _ (List.mem_of_getElem? (i := 1) rfl))) (mvT hZ (hw _ (List.mem_of_getElem? (i := 2) rfl))) (mvT hZ (hw _ (List.mem_of_getElem? (i := 3) rfl))) (mvT hZ (hw _ (List.mem_of_getElem? (i := 4) rfl))) (by decide) (backOf (W := 2) (rm1 l Z a0 hw [] ((p2.toUInt32 >>> ((16 : Int32) &&& 31).toUInt32).toInt32) h14 n0 O15 ) hZ (hw _ (List.mem_of_getElem? (i := 4) rfl)) (hw _ (List.mem_of_getElem? (i := 3) rfl)) (by decide) (by decide)) (g := (mkF m 39 #[.val (Value.int p1), .val (Value.int p2), .val (Value.int p3), .val (Value.int p4), .val (Value.ref ob1), .unset, .unset, .unset, .unset, .unset, .unset] [(Value.int ((p2.toUInt32 >>> ((16 : Int32) &&& 31).toUInt32).toInt32)), (Value.int (3 : Int32)), (Value.ref ob1)])) rfl (by rw [hml]; rfl) (argsL := [(Value.int ((p2.toUInt32 >>> ((16 : Int32) &&& 31).toUInt32).toInt32))]) (rest := [(Value.int (3 : Int32)), (Value.ref ob1)]) (lenOf own_pd0 rfl) rfl (by show 2 * 0 + _ ≤ _; exact Nat.le_of_eq rfl) (hb hby at_39) (fun _ _ => ⟨rfl, e14, (by decide : 1 + 0 ≤ _), (by decide : 4 + 0 ≤ _)⟩)
  dsimp only [Pt.U, Pt.locs, Pt.cells, Pt.slots] at X16 l16 y16 z16 st16 hQ16
  subst l16 y16 z16
  refine own_Go.by st16 ?_
  obtain ⟨r_16, rfl, N16q, e16, p16_0⟩ := hQ16
  have N16 := Fr.app N14 N16q
  show own_Go p.tables e below _ (T16.setTop (mkF m 42 #[.val (Value.int p1), .val (Value.int p2), .val (Value.int p3), .val (Value.int p4), .val (Value.ref ob1), .unset, .unset, .unset, .unset, .unset, .unset] [(Value.int r_16), (Value.int (3 : Int32)), (Value.ref ob1)]))
  obtain ⟨cl17, Ar17, q17, S17, M17, Hh17, G17⟩ := id V14
  obtain ⟨T18, h18, X18, e18, W18, st18⟩ := stC X16 hx hZ e16 Ar17 (j := (3 : Int32)) (inb_of S17 ⟨(by decide : ¬ ((3 : Int32) < (0 : Int32))), (by decide : (3 : Int32) < (4 : Int32))⟩) (g := (mkF m 42 #[.val (Value.int p1), .val (Value.int p2), .val (Value.int p3), .val (Value.int p4), .val (Value.ref ob1), .unset, .unset, .unset, .unset, .unset, .unset] [(Value.int r_16), (Value.int (3 : Int32)), (Value.ref ob1)])) rfl rfl (hb hby at_42)
  refine own_Go.by st18 ?_
  have N18 := Fr.snoc X18 N16 g3
  have O19 := O15.wr W18 g3
  have K19 := K15.wr W18 (Or.inr z3)
  rw [show nar .char r_16 = r_16 from p16_0.2] at W18
  have V18 : Arv Z h18 ob1 k1 .char (4 : Int32) [(Value.int r_4), (Value.int r_8), (Value.int r_12), (Value.int r_16)] (Value.int (0 : Int32)) := Arv.set Ar17 q17 S17 M17 Hh17 G17 (own_fitC p16_0.2) W18 3 rfl (Nat.le_of_ble_eq_true rfl)
  show own_Go p.tables e below _ (T18.setTop (mkF m 43 #[.val (Value.int p1), .val (Value.int p2), .val (Value.int p3), .val (Value.int p4), .val (Value.ref ob1), .unset, .unset, .unset, .unset, .unset, .unset] []))
  obtain ⟨T20, h20, X20, e20, E20, A20, D20, -, st20⟩ := newO X18 hx hZ hown (hw _ (List.mem_of_getElem? (i := 5) rfl)) (hw _ (List.mem_of_getElem? (i := 6) rfl)) (hw _ (List.mem_of_getElem? (i := 7) rfl)) e18 (g := (mkF m 43 #[.val (Value.int p1), .val (Value.int p2), .val (Value.int p3), .val (Value.int p4), .val (Value.ref ob1), .unset, .unset, .unset, .unset, .unset, .unset] [])) rfl (hb hby at_43) (by decide) (by decide)
  obtain ⟨ob20, y20⟩ : ∃ z, z = h18.size := ⟨_, rfl⟩
  rw [← y20] at A20 D20 st20
  refine own_Go.by st20 ?_
  have O21 := O19.ext E20
  have K21 := K19.ext E20
  have g22 : n0 ≤ ob20 := Nat.le_trans (own_old_le O19) (Nat.le_of_eq y20.symm)
  have z22 : h0.size ≤ ob20 := Nat.le_trans K19.1 (Nat.le_of_eq y20.symm)
  have F20_coder : Fld Z h20 ob20 "java/lang/String" "coder" "B" (Value.int (0 : Int32)) := D20 (Or.inr (hw _ (List.mem_of_getElem? (i := 31) rfl))) (ty := .byte) (by decide)
  have F20_value : Fld Z h20 ob20 "java/lang/String" "value" "[B" .null := D20 (Or.inr (hw _ (List.mem_of_getElem? (i := 33) rfl))) (ty := (.array .byte)) (by decide)
  show own_Go p.tables e below _ (T20.setTop (mkF m 46 #[.val (Value.int p1), .val (Value.int p2), .val (Value.int p3), .val (Value.int p4), .val (Value.ref ob1), .unset, .unset, .unset, .unset, .unset, .unset] [(Value.ref ob20)]))
  refine own_Go.by (fun tq kq => XS.dup X20.here hx rfl (hb hby at_46) rfl rfl kq) ?_
  show own_Go p.tables e below _ (T20.setTop (mkF m 47 #[.val (Value.int p1), .val (Value.int p2), .val (Value.int p3), .val (Value.int p4), .val (Value.ref ob1), .unset, .unset, .unset, .unset, .unset, .unset] [(Value.ref ob20), (Value.ref ob20)]))
  refine own_Go.by (fun tq kq => XS.aload X20.here hx rfl (hb hby at_47) rfl rfl kq) ?_
  show own_Go p.tables e below _ (T20.setTop (mkF m 49 #[.val (Value.int p1), .val (Value.int p2), .val (Value.int p3), .val (Value.int p4), .val (Value.ref ob1), .unset, .unset, .unset, .unset, .unset, .unset] [(Value.ref ob1), (Value.ref ob20), (Value.ref ob20)]))
  have c24 := (V18.ext E20)
  have hp23 : ∀ c ∈ ([r_4, r_8, r_12, r_16] : List Int32), ¬ c < 0 ∧ ¬ (255 : Int32) < c := by
      intro c hc
      simp only [List.mem_cons, List.not_mem_nil, or_false] at hc
      rcases hc with rfl | rfl | rfl | rfl
      · exact p4_0.1
      · exact p8_0.1
      · exact p12_0.1
      · exact p16_0.1
  obtain ⟨_, _, ⟨T23, L23, k23, n23⟩, -, X23, ⟨Lc23, hQ23, l23, y23, z23⟩, st23⟩ := X20.specialBack hx (y := (⟨"java/lang/String", "<init>", "([C)V"⟩ : MethodName)) rfl hown (mvT hZ (hw _ (List.mem_of_getElem? (i := 8) rfl))) (mvT hZ (hw _ (List.mem_of_getElem? (i := 9) rfl))) (mvT hZ (hw _ (List.mem_of_getElem? (i := 10) rfl))) (by decide) (StrChars.Road.backV (W := 1) hZ (fun d hd => hw d (own_hws d hd)) (kI := 4) (hw _ (List.mem_of_getElem? (i := 6) rfl)) (cs := ([r_4, r_8, r_12, r_16] : List Int32)) (bs := (([r_4, r_8, r_12, r_16] : List Int32).map (fun c => c.toInt8.toInt32))) (n := 4) g22 (own_old_le O21) A20 F20_value F20_coder c24 (H0.ext O21.2) hzc rfl rfl (by decide) (by decide) hp23 rfl (by decide) (by decide)) (g := (mkF m 49 #[.val (Value.int p1), .val (Value.int p2), .val (Value.int p3), .val (Value.int p4), .val (Value.ref ob1), .unset, .unset, .unset, .unset, .unset, .unset] [(Value.ref ob1), (Value.ref ob20), (Value.ref ob20)])) rfl (by rw [hml]; rfl) (Steps.refl _) (a := ob20) (argsL := [(Value.ref ob1)]) (rest := [(Value.ref ob20)]) (lenOf own_pd1 rfl) rfl (by show 2 * 0 + _ ≤ _; exact Nat.le_of_eq rfl) (hb hby at_49) (fun _ _ => ⟨rfl, e20, (by decide : 2 + 1 ≤ _), (by decide : 8 + 4 ≤ _)⟩)
  dsimp only [Pt.U, Pt.locs, Pt.cells, Pt.slots] at X23 l23 y23 z23 st23 hQ23
  subst l23 y23 z23
  refine own_Go.by (fun tq kq => st23.trans kq) ?_
  obtain ⟨rfl, N23q, K23q, E23q, C23q, t23, kb23, u23, v23, w23, V23q, A23q⟩ := hQ23
  have N23 := Fr.app N18 N23q
  have O25 := O21.keep K23q (allS g22 all0)
  have K25 := K21.trans K23q (allS (Or.inr z22) all0)
  have g26 : n0 ≤ t23 := Nat.le_trans (own_old_le O21) v23
  have z26 : h0.size ≤ t23 := Nat.le_trans K21.1 v23
  show own_Go p.tables e below _ (T23.setTop (mkF m 52 #[.val (Value.int p1), .val (Value.int p2), .val (Value.int p3), .val (Value.int p4), .val (Value.ref ob1), .unset, .unset, .unset, .unset, .unset, .unset] [(Value.ref ob20)]))
  refine own_Go.by (fun tq kq => XS.astore X23.here hx rfl (hb hby at_52) rfl rfl (l' := #[.val (Value.int p1), .val (Value.int p2), .val (Value.int p3), .val (Value.int p4), .val (Value.ref ob1), .val (Value.ref ob20), .unset, .unset, .unset, .unset, .unset]) rfl kq) ?_
  show own_Go p.tables e below _ (T23.setTop (mkF m 54 #[.val (Value.int p1), .val (Value.int p2), .val (Value.int p3), .val (Value.int p4), .val (Value.ref ob1), .val (Value.ref ob20), .unset, .unset, .unset, .unset, .unset] []))
  refine own_Go.by (fun tq kq => XS.iloadN X23.here hx rfl (hb hby at_54) rfl kq) ?_
  show own_Go p.tables e below _ (T23.setTop (mkF m 55 #[.val (Value.int p1), .val (Value.int p2), .val (Value.int p3), .val (Value.int p4), .val (Value.ref ob1), .val (Value.ref ob20), .unset, .unset, .unset, .unset, .unset] [(Value.int p3)]))
  refine own_Go.by (fun tq kq => X23.ldcInt hx hown (mvT hZ (hw _ (List.mem_of_getElem? (i := 34) rfl))) (g := (mkF m 55 #[.val (Value.int p1), .val (Value.int p2), .val (Value.int p3), .val (Value.int p4), .val (Value.ref ob1), .val (Value.ref ob20), .unset, .unset, .unset, .unset, .unset] [(Value.int p3)])) rfl (hb hby at_55) _ kq) ?_
  show own_Go p.tables e below _ (T23.setTop (mkF m 57 #[.val (Value.int p1), .val (Value.int p2), .val (Value.int p3), .val (Value.int p4), .val (Value.ref ob1), .val (Value.ref ob20), .unset, .unset, .unset, .unset, .unset] [(Value.int (2147483647 : Int32)), (Value.int p3)]))
  refine own_Go.by (fun tq kq => XS.iand X23.here hx rfl (hb hby at_57) rfl kq) ?_
  show own_Go p.tables e below _ (T23.setTop (mkF m 58 #[.val (Value.int p1), .val (Value.int p2), .val (Value.int p3), .val (Value.int p4), .val (Value.ref ob1), .val (Value.ref ob20), .unset, .unset, .unset, .unset, .unset] [(Value.int (p3 &&& (2147483647 : Int32)))]))
  refine own_Go.by (fun tq kq => XS.iconst X23.here hx rfl (hb hby at_58) kq) ?_
  show own_Go p.tables e below _ (T23.setTop (mkF m 59 #[.val (Value.int p1), .val (Value.int p2), .val (Value.int p3), .val (Value.int p4), .val (Value.ref ob1), .val (Value.ref ob20), .unset, .unset, .unset, .unset, .unset] [(Value.int (5 : Int32)), (Value.int (p3 &&& (2147483647 : Int32)))]))
  refine own_Go.by (fun tq kq => iremM (g := (mkF m 59 #[.val (Value.int p1), .val (Value.int p2), .val (Value.int p3), .val (Value.int p4), .val (Value.ref ob1), .val (Value.ref ob20), .unset, .unset, .unset, .unset, .unset] [(Value.int (5 : Int32)), (Value.int (p3 &&& (2147483647 : Int32)))])) X23 hx rfl (hb hby at_59) rfl (by decide) kq) ?_
  show own_Go p.tables e below _ (T23.setTop (mkF m 60 #[.val (Value.int p1), .val (Value.int p2), .val (Value.int p3), .val (Value.int p4), .val (Value.ref ob1), .val (Value.ref ob20), .unset, .unset, .unset, .unset, .unset] [(Value.int ((p3 &&& (2147483647 : Int32)) % (5 : Int32)))]))
  refine own_Go.by (fun tq kq => XS.istore X23.here hx rfl (hb hby at_60) rfl (l' := #[.val (Value.int p1), .val (Value.int p2), .val (Value.int p3), .val (Value.int p4), .val (Value.ref ob1), .val (Value.ref ob20), .val (Value.int ((p3 &&& (2147483647 : Int32)) % (5 : Int32))), .unset, .unset, .unset, .unset]) rfl kq) ?_
  show own_Go p.tables e below _ (T23.setTop (mkF m 62 #[.val (Value.int p1), .val (Value.int p2), .val (Value.int p3), .val (Value.int p4), .val (Value.ref ob1), .val (Value.ref ob20), .val (Value.int ((p3 &&& (2147483647 : Int32)) % (5 : Int32))), .unset, .unset, .unset, .unset] []))
  generalize hv_frm : ((p3 &&& (2147483647 : Int32)) % (5 : Int32)) = frm
  rcases own_mod5 hv_frm with hq_frm | hq_frm | hq_frm | hq_frm | hq_frm
  ·
    subst hq_frm
    show own_Go p.tables e below _ (T23.setTop (mkF m 62 #[.val (Value.int p1), .val (Value.int p2), .val (Value.int p3), .val (Value.int p4), .val (Value.ref ob1), .val (Value.ref ob20), .val (Value.int (0 : Int32)), .unset, .unset, .unset, .unset] []))
    refine own_Go.by (fun tq kq => XS.iload X23.here hx rfl (hb hby at_62) rfl kq) ?_
    show own_Go p.tables e below _ (T23.setTop (mkF m 64 #[.val (Value.int p1), .val (Value.int p2), .val (Value.int p3), .val (Value.int p4), .val (Value.ref ob1), .val (Value.ref ob20), .val (Value.int (0 : Int32)), .unset, .unset, .unset, .unset] [(Value.int (0 : Int32))]))
    refine own_Go.by (fun tq kq => XS.iloadN X23.here hx rfl (hb hby at_64) rfl kq) ?_
    show own_Go p.tables e below _ (T23.setTop (mkF m 65 #[.val (Value.int p1), .val (Value.int p2), .val (Value.int p3), .val (Value.int p4), .val (Value.ref ob1), .val (Value.ref ob20), .val (Value.int (0 : Int32)), .unset, .unset, .unset, .unset] [(Value.int p4), (Value.int (0 : Int32))]))
    refine own_Go.by (fun tq kq => X23.ldcInt hx hown (mvT hZ (hw _ (List.mem_of_getElem? (i := 34) rfl))) (g := (mkF m 65 #[.val (Value.int p1), .val (Value.int p2), .val (Value.int p3), .val (Value.int p4), .val (Value.ref ob1), .val (Value.ref ob20), .val (Value.int (0 : Int32)), .unset, .unset, .unset, .unset] [(Value.int p4), (Value.int (0 : Int32))])) rfl (hb hby at_65) _ kq) ?_
    show own_Go p.tables e below _ (T23.setTop (mkF m 67 #[.val (Value.int p1), .val (Value.int p2), .val (Value.int p3), .val (Value.int p4), .val (Value.ref ob1), .val (Value.ref ob20), .val (Value.int (0 : Int32)), .unset, .unset, .unset, .unset] [(Value.int (2147483647 : Int32)), (Value.int p4), (Value.int (0 : Int32))]))
    refine own_Go.by (fun tq kq => XS.iand X23.here hx rfl (hb hby at_67) rfl kq) ?_
    show own_Go p.tables e below _ (T23.setTop (mkF m 68 #[.val (Value.int p1), .val (Value.int p2), .val (Value.int p3), .val (Value.int p4), .val (Value.ref ob1), .val (Value.ref ob20), .val (Value.int (0 : Int32)), .unset, .unset, .unset, .unset] [(Value.int (p4 &&& (2147483647 : Int32))), (Value.int (0 : Int32))]))
    refine own_Go.by (fun tq kq => XS.iconst X23.here hx rfl (hb hby at_68) kq) ?_
    show own_Go p.tables e below _ (T23.setTop (mkF m 69 #[.val (Value.int p1), .val (Value.int p2), .val (Value.int p3), .val (Value.int p4), .val (Value.ref ob1), .val (Value.ref ob20), .val (Value.int (0 : Int32)), .unset, .unset, .unset, .unset] [(Value.int (5 : Int32)), (Value.int (p4 &&& (2147483647 : Int32))), (Value.int (0 : Int32))]))
    refine own_Go.by (fun tq kq => XS.iload X23.here hx rfl (hb hby at_69) rfl kq) ?_
    show own_Go p.tables e below _ (T23.setTop (mkF m 71 #[.val (Value.int p1), .val (Value.int p2), .val (Value.int p3), .val (Value.int p4), .val (Value.ref ob1), .val (Value.ref ob20), .val (Value.int (0 : Int32)), .unset, .unset, .unset, .unset] [(Value.int (0 : Int32)), (Value.int (5 : Int32)), (Value.int (p4 &&& (2147483647 : Int32))), (Value.int (0 : Int32))]))
    refine own_Go.by (fun tq kq => XS.isub X23.here hx rfl (hb hby at_71) rfl kq) ?_
    show own_Go p.tables e below _ (T23.setTop (mkF m 72 #[.val (Value.int p1), .val (Value.int p2), .val (Value.int p3), .val (Value.int p4), .val (Value.ref ob1), .val (Value.ref ob20), .val (Value.int (0 : Int32)), .unset, .unset, .unset, .unset] [(Value.int (5 : Int32)), (Value.int (p4 &&& (2147483647 : Int32))), (Value.int (0 : Int32))]))
    refine own_Go.by (fun tq kq => iremM (g := (mkF m 72 #[.val (Value.int p1), .val (Value.int p2), .val (Value.int p3), .val (Value.int p4), .val (Value.ref ob1), .val (Value.ref ob20), .val (Value.int (0 : Int32)), .unset, .unset, .unset, .unset] [(Value.int (5 : Int32)), (Value.int (p4 &&& (2147483647 : Int32))), (Value.int (0 : Int32))])) X23 hx rfl (hb hby at_72) rfl (by decide) kq) ?_
    show own_Go p.tables e below _ (T23.setTop (mkF m 73 #[.val (Value.int p1), .val (Value.int p2), .val (Value.int p3), .val (Value.int p4), .val (Value.ref ob1), .val (Value.ref ob20), .val (Value.int (0 : Int32)), .unset, .unset, .unset, .unset] [(Value.int ((p4 &&& (2147483647 : Int32)) % (5 : Int32))), (Value.int (0 : Int32))]))
    generalize hv_rr : ((p4 &&& (2147483647 : Int32)) % (5 : Int32)) = rr
    rcases own_mod5 hv_rr with hq_rr | hq_rr | hq_rr | hq_rr | hq_rr
    ·
      subst hq_rr
      show own_Go p.tables e below _ (T23.setTop (mkF m 73 #[.val (Value.int p1), .val (Value.int p2), .val (Value.int p3), .val (Value.int p4), .val (Value.ref ob1), .val (Value.ref ob20), .val (Value.int (0 : Int32)), .unset, .unset, .unset, .unset] [(Value.int (0 : Int32)), (Value.int (0 : Int32))]))
      refine own_Go.by (fun tq kq => XS.iadd X23.here hx rfl (hb hby at_73) rfl kq) ?_
      show own_Go p.tables e below _ (T23.setTop (mkF m 74 #[.val (Value.int p1), .val (Value.int p2), .val (Value.int p3), .val (Value.int p4), .val (Value.ref ob1), .val (Value.ref ob20), .val (Value.int (0 : Int32)), .unset, .unset, .unset, .unset] [(Value.int (0 : Int32))]))
      refine own_Go.by (fun tq kq => XS.istore X23.here hx rfl (hb hby at_74) rfl (l' := #[.val (Value.int p1), .val (Value.int p2), .val (Value.int p3), .val (Value.int p4), .val (Value.ref ob1), .val (Value.ref ob20), .val (Value.int (0 : Int32)), .val (Value.int (0 : Int32)), .unset, .unset, .unset]) rfl kq) ?_
      show own_Go p.tables e below _ (T23.setTop (mkF m 76 #[.val (Value.int p1), .val (Value.int p2), .val (Value.int p3), .val (Value.int p4), .val (Value.ref ob1), .val (Value.ref ob20), .val (Value.int (0 : Int32)), .val (Value.int (0 : Int32)), .unset, .unset, .unset] []))
      refine own_Go.by (fun tq kq => XS.aload X23.here hx rfl (hb hby at_76) rfl rfl kq) ?_
      show own_Go p.tables e below _ (T23.setTop (mkF m 78 #[.val (Value.int p1), .val (Value.int p2), .val (Value.int p3), .val (Value.int p4), .val (Value.ref ob1), .val (Value.ref ob20), .val (Value.int (0 : Int32)), .val (Value.int (0 : Int32)), .unset, .unset, .unset] [(Value.ref ob20)]))
      refine own_Go.by (fun tq kq => XS.iload X23.here hx rfl (hb hby at_78) rfl kq) ?_
      show own_Go p.tables e below _ (T23.setTop (mkF m 80 #[.val (Value.int p1), .val (Value.int p2), .val (Value.int p3), .val (Value.int p4), .val (Value.ref ob1), .val (Value.ref ob20), .val (Value.int (0 : Int32)), .val (Value.int (0 : Int32)), .unset, .unset, .unset] [(Value.int (0 : Int32)), (Value.ref ob20)]))
      refine own_Go.by (fun tq kq => XS.iload X23.here hx rfl (hb hby at_80) rfl kq) ?_
      show own_Go p.tables e below _ (T23.setTop (mkF m 82 #[.val (Value.int p1), .val (Value.int p2), .val (Value.int p3), .val (Value.int p4), .val (Value.ref ob1), .val (Value.ref ob20), .val (Value.int (0 : Int32)), .val (Value.int (0 : Int32)), .unset, .unset, .unset] [(Value.int (0 : Int32)), (Value.int (0 : Int32)), (Value.ref ob20)]))
      obtain ⟨_, _, ⟨T27, L27, k27, n27⟩, -, X27, ⟨Lc27, hQ27, l27, y27, z27⟩, st27⟩ := Jvm.LawKit.callS X23 hx (y := (⟨"com/example/enlace/enlace/DotSegments", "isDotSegment", "(Ljava/lang/String;II)Z"⟩ : MethodName)) hown (mvT hZ (hw _ (List.mem_of_getElem? (i := 35) rfl))) (mvT hZ (hw _ (List.mem_of_getElem? (i := 36) rfl))) (mvT hZ (hw _ (List.mem_of_getElem? (i := 37) rfl))) (mvT hZ (hw _ (List.mem_of_getElem? (i := 38) rfl))) (by decide) (backOf (W := 0) (rm8_0_0_x l Z a0 hw [] ob20 t23 kb23 r_4 r_8 r_12 r_16 zc vf T23.heap n0 O25 E23q V23q C23q A23q (hp23 : ∀ c ∈ ([r_4, r_8, r_12, r_16] : List Int32), ¬ c < 0 ∧ ¬ (255 : Int32) < c) H0 H1 (hzc : ¬ (zc = (0 : Int32))) (rvf : vf.isRef = true)) hZ (hw _ (List.mem_of_getElem? (i := 38) rfl)) (hw _ (List.mem_of_getElem? (i := 37) rfl)) (by decide) (by decide)) (g := (mkF m 82 #[.val (Value.int p1), .val (Value.int p2), .val (Value.int p3), .val (Value.int p4), .val (Value.ref ob1), .val (Value.ref ob20), .val (Value.int (0 : Int32)), .val (Value.int (0 : Int32)), .unset, .unset, .unset] [(Value.int (0 : Int32)), (Value.int (0 : Int32)), (Value.ref ob20)])) rfl (by rw [hml]; rfl) (argsL := [(Value.ref ob20), (Value.int (0 : Int32)), (Value.int (0 : Int32))]) (rest := []) (lenOf own_pd2 rfl) rfl (by show 2 * 0 + _ ≤ _; exact Nat.le_of_eq rfl) (hb hby at_82) (fun _ _ => ⟨rfl, rfl, (by decide : 3 + 0 ≤ _), (by decide : 12 + 0 ≤ _)⟩)
      dsimp only [Pt.U, Pt.locs, Pt.cells, Pt.slots] at X27 l27 y27 z27 st27 hQ27
      subst l27 y27 z27
      refine own_Go.by st27 ?_
      obtain ⟨rfl, N27q, e27⟩ := hQ27
      have N27 := Fr.app N23 N27q
      show own_Go p.tables e below _ (T27.setTop (mkF m 85 #[.val (Value.int p1), .val (Value.int p2), .val (Value.int p3), .val (Value.int p4), .val (Value.ref ob1), .val (Value.ref ob20), .val (Value.int (0 : Int32)), .val (Value.int (0 : Int32)), .unset, .unset, .unset] [(Value.int (0 : Int32))]))
      refine own_Go.by (fun tq kq => XS.istore X27.here hx rfl (hb hby at_85) rfl (l' := #[.val (Value.int p1), .val (Value.int p2), .val (Value.int p3), .val (Value.int p4), .val (Value.ref ob1), .val (Value.ref ob20), .val (Value.int (0 : Int32)), .val (Value.int (0 : Int32)), .val (Value.int (0 : Int32)), .unset, .unset]) rfl kq) ?_
      show own_Go p.tables e below _ (T27.setTop (mkF m 87 #[.val (Value.int p1), .val (Value.int p2), .val (Value.int p3), .val (Value.int p4), .val (Value.ref ob1), .val (Value.ref ob20), .val (Value.int (0 : Int32)), .val (Value.int (0 : Int32)), .val (Value.int (0 : Int32)), .unset, .unset] []))
      refine own_Go.by (fun tq kq => XS.iload X27.here hx rfl (hb hby at_87) rfl kq) ?_
      show own_Go p.tables e below _ (T27.setTop (mkF m 89 #[.val (Value.int p1), .val (Value.int p2), .val (Value.int p3), .val (Value.int p4), .val (Value.ref ob1), .val (Value.ref ob20), .val (Value.int (0 : Int32)), .val (Value.int (0 : Int32)), .val (Value.int (0 : Int32)), .unset, .unset] [(Value.int (0 : Int32))]))
      refine own_Go.by (fun tq kq => XS.iload X27.here hx rfl (hb hby at_89) rfl kq) ?_
      show own_Go p.tables e below _ (T27.setTop (mkF m 91 #[.val (Value.int p1), .val (Value.int p2), .val (Value.int p3), .val (Value.int p4), .val (Value.ref ob1), .val (Value.ref ob20), .val (Value.int (0 : Int32)), .val (Value.int (0 : Int32)), .val (Value.int (0 : Int32)), .unset, .unset] [(Value.int (0 : Int32)), (Value.int (0 : Int32))]))
      refine own_Go.by (fun tq kq => XS.isub X27.here hx rfl (hb hby at_91) rfl kq) ?_
      show own_Go p.tables e below _ (T27.setTop (mkF m 92 #[.val (Value.int p1), .val (Value.int p2), .val (Value.int p3), .val (Value.int p4), .val (Value.ref ob1), .val (Value.ref ob20), .val (Value.int (0 : Int32)), .val (Value.int (0 : Int32)), .val (Value.int (0 : Int32)), .unset, .unset] [(Value.int (0 : Int32))]))
      refine own_Go.by (fun tq kq => XS.istore X27.here hx rfl (hb hby at_92) rfl (l' := #[.val (Value.int p1), .val (Value.int p2), .val (Value.int p3), .val (Value.int p4), .val (Value.ref ob1), .val (Value.ref ob20), .val (Value.int (0 : Int32)), .val (Value.int (0 : Int32)), .val (Value.int (0 : Int32)), .val (Value.int (0 : Int32)), .unset]) rfl kq) ?_
      show own_Go p.tables e below _ (T27.setTop (mkF m 94 #[.val (Value.int p1), .val (Value.int p2), .val (Value.int p3), .val (Value.int p4), .val (Value.ref ob1), .val (Value.ref ob20), .val (Value.int (0 : Int32)), .val (Value.int (0 : Int32)), .val (Value.int (0 : Int32)), .val (Value.int (0 : Int32)), .unset] []))
      refine own_Go.by (fun tq kq => XS.iload X27.here hx rfl (hb hby at_94) rfl kq) ?_
      show own_Go p.tables e below _ (T27.setTop (mkF m 96 #[.val (Value.int p1), .val (Value.int p2), .val (Value.int p3), .val (Value.int p4), .val (Value.ref ob1), .val (Value.ref ob20), .val (Value.int (0 : Int32)), .val (Value.int (0 : Int32)), .val (Value.int (0 : Int32)), .val (Value.int (0 : Int32)), .unset] [(Value.int (0 : Int32))]))
      refine own_Go.by (fun tq kq => XS.iconst X27.here hx rfl (hb hby at_96) kq) ?_
      show own_Go p.tables e below _ (T27.setTop (mkF m 97 #[.val (Value.int p1), .val (Value.int p2), .val (Value.int p3), .val (Value.int p4), .val (Value.ref ob1), .val (Value.ref ob20), .val (Value.int (0 : Int32)), .val (Value.int (0 : Int32)), .val (Value.int (0 : Int32)), .val (Value.int (0 : Int32)), .unset] [(Value.int (1 : Int32)), (Value.int (0 : Int32))]))
      refine own_Go.by (fun tq kq => XS.icmpYes X27.here hx rfl (pc0 := 97) (pc' := 120) rfl (hb hby at_97) rfl (feq (by decide : ¬ ((0 : Int32) = (1 : Int32)))).2 (by decide) (by decide) kq) ?_
      show own_Go p.tables e below _ (T27.setTop (mkF m 120 #[.val (Value.int p1), .val (Value.int p2), .val (Value.int p3), .val (Value.int p4), .val (Value.ref ob1), .val (Value.ref ob20), .val (Value.int (0 : Int32)), .val (Value.int (0 : Int32)), .val (Value.int (0 : Int32)), .val (Value.int (0 : Int32)), .unset] []))
      refine own_Go.by (fun tq kq => XS.iload X27.here hx rfl (hb hby at_120) rfl kq) ?_
      show own_Go p.tables e below _ (T27.setTop (mkF m 122 #[.val (Value.int p1), .val (Value.int p2), .val (Value.int p3), .val (Value.int p4), .val (Value.ref ob1), .val (Value.ref ob20), .val (Value.int (0 : Int32)), .val (Value.int (0 : Int32)), .val (Value.int (0 : Int32)), .val (Value.int (0 : Int32)), .unset] [(Value.int (0 : Int32))]))
      refine own_Go.by (fun tq kq => XS.iconst X27.here hx rfl (hb hby at_122) kq) ?_
      show own_Go p.tables e below _ (T27.setTop (mkF m 123 #[.val (Value.int p1), .val (Value.int p2), .val (Value.int p3), .val (Value.int p4), .val (Value.ref ob1), .val (Value.ref ob20), .val (Value.int (0 : Int32)), .val (Value.int (0 : Int32)), .val (Value.int (0 : Int32)), .val (Value.int (0 : Int32)), .unset] [(Value.int (2 : Int32)), (Value.int (0 : Int32))]))
      refine own_Go.by (fun tq kq => XS.icmpYes X27.here hx rfl (pc0 := 123) (pc' := 158) rfl (hb hby at_123) rfl (feq (by decide : ¬ ((0 : Int32) = (2 : Int32)))).2 (by decide) (by decide) kq) ?_
      show own_Go p.tables e below _ (T27.setTop (mkF m 158 #[.val (Value.int p1), .val (Value.int p2), .val (Value.int p3), .val (Value.int p4), .val (Value.ref ob1), .val (Value.ref ob20), .val (Value.int (0 : Int32)), .val (Value.int (0 : Int32)), .val (Value.int (0 : Int32)), .val (Value.int (0 : Int32)), .unset] []))
      refine own_Go.by (fun tq kq => XS.iconst X27.here hx rfl (hb hby at_158) kq) ?_
      show own_Go p.tables e below _ (T27.setTop (mkF m 159 #[.val (Value.int p1), .val (Value.int p2), .val (Value.int p3), .val (Value.int p4), .val (Value.ref ob1), .val (Value.ref ob20), .val (Value.int (0 : Int32)), .val (Value.int (0 : Int32)), .val (Value.int (0 : Int32)), .val (Value.int (0 : Int32)), .unset] [(Value.int (0 : Int32))]))
      refine own_Go.by (fun tq kq => XS.istore X27.here hx rfl (hb hby at_159) rfl (l' := #[.val (Value.int p1), .val (Value.int p2), .val (Value.int p3), .val (Value.int p4), .val (Value.ref ob1), .val (Value.ref ob20), .val (Value.int (0 : Int32)), .val (Value.int (0 : Int32)), .val (Value.int (0 : Int32)), .val (Value.int (0 : Int32)), .val (Value.int (0 : Int32))]) rfl kq) ?_
      show own_Go p.tables e below _ (T27.setTop (mkF m 161 #[.val (Value.int p1), .val (Value.int p2), .val (Value.int p3), .val (Value.int p4), .val (Value.ref ob1), .val (Value.ref ob20), .val (Value.int (0 : Int32)), .val (Value.int (0 : Int32)), .val (Value.int (0 : Int32)), .val (Value.int (0 : Int32)), .val (Value.int (0 : Int32))] []))
      refine own_Go.by (fun tq kq => XS.iload X27.here hx rfl (hb hby at_161) rfl kq) ?_
      show own_Go p.tables e below _ (T27.setTop (mkF m 163 #[.val (Value.int p1), .val (Value.int p2), .val (Value.int p3), .val (Value.int p4), .val (Value.ref ob1), .val (Value.ref ob20), .val (Value.int (0 : Int32)), .val (Value.int (0 : Int32)), .val (Value.int (0 : Int32)), .val (Value.int (0 : Int32)), .val (Value.int (0 : Int32))] [(Value.int (0 : Int32))]))
      refine own_Go.by (fun tq kq => XS.iload X27.here hx rfl (hb hby at_163) rfl kq) ?_
      show own_Go p.tables e below _ (T27.setTop (mkF m 165 #[.val (Value.int p1), .val (Value.int p2), .val (Value.int p3), .val (Value.int p4), .val (Value.ref ob1), .val (Value.ref ob20), .val (Value.int (0 : Int32)), .val (Value.int (0 : Int32)), .val (Value.int (0 : Int32)), .val (Value.int (0 : Int32)), .val (Value.int (0 : Int32))] [(Value.int (0 : Int32)), (Value.int (0 : Int32))]))
      refine own_Go.by (fun tq kq => XS.icmpNo X27.here hx rfl (hb hby at_165) rfl (teq (by decide : (0 : Int32) = (0 : Int32))).2 kq) ?_
      show own_Go p.tables e below _ (T27.setTop (mkF m 168 #[.val (Value.int p1), .val (Value.int p2), .val (Value.int p3), .val (Value.int p4), .val (Value.ref ob1), .val (Value.ref ob20), .val (Value.int (0 : Int32)), .val (Value.int (0 : Int32)), .val (Value.int (0 : Int32)), .val (Value.int (0 : Int32)), .val (Value.int (0 : Int32))] []))
      refine own_Go.by (fun tq kq => XS.iconst X27.here hx rfl (hb hby at_168) kq) ?_
      show own_Go p.tables e below _ (T27.setTop (mkF m 169 #[.val (Value.int p1), .val (Value.int p2), .val (Value.int p3), .val (Value.int p4), .val (Value.ref ob1), .val (Value.ref ob20), .val (Value.int (0 : Int32)), .val (Value.int (0 : Int32)), .val (Value.int (0 : Int32)), .val (Value.int (0 : Int32)), .val (Value.int (0 : Int32))] [(Value.int (1 : Int32))]))
      refine own_Go.by (fun tq kq => XS.goto X27.here hx rfl (pc0 := 169) (pc' := 173) rfl (hb hby at_169) (by decide) (by decide) kq) ?_
      show own_Go p.tables e below _ (T27.setTop (mkF m 173 #[.val (Value.int p1), .val (Value.int p2), .val (Value.int p3), .val (Value.int p4), .val (Value.ref ob1), .val (Value.ref ob20), .val (Value.int (0 : Int32)), .val (Value.int (0 : Int32)), .val (Value.int (0 : Int32)), .val (Value.int (0 : Int32)), .val (Value.int (0 : Int32))] [(Value.int (1 : Int32))]))
      obtain ⟨fs, hr, hrun, hended, hW, hsame⟩ := X27.leave (v := some (Value.int (nar .boolean (1 : Int32)))) (fun h => by rw [Bd.returns] at h; cases h)
      refine own_Go.fin (retN X27 hx (t := .boolean) Bd.returns (by simp) (hb hby at_173) hr) ⟨hrun, hended, _, _, rfl, ?_, ⟨_, rfl⟩, hW, hsame.mono (by decide) (by decide)⟩
      show Q0 Z p1 p2 p3 p4 zc vf h0 n0 _ T27.heap _
      rw [e27]
      exact ⟨rfl, N27, K25⟩
    ·
      subst hq_rr
      show own_Go p.tables e below _ (T23.setTop (mkF m 73 #[.val (Value.int p1), .val (Value.int p2), .val (Value.int p3), .val (Value.int p4), .val (Value.ref ob1), .val (Value.ref ob20), .val (Value.int (0 : Int32)), .unset, .unset, .unset, .unset] [(Value.int (1 : Int32)), (Value.int (0 : Int32))]))
      refine own_Go.by (fun tq kq => XS.iadd X23.here hx rfl (hb hby at_73) rfl kq) ?_
      show own_Go p.tables e below _ (T23.setTop (mkF m 74 #[.val (Value.int p1), .val (Value.int p2), .val (Value.int p3), .val (Value.int p4), .val (Value.ref ob1), .val (Value.ref ob20), .val (Value.int (0 : Int32)), .unset, .unset, .unset, .unset] [(Value.int (1 : Int32))]))
      refine own_Go.by (fun tq kq => XS.istore X23.here hx rfl (hb hby at_74) rfl (l' := #[.val (Value.int p1), .val (Value.int p2), .val (Value.int p3), .val (Value.int p4), .val (Value.ref ob1), .val (Value.ref ob20), .val (Value.int (0 : Int32)), .val (Value.int (1 : Int32)), .unset, .unset, .unset]) rfl kq) ?_
      by_cases hdot : r_4 = (46 : Int32)
      ·
        show own_Go p.tables e below _ (T23.setTop (mkF m 76 #[.val (Value.int p1), .val (Value.int p2), .val (Value.int p3), .val (Value.int p4), .val (Value.ref ob1), .val (Value.ref ob20), .val (Value.int (0 : Int32)), .val (Value.int (1 : Int32)), .unset, .unset, .unset] []))
        refine own_Go.by (fun tq kq => XS.aload X23.here hx rfl (hb hby at_76) rfl rfl kq) ?_
        show own_Go p.tables e below _ (T23.setTop (mkF m 78 #[.val (Value.int p1), .val (Value.int p2), .val (Value.int p3), .val (Value.int p4), .val (Value.ref ob1), .val (Value.ref ob20), .val (Value.int (0 : Int32)), .val (Value.int (1 : Int32)), .unset, .unset, .unset] [(Value.ref ob20)]))
        refine own_Go.by (fun tq kq => XS.iload X23.here hx rfl (hb hby at_78) rfl kq) ?_
        show own_Go p.tables e below _ (T23.setTop (mkF m 80 #[.val (Value.int p1), .val (Value.int p2), .val (Value.int p3), .val (Value.int p4), .val (Value.ref ob1), .val (Value.ref ob20), .val (Value.int (0 : Int32)), .val (Value.int (1 : Int32)), .unset, .unset, .unset] [(Value.int (0 : Int32)), (Value.ref ob20)]))
        refine own_Go.by (fun tq kq => XS.iload X23.here hx rfl (hb hby at_80) rfl kq) ?_
        show own_Go p.tables e below _ (T23.setTop (mkF m 82 #[.val (Value.int p1), .val (Value.int p2), .val (Value.int p3), .val (Value.int p4), .val (Value.ref ob1), .val (Value.ref ob20), .val (Value.int (0 : Int32)), .val (Value.int (1 : Int32)), .unset, .unset, .unset] [(Value.int (1 : Int32)), (Value.int (0 : Int32)), (Value.ref ob20)]))
        obtain ⟨_, _, ⟨T28, L28, k28, n28⟩, -, X28, ⟨Lc28, hQ28, l28, y28, z28⟩, st28⟩ := Jvm.LawKit.callS X23 hx (y := (⟨"com/example/enlace/enlace/DotSegments", "isDotSegment", "(Ljava/lang/String;II)Z"⟩ : MethodName)) hown (mvT hZ (hw _ (List.mem_of_getElem? (i := 35) rfl))) (mvT hZ (hw _ (List.mem_of_getElem? (i := 36) rfl))) (mvT hZ (hw _ (List.mem_of_getElem? (i := 37) rfl))) (mvT hZ (hw _ (List.mem_of_getElem? (i := 38) rfl))) (by decide) (backOf (W := 0) (rm8_0_1_t l Z a0 hw [] ob20 t23 kb23 r_4 r_8 r_12 r_16 zc vf T23.heap n0 O25 E23q V23q C23q A23q (hp23 : ∀ c ∈ ([r_4, r_8, r_12, r_16] : List Int32), ¬ c < 0 ∧ ¬ (255 : Int32) < c) H0 H1 (hzc : ¬ (zc = (0 : Int32))) (rvf : vf.isRef = true) hdot) hZ (hw _ (List.mem_of_getElem? (i := 38) rfl)) (hw _ (List.mem_of_getElem? (i := 37) rfl)) (by decide) (by decide)) (g := (mkF m 82 #[.val (Value.int p1), .val (Value.int p2), .val (Value.int p3), .val (Value.int p4), .val (Value.ref ob1), .val (Value.ref ob20), .val (Value.int (0 : Int32)), .val (Value.int (1 : Int32)), .unset, .unset, .unset] [(Value.int (1 : Int32)), (Value.int (0 : Int32)), (Value.ref ob20)])) rfl (by rw [hml]; rfl) (argsL := [(Value.ref ob20), (Value.int (0 : Int32)), (Value.int (1 : Int32))]) (rest := []) (lenOf own_pd2 rfl) rfl (by show 2 * 0 + _ ≤ _; exact Nat.le_of_eq rfl) (hb hby at_82) (fun _ _ => ⟨rfl, rfl, (by decide : 3 + 0 ≤ _), (by decide : 12 + 0 ≤ _)⟩)
        dsimp only [Pt.U, Pt.locs, Pt.cells, Pt.slots] at X28 l28 y28 z28 st28 hQ28
        subst l28 y28 z28
        refine own_Go.by st28 ?_
        obtain ⟨rfl, N28q, e28⟩ := hQ28
        have N28 := Fr.app N23 N28q
        show own_Go p.tables e below _ (T28.setTop (mkF m 85 #[.val (Value.int p1), .val (Value.int p2), .val (Value.int p3), .val (Value.int p4), .val (Value.ref ob1), .val (Value.ref ob20), .val (Value.int (0 : Int32)), .val (Value.int (1 : Int32)), .unset, .unset, .unset] [(Value.int (1 : Int32))]))
        refine own_Go.by (fun tq kq => XS.istore X28.here hx rfl (hb hby at_85) rfl (l' := #[.val (Value.int p1), .val (Value.int p2), .val (Value.int p3), .val (Value.int p4), .val (Value.ref ob1), .val (Value.ref ob20), .val (Value.int (0 : Int32)), .val (Value.int (1 : Int32)), .val (Value.int (1 : Int32)), .unset, .unset]) rfl kq) ?_
        show own_Go p.tables e below _ (T28.setTop (mkF m 87 #[.val (Value.int p1), .val (Value.int p2), .val (Value.int p3), .val (Value.int p4), .val (Value.ref ob1), .val (Value.ref ob20), .val (Value.int (0 : Int32)), .val (Value.int (1 : Int32)), .val (Value.int (1 : Int32)), .unset, .unset] []))
        refine own_Go.by (fun tq kq => XS.iload X28.here hx rfl (hb hby at_87) rfl kq) ?_
        show own_Go p.tables e below _ (T28.setTop (mkF m 89 #[.val (Value.int p1), .val (Value.int p2), .val (Value.int p3), .val (Value.int p4), .val (Value.ref ob1), .val (Value.ref ob20), .val (Value.int (0 : Int32)), .val (Value.int (1 : Int32)), .val (Value.int (1 : Int32)), .unset, .unset] [(Value.int (1 : Int32))]))
        refine own_Go.by (fun tq kq => XS.iload X28.here hx rfl (hb hby at_89) rfl kq) ?_
        show own_Go p.tables e below _ (T28.setTop (mkF m 91 #[.val (Value.int p1), .val (Value.int p2), .val (Value.int p3), .val (Value.int p4), .val (Value.ref ob1), .val (Value.ref ob20), .val (Value.int (0 : Int32)), .val (Value.int (1 : Int32)), .val (Value.int (1 : Int32)), .unset, .unset] [(Value.int (0 : Int32)), (Value.int (1 : Int32))]))
        refine own_Go.by (fun tq kq => XS.isub X28.here hx rfl (hb hby at_91) rfl kq) ?_
        show own_Go p.tables e below _ (T28.setTop (mkF m 92 #[.val (Value.int p1), .val (Value.int p2), .val (Value.int p3), .val (Value.int p4), .val (Value.ref ob1), .val (Value.ref ob20), .val (Value.int (0 : Int32)), .val (Value.int (1 : Int32)), .val (Value.int (1 : Int32)), .unset, .unset] [(Value.int (1 : Int32))]))
        refine own_Go.by (fun tq kq => XS.istore X28.here hx rfl (hb hby at_92) rfl (l' := #[.val (Value.int p1), .val (Value.int p2), .val (Value.int p3), .val (Value.int p4), .val (Value.ref ob1), .val (Value.ref ob20), .val (Value.int (0 : Int32)), .val (Value.int (1 : Int32)), .val (Value.int (1 : Int32)), .val (Value.int (1 : Int32)), .unset]) rfl kq) ?_
        show own_Go p.tables e below _ (T28.setTop (mkF m 94 #[.val (Value.int p1), .val (Value.int p2), .val (Value.int p3), .val (Value.int p4), .val (Value.ref ob1), .val (Value.ref ob20), .val (Value.int (0 : Int32)), .val (Value.int (1 : Int32)), .val (Value.int (1 : Int32)), .val (Value.int (1 : Int32)), .unset] []))
        refine own_Go.by (fun tq kq => XS.iload X28.here hx rfl (hb hby at_94) rfl kq) ?_
        show own_Go p.tables e below _ (T28.setTop (mkF m 96 #[.val (Value.int p1), .val (Value.int p2), .val (Value.int p3), .val (Value.int p4), .val (Value.ref ob1), .val (Value.ref ob20), .val (Value.int (0 : Int32)), .val (Value.int (1 : Int32)), .val (Value.int (1 : Int32)), .val (Value.int (1 : Int32)), .unset] [(Value.int (1 : Int32))]))
        refine own_Go.by (fun tq kq => XS.iconst X28.here hx rfl (hb hby at_96) kq) ?_
        show own_Go p.tables e below _ (T28.setTop (mkF m 97 #[.val (Value.int p1), .val (Value.int p2), .val (Value.int p3), .val (Value.int p4), .val (Value.ref ob1), .val (Value.ref ob20), .val (Value.int (0 : Int32)), .val (Value.int (1 : Int32)), .val (Value.int (1 : Int32)), .val (Value.int (1 : Int32)), .unset] [(Value.int (1 : Int32)), (Value.int (1 : Int32))]))
        refine own_Go.by (fun tq kq => XS.icmpNo X28.here hx rfl (hb hby at_97) rfl (teq (by decide : (1 : Int32) = (1 : Int32))).2 kq) ?_
        show own_Go p.tables e below _ (T28.setTop (mkF m 100 #[.val (Value.int p1), .val (Value.int p2), .val (Value.int p3), .val (Value.int p4), .val (Value.ref ob1), .val (Value.ref ob20), .val (Value.int (0 : Int32)), .val (Value.int (1 : Int32)), .val (Value.int (1 : Int32)), .val (Value.int (1 : Int32)), .unset] []))
        refine own_Go.by (fun tq kq => XS.aload X28.here hx rfl (hb hby at_100) rfl rfl kq) ?_
        show own_Go p.tables e below _ (T28.setTop (mkF m 102 #[.val (Value.int p1), .val (Value.int p2), .val (Value.int p3), .val (Value.int p4), .val (Value.ref ob1), .val (Value.ref ob20), .val (Value.int (0 : Int32)), .val (Value.int (1 : Int32)), .val (Value.int (1 : Int32)), .val (Value.int (1 : Int32)), .unset] [(Value.ref ob1)]))
        refine own_Go.by (fun tq kq => XS.iload X28.here hx rfl (hb hby at_102) rfl kq) ?_
        show own_Go p.tables e below _ (T28.setTop (mkF m 104 #[.val (Value.int p1), .val (Value.int p2), .val (Value.int p3), .val (Value.int p4), .val (Value.ref ob1), .val (Value.ref ob20), .val (Value.int (0 : Int32)), .val (Value.int (1 : Int32)), .val (Value.int (1 : Int32)), .val (Value.int (1 : Int32)), .unset] [(Value.int (0 : Int32)), (Value.ref ob1)]))
        have c29 := (c24.keep K23q (ninS (Nat.ne_of_lt (Nat.lt_of_lt_of_le A1.lt (Nat.le_trans (Keep.of_wr W6).1 (Nat.le_trans (Keep.of_wr W10).1 (Nat.le_trans (Keep.of_wr W14).1 (Nat.le_trans (Keep.of_wr W18).1 (Nat.le_of_eq y20.symm))))))) nin0))
        obtain ⟨cl30, Ar30, q30, S30, M30, Hh30, G30⟩ := id c29
        refine own_Go.by (fun tq kq => X28.caload hx (j := (0 : Int32)) (v := (Value.int r_4)) (by rw [e28]; exact Ar30.1) (State.isArrayOf_alike hZ.alike Ar30.2.1) Ar30.2.2 (inb_of S30 ⟨(by decide : ¬ ((0 : Int32) < (0 : Int32))), (by decide : (0 : Int32) < (4 : Int32))⟩) (Has.at Hh30 (inb_of S30 ⟨(by decide : ¬ ((0 : Int32) < (0 : Int32))), (by decide : (0 : Int32) < (4 : Int32))⟩) (rfl : _ = (Value.int r_4))) (g := (mkF m 104 #[.val (Value.int p1), .val (Value.int p2), .val (Value.int p3), .val (Value.int p4), .val (Value.ref ob1), .val (Value.ref ob20), .val (Value.int (0 : Int32)), .val (Value.int (1 : Int32)), .val (Value.int (1 : Int32)), .val (Value.int (1 : Int32)), .unset] [(Value.int (0 : Int32)), (Value.ref ob1)])) rfl rfl (hb hby at_104) _ kq) ?_
        show own_Go p.tables e below _ (T28.setTop (mkF m 105 #[.val (Value.int p1), .val (Value.int p2), .val (Value.int p3), .val (Value.int p4), .val (Value.ref ob1), .val (Value.ref ob20), .val (Value.int (0 : Int32)), .val (Value.int (1 : Int32)), .val (Value.int (1 : Int32)), .val (Value.int (1 : Int32)), .unset] [(Value.int r_4)]))
        refine own_Go.by (fun tq kq => XS.bipush X28.here hx rfl (hb hby at_105) kq) ?_
        show own_Go p.tables e below _ (T28.setTop (mkF m 107 #[.val (Value.int p1), .val (Value.int p2), .val (Value.int p3), .val (Value.int p4), .val (Value.ref ob1), .val (Value.ref ob20), .val (Value.int (0 : Int32)), .val (Value.int (1 : Int32)), .val (Value.int (1 : Int32)), .val (Value.int (1 : Int32)), .unset] [(Value.int (46 : Int32)), (Value.int r_4)]))
        refine own_Go.by (fun tq kq => XS.icmpNo X28.here hx rfl (hb hby at_107) rfl (teq hdot).2 kq) ?_
        show own_Go p.tables e below _ (T28.setTop (mkF m 110 #[.val (Value.int p1), .val (Value.int p2), .val (Value.int p3), .val (Value.int p4), .val (Value.ref ob1), .val (Value.ref ob20), .val (Value.int (0 : Int32)), .val (Value.int (1 : Int32)), .val (Value.int (1 : Int32)), .val (Value.int (1 : Int32)), .unset] []))
        refine own_Go.by (fun tq kq => XS.iconst X28.here hx rfl (hb hby at_110) kq) ?_
        show own_Go p.tables e below _ (T28.setTop (mkF m 111 #[.val (Value.int p1), .val (Value.int p2), .val (Value.int p3), .val (Value.int p4), .val (Value.ref ob1), .val (Value.ref ob20), .val (Value.int (0 : Int32)), .val (Value.int (1 : Int32)), .val (Value.int (1 : Int32)), .val (Value.int (1 : Int32)), .unset] [(Value.int (1 : Int32))]))
        refine own_Go.by (fun tq kq => XS.goto X28.here hx rfl (pc0 := 111) (pc' := 115) rfl (hb hby at_111) (by decide) (by decide) kq) ?_
        show own_Go p.tables e below _ (T28.setTop (mkF m 115 #[.val (Value.int p1), .val (Value.int p2), .val (Value.int p3), .val (Value.int p4), .val (Value.ref ob1), .val (Value.ref ob20), .val (Value.int (0 : Int32)), .val (Value.int (1 : Int32)), .val (Value.int (1 : Int32)), .val (Value.int (1 : Int32)), .unset] [(Value.int (1 : Int32))]))
        refine own_Go.by (fun tq kq => XS.istore X28.here hx rfl (hb hby at_115) rfl (l' := #[.val (Value.int p1), .val (Value.int p2), .val (Value.int p3), .val (Value.int p4), .val (Value.ref ob1), .val (Value.ref ob20), .val (Value.int (0 : Int32)), .val (Value.int (1 : Int32)), .val (Value.int (1 : Int32)), .val (Value.int (1 : Int32)), .val (Value.int (1 : Int32))]) rfl kq) ?_
        show own_Go p.tables e below _ (T28.setTop (mkF m 117 #[.val (Value.int p1), .val (Value.int p2), .val (Value.int p3), .val (Value.int p4), .val (Value.ref ob1), .val (Value.ref ob20), .val (Value.int (0 : Int32)), .val (Value.int (1 : Int32)), .val (Value.int (1 : Int32)), .val (Value.int (1 : Int32)), .val (Value.int (1 : Int32))] []))
        refine own_Go.by (fun tq kq => XS.goto X28.here hx rfl (pc0 := 117) (pc' := 161) rfl (hb hby at_117) (by decide) (by decide) kq) ?_
        show own_Go p.tables e below _ (T28.setTop (mkF m 161 #[.val (Value.int p1), .val (Value.int p2), .val (Value.int p3), .val (Value.int p4), .val (Value.ref ob1), .val (Value.ref ob20), .val (Value.int (0 : Int32)), .val (Value.int (1 : Int32)), .val (Value.int (1 : Int32)), .val (Value.int (1 : Int32)), .val (Value.int (1 : Int32))] []))
        refine own_Go.by (fun tq kq => XS.iload X28.here hx rfl (hb hby at_161) rfl kq) ?_
        show own_Go p.tables e below _ (T28.setTop (mkF m 163 #[.val (Value.int p1), .val (Value.int p2), .val (Value.int p3), .val (Value.int p4), .val (Value.ref ob1), .val (Value.ref ob20), .val (Value.int (0 : Int32)), .val (Value.int (1 : Int32)), .val (Value.int (1 : Int32)), .val (Value.int (1 : Int32)), .val (Value.int (1 : Int32))] [(Value.int (1 : Int32))]))
        refine own_Go.by (fun tq kq => XS.iload X28.here hx rfl (hb hby at_163) rfl kq) ?_
        show own_Go p.tables e below _ (T28.setTop (mkF m 165 #[.val (Value.int p1), .val (Value.int p2), .val (Value.int p3), .val (Value.int p4), .val (Value.ref ob1), .val (Value.ref ob20), .val (Value.int (0 : Int32)), .val (Value.int (1 : Int32)), .val (Value.int (1 : Int32)), .val (Value.int (1 : Int32)), .val (Value.int (1 : Int32))] [(Value.int (1 : Int32)), (Value.int (1 : Int32))]))
        refine own_Go.by (fun tq kq => XS.icmpNo X28.here hx rfl (hb hby at_165) rfl (teq (by decide : (1 : Int32) = (1 : Int32))).2 kq) ?_
        show own_Go p.tables e below _ (T28.setTop (mkF m 168 #[.val (Value.int p1), .val (Value.int p2), .val (Value.int p3), .val (Value.int p4), .val (Value.ref ob1), .val (Value.ref ob20), .val (Value.int (0 : Int32)), .val (Value.int (1 : Int32)), .val (Value.int (1 : Int32)), .val (Value.int (1 : Int32)), .val (Value.int (1 : Int32))] []))
        refine own_Go.by (fun tq kq => XS.iconst X28.here hx rfl (hb hby at_168) kq) ?_
        show own_Go p.tables e below _ (T28.setTop (mkF m 169 #[.val (Value.int p1), .val (Value.int p2), .val (Value.int p3), .val (Value.int p4), .val (Value.ref ob1), .val (Value.ref ob20), .val (Value.int (0 : Int32)), .val (Value.int (1 : Int32)), .val (Value.int (1 : Int32)), .val (Value.int (1 : Int32)), .val (Value.int (1 : Int32))] [(Value.int (1 : Int32))]))
        refine own_Go.by (fun tq kq => XS.goto X28.here hx rfl (pc0 := 169) (pc' := 173) rfl (hb hby at_169) (by decide) (by decide) kq) ?_
        show own_Go p.tables e below _ (T28.setTop (mkF m 173 #[.val (Value.int p1), .val (Value.int p2), .val (Value.int p3), .val (Value.int p4), .val (Value.ref ob1), .val (Value.ref ob20), .val (Value.int (0 : Int32)), .val (Value.int (1 : Int32)), .val (Value.int (1 : Int32)), .val (Value.int (1 : Int32)), .val (Value.int (1 : Int32))] [(Value.int (1 : Int32))]))
        obtain ⟨fs, hr, hrun, hended, hW, hsame⟩ := X28.leave (v := some (Value.int (nar .boolean (1 : Int32)))) (fun h => by rw [Bd.returns] at h; cases h)
        refine own_Go.fin (retN X28 hx (t := .boolean) Bd.returns (by simp) (hb hby at_173) hr) ⟨hrun, hended, _, _, rfl, ?_, ⟨_, rfl⟩, hW, hsame.mono (by decide) (by decide)⟩
        show Q0 Z p1 p2 p3 p4 zc vf h0 n0 _ T28.heap _
        rw [e28]
        exact ⟨rfl, N28, K25⟩
      ·
        show own_Go p.tables e below _ (T23.setTop (mkF m 76 #[.val (Value.int p1), .val (Value.int p2), .val (Value.int p3), .val (Value.int p4), .val (Value.ref ob1), .val (Value.ref ob20), .val (Value.int (0 : Int32)), .val (Value.int (1 : Int32)), .unset, .unset, .unset] []))
        refine own_Go.by (fun tq kq => XS.aload X23.here hx rfl (hb hby at_76) rfl rfl kq) ?_
        show own_Go p.tables e below _ (T23.setTop (mkF m 78 #[.val (Value.int p1), .val (Value.int p2), .val (Value.int p3), .val (Value.int p4), .val (Value.ref ob1), .val (Value.ref ob20), .val (Value.int (0 : Int32)), .val (Value.int (1 : Int32)), .unset, .unset, .unset] [(Value.ref ob20)]))
        refine own_Go.by (fun tq kq => XS.iload X23.here hx rfl (hb hby at_78) rfl kq) ?_
        show own_Go p.tables e below _ (T23.setTop (mkF m 80 #[.val (Value.int p1), .val (Value.int p2), .val (Value.int p3), .val (Value.int p4), .val (Value.ref ob1), .val (Value.ref ob20), .val (Value.int (0 : Int32)), .val (Value.int (1 : Int32)), .unset, .unset, .unset] [(Value.int (0 : Int32)), (Value.ref ob20)]))
        refine own_Go.by (fun tq kq => XS.iload X23.here hx rfl (hb hby at_80) rfl kq) ?_
        show own_Go p.tables e below _ (T23.setTop (mkF m 82 #[.val (Value.int p1), .val (Value.int p2), .val (Value.int p3), .val (Value.int p4), .val (Value.ref ob1), .val (Value.ref ob20), .val (Value.int (0 : Int32)), .val (Value.int (1 : Int32)), .unset, .unset, .unset] [(Value.int (1 : Int32)), (Value.int (0 : Int32)), (Value.ref ob20)]))
        obtain ⟨_, _, ⟨T31, L31, k31, n31⟩, -, X31, ⟨Lc31, hQ31, l31, y31, z31⟩, st31⟩ := Jvm.LawKit.callS X23 hx (y := (⟨"com/example/enlace/enlace/DotSegments", "isDotSegment", "(Ljava/lang/String;II)Z"⟩ : MethodName)) hown (mvT hZ (hw _ (List.mem_of_getElem? (i := 35) rfl))) (mvT hZ (hw _ (List.mem_of_getElem? (i := 36) rfl))) (mvT hZ (hw _ (List.mem_of_getElem? (i := 37) rfl))) (mvT hZ (hw _ (List.mem_of_getElem? (i := 38) rfl))) (by decide) (backOf (W := 0) (rm8_0_1_f l Z a0 hw [] ob20 t23 kb23 r_4 r_8 r_12 r_16 zc vf T23.heap n0 O25 E23q V23q C23q A23q (hp23 : ∀ c ∈ ([r_4, r_8, r_12, r_16] : List Int32), ¬ c < 0 ∧ ¬ (255 : Int32) < c) H0 H1 (hzc : ¬ (zc = (0 : Int32))) (rvf : vf.isRef = true) hdot) hZ (hw _ (List.mem_of_getElem? (i := 38) rfl)) (hw _ (List.mem_of_getElem? (i := 37) rfl)) (by decide) (by decide)) (g := (mkF m 82 #[.val (Value.int p1), .val (Value.int p2), .val (Value.int p3), .val (Value.int p4), .val (Value.ref ob1), .val (Value.ref ob20), .val (Value.int (0 : Int32)), .val (Value.int (1 : Int32)), .unset, .unset, .unset] [(Value.int (1 : Int32)), (Value.int (0 : Int32)), (Value.ref ob20)])) rfl (by rw [hml]; rfl) (argsL := [(Value.ref ob20), (Value.int (0 : Int32)), (Value.int (1 : Int32))]) (rest := []) (lenOf own_pd2 rfl) rfl (by show 2 * 0 + _ ≤ _; exact Nat.le_of_eq rfl) (hb hby at_82) (fun _ _ => ⟨rfl, rfl, (by decide : 3 + 0 ≤ _), (by decide : 12 + 0 ≤ _)⟩)
        dsimp only [Pt.U, Pt.locs, Pt.cells, Pt.slots] at X31 l31 y31 z31 st31 hQ31
        subst l31 y31 z31
        refine own_Go.by st31 ?_
        obtain ⟨rfl, N31q, e31⟩ := hQ31
        have N31 := Fr.app N23 N31q
        show own_Go p.tables e below _ (T31.setTop (mkF m 85 #[.val (Value.int p1), .val (Value.int p2), .val (Value.int p3), .val (Value.int p4), .val (Value.ref ob1), .val (Value.ref ob20), .val (Value.int (0 : Int32)), .val (Value.int (1 : Int32)), .unset, .unset, .unset] [(Value.int (0 : Int32))]))
        refine own_Go.by (fun tq kq => XS.istore X31.here hx rfl (hb hby at_85) rfl (l' := #[.val (Value.int p1), .val (Value.int p2), .val (Value.int p3), .val (Value.int p4), .val (Value.ref ob1), .val (Value.ref ob20), .val (Value.int (0 : Int32)), .val (Value.int (1 : Int32)), .val (Value.int (0 : Int32)), .unset, .unset]) rfl kq) ?_
        show own_Go p.tables e below _ (T31.setTop (mkF m 87 #[.val (Value.int p1), .val (Value.int p2), .val (Value.int p3), .val (Value.int p4), .val (Value.ref ob1), .val (Value.ref ob20), .val (Value.int (0 : Int32)), .val (Value.int (1 : Int32)), .val (Value.int (0 : Int32)), .unset, .unset] []))
        refine own_Go.by (fun tq kq => XS.iload X31.here hx rfl (hb hby at_87) rfl kq) ?_
        show own_Go p.tables e below _ (T31.setTop (mkF m 89 #[.val (Value.int p1), .val (Value.int p2), .val (Value.int p3), .val (Value.int p4), .val (Value.ref ob1), .val (Value.ref ob20), .val (Value.int (0 : Int32)), .val (Value.int (1 : Int32)), .val (Value.int (0 : Int32)), .unset, .unset] [(Value.int (1 : Int32))]))
        refine own_Go.by (fun tq kq => XS.iload X31.here hx rfl (hb hby at_89) rfl kq) ?_
        show own_Go p.tables e below _ (T31.setTop (mkF m 91 #[.val (Value.int p1), .val (Value.int p2), .val (Value.int p3), .val (Value.int p4), .val (Value.ref ob1), .val (Value.ref ob20), .val (Value.int (0 : Int32)), .val (Value.int (1 : Int32)), .val (Value.int (0 : Int32)), .unset, .unset] [(Value.int (0 : Int32)), (Value.int (1 : Int32))]))
        refine own_Go.by (fun tq kq => XS.isub X31.here hx rfl (hb hby at_91) rfl kq) ?_
        show own_Go p.tables e below _ (T31.setTop (mkF m 92 #[.val (Value.int p1), .val (Value.int p2), .val (Value.int p3), .val (Value.int p4), .val (Value.ref ob1), .val (Value.ref ob20), .val (Value.int (0 : Int32)), .val (Value.int (1 : Int32)), .val (Value.int (0 : Int32)), .unset, .unset] [(Value.int (1 : Int32))]))
        refine own_Go.by (fun tq kq => XS.istore X31.here hx rfl (hb hby at_92) rfl (l' := #[.val (Value.int p1), .val (Value.int p2), .val (Value.int p3), .val (Value.int p4), .val (Value.ref ob1), .val (Value.ref ob20), .val (Value.int (0 : Int32)), .val (Value.int (1 : Int32)), .val (Value.int (0 : Int32)), .val (Value.int (1 : Int32)), .unset]) rfl kq) ?_
        show own_Go p.tables e below _ (T31.setTop (mkF m 94 #[.val (Value.int p1), .val (Value.int p2), .val (Value.int p3), .val (Value.int p4), .val (Value.ref ob1), .val (Value.ref ob20), .val (Value.int (0 : Int32)), .val (Value.int (1 : Int32)), .val (Value.int (0 : Int32)), .val (Value.int (1 : Int32)), .unset] []))
        refine own_Go.by (fun tq kq => XS.iload X31.here hx rfl (hb hby at_94) rfl kq) ?_
        show own_Go p.tables e below _ (T31.setTop (mkF m 96 #[.val (Value.int p1), .val (Value.int p2), .val (Value.int p3), .val (Value.int p4), .val (Value.ref ob1), .val (Value.ref ob20), .val (Value.int (0 : Int32)), .val (Value.int (1 : Int32)), .val (Value.int (0 : Int32)), .val (Value.int (1 : Int32)), .unset] [(Value.int (1 : Int32))]))
        refine own_Go.by (fun tq kq => XS.iconst X31.here hx rfl (hb hby at_96) kq) ?_
        show own_Go p.tables e below _ (T31.setTop (mkF m 97 #[.val (Value.int p1), .val (Value.int p2), .val (Value.int p3), .val (Value.int p4), .val (Value.ref ob1), .val (Value.ref ob20), .val (Value.int (0 : Int32)), .val (Value.int (1 : Int32)), .val (Value.int (0 : Int32)), .val (Value.int (1 : Int32)), .unset] [(Value.int (1 : Int32)), (Value.int (1 : Int32))]))
        refine own_Go.by (fun tq kq => XS.icmpNo X31.here hx rfl (hb hby at_97) rfl (teq (by decide : (1 : Int32) = (1 : Int32))).2 kq) ?_
        show own_Go p.tables e below _ (T31.setTop (mkF m 100 #[.val (Value.int p1), .val (Value.int p2), .val (Value.int p3), .val (Value.int p4), .val (Value.ref ob1), .val (Value.ref ob20), .val (Value.int (0 : Int32)), .val (Value.int (1 : Int32)), .val (Value.int (0 : Int32)), .val (Value.int (1 : Int32)), .unset] []))
        refine own_Go.by (fun tq kq => XS.aload X31.here hx rfl (hb hby at_100) rfl rfl kq) ?_
        show own_Go p.tables e below _ (T31.setTop (mkF m 102 #[.val (Value.int p1), .val (Value.int p2), .val (Value.int p3), .val (Value.int p4), .val (Value.ref ob1), .val (Value.ref ob20), .val (Value.int (0 : Int32)), .val (Value.int (1 : Int32)), .val (Value.int (0 : Int32)), .val (Value.int (1 : Int32)), .unset] [(Value.ref ob1)]))
        refine own_Go.by (fun tq kq => XS.iload X31.here hx rfl (hb hby at_102) rfl kq) ?_
        show own_Go p.tables e below _ (T31.setTop (mkF m 104 #[.val (Value.int p1), .val (Value.int p2), .val (Value.int p3), .val (Value.int p4), .val (Value.ref ob1), .val (Value.ref ob20), .val (Value.int (0 : Int32)), .val (Value.int (1 : Int32)), .val (Value.int (0 : Int32)), .val (Value.int (1 : Int32)), .unset] [(Value.int (0 : Int32)), (Value.ref ob1)]))
        have c32 := (c24.keep K23q (ninS (Nat.ne_of_lt (Nat.lt_of_lt_of_le A1.lt (Nat.le_trans (Keep.of_wr W6).1 (Nat.le_trans (Keep.of_wr W10).1 (Nat.le_trans (Keep.of_wr W14).1 (Nat.le_trans (Keep.of_wr W18).1 (Nat.le_of_eq y20.symm))))))) nin0))
        obtain ⟨cl33, Ar33, q33, S33, M33, Hh33, G33⟩ := id c32
        refine own_Go.by (fun tq kq => X31.caload hx (j := (0 : Int32)) (v := (Value.int r_4)) (by rw [e31]; exact Ar33.1) (State.isArrayOf_alike hZ.alike Ar33.2.1) Ar33.2.2 (inb_of S33 ⟨(by decide : ¬ ((0 : Int32) < (0 : Int32))), (by decide : (0 : Int32) < (4 : Int32))⟩) (Has.at Hh33 (inb_of S33 ⟨(by decide : ¬ ((0 : Int32) < (0 : Int32))), (by decide : (0 : Int32) < (4 : Int32))⟩) (rfl : _ = (Value.int r_4))) (g := (mkF m 104 #[.val (Value.int p1), .val (Value.int p2), .val (Value.int p3), .val (Value.int p4), .val (Value.ref ob1), .val (Value.ref ob20), .val (Value.int (0 : Int32)), .val (Value.int (1 : Int32)), .val (Value.int (0 : Int32)), .val (Value.int (1 : Int32)), .unset] [(Value.int (0 : Int32)), (Value.ref ob1)])) rfl rfl (hb hby at_104) _ kq) ?_
        show own_Go p.tables e below _ (T31.setTop (mkF m 105 #[.val (Value.int p1), .val (Value.int p2), .val (Value.int p3), .val (Value.int p4), .val (Value.ref ob1), .val (Value.ref ob20), .val (Value.int (0 : Int32)), .val (Value.int (1 : Int32)), .val (Value.int (0 : Int32)), .val (Value.int (1 : Int32)), .unset] [(Value.int r_4)]))
        refine own_Go.by (fun tq kq => XS.bipush X31.here hx rfl (hb hby at_105) kq) ?_
        show own_Go p.tables e below _ (T31.setTop (mkF m 107 #[.val (Value.int p1), .val (Value.int p2), .val (Value.int p3), .val (Value.int p4), .val (Value.ref ob1), .val (Value.ref ob20), .val (Value.int (0 : Int32)), .val (Value.int (1 : Int32)), .val (Value.int (0 : Int32)), .val (Value.int (1 : Int32)), .unset] [(Value.int (46 : Int32)), (Value.int r_4)]))
        refine own_Go.by (fun tq kq => XS.icmpYes X31.here hx rfl (pc0 := 107) (pc' := 114) rfl (hb hby at_107) rfl (feq hdot).2 (by decide) (by decide) kq) ?_
        show own_Go p.tables e below _ (T31.setTop (mkF m 114 #[.val (Value.int p1), .val (Value.int p2), .val (Value.int p3), .val (Value.int p4), .val (Value.ref ob1), .val (Value.ref ob20), .val (Value.int (0 : Int32)), .val (Value.int (1 : Int32)), .val (Value.int (0 : Int32)), .val (Value.int (1 : Int32)), .unset] []))
        refine own_Go.by (fun tq kq => XS.iconst X31.here hx rfl (hb hby at_114) kq) ?_
        show own_Go p.tables e below _ (T31.setTop (mkF m 115 #[.val (Value.int p1), .val (Value.int p2), .val (Value.int p3), .val (Value.int p4), .val (Value.ref ob1), .val (Value.ref ob20), .val (Value.int (0 : Int32)), .val (Value.int (1 : Int32)), .val (Value.int (0 : Int32)), .val (Value.int (1 : Int32)), .unset] [(Value.int (0 : Int32))]))
        refine own_Go.by (fun tq kq => XS.istore X31.here hx rfl (hb hby at_115) rfl (l' := #[.val (Value.int p1), .val (Value.int p2), .val (Value.int p3), .val (Value.int p4), .val (Value.ref ob1), .val (Value.ref ob20), .val (Value.int (0 : Int32)), .val (Value.int (1 : Int32)), .val (Value.int (0 : Int32)), .val (Value.int (1 : Int32)), .val (Value.int (0 : Int32))]) rfl kq) ?_
        show own_Go p.tables e below _ (T31.setTop (mkF m 117 #[.val (Value.int p1), .val (Value.int p2), .val (Value.int p3), .val (Value.int p4), .val (Value.ref ob1), .val (Value.ref ob20), .val (Value.int (0 : Int32)), .val (Value.int (1 : Int32)), .val (Value.int (0 : Int32)), .val (Value.int (1 : Int32)), .val (Value.int (0 : Int32))] []))
        refine own_Go.by (fun tq kq => XS.goto X31.here hx rfl (pc0 := 117) (pc' := 161) rfl (hb hby at_117) (by decide) (by decide) kq) ?_
        show own_Go p.tables e below _ (T31.setTop (mkF m 161 #[.val (Value.int p1), .val (Value.int p2), .val (Value.int p3), .val (Value.int p4), .val (Value.ref ob1), .val (Value.ref ob20), .val (Value.int (0 : Int32)), .val (Value.int (1 : Int32)), .val (Value.int (0 : Int32)), .val (Value.int (1 : Int32)), .val (Value.int (0 : Int32))] []))
        refine own_Go.by (fun tq kq => XS.iload X31.here hx rfl (hb hby at_161) rfl kq) ?_
        show own_Go p.tables e below _ (T31.setTop (mkF m 163 #[.val (Value.int p1), .val (Value.int p2), .val (Value.int p3), .val (Value.int p4), .val (Value.ref ob1), .val (Value.ref ob20), .val (Value.int (0 : Int32)), .val (Value.int (1 : Int32)), .val (Value.int (0 : Int32)), .val (Value.int (1 : Int32)), .val (Value.int (0 : Int32))] [(Value.int (0 : Int32))]))
        refine own_Go.by (fun tq kq => XS.iload X31.here hx rfl (hb hby at_163) rfl kq) ?_
        show own_Go p.tables e below _ (T31.setTop (mkF m 165 #[.val (Value.int p1), .val (Value.int p2), .val (Value.int p3), .val (Value.int p4), .val (Value.ref ob1), .val (Value.ref ob20), .val (Value.int (0 : Int32)), .val (Value.int (1 : Int32)), .val (Value.int (0 : Int32)), .val (Value.int (1 : Int32)), .val (Value.int (0 : Int32))] [(Value.int (0 : Int32)), (Value.int (0 : Int32))]))
        refine own_Go.by (fun tq kq => XS.icmpNo X31.here hx rfl (hb hby at_165) rfl (teq (by decide : (0 : Int32) = (0 : Int32))).2 kq) ?_
        show own_Go p.tables e below _ (T31.setTop (mkF m 168 #[.val (Value.int p1), .val (Value.int p2), .val (Value.int p3), .val (Value.int p4), .val (Value.ref ob1), .val (Value.ref ob20), .val (Value.int (0 : Int32)), .val (Value.int (1 : Int32)), .val (Value.int (0 : Int32)), .val (Value.int (1 : Int32)), .val (Value.int (0 : Int32))] []))
        refine own_Go.by (fun tq kq => XS.iconst X31.here hx rfl (hb hby at_168) kq) ?_
        show own_Go p.tables e below _ (T31.setTop (mkF m 169 #[.val (Value.int p1), .val (Value.int p2), .val (Value.int p3), .val (Value.int p4), .val (Value.ref ob1), .val (Value.ref ob20), .val (Value.int (0 : Int32)), .val (Value.int (1 : Int32)), .val (Value.int (0 : Int32)), .val (Value.int (1 : Int32)), .val (Value.int (0 : Int32))] [(Value.int (1 : Int32))]))
        refine own_Go.by (fun tq kq => XS.goto X31.here hx rfl (pc0 := 169) (pc' := 173) rfl (hb hby at_169) (by decide) (by decide) kq) ?_
        show own_Go p.tables e below _ (T31.setTop (mkF m 173 #[.val (Value.int p1), .val (Value.int p2), .val (Value.int p3), .val (Value.int p4), .val (Value.ref ob1), .val (Value.ref ob20), .val (Value.int (0 : Int32)), .val (Value.int (1 : Int32)), .val (Value.int (0 : Int32)), .val (Value.int (1 : Int32)), .val (Value.int (0 : Int32))] [(Value.int (1 : Int32))]))
        obtain ⟨fs, hr, hrun, hended, hW, hsame⟩ := X31.leave (v := some (Value.int (nar .boolean (1 : Int32)))) (fun h => by rw [Bd.returns] at h; cases h)
        refine own_Go.fin (retN X31 hx (t := .boolean) Bd.returns (by simp) (hb hby at_173) hr) ⟨hrun, hended, _, _, rfl, ?_, ⟨_, rfl⟩, hW, hsame.mono (by decide) (by decide)⟩
        show Q0 Z p1 p2 p3 p4 zc vf h0 n0 _ T31.heap _
        rw [e31]
        exact ⟨rfl, N31, K25⟩
    ·
      subst hq_rr
      show own_Go p.tables e below _ (T23.setTop (mkF m 73 #[.val (Value.int p1), .val (Value.int p2), .val (Value.int p3), .val (Value.int p4), .val (Value.ref ob1), .val (Value.ref ob20), .val (Value.int (0 : Int32)), .unset, .unset, .unset, .unset] [(Value.int (2 : Int32)), (Value.int (0 : Int32))]))
      refine own_Go.by (fun tq kq => XS.iadd X23.here hx rfl (hb hby at_73) rfl kq) ?_
      show own_Go p.tables e below _ (T23.setTop (mkF m 74 #[.val (Value.int p1), .val (Value.int p2), .val (Value.int p3), .val (Value.int p4), .val (Value.ref ob1), .val (Value.ref ob20), .val (Value.int (0 : Int32)), .unset, .unset, .unset, .unset] [(Value.int (2 : Int32))]))
      refine own_Go.by (fun tq kq => XS.istore X23.here hx rfl (hb hby at_74) rfl (l' := #[.val (Value.int p1), .val (Value.int p2), .val (Value.int p3), .val (Value.int p4), .val (Value.ref ob1), .val (Value.ref ob20), .val (Value.int (0 : Int32)), .val (Value.int (2 : Int32)), .unset, .unset, .unset]) rfl kq) ?_
      by_cases hdot : r_4 = (46 : Int32)
      ·
        by_cases hdot2 : r_8 = (46 : Int32)
        ·
          show own_Go p.tables e below _ (T23.setTop (mkF m 76 #[.val (Value.int p1), .val (Value.int p2), .val (Value.int p3), .val (Value.int p4), .val (Value.ref ob1), .val (Value.ref ob20), .val (Value.int (0 : Int32)), .val (Value.int (2 : Int32)), .unset, .unset, .unset] []))
          refine own_Go.by (fun tq kq => XS.aload X23.here hx rfl (hb hby at_76) rfl rfl kq) ?_
          show own_Go p.tables e below _ (T23.setTop (mkF m 78 #[.val (Value.int p1), .val (Value.int p2), .val (Value.int p3), .val (Value.int p4), .val (Value.ref ob1), .val (Value.ref ob20), .val (Value.int (0 : Int32)), .val (Value.int (2 : Int32)), .unset, .unset, .unset] [(Value.ref ob20)]))
          refine own_Go.by (fun tq kq => XS.iload X23.here hx rfl (hb hby at_78) rfl kq) ?_
          show own_Go p.tables e below _ (T23.setTop (mkF m 80 #[.val (Value.int p1), .val (Value.int p2), .val (Value.int p3), .val (Value.int p4), .val (Value.ref ob1), .val (Value.ref ob20), .val (Value.int (0 : Int32)), .val (Value.int (2 : Int32)), .unset, .unset, .unset] [(Value.int (0 : Int32)), (Value.ref ob20)]))
          refine own_Go.by (fun tq kq => XS.iload X23.here hx rfl (hb hby at_80) rfl kq) ?_
          show own_Go p.tables e below _ (T23.setTop (mkF m 82 #[.val (Value.int p1), .val (Value.int p2), .val (Value.int p3), .val (Value.int p4), .val (Value.ref ob1), .val (Value.ref ob20), .val (Value.int (0 : Int32)), .val (Value.int (2 : Int32)), .unset, .unset, .unset] [(Value.int (2 : Int32)), (Value.int (0 : Int32)), (Value.ref ob20)]))
          obtain ⟨_, _, ⟨T34, L34, k34, n34⟩, -, X34, ⟨Lc34, hQ34, l34, y34, z34⟩, st34⟩ := Jvm.LawKit.callS X23 hx (y := (⟨"com/example/enlace/enlace/DotSegments", "isDotSegment", "(Ljava/lang/String;II)Z"⟩ : MethodName)) hown (mvT hZ (hw _ (List.mem_of_getElem? (i := 35) rfl))) (mvT hZ (hw _ (List.mem_of_getElem? (i := 36) rfl))) (mvT hZ (hw _ (List.mem_of_getElem? (i := 37) rfl))) (mvT hZ (hw _ (List.mem_of_getElem? (i := 38) rfl))) (by decide) (backOf (W := 0) (rm8_0_2_tt l Z a0 hw [] ob20 t23 kb23 r_4 r_8 r_12 r_16 zc vf T23.heap n0 O25 E23q V23q C23q A23q (hp23 : ∀ c ∈ ([r_4, r_8, r_12, r_16] : List Int32), ¬ c < 0 ∧ ¬ (255 : Int32) < c) H0 H1 (hzc : ¬ (zc = (0 : Int32))) (rvf : vf.isRef = true) hdot hdot2) hZ (hw _ (List.mem_of_getElem? (i := 38) rfl)) (hw _ (List.mem_of_getElem? (i := 37) rfl)) (by decide) (by decide)) (g := (mkF m 82 #[.val (Value.int p1), .val (Value.int p2), .val (Value.int p3), .val (Value.int p4), .val (Value.ref ob1), .val (Value.ref ob20), .val (Value.int (0 : Int32)), .val (Value.int (2 : Int32)), .unset, .unset, .unset] [(Value.int (2 : Int32)), (Value.int (0 : Int32)), (Value.ref ob20)])) rfl (by rw [hml]; rfl) (argsL := [(Value.ref ob20), (Value.int (0 : Int32)), (Value.int (2 : Int32))]) (rest := []) (lenOf own_pd2 rfl) rfl (by show 2 * 0 + _ ≤ _; exact Nat.le_of_eq rfl) (hb hby at_82) (fun _ _ => ⟨rfl, rfl, (by decide : 3 + 0 ≤ _), (by decide : 12 + 0 ≤ _)⟩)
          dsimp only [Pt.U, Pt.locs, Pt.cells, Pt.slots] at X34 l34 y34 z34 st34 hQ34
          subst l34 y34 z34
          refine own_Go.by st34 ?_
          obtain ⟨rfl, N34q, e34⟩ := hQ34
          have N34 := Fr.app N23 N34q
          show own_Go p.tables e below _ (T34.setTop (mkF m 85 #[.val (Value.int p1), .val (Value.int p2), .val (Value.int p3), .val (Value.int p4), .val (Value.ref ob1), .val (Value.ref ob20), .val (Value.int (0 : Int32)), .val (Value.int (2 : Int32)), .unset, .unset, .unset] [(Value.int (1 : Int32))]))
          refine own_Go.by (fun tq kq => XS.istore X34.here hx rfl (hb hby at_85) rfl (l' := #[.val (Value.int p1), .val (Value.int p2), .val (Value.int p3), .val (Value.int p4), .val (Value.ref ob1), .val (Value.ref ob20), .val (Value.int (0 : Int32)), .val (Value.int (2 : Int32)), .val (Value.int (1 : Int32)), .unset, .unset]) rfl kq) ?_
          show own_Go p.tables e below _ (T34.setTop (mkF m 87 #[.val (Value.int p1), .val (Value.int p2), .val (Value.int p3), .val (Value.int p4), .val (Value.ref ob1), .val (Value.ref ob20), .val (Value.int (0 : Int32)), .val (Value.int (2 : Int32)), .val (Value.int (1 : Int32)), .unset, .unset] []))
          refine own_Go.by (fun tq kq => XS.iload X34.here hx rfl (hb hby at_87) rfl kq) ?_
          show own_Go p.tables e below _ (T34.setTop (mkF m 89 #[.val (Value.int p1), .val (Value.int p2), .val (Value.int p3), .val (Value.int p4), .val (Value.ref ob1), .val (Value.ref ob20), .val (Value.int (0 : Int32)), .val (Value.int (2 : Int32)), .val (Value.int (1 : Int32)), .unset, .unset] [(Value.int (2 : Int32))]))
          refine own_Go.by (fun tq kq => XS.iload X34.here hx rfl (hb hby at_89) rfl kq) ?_
          show own_Go p.tables e below _ (T34.setTop (mkF m 91 #[.val (Value.int p1), .val (Value.int p2), .val (Value.int p3), .val (Value.int p4), .val (Value.ref ob1), .val (Value.ref ob20), .val (Value.int (0 : Int32)), .val (Value.int (2 : Int32)), .val (Value.int (1 : Int32)), .unset, .unset] [(Value.int (0 : Int32)), (Value.int (2 : Int32))]))
          refine own_Go.by (fun tq kq => XS.isub X34.here hx rfl (hb hby at_91) rfl kq) ?_
          show own_Go p.tables e below _ (T34.setTop (mkF m 92 #[.val (Value.int p1), .val (Value.int p2), .val (Value.int p3), .val (Value.int p4), .val (Value.ref ob1), .val (Value.ref ob20), .val (Value.int (0 : Int32)), .val (Value.int (2 : Int32)), .val (Value.int (1 : Int32)), .unset, .unset] [(Value.int (2 : Int32))]))
          refine own_Go.by (fun tq kq => XS.istore X34.here hx rfl (hb hby at_92) rfl (l' := #[.val (Value.int p1), .val (Value.int p2), .val (Value.int p3), .val (Value.int p4), .val (Value.ref ob1), .val (Value.ref ob20), .val (Value.int (0 : Int32)), .val (Value.int (2 : Int32)), .val (Value.int (1 : Int32)), .val (Value.int (2 : Int32)), .unset]) rfl kq) ?_
          show own_Go p.tables e below _ (T34.setTop (mkF m 94 #[.val (Value.int p1), .val (Value.int p2), .val (Value.int p3), .val (Value.int p4), .val (Value.ref ob1), .val (Value.ref ob20), .val (Value.int (0 : Int32)), .val (Value.int (2 : Int32)), .val (Value.int (1 : Int32)), .val (Value.int (2 : Int32)), .unset] []))
          refine own_Go.by (fun tq kq => XS.iload X34.here hx rfl (hb hby at_94) rfl kq) ?_
          show own_Go p.tables e below _ (T34.setTop (mkF m 96 #[.val (Value.int p1), .val (Value.int p2), .val (Value.int p3), .val (Value.int p4), .val (Value.ref ob1), .val (Value.ref ob20), .val (Value.int (0 : Int32)), .val (Value.int (2 : Int32)), .val (Value.int (1 : Int32)), .val (Value.int (2 : Int32)), .unset] [(Value.int (2 : Int32))]))
          refine own_Go.by (fun tq kq => XS.iconst X34.here hx rfl (hb hby at_96) kq) ?_
          show own_Go p.tables e below _ (T34.setTop (mkF m 97 #[.val (Value.int p1), .val (Value.int p2), .val (Value.int p3), .val (Value.int p4), .val (Value.ref ob1), .val (Value.ref ob20), .val (Value.int (0 : Int32)), .val (Value.int (2 : Int32)), .val (Value.int (1 : Int32)), .val (Value.int (2 : Int32)), .unset] [(Value.int (1 : Int32)), (Value.int (2 : Int32))]))
          refine own_Go.by (fun tq kq => XS.icmpYes X34.here hx rfl (pc0 := 97) (pc' := 120) rfl (hb hby at_97) rfl (feq (by decide : ¬ ((2 : Int32) = (1 : Int32)))).2 (by decide) (by decide) kq) ?_
          show own_Go p.tables e below _ (T34.setTop (mkF m 120 #[.val (Value.int p1), .val (Value.int p2), .val (Value.int p3), .val (Value.int p4), .val (Value.ref ob1), .val (Value.ref ob20), .val (Value.int (0 : Int32)), .val (Value.int (2 : Int32)), .val (Value.int (1 : Int32)), .val (Value.int (2 : Int32)), .unset] []))
          refine own_Go.by (fun tq kq => XS.iload X34.here hx rfl (hb hby at_120) rfl kq) ?_
          show own_Go p.tables e below _ (T34.setTop (mkF m 122 #[.val (Value.int p1), .val (Value.int p2), .val (Value.int p3), .val (Value.int p4), .val (Value.ref ob1), .val (Value.ref ob20), .val (Value.int (0 : Int32)), .val (Value.int (2 : Int32)), .val (Value.int (1 : Int32)), .val (Value.int (2 : Int32)), .unset] [(Value.int (2 : Int32))]))
          refine own_Go.by (fun tq kq => XS.iconst X34.here hx rfl (hb hby at_122) kq) ?_
          show own_Go p.tables e below _ (T34.setTop (mkF m 123 #[.val (Value.int p1), .val (Value.int p2), .val (Value.int p3), .val (Value.int p4), .val (Value.ref ob1), .val (Value.ref ob20), .val (Value.int (0 : Int32)), .val (Value.int (2 : Int32)), .val (Value.int (1 : Int32)), .val (Value.int (2 : Int32)), .unset] [(Value.int (2 : Int32)), (Value.int (2 : Int32))]))
          refine own_Go.by (fun tq kq => XS.icmpNo X34.here hx rfl (hb hby at_123) rfl (teq (by decide : (2 : Int32) = (2 : Int32))).2 kq) ?_
          show own_Go p.tables e below _ (T34.setTop (mkF m 126 #[.val (Value.int p1), .val (Value.int p2), .val (Value.int p3), .val (Value.int p4), .val (Value.ref ob1), .val (Value.ref ob20), .val (Value.int (0 : Int32)), .val (Value.int (2 : Int32)), .val (Value.int (1 : Int32)), .val (Value.int (2 : Int32)), .unset] []))
          refine own_Go.by (fun tq kq => XS.aload X34.here hx rfl (hb hby at_126) rfl rfl kq) ?_
          show own_Go p.tables e below _ (T34.setTop (mkF m 128 #[.val (Value.int p1), .val (Value.int p2), .val (Value.int p3), .val (Value.int p4), .val (Value.ref ob1), .val (Value.ref ob20), .val (Value.int (0 : Int32)), .val (Value.int (2 : Int32)), .val (Value.int (1 : Int32)), .val (Value.int (2 : Int32)), .unset] [(Value.ref ob1)]))
          refine own_Go.by (fun tq kq => XS.iload X34.here hx rfl (hb hby at_128) rfl kq) ?_
          show own_Go p.tables e below _ (T34.setTop (mkF m 130 #[.val (Value.int p1), .val (Value.int p2), .val (Value.int p3), .val (Value.int p4), .val (Value.ref ob1), .val (Value.ref ob20), .val (Value.int (0 : Int32)), .val (Value.int (2 : Int32)), .val (Value.int (1 : Int32)), .val (Value.int (2 : Int32)), .unset] [(Value.int (0 : Int32)), (Value.ref ob1)]))
          have c35 := (c24.keep K23q (ninS (Nat.ne_of_lt (Nat.lt_of_lt_of_le A1.lt (Nat.le_trans (Keep.of_wr W6).1 (Nat.le_trans (Keep.of_wr W10).1 (Nat.le_trans (Keep.of_wr W14).1 (Nat.le_trans (Keep.of_wr W18).1 (Nat.le_of_eq y20.symm))))))) nin0))
          obtain ⟨cl36, Ar36, q36, S36, M36, Hh36, G36⟩ := id c35
          refine own_Go.by (fun tq kq => X34.caload hx (j := (0 : Int32)) (v := (Value.int r_4)) (by rw [e34]; exact Ar36.1) (State.isArrayOf_alike hZ.alike Ar36.2.1) Ar36.2.2 (inb_of S36 ⟨(by decide : ¬ ((0 : Int32) < (0 : Int32))), (by decide : (0 : Int32) < (4 : Int32))⟩) (Has.at Hh36 (inb_of S36 ⟨(by decide : ¬ ((0 : Int32) < (0 : Int32))), (by decide : (0 : Int32) < (4 : Int32))⟩) (rfl : _ = (Value.int r_4))) (g := (mkF m 130 #[.val (Value.int p1), .val (Value.int p2), .val (Value.int p3), .val (Value.int p4), .val (Value.ref ob1), .val (Value.ref ob20), .val (Value.int (0 : Int32)), .val (Value.int (2 : Int32)), .val (Value.int (1 : Int32)), .val (Value.int (2 : Int32)), .unset] [(Value.int (0 : Int32)), (Value.ref ob1)])) rfl rfl (hb hby at_130) _ kq) ?_
          show own_Go p.tables e below _ (T34.setTop (mkF m 131 #[.val (Value.int p1), .val (Value.int p2), .val (Value.int p3), .val (Value.int p4), .val (Value.ref ob1), .val (Value.ref ob20), .val (Value.int (0 : Int32)), .val (Value.int (2 : Int32)), .val (Value.int (1 : Int32)), .val (Value.int (2 : Int32)), .unset] [(Value.int r_4)]))
          refine own_Go.by (fun tq kq => XS.bipush X34.here hx rfl (hb hby at_131) kq) ?_
          show own_Go p.tables e below _ (T34.setTop (mkF m 133 #[.val (Value.int p1), .val (Value.int p2), .val (Value.int p3), .val (Value.int p4), .val (Value.ref ob1), .val (Value.ref ob20), .val (Value.int (0 : Int32)), .val (Value.int (2 : Int32)), .val (Value.int (1 : Int32)), .val (Value.int (2 : Int32)), .unset] [(Value.int (46 : Int32)), (Value.int r_4)]))
          refine own_Go.by (fun tq kq => XS.icmpNo X34.here hx rfl (hb hby at_133) rfl (teq hdot).2 kq) ?_
          show own_Go p.tables e below _ (T34.setTop (mkF m 136 #[.val (Value.int p1), .val (Value.int p2), .val (Value.int p3), .val (Value.int p4), .val (Value.ref ob1), .val (Value.ref ob20), .val (Value.int (0 : Int32)), .val (Value.int (2 : Int32)), .val (Value.int (1 : Int32)), .val (Value.int (2 : Int32)), .unset] []))
          refine own_Go.by (fun tq kq => XS.aload X34.here hx rfl (hb hby at_136) rfl rfl kq) ?_
          show own_Go p.tables e below _ (T34.setTop (mkF m 138 #[.val (Value.int p1), .val (Value.int p2), .val (Value.int p3), .val (Value.int p4), .val (Value.ref ob1), .val (Value.ref ob20), .val (Value.int (0 : Int32)), .val (Value.int (2 : Int32)), .val (Value.int (1 : Int32)), .val (Value.int (2 : Int32)), .unset] [(Value.ref ob1)]))
          refine own_Go.by (fun tq kq => XS.iload X34.here hx rfl (hb hby at_138) rfl kq) ?_
          show own_Go p.tables e below _ (T34.setTop (mkF m 140 #[.val (Value.int p1), .val (Value.int p2), .val (Value.int p3), .val (Value.int p4), .val (Value.ref ob1), .val (Value.ref ob20), .val (Value.int (0 : Int32)), .val (Value.int (2 : Int32)), .val (Value.int (1 : Int32)), .val (Value.int (2 : Int32)), .unset] [(Value.int (0 : Int32)), (Value.ref ob1)]))
          refine own_Go.by (fun tq kq => XS.iconst X34.here hx rfl (hb hby at_140) kq) ?_
          show own_Go p.tables e below _ (T34.setTop (mkF m 141 #[.val (Value.int p1), .val (Value.int p2), .val (Value.int p3), .val (Value.int p4), .val (Value.ref ob1), .val (Value.ref ob20), .val (Value.int (0 : Int32)), .val (Value.int (2 : Int32)), .val (Value.int (1 : Int32)), .val (Value.int (2 : Int32)), .unset] [(Value.int (1 : Int32)), (Value.int (0 : Int32)), (Value.ref ob1)]))
          refine own_Go.by (fun tq kq => XS.iadd X34.here hx rfl (hb hby at_141) rfl kq) ?_
          show own_Go p.tables e below _ (T34.setTop (mkF m 142 #[.val (Value.int p1), .val (Value.int p2), .val (Value.int p3), .val (Value.int p4), .val (Value.ref ob1), .val (Value.ref ob20), .val (Value.int (0 : Int32)), .val (Value.int (2 : Int32)), .val (Value.int (1 : Int32)), .val (Value.int (2 : Int32)), .unset] [(Value.int (1 : Int32)), (Value.ref ob1)]))
          obtain ⟨cl37, Ar37, q37, S37, M37, Hh37, G37⟩ := id c35
          refine own_Go.by (fun tq kq => X34.caload hx (j := (1 : Int32)) (v := (Value.int r_8)) (by rw [e34]; exact Ar37.1) (State.isArrayOf_alike hZ.alike Ar37.2.1) Ar37.2.2 (inb_of S37 ⟨(by decide : ¬ ((1 : Int32) < (0 : Int32))), (by decide : (1 : Int32) < (4 : Int32))⟩) (Has.at Hh37 (inb_of S37 ⟨(by decide : ¬ ((1 : Int32) < (0 : Int32))), (by decide : (1 : Int32) < (4 : Int32))⟩) (rfl : _ = (Value.int r_8))) (g := (mkF m 142 #[.val (Value.int p1), .val (Value.int p2), .val (Value.int p3), .val (Value.int p4), .val (Value.ref ob1), .val (Value.ref ob20), .val (Value.int (0 : Int32)), .val (Value.int (2 : Int32)), .val (Value.int (1 : Int32)), .val (Value.int (2 : Int32)), .unset] [(Value.int (1 : Int32)), (Value.ref ob1)])) rfl rfl (hb hby at_142) _ kq) ?_
          show own_Go p.tables e below _ (T34.setTop (mkF m 143 #[.val (Value.int p1), .val (Value.int p2), .val (Value.int p3), .val (Value.int p4), .val (Value.ref ob1), .val (Value.ref ob20), .val (Value.int (0 : Int32)), .val (Value.int (2 : Int32)), .val (Value.int (1 : Int32)), .val (Value.int (2 : Int32)), .unset] [(Value.int r_8)]))
          refine own_Go.by (fun tq kq => XS.bipush X34.here hx rfl (hb hby at_143) kq) ?_
          show own_Go p.tables e below _ (T34.setTop (mkF m 145 #[.val (Value.int p1), .val (Value.int p2), .val (Value.int p3), .val (Value.int p4), .val (Value.ref ob1), .val (Value.ref ob20), .val (Value.int (0 : Int32)), .val (Value.int (2 : Int32)), .val (Value.int (1 : Int32)), .val (Value.int (2 : Int32)), .unset] [(Value.int (46 : Int32)), (Value.int r_8)]))
          refine own_Go.by (fun tq kq => XS.icmpNo X34.here hx rfl (hb hby at_145) rfl (teq hdot2).2 kq) ?_
          show own_Go p.tables e below _ (T34.setTop (mkF m 148 #[.val (Value.int p1), .val (Value.int p2), .val (Value.int p3), .val (Value.int p4), .val (Value.ref ob1), .val (Value.ref ob20), .val (Value.int (0 : Int32)), .val (Value.int (2 : Int32)), .val (Value.int (1 : Int32)), .val (Value.int (2 : Int32)), .unset] []))
          refine own_Go.by (fun tq kq => XS.iconst X34.here hx rfl (hb hby at_148) kq) ?_
          show own_Go p.tables e below _ (T34.setTop (mkF m 149 #[.val (Value.int p1), .val (Value.int p2), .val (Value.int p3), .val (Value.int p4), .val (Value.ref ob1), .val (Value.ref ob20), .val (Value.int (0 : Int32)), .val (Value.int (2 : Int32)), .val (Value.int (1 : Int32)), .val (Value.int (2 : Int32)), .unset] [(Value.int (1 : Int32))]))
          refine own_Go.by (fun tq kq => XS.goto X34.here hx rfl (pc0 := 149) (pc' := 153) rfl (hb hby at_149) (by decide) (by decide) kq) ?_
          show own_Go p.tables e below _ (T34.setTop (mkF m 153 #[.val (Value.int p1), .val (Value.int p2), .val (Value.int p3), .val (Value.int p4), .val (Value.ref ob1), .val (Value.ref ob20), .val (Value.int (0 : Int32)), .val (Value.int (2 : Int32)), .val (Value.int (1 : Int32)), .val (Value.int (2 : Int32)), .unset] [(Value.int (1 : Int32))]))
          refine own_Go.by (fun tq kq => XS.istore X34.here hx rfl (hb hby at_153) rfl (l' := #[.val (Value.int p1), .val (Value.int p2), .val (Value.int p3), .val (Value.int p4), .val (Value.ref ob1), .val (Value.ref ob20), .val (Value.int (0 : Int32)), .val (Value.int (2 : Int32)), .val (Value.int (1 : Int32)), .val (Value.int (2 : Int32)), .val (Value.int (1 : Int32))]) rfl kq) ?_
          show own_Go p.tables e below _ (T34.setTop (mkF m 155 #[.val (Value.int p1), .val (Value.int p2), .val (Value.int p3), .val (Value.int p4), .val (Value.ref ob1), .val (Value.ref ob20), .val (Value.int (0 : Int32)), .val (Value.int (2 : Int32)), .val (Value.int (1 : Int32)), .val (Value.int (2 : Int32)), .val (Value.int (1 : Int32))] []))
          refine own_Go.by (fun tq kq => XS.goto X34.here hx rfl (pc0 := 155) (pc' := 161) rfl (hb hby at_155) (by decide) (by decide) kq) ?_
          show own_Go p.tables e below _ (T34.setTop (mkF m 161 #[.val (Value.int p1), .val (Value.int p2), .val (Value.int p3), .val (Value.int p4), .val (Value.ref ob1), .val (Value.ref ob20), .val (Value.int (0 : Int32)), .val (Value.int (2 : Int32)), .val (Value.int (1 : Int32)), .val (Value.int (2 : Int32)), .val (Value.int (1 : Int32))] []))
          refine own_Go.by (fun tq kq => XS.iload X34.here hx rfl (hb hby at_161) rfl kq) ?_
          show own_Go p.tables e below _ (T34.setTop (mkF m 163 #[.val (Value.int p1), .val (Value.int p2), .val (Value.int p3), .val (Value.int p4), .val (Value.ref ob1), .val (Value.ref ob20), .val (Value.int (0 : Int32)), .val (Value.int (2 : Int32)), .val (Value.int (1 : Int32)), .val (Value.int (2 : Int32)), .val (Value.int (1 : Int32))] [(Value.int (1 : Int32))]))
          refine own_Go.by (fun tq kq => XS.iload X34.here hx rfl (hb hby at_163) rfl kq) ?_
          show own_Go p.tables e below _ (T34.setTop (mkF m 165 #[.val (Value.int p1), .val (Value.int p2), .val (Value.int p3), .val (Value.int p4), .val (Value.ref ob1), .val (Value.ref ob20), .val (Value.int (0 : Int32)), .val (Value.int (2 : Int32)), .val (Value.int (1 : Int32)), .val (Value.int (2 : Int32)), .val (Value.int (1 : Int32))] [(Value.int (1 : Int32)), (Value.int (1 : Int32))]))
          refine own_Go.by (fun tq kq => XS.icmpNo X34.here hx rfl (hb hby at_165) rfl (teq (by decide : (1 : Int32) = (1 : Int32))).2 kq) ?_
          show own_Go p.tables e below _ (T34.setTop (mkF m 168 #[.val (Value.int p1), .val (Value.int p2), .val (Value.int p3), .val (Value.int p4), .val (Value.ref ob1), .val (Value.ref ob20), .val (Value.int (0 : Int32)), .val (Value.int (2 : Int32)), .val (Value.int (1 : Int32)), .val (Value.int (2 : Int32)), .val (Value.int (1 : Int32))] []))
          refine own_Go.by (fun tq kq => XS.iconst X34.here hx rfl (hb hby at_168) kq) ?_
          show own_Go p.tables e below _ (T34.setTop (mkF m 169 #[.val (Value.int p1), .val (Value.int p2), .val (Value.int p3), .val (Value.int p4), .val (Value.ref ob1), .val (Value.ref ob20), .val (Value.int (0 : Int32)), .val (Value.int (2 : Int32)), .val (Value.int (1 : Int32)), .val (Value.int (2 : Int32)), .val (Value.int (1 : Int32))] [(Value.int (1 : Int32))]))
          refine own_Go.by (fun tq kq => XS.goto X34.here hx rfl (pc0 := 169) (pc' := 173) rfl (hb hby at_169) (by decide) (by decide) kq) ?_
          show own_Go p.tables e below _ (T34.setTop (mkF m 173 #[.val (Value.int p1), .val (Value.int p2), .val (Value.int p3), .val (Value.int p4), .val (Value.ref ob1), .val (Value.ref ob20), .val (Value.int (0 : Int32)), .val (Value.int (2 : Int32)), .val (Value.int (1 : Int32)), .val (Value.int (2 : Int32)), .val (Value.int (1 : Int32))] [(Value.int (1 : Int32))]))
          obtain ⟨fs, hr, hrun, hended, hW, hsame⟩ := X34.leave (v := some (Value.int (nar .boolean (1 : Int32)))) (fun h => by rw [Bd.returns] at h; cases h)
          refine own_Go.fin (retN X34 hx (t := .boolean) Bd.returns (by simp) (hb hby at_173) hr) ⟨hrun, hended, _, _, rfl, ?_, ⟨_, rfl⟩, hW, hsame.mono (by decide) (by decide)⟩
          show Q0 Z p1 p2 p3 p4 zc vf h0 n0 _ T34.heap _
          rw [e34]
          exact ⟨rfl, N34, K25⟩
        ·
          show own_Go p.tables e below _ (T23.setTop (mkF m 76 #[.val (Value.int p1), .val (Value.int p2), .val (Value.int p3), .val (Value.int p4), .val (Value.ref ob1), .val (Value.ref ob20), .val (Value.int (0 : Int32)), .val (Value.int (2 : Int32)), .unset, .unset, .unset] []))
          refine own_Go.by (fun tq kq => XS.aload X23.here hx rfl (hb hby at_76) rfl rfl kq) ?_
          show own_Go p.tables e below _ (T23.setTop (mkF m 78 #[.val (Value.int p1), .val (Value.int p2), .val (Value.int p3), .val (Value.int p4), .val (Value.ref ob1), .val (Value.ref ob20), .val (Value.int (0 : Int32)), .val (Value.int (2 : Int32)), .unset, .unset, .unset] [(Value.ref ob20)]))
          refine own_Go.by (fun tq kq => XS.iload X23.here hx rfl (hb hby at_78) rfl kq) ?_
          show own_Go p.tables e below _ (T23.setTop (mkF m 80 #[.val (Value.int p1), .val (Value.int p2), .val (Value.int p3), .val (Value.int p4), .val (Value.ref ob1), .val (Value.ref ob20), .val (Value.int (0 : Int32)), .val (Value.int (2 : Int32)), .unset, .unset, .unset] [(Value.int (0 : Int32)), (Value.ref ob20)]))
          refine own_Go.by (fun tq kq => XS.iload X23.here hx rfl (hb hby at_80) rfl kq) ?_
          show own_Go p.tables e below _ (T23.setTop (mkF m 82 #[.val (Value.int p1), .val (Value.int p2), .val (Value.int p3), .val (Value.int p4), .val (Value.ref ob1), .val (Value.ref ob20), .val (Value.int (0 : Int32)), .val (Value.int (2 : Int32)), .unset, .unset, .unset] [(Value.int (2 : Int32)), (Value.int (0 : Int32)), (Value.ref ob20)]))
          obtain ⟨_, _, ⟨T38, L38, k38, n38⟩, -, X38, ⟨Lc38, hQ38, l38, y38, z38⟩, st38⟩ := Jvm.LawKit.callS X23 hx (y := (⟨"com/example/enlace/enlace/DotSegments", "isDotSegment", "(Ljava/lang/String;II)Z"⟩ : MethodName)) hown (mvT hZ (hw _ (List.mem_of_getElem? (i := 35) rfl))) (mvT hZ (hw _ (List.mem_of_getElem? (i := 36) rfl))) (mvT hZ (hw _ (List.mem_of_getElem? (i := 37) rfl))) (mvT hZ (hw _ (List.mem_of_getElem? (i := 38) rfl))) (by decide) (backOf (W := 0) (rm8_0_2_tf l Z a0 hw [] ob20 t23 kb23 r_4 r_8 r_12 r_16 zc vf T23.heap n0 O25 E23q V23q C23q A23q (hp23 : ∀ c ∈ ([r_4, r_8, r_12, r_16] : List Int32), ¬ c < 0 ∧ ¬ (255 : Int32) < c) H0 H1 (hzc : ¬ (zc = (0 : Int32))) (rvf : vf.isRef = true) hdot hdot2) hZ (hw _ (List.mem_of_getElem? (i := 38) rfl)) (hw _ (List.mem_of_getElem? (i := 37) rfl)) (by decide) (by decide)) (g := (mkF m 82 #[.val (Value.int p1), .val (Value.int p2), .val (Value.int p3), .val (Value.int p4), .val (Value.ref ob1), .val (Value.ref ob20), .val (Value.int (0 : Int32)), .val (Value.int (2 : Int32)), .unset, .unset, .unset] [(Value.int (2 : Int32)), (Value.int (0 : Int32)), (Value.ref ob20)])) rfl (by rw [hml]; rfl) (argsL := [(Value.ref ob20), (Value.int (0 : Int32)), (Value.int (2 : Int32))]) (rest := []) (lenOf own_pd2 rfl) rfl (by show 2 * 0 + _ ≤ _; exact Nat.le_of_eq rfl) (hb hby at_82) (fun _ _ => ⟨rfl, rfl, (by decide : 3 + 0 ≤ _), (by decide : 12 + 0 ≤ _)⟩)
          dsimp only [Pt.U, Pt.locs, Pt.cells, Pt.slots] at X38 l38 y38 z38 st38 hQ38
          subst l38 y38 z38
          refine own_Go.by st38 ?_
          obtain ⟨rfl, N38q, e38⟩ := hQ38
          have N38 := Fr.app N23 N38q
          show own_Go p.tables e below _ (T38.setTop (mkF m 85 #[.val (Value.int p1), .val (Value.int p2), .val (Value.int p3), .val (Value.int p4), .val (Value.ref ob1), .val (Value.ref ob20), .val (Value.int (0 : Int32)), .val (Value.int (2 : Int32)), .unset, .unset, .unset] [(Value.int (0 : Int32))]))
          refine own_Go.by (fun tq kq => XS.istore X38.here hx rfl (hb hby at_85) rfl (l' := #[.val (Value.int p1), .val (Value.int p2), .val (Value.int p3), .val (Value.int p4), .val (Value.ref ob1), .val (Value.ref ob20), .val (Value.int (0 : Int32)), .val (Value.int (2 : Int32)), .val (Value.int (0 : Int32)), .unset, .unset]) rfl kq) ?_
          show own_Go p.tables e below _ (T38.setTop (mkF m 87 #[.val (Value.int p1), .val (Value.int p2), .val (Value.int p3), .val (Value.int p4), .val (Value.ref ob1), .val (Value.ref ob20), .val (Value.int (0 : Int32)), .val (Value.int (2 : Int32)), .val (Value.int (0 : Int32)), .unset, .unset] []))
          refine own_Go.by (fun tq kq => XS.iload X38.here hx rfl (hb hby at_87) rfl kq) ?_
          show own_Go p.tables e below _ (T38.setTop (mkF m 89 #[.val (Value.int p1), .val (Value.int p2), .val (Value.int p3), .val (Value.int p4), .val (Value.ref ob1), .val (Value.ref ob20), .val (Value.int (0 : Int32)), .val (Value.int (2 : Int32)), .val (Value.int (0 : Int32)), .unset, .unset] [(Value.int (2 : Int32))]))
          refine own_Go.by (fun tq kq => XS.iload X38.here hx rfl (hb hby at_89) rfl kq) ?_
          show own_Go p.tables e below _ (T38.setTop (mkF m 91 #[.val (Value.int p1), .val (Value.int p2), .val (Value.int p3), .val (Value.int p4), .val (Value.ref ob1), .val (Value.ref ob20), .val (Value.int (0 : Int32)), .val (Value.int (2 : Int32)), .val (Value.int (0 : Int32)), .unset, .unset] [(Value.int (0 : Int32)), (Value.int (2 : Int32))]))
          refine own_Go.by (fun tq kq => XS.isub X38.here hx rfl (hb hby at_91) rfl kq) ?_
          show own_Go p.tables e below _ (T38.setTop (mkF m 92 #[.val (Value.int p1), .val (Value.int p2), .val (Value.int p3), .val (Value.int p4), .val (Value.ref ob1), .val (Value.ref ob20), .val (Value.int (0 : Int32)), .val (Value.int (2 : Int32)), .val (Value.int (0 : Int32)), .unset, .unset] [(Value.int (2 : Int32))]))
          refine own_Go.by (fun tq kq => XS.istore X38.here hx rfl (hb hby at_92) rfl (l' := #[.val (Value.int p1), .val (Value.int p2), .val (Value.int p3), .val (Value.int p4), .val (Value.ref ob1), .val (Value.ref ob20), .val (Value.int (0 : Int32)), .val (Value.int (2 : Int32)), .val (Value.int (0 : Int32)), .val (Value.int (2 : Int32)), .unset]) rfl kq) ?_
          show own_Go p.tables e below _ (T38.setTop (mkF m 94 #[.val (Value.int p1), .val (Value.int p2), .val (Value.int p3), .val (Value.int p4), .val (Value.ref ob1), .val (Value.ref ob20), .val (Value.int (0 : Int32)), .val (Value.int (2 : Int32)), .val (Value.int (0 : Int32)), .val (Value.int (2 : Int32)), .unset] []))
          refine own_Go.by (fun tq kq => XS.iload X38.here hx rfl (hb hby at_94) rfl kq) ?_
          show own_Go p.tables e below _ (T38.setTop (mkF m 96 #[.val (Value.int p1), .val (Value.int p2), .val (Value.int p3), .val (Value.int p4), .val (Value.ref ob1), .val (Value.ref ob20), .val (Value.int (0 : Int32)), .val (Value.int (2 : Int32)), .val (Value.int (0 : Int32)), .val (Value.int (2 : Int32)), .unset] [(Value.int (2 : Int32))]))
          refine own_Go.by (fun tq kq => XS.iconst X38.here hx rfl (hb hby at_96) kq) ?_
          show own_Go p.tables e below _ (T38.setTop (mkF m 97 #[.val (Value.int p1), .val (Value.int p2), .val (Value.int p3), .val (Value.int p4), .val (Value.ref ob1), .val (Value.ref ob20), .val (Value.int (0 : Int32)), .val (Value.int (2 : Int32)), .val (Value.int (0 : Int32)), .val (Value.int (2 : Int32)), .unset] [(Value.int (1 : Int32)), (Value.int (2 : Int32))]))
          refine own_Go.by (fun tq kq => XS.icmpYes X38.here hx rfl (pc0 := 97) (pc' := 120) rfl (hb hby at_97) rfl (feq (by decide : ¬ ((2 : Int32) = (1 : Int32)))).2 (by decide) (by decide) kq) ?_
          show own_Go p.tables e below _ (T38.setTop (mkF m 120 #[.val (Value.int p1), .val (Value.int p2), .val (Value.int p3), .val (Value.int p4), .val (Value.ref ob1), .val (Value.ref ob20), .val (Value.int (0 : Int32)), .val (Value.int (2 : Int32)), .val (Value.int (0 : Int32)), .val (Value.int (2 : Int32)), .unset] []))
          refine own_Go.by (fun tq kq => XS.iload X38.here hx rfl (hb hby at_120) rfl kq) ?_
          show own_Go p.tables e below _ (T38.setTop (mkF m 122 #[.val (Value.int p1), .val (Value.int p2), .val (Value.int p3), .val (Value.int p4), .val (Value.ref ob1), .val (Value.ref ob20), .val (Value.int (0 : Int32)), .val (Value.int (2 : Int32)), .val (Value.int (0 : Int32)), .val (Value.int (2 : Int32)), .unset] [(Value.int (2 : Int32))]))
          refine own_Go.by (fun tq kq => XS.iconst X38.here hx rfl (hb hby at_122) kq) ?_
          show own_Go p.tables e below _ (T38.setTop (mkF m 123 #[.val (Value.int p1), .val (Value.int p2), .val (Value.int p3), .val (Value.int p4), .val (Value.ref ob1), .val (Value.ref ob20), .val (Value.int (0 : Int32)), .val (Value.int (2 : Int32)), .val (Value.int (0 : Int32)), .val (Value.int (2 : Int32)), .unset] [(Value.int (2 : Int32)), (Value.int (2 : Int32))]))
          refine own_Go.by (fun tq kq => XS.icmpNo X38.here hx rfl (hb hby at_123) rfl (teq (by decide : (2 : Int32) = (2 : Int32))).2 kq) ?_
          show own_Go p.tables e below _ (T38.setTop (mkF m 126 #[.val (Value.int p1), .val (Value.int p2), .val (Value.int p3), .val (Value.int p4), .val (Value.ref ob1), .val (Value.ref ob20), .val (Value.int (0 : Int32)), .val (Value.int (2 : Int32)), .val (Value.int (0 : Int32)), .val (Value.int (2 : Int32)), .unset] []))
          refine own_Go.by (fun tq kq => XS.aload X38.here hx rfl (hb hby at_126) rfl rfl kq) ?_
          show own_Go p.tables e below _ (T38.setTop (mkF m 128 #[.val (Value.int p1), .val (Value.int p2), .val (Value.int p3), .val (Value.int p4), .val (Value.ref ob1), .val (Value.ref ob20), .val (Value.int (0 : Int32)), .val (Value.int (2 : Int32)), .val (Value.int (0 : Int32)), .val (Value.int (2 : Int32)), .unset] [(Value.ref ob1)]))
          refine own_Go.by (fun tq kq => XS.iload X38.here hx rfl (hb hby at_128) rfl kq) ?_
          show own_Go p.tables e below _ (T38.setTop (mkF m 130 #[.val (Value.int p1), .val (Value.int p2), .val (Value.int p3), .val (Value.int p4), .val (Value.ref ob1), .val (Value.ref ob20), .val (Value.int (0 : Int32)), .val (Value.int (2 : Int32)), .val (Value.int (0 : Int32)), .val (Value.int (2 : Int32)), .unset] [(Value.int (0 : Int32)), (Value.ref ob1)]))
          have c39 := (c24.keep K23q (ninS (Nat.ne_of_lt (Nat.lt_of_lt_of_le A1.lt (Nat.le_trans (Keep.of_wr W6).1 (Nat.le_trans (Keep.of_wr W10).1 (Nat.le_trans (Keep.of_wr W14).1 (Nat.le_trans (Keep.of_wr W18).1 (Nat.le_of_eq y20.symm))))))) nin0))
          obtain ⟨cl40, Ar40, q40, S40, M40, Hh40, G40⟩ := id c39
          refine own_Go.by (fun tq kq => X38.caload hx (j := (0 : Int32)) (v := (Value.int r_4)) (by rw [e38]; exact Ar40.1) (State.isArrayOf_alike hZ.alike Ar40.2.1) Ar40.2.2 (inb_of S40 ⟨(by decide : ¬ ((0 : Int32) < (0 : Int32))), (by decide : (0 : Int32) < (4 : Int32))⟩) (Has.at Hh40 (inb_of S40 ⟨(by decide : ¬ ((0 : Int32) < (0 : Int32))), (by decide : (0 : Int32) < (4 : Int32))⟩) (rfl : _ = (Value.int r_4))) (g := (mkF m 130 #[.val (Value.int p1), .val (Value.int p2), .val (Value.int p3), .val (Value.int p4), .val (Value.ref ob1), .val (Value.ref ob20), .val (Value.int (0 : Int32)), .val (Value.int (2 : Int32)), .val (Value.int (0 : Int32)), .val (Value.int (2 : Int32)), .unset] [(Value.int (0 : Int32)), (Value.ref ob1)])) rfl rfl (hb hby at_130) _ kq) ?_
          show own_Go p.tables e below _ (T38.setTop (mkF m 131 #[.val (Value.int p1), .val (Value.int p2), .val (Value.int p3), .val (Value.int p4), .val (Value.ref ob1), .val (Value.ref ob20), .val (Value.int (0 : Int32)), .val (Value.int (2 : Int32)), .val (Value.int (0 : Int32)), .val (Value.int (2 : Int32)), .unset] [(Value.int r_4)]))
          refine own_Go.by (fun tq kq => XS.bipush X38.here hx rfl (hb hby at_131) kq) ?_
          show own_Go p.tables e below _ (T38.setTop (mkF m 133 #[.val (Value.int p1), .val (Value.int p2), .val (Value.int p3), .val (Value.int p4), .val (Value.ref ob1), .val (Value.ref ob20), .val (Value.int (0 : Int32)), .val (Value.int (2 : Int32)), .val (Value.int (0 : Int32)), .val (Value.int (2 : Int32)), .unset] [(Value.int (46 : Int32)), (Value.int r_4)]))
          refine own_Go.by (fun tq kq => XS.icmpNo X38.here hx rfl (hb hby at_133) rfl (teq hdot).2 kq) ?_
          show own_Go p.tables e below _ (T38.setTop (mkF m 136 #[.val (Value.int p1), .val (Value.int p2), .val (Value.int p3), .val (Value.int p4), .val (Value.ref ob1), .val (Value.ref ob20), .val (Value.int (0 : Int32)), .val (Value.int (2 : Int32)), .val (Value.int (0 : Int32)), .val (Value.int (2 : Int32)), .unset] []))
          refine own_Go.by (fun tq kq => XS.aload X38.here hx rfl (hb hby at_136) rfl rfl kq) ?_
          show own_Go p.tables e below _ (T38.setTop (mkF m 138 #[.val (Value.int p1), .val (Value.int p2), .val (Value.int p3), .val (Value.int p4), .val (Value.ref ob1), .val (Value.ref ob20), .val (Value.int (0 : Int32)), .val (Value.int (2 : Int32)), .val (Value.int (0 : Int32)), .val (Value.int (2 : Int32)), .unset] [(Value.ref ob1)]))
          refine own_Go.by (fun tq kq => XS.iload X38.here hx rfl (hb hby at_138) rfl kq) ?_
          show own_Go p.tables e below _ (T38.setTop (mkF m 140 #[.val (Value.int p1), .val (Value.int p2), .val (Value.int p3), .val (Value.int p4), .val (Value.ref ob1), .val (Value.ref ob20), .val (Value.int (0 : Int32)), .val (Value.int (2 : Int32)), .val (Value.int (0 : Int32)), .val (Value.int (2 : Int32)), .unset] [(Value.int (0 : Int32)), (Value.ref ob1)]))
          refine own_Go.by (fun tq kq => XS.iconst X38.here hx rfl (hb hby at_140) kq) ?_
          show own_Go p.tables e below _ (T38.setTop (mkF m 141 #[.val (Value.int p1), .val (Value.int p2), .val (Value.int p3), .val (Value.int p4), .val (Value.ref ob1), .val (Value.ref ob20), .val (Value.int (0 : Int32)), .val (Value.int (2 : Int32)), .val (Value.int (0 : Int32)), .val (Value.int (2 : Int32)), .unset] [(Value.int (1 : Int32)), (Value.int (0 : Int32)), (Value.ref ob1)]))
          refine own_Go.by (fun tq kq => XS.iadd X38.here hx rfl (hb hby at_141) rfl kq) ?_
          show own_Go p.tables e below _ (T38.setTop (mkF m 142 #[.val (Value.int p1), .val (Value.int p2), .val (Value.int p3), .val (Value.int p4), .val (Value.ref ob1), .val (Value.ref ob20), .val (Value.int (0 : Int32)), .val (Value.int (2 : Int32)), .val (Value.int (0 : Int32)), .val (Value.int (2 : Int32)), .unset] [(Value.int (1 : Int32)), (Value.ref ob1)]))
          obtain ⟨cl41, Ar41, q41, S41, M41, Hh41, G41⟩ := id c39
          refine own_Go.by (fun tq kq => X38.caload hx (j := (1 : Int32)) (v := (Value.int r_8)) (by rw [e38]; exact Ar41.1) (State.isArrayOf_alike hZ.alike Ar41.2.1) Ar41.2.2 (inb_of S41 ⟨(by decide : ¬ ((1 : Int32) < (0 : Int32))), (by decide : (1 : Int32) < (4 : Int32))⟩) (Has.at Hh41 (inb_of S41 ⟨(by decide : ¬ ((1 : Int32) < (0 : Int32))), (by decide : (1 : Int32) < (4 : Int32))⟩) (rfl : _ = (Value.int r_8))) (g := (mkF m 142 #[.val (Value.int p1), .val (Value.int p2), .val (Value.int p3), .val (Value.int p4), .val (Value.ref ob1), .val (Value.ref ob20), .val (Value.int (0 : Int32)), .val (Value.int (2 : Int32)), .val (Value.int (0 : Int32)), .val (Value.int (2 : Int32)), .unset] [(Value.int (1 : Int32)), (Value.ref ob1)])) rfl rfl (hb hby at_142) _ kq) ?_
          show own_Go p.tables e below _ (T38.setTop (mkF m 143 #[.val (Value.int p1), .val (Value.int p2), .val (Value.int p3), .val (Value.int p4), .val (Value.ref ob1), .val (Value.ref ob20), .val (Value.int (0 : Int32)), .val (Value.int (2 : Int32)), .val (Value.int (0 : Int32)), .val (Value.int (2 : Int32)), .unset] [(Value.int r_8)]))
          refine own_Go.by (fun tq kq => XS.bipush X38.here hx rfl (hb hby at_143) kq) ?_
          show own_Go p.tables e below _ (T38.setTop (mkF m 145 #[.val (Value.int p1), .val (Value.int p2), .val (Value.int p3), .val (Value.int p4), .val (Value.ref ob1), .val (Value.ref ob20), .val (Value.int (0 : Int32)), .val (Value.int (2 : Int32)), .val (Value.int (0 : Int32)), .val (Value.int (2 : Int32)), .unset] [(Value.int (46 : Int32)), (Value.int r_8)]))
          refine own_Go.by (fun tq kq => XS.icmpYes X38.here hx rfl (pc0 := 145) (pc' := 152) rfl (hb hby at_145) rfl (feq hdot2).2 (by decide) (by decide) kq) ?_
          show own_Go p.tables e below _ (T38.setTop (mkF m 152 #[.val (Value.int p1), .val (Value.int p2), .val (Value.int p3), .val (Value.int p4), .val (Value.ref ob1), .val (Value.ref ob20), .val (Value.int (0 : Int32)), .val (Value.int (2 : Int32)), .val (Value.int (0 : Int32)), .val (Value.int (2 : Int32)), .unset] []))
          refine own_Go.by (fun tq kq => XS.iconst X38.here hx rfl (hb hby at_152) kq) ?_
          show own_Go p.tables e below _ (T38.setTop (mkF m 153 #[.val (Value.int p1), .val (Value.int p2), .val (Value.int p3), .val (Value.int p4), .val (Value.ref ob1), .val (Value.ref ob20), .val (Value.int (0 : Int32)), .val (Value.int (2 : Int32)), .val (Value.int (0 : Int32)), .val (Value.int (2 : Int32)), .unset] [(Value.int (0 : Int32))]))
          refine own_Go.by (fun tq kq => XS.istore X38.here hx rfl (hb hby at_153) rfl (l' := #[.val (Value.int p1), .val (Value.int p2), .val (Value.int p3), .val (Value.int p4), .val (Value.ref ob1), .val (Value.ref ob20), .val (Value.int (0 : Int32)), .val (Value.int (2 : Int32)), .val (Value.int (0 : Int32)), .val (Value.int (2 : Int32)), .val (Value.int (0 : Int32))]) rfl kq) ?_
          show own_Go p.tables e below _ (T38.setTop (mkF m 155 #[.val (Value.int p1), .val (Value.int p2), .val (Value.int p3), .val (Value.int p4), .val (Value.ref ob1), .val (Value.ref ob20), .val (Value.int (0 : Int32)), .val (Value.int (2 : Int32)), .val (Value.int (0 : Int32)), .val (Value.int (2 : Int32)), .val (Value.int (0 : Int32))] []))
          refine own_Go.by (fun tq kq => XS.goto X38.here hx rfl (pc0 := 155) (pc' := 161) rfl (hb hby at_155) (by decide) (by decide) kq) ?_
          show own_Go p.tables e below _ (T38.setTop (mkF m 161 #[.val (Value.int p1), .val (Value.int p2), .val (Value.int p3), .val (Value.int p4), .val (Value.ref ob1), .val (Value.ref ob20), .val (Value.int (0 : Int32)), .val (Value.int (2 : Int32)), .val (Value.int (0 : Int32)), .val (Value.int (2 : Int32)), .val (Value.int (0 : Int32))] []))
          refine own_Go.by (fun tq kq => XS.iload X38.here hx rfl (hb hby at_161) rfl kq) ?_
          show own_Go p.tables e below _ (T38.setTop (mkF m 163 #[.val (Value.int p1), .val (Value.int p2), .val (Value.int p3), .val (Value.int p4), .val (Value.ref ob1), .val (Value.ref ob20), .val (Value.int (0 : Int32)), .val (Value.int (2 : Int32)), .val (Value.int (0 : Int32)), .val (Value.int (2 : Int32)), .val (Value.int (0 : Int32))] [(Value.int (0 : Int32))]))
          refine own_Go.by (fun tq kq => XS.iload X38.here hx rfl (hb hby at_163) rfl kq) ?_
          show own_Go p.tables e below _ (T38.setTop (mkF m 165 #[.val (Value.int p1), .val (Value.int p2), .val (Value.int p3), .val (Value.int p4), .val (Value.ref ob1), .val (Value.ref ob20), .val (Value.int (0 : Int32)), .val (Value.int (2 : Int32)), .val (Value.int (0 : Int32)), .val (Value.int (2 : Int32)), .val (Value.int (0 : Int32))] [(Value.int (0 : Int32)), (Value.int (0 : Int32))]))
          refine own_Go.by (fun tq kq => XS.icmpNo X38.here hx rfl (hb hby at_165) rfl (teq (by decide : (0 : Int32) = (0 : Int32))).2 kq) ?_
          show own_Go p.tables e below _ (T38.setTop (mkF m 168 #[.val (Value.int p1), .val (Value.int p2), .val (Value.int p3), .val (Value.int p4), .val (Value.ref ob1), .val (Value.ref ob20), .val (Value.int (0 : Int32)), .val (Value.int (2 : Int32)), .val (Value.int (0 : Int32)), .val (Value.int (2 : Int32)), .val (Value.int (0 : Int32))] []))
          refine own_Go.by (fun tq kq => XS.iconst X38.here hx rfl (hb hby at_168) kq) ?_
          show own_Go p.tables e below _ (T38.setTop (mkF m 169 #[.val (Value.int p1), .val (Value.int p2), .val (Value.int p3), .val (Value.int p4), .val (Value.ref ob1), .val (Value.ref ob20), .val (Value.int (0 : Int32)), .val (Value.int (2 : Int32)), .val (Value.int (0 : Int32)), .val (Value.int (2 : Int32)), .val (Value.int (0 : Int32))] [(Value.int (1 : Int32))]))
          refine own_Go.by (fun tq kq => XS.goto X38.here hx rfl (pc0 := 169) (pc' := 173) rfl (hb hby at_169) (by decide) (by decide) kq) ?_
          show own_Go p.tables e below _ (T38.setTop (mkF m 173 #[.val (Value.int p1), .val (Value.int p2), .val (Value.int p3), .val (Value.int p4), .val (Value.ref ob1), .val (Value.ref ob20), .val (Value.int (0 : Int32)), .val (Value.int (2 : Int32)), .val (Value.int (0 : Int32)), .val (Value.int (2 : Int32)), .val (Value.int (0 : Int32))] [(Value.int (1 : Int32))]))
          obtain ⟨fs, hr, hrun, hended, hW, hsame⟩ := X38.leave (v := some (Value.int (nar .boolean (1 : Int32)))) (fun h => by rw [Bd.returns] at h; cases h)
          refine own_Go.fin (retN X38 hx (t := .boolean) Bd.returns (by simp) (hb hby at_173) hr) ⟨hrun, hended, _, _, rfl, ?_, ⟨_, rfl⟩, hW, hsame.mono (by decide) (by decide)⟩
          show Q0 Z p1 p2 p3 p4 zc vf h0 n0 _ T38.heap _
          rw [e38]
          exact ⟨rfl, N38, K25⟩
      ·
        show own_Go p.tables e below _ (T23.setTop (mkF m 76 #[.val (Value.int p1), .val (Value.int p2), .val (Value.int p3), .val (Value.int p4), .val (Value.ref ob1), .val (Value.ref ob20), .val (Value.int (0 : Int32)), .val (Value.int (2 : Int32)), .unset, .unset, .unset] []))
        refine own_Go.by (fun tq kq => XS.aload X23.here hx rfl (hb hby at_76) rfl rfl kq) ?_
        show own_Go p.tables e below _ (T23.setTop (mkF m 78 #[.val (Value.int p1), .val (Value.int p2), .val (Value.int p3), .val (Value.int p4), .val (Value.ref ob1), .val (Value.ref ob20), .val (Value.int (0 : Int32)), .val (Value.int (2 : Int32)), .unset, .unset, .unset] [(Value.ref ob20)]))
        refine own_Go.by (fun tq kq => XS.iload X23.here hx rfl (hb hby at_78) rfl kq) ?_
        show own_Go p.tables e below _ (T23.setTop (mkF m 80 #[.val (Value.int p1), .val (Value.int p2), .val (Value.int p3), .val (Value.int p4), .val (Value.ref ob1), .val (Value.ref ob20), .val (Value.int (0 : Int32)), .val (Value.int (2 : Int32)), .unset, .unset, .unset] [(Value.int (0 : Int32)), (Value.ref ob20)]))
        refine own_Go.by (fun tq kq => XS.iload X23.here hx rfl (hb hby at_80) rfl kq) ?_
        show own_Go p.tables e below _ (T23.setTop (mkF m 82 #[.val (Value.int p1), .val (Value.int p2), .val (Value.int p3), .val (Value.int p4), .val (Value.ref ob1), .val (Value.ref ob20), .val (Value.int (0 : Int32)), .val (Value.int (2 : Int32)), .unset, .unset, .unset] [(Value.int (2 : Int32)), (Value.int (0 : Int32)), (Value.ref ob20)]))
        obtain ⟨_, _, ⟨T42, L42, k42, n42⟩, -, X42, ⟨Lc42, hQ42, l42, y42, z42⟩, st42⟩ := Jvm.LawKit.callS X23 hx (y := (⟨"com/example/enlace/enlace/DotSegments", "isDotSegment", "(Ljava/lang/String;II)Z"⟩ : MethodName)) hown (mvT hZ (hw _ (List.mem_of_getElem? (i := 35) rfl))) (mvT hZ (hw _ (List.mem_of_getElem? (i := 36) rfl))) (mvT hZ (hw _ (List.mem_of_getElem? (i := 37) rfl))) (mvT hZ (hw _ (List.mem_of_getElem? (i := 38) rfl))) (by decide) (backOf (W := 0) (rm8_0_2_f l Z a0 hw [] ob20 t23 kb23 r_4 r_8 r_12 r_16 zc vf T23.heap n0 O25 E23q V23q C23q A23q (hp23 : ∀ c ∈ ([r_4, r_8, r_12, r_16] : List Int32), ¬ c < 0 ∧ ¬ (255 : Int32) < c) H0 H1 (hzc : ¬ (zc = (0 : Int32))) (rvf : vf.isRef = true) hdot) hZ (hw _ (List.mem_of_getElem? (i := 38) rfl)) (hw _ (List.mem_of_getElem? (i := 37) rfl)) (by decide) (by decide)) (g := (mkF m 82 #[.val (Value.int p1), .val (Value.int p2), .val (Value.int p3), .val (Value.int p4), .val (Value.ref ob1), .val (Value.ref ob20), .val (Value.int (0 : Int32)), .val (Value.int (2 : Int32)), .unset, .unset, .unset] [(Value.int (2 : Int32)), (Value.int (0 : Int32)), (Value.ref ob20)])) rfl (by rw [hml]; rfl) (argsL := [(Value.ref ob20), (Value.int (0 : Int32)), (Value.int (2 : Int32))]) (rest := []) (lenOf own_pd2 rfl) rfl (by show 2 * 0 + _ ≤ _; exact Nat.le_of_eq rfl) (hb hby at_82) (fun _ _ => ⟨rfl, rfl, (by decide : 3 + 0 ≤ _), (by decide : 12 + 0 ≤ _)⟩)
        dsimp only [Pt.U, Pt.locs, Pt.cells, Pt.slots] at X42 l42 y42 z42 st42 hQ42
        subst l42 y42 z42
        refine own_Go.by st42 ?_
        obtain ⟨rfl, N42q, e42⟩ := hQ42
        have N42 := Fr.app N23 N42q
        show own_Go p.tables e below _ (T42.setTop (mkF m 85 #[.val (Value.int p1), .val (Value.int p2), .val (Value.int p3), .val (Value.int p4), .val (Value.ref ob1), .val (Value.ref ob20), .val (Value.int (0 : Int32)), .val (Value.int (2 : Int32)), .unset, .unset, .unset] [(Value.int (0 : Int32))]))
        refine own_Go.by (fun tq kq => XS.istore X42.here hx rfl (hb hby at_85) rfl (l' := #[.val (Value.int p1), .val (Value.int p2), .val (Value.int p3), .val (Value.int p4), .val (Value.ref ob1), .val (Value.ref ob20), .val (Value.int (0 : Int32)), .val (Value.int (2 : Int32)), .val (Value.int (0 : Int32)), .unset, .unset]) rfl kq) ?_
        show own_Go p.tables e below _ (T42.setTop (mkF m 87 #[.val (Value.int p1), .val (Value.int p2), .val (Value.int p3), .val (Value.int p4), .val (Value.ref ob1), .val (Value.ref ob20), .val (Value.int (0 : Int32)), .val (Value.int (2 : Int32)), .val (Value.int (0 : Int32)), .unset, .unset] []))
        refine own_Go.by (fun tq kq => XS.iload X42.here hx rfl (hb hby at_87) rfl kq) ?_
        show own_Go p.tables e below _ (T42.setTop (mkF m 89 #[.val (Value.int p1), .val (Value.int p2), .val (Value.int p3), .val (Value.int p4), .val (Value.ref ob1), .val (Value.ref ob20), .val (Value.int (0 : Int32)), .val (Value.int (2 : Int32)), .val (Value.int (0 : Int32)), .unset, .unset] [(Value.int (2 : Int32))]))
        refine own_Go.by (fun tq kq => XS.iload X42.here hx rfl (hb hby at_89) rfl kq) ?_
        show own_Go p.tables e below _ (T42.setTop (mkF m 91 #[.val (Value.int p1), .val (Value.int p2), .val (Value.int p3), .val (Value.int p4), .val (Value.ref ob1), .val (Value.ref ob20), .val (Value.int (0 : Int32)), .val (Value.int (2 : Int32)), .val (Value.int (0 : Int32)), .unset, .unset] [(Value.int (0 : Int32)), (Value.int (2 : Int32))]))
        refine own_Go.by (fun tq kq => XS.isub X42.here hx rfl (hb hby at_91) rfl kq) ?_
        show own_Go p.tables e below _ (T42.setTop (mkF m 92 #[.val (Value.int p1), .val (Value.int p2), .val (Value.int p3), .val (Value.int p4), .val (Value.ref ob1), .val (Value.ref ob20), .val (Value.int (0 : Int32)), .val (Value.int (2 : Int32)), .val (Value.int (0 : Int32)), .unset, .unset] [(Value.int (2 : Int32))]))
        refine own_Go.by (fun tq kq => XS.istore X42.here hx rfl (hb hby at_92) rfl (l' := #[.val (Value.int p1), .val (Value.int p2), .val (Value.int p3), .val (Value.int p4), .val (Value.ref ob1), .val (Value.ref ob20), .val (Value.int (0 : Int32)), .val (Value.int (2 : Int32)), .val (Value.int (0 : Int32)), .val (Value.int (2 : Int32)), .unset]) rfl kq) ?_
        show own_Go p.tables e below _ (T42.setTop (mkF m 94 #[.val (Value.int p1), .val (Value.int p2), .val (Value.int p3), .val (Value.int p4), .val (Value.ref ob1), .val (Value.ref ob20), .val (Value.int (0 : Int32)), .val (Value.int (2 : Int32)), .val (Value.int (0 : Int32)), .val (Value.int (2 : Int32)), .unset] []))
        refine own_Go.by (fun tq kq => XS.iload X42.here hx rfl (hb hby at_94) rfl kq) ?_
        show own_Go p.tables e below _ (T42.setTop (mkF m 96 #[.val (Value.int p1), .val (Value.int p2), .val (Value.int p3), .val (Value.int p4), .val (Value.ref ob1), .val (Value.ref ob20), .val (Value.int (0 : Int32)), .val (Value.int (2 : Int32)), .val (Value.int (0 : Int32)), .val (Value.int (2 : Int32)), .unset] [(Value.int (2 : Int32))]))
        refine own_Go.by (fun tq kq => XS.iconst X42.here hx rfl (hb hby at_96) kq) ?_
        show own_Go p.tables e below _ (T42.setTop (mkF m 97 #[.val (Value.int p1), .val (Value.int p2), .val (Value.int p3), .val (Value.int p4), .val (Value.ref ob1), .val (Value.ref ob20), .val (Value.int (0 : Int32)), .val (Value.int (2 : Int32)), .val (Value.int (0 : Int32)), .val (Value.int (2 : Int32)), .unset] [(Value.int (1 : Int32)), (Value.int (2 : Int32))]))
        refine own_Go.by (fun tq kq => XS.icmpYes X42.here hx rfl (pc0 := 97) (pc' := 120) rfl (hb hby at_97) rfl (feq (by decide : ¬ ((2 : Int32) = (1 : Int32)))).2 (by decide) (by decide) kq) ?_
        show own_Go p.tables e below _ (T42.setTop (mkF m 120 #[.val (Value.int p1), .val (Value.int p2), .val (Value.int p3), .val (Value.int p4), .val (Value.ref ob1), .val (Value.ref ob20), .val (Value.int (0 : Int32)), .val (Value.int (2 : Int32)), .val (Value.int (0 : Int32)), .val (Value.int (2 : Int32)), .unset] []))
        refine own_Go.by (fun tq kq => XS.iload X42.here hx rfl (hb hby at_120) rfl kq) ?_
        show own_Go p.tables e below _ (T42.setTop (mkF m 122 #[.val (Value.int p1), .val (Value.int p2), .val (Value.int p3), .val (Value.int p4), .val (Value.ref ob1), .val (Value.ref ob20), .val (Value.int (0 : Int32)), .val (Value.int (2 : Int32)), .val (Value.int (0 : Int32)), .val (Value.int (2 : Int32)), .unset] [(Value.int (2 : Int32))]))
        refine own_Go.by (fun tq kq => XS.iconst X42.here hx rfl (hb hby at_122) kq) ?_
        show own_Go p.tables e below _ (T42.setTop (mkF m 123 #[.val (Value.int p1), .val (Value.int p2), .val (Value.int p3), .val (Value.int p4), .val (Value.ref ob1), .val (Value.ref ob20), .val (Value.int (0 : Int32)), .val (Value.int (2 : Int32)), .val (Value.int (0 : Int32)), .val (Value.int (2 : Int32)), .unset] [(Value.int (2 : Int32)), (Value.int (2 : Int32))]))
        refine own_Go.by (fun tq kq => XS.icmpNo X42.here hx rfl (hb hby at_123) rfl (teq (by decide : (2 : Int32) = (2 : Int32))).2 kq) ?_
        show own_Go p.tables e below _ (T42.setTop (mkF m 126 #[.val (Value.int p1), .val (Value.int p2), .val (Value.int p3), .val (Value.int p4), .val (Value.ref ob1), .val (Value.ref ob20), .val (Value.int (0 : Int32)), .val (Value.int (2 : Int32)), .val (Value.int (0 : Int32)), .val (Value.int (2 : Int32)), .unset] []))
        refine own_Go.by (fun tq kq => XS.aload X42.here hx rfl (hb hby at_126) rfl rfl kq) ?_
        show own_Go p.tables e below _ (T42.setTop (mkF m 128 #[.val (Value.int p1), .val (Value.int p2), .val (Value.int p3), .val (Value.int p4), .val (Value.ref ob1), .val (Value.ref ob20), .val (Value.int (0 : Int32)), .val (Value.int (2 : Int32)), .val (Value.int (0 : Int32)), .val (Value.int (2 : Int32)), .unset] [(Value.ref ob1)]))
        refine own_Go.by (fun tq kq => XS.iload X42.here hx rfl (hb hby at_128) rfl kq) ?_
        show own_Go p.tables e below _ (T42.setTop (mkF m 130 #[.val (Value.int p1), .val (Value.int p2), .val (Value.int p3), .val (Value.int p4), .val (Value.ref ob1), .val (Value.ref ob20), .val (Value.int (0 : Int32)), .val (Value.int (2 : Int32)), .val (Value.int (0 : Int32)), .val (Value.int (2 : Int32)), .unset] [(Value.int (0 : Int32)), (Value.ref ob1)]))
        have c43 := (c24.keep K23q (ninS (Nat.ne_of_lt (Nat.lt_of_lt_of_le A1.lt (Nat.le_trans (Keep.of_wr W6).1 (Nat.le_trans (Keep.of_wr W10).1 (Nat.le_trans (Keep.of_wr W14).1 (Nat.le_trans (Keep.of_wr W18).1 (Nat.le_of_eq y20.symm))))))) nin0))
        obtain ⟨cl44, Ar44, q44, S44, M44, Hh44, G44⟩ := id c43
        refine own_Go.by (fun tq kq => X42.caload hx (j := (0 : Int32)) (v := (Value.int r_4)) (by rw [e42]; exact Ar44.1) (State.isArrayOf_alike hZ.alike Ar44.2.1) Ar44.2.2 (inb_of S44 ⟨(by decide : ¬ ((0 : Int32) < (0 : Int32))), (by decide : (0 : Int32) < (4 : Int32))⟩) (Has.at Hh44 (inb_of S44 ⟨(by decide : ¬ ((0 : Int32) < (0 : Int32))), (by decide : (0 : Int32) < (4 : Int32))⟩) (rfl : _ = (Value.int r_4))) (g := (mkF m 130 #[.val (Value.int p1), .val (Value.int p2), .val (Value.int p3), .val (Value.int p4), .val (Value.ref ob1), .val (Value.ref ob20), .val (Value.int (0 : Int32)), .val (Value.int (2 : Int32)), .val (Value.int (0 : Int32)), .val (Value.int (2 : Int32)), .unset] [(Value.int (0 : Int32)), (Value.ref ob1)])) rfl rfl (hb hby at_130) _ kq) ?_
        show own_Go p.tables e below _ (T42.setTop (mkF m 131 #[.val (Value.int p1), .val (Value.int p2), .val (Value.int p3), .val (Value.int p4), .val (Value.ref ob1), .val (Value.ref ob20), .val (Value.int (0 : Int32)), .val (Value.int (2 : Int32)), .val (Value.int (0 : Int32)), .val (Value.int (2 : Int32)), .unset] [(Value.int r_4)]))
        refine own_Go.by (fun tq kq => XS.bipush X42.here hx rfl (hb hby at_131) kq) ?_
        show own_Go p.tables e below _ (T42.setTop (mkF m 133 #[.val (Value.int p1), .val (Value.int p2), .val (Value.int p3), .val (Value.int p4), .val (Value.ref ob1), .val (Value.ref ob20), .val (Value.int (0 : Int32)), .val (Value.int (2 : Int32)), .val (Value.int (0 : Int32)), .val (Value.int (2 : Int32)), .unset] [(Value.int (46 : Int32)), (Value.int r_4)]))
        refine own_Go.by (fun tq kq => XS.icmpYes X42.here hx rfl (pc0 := 133) (pc' := 152) rfl (hb hby at_133) rfl (feq hdot).2 (by decide) (by decide) kq) ?_
        show own_Go p.tables e below _ (T42.setTop (mkF m 152 #[.val (Value.int p1), .val (Value.int p2), .val (Value.int p3), .val (Value.int p4), .val (Value.ref ob1), .val (Value.ref ob20), .val (Value.int (0 : Int32)), .val (Value.int (2 : Int32)), .val (Value.int (0 : Int32)), .val (Value.int (2 : Int32)), .unset] []))
        refine own_Go.by (fun tq kq => XS.iconst X42.here hx rfl (hb hby at_152) kq) ?_
        show own_Go p.tables e below _ (T42.setTop (mkF m 153 #[.val (Value.int p1), .val (Value.int p2), .val (Value.int p3), .val (Value.int p4), .val (Value.ref ob1), .val (Value.ref ob20), .val (Value.int (0 : Int32)), .val (Value.int (2 : Int32)), .val (Value.int (0 : Int32)), .val (Value.int (2 : Int32)), .unset] [(Value.int (0 : Int32))]))
        refine own_Go.by (fun tq kq => XS.istore X42.here hx rfl (hb hby at_153) rfl (l' := #[.val (Value.int p1), .val (Value.int p2), .val (Value.int p3), .val (Value.int p4), .val (Value.ref ob1), .val (Value.ref ob20), .val (Value.int (0 : Int32)), .val (Value.int (2 : Int32)), .val (Value.int (0 : Int32)), .val (Value.int (2 : Int32)), .val (Value.int (0 : Int32))]) rfl kq) ?_
        show own_Go p.tables e below _ (T42.setTop (mkF m 155 #[.val (Value.int p1), .val (Value.int p2), .val (Value.int p3), .val (Value.int p4), .val (Value.ref ob1), .val (Value.ref ob20), .val (Value.int (0 : Int32)), .val (Value.int (2 : Int32)), .val (Value.int (0 : Int32)), .val (Value.int (2 : Int32)), .val (Value.int (0 : Int32))] []))
        refine own_Go.by (fun tq kq => XS.goto X42.here hx rfl (pc0 := 155) (pc' := 161) rfl (hb hby at_155) (by decide) (by decide) kq) ?_
        show own_Go p.tables e below _ (T42.setTop (mkF m 161 #[.val (Value.int p1), .val (Value.int p2), .val (Value.int p3), .val (Value.int p4), .val (Value.ref ob1), .val (Value.ref ob20), .val (Value.int (0 : Int32)), .val (Value.int (2 : Int32)), .val (Value.int (0 : Int32)), .val (Value.int (2 : Int32)), .val (Value.int (0 : Int32))] []))
        refine own_Go.by (fun tq kq => XS.iload X42.here hx rfl (hb hby at_161) rfl kq) ?_
        show own_Go p.tables e below _ (T42.setTop (mkF m 163 #[.val (Value.int p1), .val (Value.int p2), .val (Value.int p3), .val (Value.int p4), .val (Value.ref ob1), .val (Value.ref ob20), .val (Value.int (0 : Int32)), .val (Value.int (2 : Int32)), .val (Value.int (0 : Int32)), .val (Value.int (2 : Int32)), .val (Value.int (0 : Int32))] [(Value.int (0 : Int32))]))
        refine own_Go.by (fun tq kq => XS.iload X42.here hx rfl (hb hby at_163) rfl kq) ?_
        show own_Go p.tables e below _ (T42.setTop (mkF m 165 #[.val (Value.int p1), .val (Value.int p2), .val (Value.int p3), .val (Value.int p4), .val (Value.ref ob1), .val (Value.ref ob20), .val (Value.int (0 : Int32)), .val (Value.int (2 : Int32)), .val (Value.int (0 : Int32)), .val (Value.int (2 : Int32)), .val (Value.int (0 : Int32))] [(Value.int (0 : Int32)), (Value.int (0 : Int32))]))
        refine own_Go.by (fun tq kq => XS.icmpNo X42.here hx rfl (hb hby at_165) rfl (teq (by decide : (0 : Int32) = (0 : Int32))).2 kq) ?_
        show own_Go p.tables e below _ (T42.setTop (mkF m 168 #[.val (Value.int p1), .val (Value.int p2), .val (Value.int p3), .val (Value.int p4), .val (Value.ref ob1), .val (Value.ref ob20), .val (Value.int (0 : Int32)), .val (Value.int (2 : Int32)), .val (Value.int (0 : Int32)), .val (Value.int (2 : Int32)), .val (Value.int (0 : Int32))] []))
        refine own_Go.by (fun tq kq => XS.iconst X42.here hx rfl (hb hby at_168) kq) ?_
        show own_Go p.tables e below _ (T42.setTop (mkF m 169 #[.val (Value.int p1), .val (Value.int p2), .val (Value.int p3), .val (Value.int p4), .val (Value.ref ob1), .val (Value.ref ob20), .val (Value.int (0 : Int32)), .val (Value.int (2 : Int32)), .val (Value.int (0 : Int32)), .val (Value.int (2 : Int32)), .val (Value.int (0 : Int32))] [(Value.int (1 : Int32))]))
        refine own_Go.by (fun tq kq => XS.goto X42.here hx rfl (pc0 := 169) (pc' := 173) rfl (hb hby at_169) (by decide) (by decide) kq) ?_
        show own_Go p.tables e below _ (T42.setTop (mkF m 173 #[.val (Value.int p1), .val (Value.int p2), .val (Value.int p3), .val (Value.int p4), .val (Value.ref ob1), .val (Value.ref ob20), .val (Value.int (0 : Int32)), .val (Value.int (2 : Int32)), .val (Value.int (0 : Int32)), .val (Value.int (2 : Int32)), .val (Value.int (0 : Int32))] [(Value.int (1 : Int32))]))
        obtain ⟨fs, hr, hrun, hended, hW, hsame⟩ := X42.leave (v := some (Value.int (nar .boolean (1 : Int32)))) (fun h => by rw [Bd.returns] at h; cases h)
        refine own_Go.fin (retN X42 hx (t := .boolean) Bd.returns (by simp) (hb hby at_173) hr) ⟨hrun, hended, _, _, rfl, ?_, ⟨_, rfl⟩, hW, hsame.mono (by decide) (by decide)⟩
        show Q0 Z p1 p2 p3 p4 zc vf h0 n0 _ T42.heap _
        rw [e42]
        exact ⟨rfl, N42, K25⟩
    ·
      subst hq_rr
      show own_Go p.tables e below _ (T23.setTop (mkF m 73 #[.val (Value.int p1), .val (Value.int p2), .val (Value.int p3), .val (Value.int p4), .val (Value.ref ob1), .val (Value.ref ob20), .val (Value.int (0 : Int32)), .unset, .unset, .unset, .unset] [(Value.int (3 : Int32)), (Value.int (0 : Int32))]))
      refine own_Go.by (fun tq kq => XS.iadd X23.here hx rfl (hb hby at_73) rfl kq) ?_
      show own_Go p.tables e below _ (T23.setTop (mkF m 74 #[.val (Value.int p1), .val (Value.int p2), .val (Value.int p3), .val (Value.int p4), .val (Value.ref ob1), .val (Value.ref ob20), .val (Value.int (0 : Int32)), .unset, .unset, .unset, .unset] [(Value.int (3 : Int32))]))
      refine own_Go.by (fun tq kq => XS.istore X23.here hx rfl (hb hby at_74) rfl (l' := #[.val (Value.int p1), .val (Value.int p2), .val (Value.int p3), .val (Value.int p4), .val (Value.ref ob1), .val (Value.ref ob20), .val (Value.int (0 : Int32)), .val (Value.int (3 : Int32)), .unset, .unset, .unset]) rfl kq) ?_
      show own_Go p.tables e below _ (T23.setTop (mkF m 76 #[.val (Value.int p1), .val (Value.int p2), .val (Value.int p3), .val (Value.int p4), .val (Value.ref ob1), .val (Value.ref ob20), .val (Value.int (0 : Int32)), .val (Value.int (3 : Int32)), .unset, .unset, .unset] []))
      refine own_Go.by (fun tq kq => XS.aload X23.here hx rfl (hb hby at_76) rfl rfl kq) ?_
      show own_Go p.tables e below _ (T23.setTop (mkF m 78 #[.val (Value.int p1), .val (Value.int p2), .val (Value.int p3), .val (Value.int p4), .val (Value.ref ob1), .val (Value.ref ob20), .val (Value.int (0 : Int32)), .val (Value.int (3 : Int32)), .unset, .unset, .unset] [(Value.ref ob20)]))
      refine own_Go.by (fun tq kq => XS.iload X23.here hx rfl (hb hby at_78) rfl kq) ?_
      show own_Go p.tables e below _ (T23.setTop (mkF m 80 #[.val (Value.int p1), .val (Value.int p2), .val (Value.int p3), .val (Value.int p4), .val (Value.ref ob1), .val (Value.ref ob20), .val (Value.int (0 : Int32)), .val (Value.int (3 : Int32)), .unset, .unset, .unset] [(Value.int (0 : Int32)), (Value.ref ob20)]))
      refine own_Go.by (fun tq kq => XS.iload X23.here hx rfl (hb hby at_80) rfl kq) ?_
      show own_Go p.tables e below _ (T23.setTop (mkF m 82 #[.val (Value.int p1), .val (Value.int p2), .val (Value.int p3), .val (Value.int p4), .val (Value.ref ob1), .val (Value.ref ob20), .val (Value.int (0 : Int32)), .val (Value.int (3 : Int32)), .unset, .unset, .unset] [(Value.int (3 : Int32)), (Value.int (0 : Int32)), (Value.ref ob20)]))
      obtain ⟨_, _, ⟨T45, L45, k45, n45⟩, -, X45, ⟨Lc45, hQ45, l45, y45, z45⟩, st45⟩ := Jvm.LawKit.callS X23 hx (y := (⟨"com/example/enlace/enlace/DotSegments", "isDotSegment", "(Ljava/lang/String;II)Z"⟩ : MethodName)) hown (mvT hZ (hw _ (List.mem_of_getElem? (i := 35) rfl))) (mvT hZ (hw _ (List.mem_of_getElem? (i := 36) rfl))) (mvT hZ (hw _ (List.mem_of_getElem? (i := 37) rfl))) (mvT hZ (hw _ (List.mem_of_getElem? (i := 38) rfl))) (by decide) (backOf (W := 0) (rm8_0_3_x l Z a0 hw [] ob20 t23 kb23 r_4 r_8 r_12 r_16 zc vf T23.heap n0 O25 E23q V23q C23q A23q (hp23 : ∀ c ∈ ([r_4, r_8, r_12, r_16] : List Int32), ¬ c < 0 ∧ ¬ (255 : Int32) < c) H0 H1 (hzc : ¬ (zc = (0 : Int32))) (rvf : vf.isRef = true)) hZ (hw _ (List.mem_of_getElem? (i := 38) rfl)) (hw _ (List.mem_of_getElem? (i := 37) rfl)) (by decide) (by decide)) (g := (mkF m 82 #[.val (Value.int p1), .val (Value.int p2), .val (Value.int p3), .val (Value.int p4), .val (Value.ref ob1), .val (Value.ref ob20), .val (Value.int (0 : Int32)), .val (Value.int (3 : Int32)), .unset, .unset, .unset] [(Value.int (3 : Int32)), (Value.int (0 : Int32)), (Value.ref ob20)])) rfl (by rw [hml]; rfl) (argsL := [(Value.ref ob20), (Value.int (0 : Int32)), (Value.int (3 : Int32))]) (rest := []) (lenOf own_pd2 rfl) rfl (by show 2 * 0 + _ ≤ _; exact Nat.le_of_eq rfl) (hb hby at_82) (fun _ _ => ⟨rfl, rfl, (by decide : 3 + 0 ≤ _), (by decide : 12 + 0 ≤ _)⟩)
      dsimp only [Pt.U, Pt.locs, Pt.cells, Pt.slots] at X45 l45 y45 z45 st45 hQ45
      subst l45 y45 z45
      refine own_Go.by st45 ?_
      obtain ⟨rfl, N45q, e45⟩ := hQ45
      have N45 := Fr.app N23 N45q
      show own_Go p.tables e below _ (T45.setTop (mkF m 85 #[.val (Value.int p1), .val (Value.int p2), .val (Value.int p3), .val (Value.int p4), .val (Value.ref ob1), .val (Value.ref ob20), .val (Value.int (0 : Int32)), .val (Value.int (3 : Int32)), .unset, .unset, .unset] [(Value.int (0 : Int32))]))
      refine own_Go.by (fun tq kq => XS.istore X45.here hx rfl (hb hby at_85) rfl (l' := #[.val (Value.int p1), .val (Value.int p2), .val (Value.int p3), .val (Value.int p4), .val (Value.ref ob1), .val (Value.ref ob20), .val (Value.int (0 : Int32)), .val (Value.int (3 : Int32)), .val (Value.int (0 : Int32)), .unset, .unset]) rfl kq) ?_
      show own_Go p.tables e below _ (T45.setTop (mkF m 87 #[.val (Value.int p1), .val (Value.int p2), .val (Value.int p3), .val (Value.int p4), .val (Value.ref ob1), .val (Value.ref ob20), .val (Value.int (0 : Int32)), .val (Value.int (3 : Int32)), .val (Value.int (0 : Int32)), .unset, .unset] []))
      refine own_Go.by (fun tq kq => XS.iload X45.here hx rfl (hb hby at_87) rfl kq) ?_
      show own_Go p.tables e below _ (T45.setTop (mkF m 89 #[.val (Value.int p1), .val (Value.int p2), .val (Value.int p3), .val (Value.int p4), .val (Value.ref ob1), .val (Value.ref ob20), .val (Value.int (0 : Int32)), .val (Value.int (3 : Int32)), .val (Value.int (0 : Int32)), .unset, .unset] [(Value.int (3 : Int32))]))
      refine own_Go.by (fun tq kq => XS.iload X45.here hx rfl (hb hby at_89) rfl kq) ?_
      show own_Go p.tables e below _ (T45.setTop (mkF m 91 #[.val (Value.int p1), .val (Value.int p2), .val (Value.int p3), .val (Value.int p4), .val (Value.ref ob1), .val (Value.ref ob20), .val (Value.int (0 : Int32)), .val (Value.int (3 : Int32)), .val (Value.int (0 : Int32)), .unset, .unset] [(Value.int (0 : Int32)), (Value.int (3 : Int32))]))
      refine own_Go.by (fun tq kq => XS.isub X45.here hx rfl (hb hby at_91) rfl kq) ?_
      show own_Go p.tables e below _ (T45.setTop (mkF m 92 #[.val (Value.int p1), .val (Value.int p2), .val (Value.int p3), .val (Value.int p4), .val (Value.ref ob1), .val (Value.ref ob20), .val (Value.int (0 : Int32)), .val (Value.int (3 : Int32)), .val (Value.int (0 : Int32)), .unset, .unset] [(Value.int (3 : Int32))]))
      refine own_Go.by (fun tq kq => XS.istore X45.here hx rfl (hb hby at_92) rfl (l' := #[.val (Value.int p1), .val (Value.int p2), .val (Value.int p3), .val (Value.int p4), .val (Value.ref ob1), .val (Value.ref ob20), .val (Value.int (0 : Int32)), .val (Value.int (3 : Int32)), .val (Value.int (0 : Int32)), .val (Value.int (3 : Int32)), .unset]) rfl kq) ?_
      show own_Go p.tables e below _ (T45.setTop (mkF m 94 #[.val (Value.int p1), .val (Value.int p2), .val (Value.int p3), .val (Value.int p4), .val (Value.ref ob1), .val (Value.ref ob20), .val (Value.int (0 : Int32)), .val (Value.int (3 : Int32)), .val (Value.int (0 : Int32)), .val (Value.int (3 : Int32)), .unset] []))
      refine own_Go.by (fun tq kq => XS.iload X45.here hx rfl (hb hby at_94) rfl kq) ?_
      show own_Go p.tables e below _ (T45.setTop (mkF m 96 #[.val (Value.int p1), .val (Value.int p2), .val (Value.int p3), .val (Value.int p4), .val (Value.ref ob1), .val (Value.ref ob20), .val (Value.int (0 : Int32)), .val (Value.int (3 : Int32)), .val (Value.int (0 : Int32)), .val (Value.int (3 : Int32)), .unset] [(Value.int (3 : Int32))]))
      refine own_Go.by (fun tq kq => XS.iconst X45.here hx rfl (hb hby at_96) kq) ?_
      show own_Go p.tables e below _ (T45.setTop (mkF m 97 #[.val (Value.int p1), .val (Value.int p2), .val (Value.int p3), .val (Value.int p4), .val (Value.ref ob1), .val (Value.ref ob20), .val (Value.int (0 : Int32)), .val (Value.int (3 : Int32)), .val (Value.int (0 : Int32)), .val (Value.int (3 : Int32)), .unset] [(Value.int (1 : Int32)), (Value.int (3 : Int32))]))
      refine own_Go.by (fun tq kq => XS.icmpYes X45.here hx rfl (pc0 := 97) (pc' := 120) rfl (hb hby at_97) rfl (feq (by decide : ¬ ((3 : Int32) = (1 : Int32)))).2 (by decide) (by decide) kq) ?_
      show own_Go p.tables e below _ (T45.setTop (mkF m 120 #[.val (Value.int p1), .val (Value.int p2), .val (Value.int p3), .val (Value.int p4), .val (Value.ref ob1), .val (Value.ref ob20), .val (Value.int (0 : Int32)), .val (Value.int (3 : Int32)), .val (Value.int (0 : Int32)), .val (Value.int (3 : Int32)), .unset] []))
      refine own_Go.by (fun tq kq => XS.iload X45.here hx rfl (hb hby at_120) rfl kq) ?_
      show own_Go p.tables e below _ (T45.setTop (mkF m 122 #[.val (Value.int p1), .val (Value.int p2), .val (Value.int p3), .val (Value.int p4), .val (Value.ref ob1), .val (Value.ref ob20), .val (Value.int (0 : Int32)), .val (Value.int (3 : Int32)), .val (Value.int (0 : Int32)), .val (Value.int (3 : Int32)), .unset] [(Value.int (3 : Int32))]))
      refine own_Go.by (fun tq kq => XS.iconst X45.here hx rfl (hb hby at_122) kq) ?_
      show own_Go p.tables e below _ (T45.setTop (mkF m 123 #[.val (Value.int p1), .val (Value.int p2), .val (Value.int p3), .val (Value.int p4), .val (Value.ref ob1), .val (Value.ref ob20), .val (Value.int (0 : Int32)), .val (Value.int (3 : Int32)), .val (Value.int (0 : Int32)), .val (Value.int (3 : Int32)), .unset] [(Value.int (2 : Int32)), (Value.int (3 : Int32))]))
      refine own_Go.by (fun tq kq => XS.icmpYes X45.here hx rfl (pc0 := 123) (pc' := 158) rfl (hb hby at_123) rfl (feq (by decide : ¬ ((3 : Int32) = (2 : Int32)))).2 (by decide) (by decide) kq) ?_
      show own_Go p.tables e below _ (T45.setTop (mkF m 158 #[.val (Value.int p1), .val (Value.int p2), .val (Value.int p3), .val (Value.int p4), .val (Value.ref ob1), .val (Value.ref ob20), .val (Value.int (0 : Int32)), .val (Value.int (3 : Int32)), .val (Value.int (0 : Int32)), .val (Value.int (3 : Int32)), .unset] []))
      refine own_Go.by (fun tq kq => XS.iconst X45.here hx rfl (hb hby at_158) kq) ?_
      show own_Go p.tables e below _ (T45.setTop (mkF m 159 #[.val (Value.int p1), .val (Value.int p2), .val (Value.int p3), .val (Value.int p4), .val (Value.ref ob1), .val (Value.ref ob20), .val (Value.int (0 : Int32)), .val (Value.int (3 : Int32)), .val (Value.int (0 : Int32)), .val (Value.int (3 : Int32)), .unset] [(Value.int (0 : Int32))]))
      refine own_Go.by (fun tq kq => XS.istore X45.here hx rfl (hb hby at_159) rfl (l' := #[.val (Value.int p1), .val (Value.int p2), .val (Value.int p3), .val (Value.int p4), .val (Value.ref ob1), .val (Value.ref ob20), .val (Value.int (0 : Int32)), .val (Value.int (3 : Int32)), .val (Value.int (0 : Int32)), .val (Value.int (3 : Int32)), .val (Value.int (0 : Int32))]) rfl kq) ?_
      show own_Go p.tables e below _ (T45.setTop (mkF m 161 #[.val (Value.int p1), .val (Value.int p2), .val (Value.int p3), .val (Value.int p4), .val (Value.ref ob1), .val (Value.ref ob20), .val (Value.int (0 : Int32)), .val (Value.int (3 : Int32)), .val (Value.int (0 : Int32)), .val (Value.int (3 : Int32)), .val (Value.int (0 : Int32))] []))
      refine own_Go.by (fun tq kq => XS.iload X45.here hx rfl (hb hby at_161) rfl kq) ?_
      show own_Go p.tables e below _ (T45.setTop (mkF m 163 #[.val (Value.int p1), .val (Value.int p2), .val (Value.int p3), .val (Value.int p4), .val (Value.ref ob1), .val (Value.ref ob20), .val (Value.int (0 : Int32)), .val (Value.int (3 : Int32)), .val (Value.int (0 : Int32)), .val (Value.int (3 : Int32)), .val (Value.int (0 : Int32))] [(Value.int (0 : Int32))]))
      refine own_Go.by (fun tq kq => XS.iload X45.here hx rfl (hb hby at_163) rfl kq) ?_
      show own_Go p.tables e below _ (T45.setTop (mkF m 165 #[.val (Value.int p1), .val (Value.int p2), .val (Value.int p3), .val (Value.int p4), .val (Value.ref ob1), .val (Value.ref ob20), .val (Value.int (0 : Int32)), .val (Value.int (3 : Int32)), .val (Value.int (0 : Int32)), .val (Value.int (3 : Int32)), .val (Value.int (0 : Int32))] [(Value.int (0 : Int32)), (Value.int (0 : Int32))]))
      refine own_Go.by (fun tq kq => XS.icmpNo X45.here hx rfl (hb hby at_165) rfl (teq (by decide : (0 : Int32) = (0 : Int32))).2 kq) ?_
      show own_Go p.tables e below _ (T45.setTop (mkF m 168 #[.val (Value.int p1), .val (Value.int p2), .val (Value.int p3), .val (Value.int p4), .val (Value.ref ob1), .val (Value.ref ob20), .val (Value.int (0 : Int32)), .val (Value.int (3 : Int32)), .val (Value.int (0 : Int32)), .val (Value.int (3 : Int32)), .val (Value.int (0 : Int32))] []))
      refine own_Go.by (fun tq kq => XS.iconst X45.here hx rfl (hb hby at_168) kq) ?_
      show own_Go p.tables e below _ (T45.setTop (mkF m 169 #[.val (Value.int p1), .val (Value.int p2), .val (Value.int p3), .val (Value.int p4), .val (Value.ref ob1), .val (Value.ref ob20), .val (Value.int (0 : Int32)), .val (Value.int (3 : Int32)), .val (Value.int (0 : Int32)), .val (Value.int (3 : Int32)), .val (Value.int (0 : Int32))] [(Value.int (1 : Int32))]))
      refine own_Go.by (fun tq kq => XS.goto X45.here hx rfl (pc0 := 169) (pc' := 173) rfl (hb hby at_169) (by decide) (by decide) kq) ?_
      show own_Go p.tables e below _ (T45.setTop (mkF m 173 #[.val (Value.int p1), .val (Value.int p2), .val (Value.int p3), .val (Value.int p4), .val (Value.ref ob1), .val (Value.ref ob20), .val (Value.int (0 : Int32)), .val (Value.int (3 : Int32)), .val (Value.int (0 : Int32)), .val (Value.int (3 : Int32)), .val (Value.int (0 : Int32))] [(Value.int (1 : Int32))]))
      obtain ⟨fs, hr, hrun, hended, hW, hsame⟩ := X45.leave (v := some (Value.int (nar .boolean (1 : Int32)))) (fun h => by rw [Bd.returns] at h; cases h)
      refine own_Go.fin (retN X45 hx (t := .boolean) Bd.returns (by simp) (hb hby at_173) hr) ⟨hrun, hended, _, _, rfl, ?_, ⟨_, rfl⟩, hW, hsame.mono (by decide) (by decide)⟩
      show Q0 Z p1 p2 p3 p4 zc vf h0 n0 _ T45.heap _
      rw [e45]
      exact ⟨rfl, N45, K25⟩
    ·
      subst hq_rr
      show own_Go p.tables e below _ (T23.setTop (mkF m 73 #[.val (Value.int p1), .val (Value.int p2), .val (Value.int p3), .val (Value.int p4), .val (Value.ref ob1), .val (Value.ref ob20), .val (Value.int (0 : Int32)), .unset, .unset, .unset, .unset] [(Value.int (4 : Int32)), (Value.int (0 : Int32))]))
      refine own_Go.by (fun tq kq => XS.iadd X23.here hx rfl (hb hby at_73) rfl kq) ?_
      show own_Go p.tables e below _ (T23.setTop (mkF m 74 #[.val (Value.int p1), .val (Value.int p2), .val (Value.int p3), .val (Value.int p4), .val (Value.ref ob1), .val (Value.ref ob20), .val (Value.int (0 : Int32)), .unset, .unset, .unset, .unset] [(Value.int (4 : Int32))]))
      refine own_Go.by (fun tq kq => XS.istore X23.here hx rfl (hb hby at_74) rfl (l' := #[.val (Value.int p1), .val (Value.int p2), .val (Value.int p3), .val (Value.int p4), .val (Value.ref ob1), .val (Value.ref ob20), .val (Value.int (0 : Int32)), .val (Value.int (4 : Int32)), .unset, .unset, .unset]) rfl kq) ?_
      show own_Go p.tables e below _ (T23.setTop (mkF m 76 #[.val (Value.int p1), .val (Value.int p2), .val (Value.int p3), .val (Value.int p4), .val (Value.ref ob1), .val (Value.ref ob20), .val (Value.int (0 : Int32)), .val (Value.int (4 : Int32)), .unset, .unset, .unset] []))
      refine own_Go.by (fun tq kq => XS.aload X23.here hx rfl (hb hby at_76) rfl rfl kq) ?_
      show own_Go p.tables e below _ (T23.setTop (mkF m 78 #[.val (Value.int p1), .val (Value.int p2), .val (Value.int p3), .val (Value.int p4), .val (Value.ref ob1), .val (Value.ref ob20), .val (Value.int (0 : Int32)), .val (Value.int (4 : Int32)), .unset, .unset, .unset] [(Value.ref ob20)]))
      refine own_Go.by (fun tq kq => XS.iload X23.here hx rfl (hb hby at_78) rfl kq) ?_
      show own_Go p.tables e below _ (T23.setTop (mkF m 80 #[.val (Value.int p1), .val (Value.int p2), .val (Value.int p3), .val (Value.int p4), .val (Value.ref ob1), .val (Value.ref ob20), .val (Value.int (0 : Int32)), .val (Value.int (4 : Int32)), .unset, .unset, .unset] [(Value.int (0 : Int32)), (Value.ref ob20)]))
      refine own_Go.by (fun tq kq => XS.iload X23.here hx rfl (hb hby at_80) rfl kq) ?_
      show own_Go p.tables e below _ (T23.setTop (mkF m 82 #[.val (Value.int p1), .val (Value.int p2), .val (Value.int p3), .val (Value.int p4), .val (Value.ref ob1), .val (Value.ref ob20), .val (Value.int (0 : Int32)), .val (Value.int (4 : Int32)), .unset, .unset, .unset] [(Value.int (4 : Int32)), (Value.int (0 : Int32)), (Value.ref ob20)]))
      obtain ⟨_, _, ⟨T46, L46, k46, n46⟩, -, X46, ⟨Lc46, hQ46, l46, y46, z46⟩, st46⟩ := Jvm.LawKit.callS X23 hx (y := (⟨"com/example/enlace/enlace/DotSegments", "isDotSegment", "(Ljava/lang/String;II)Z"⟩ : MethodName)) hown (mvT hZ (hw _ (List.mem_of_getElem? (i := 35) rfl))) (mvT hZ (hw _ (List.mem_of_getElem? (i := 36) rfl))) (mvT hZ (hw _ (List.mem_of_getElem? (i := 37) rfl))) (mvT hZ (hw _ (List.mem_of_getElem? (i := 38) rfl))) (by decide) (backOf (W := 0) (rm8_0_4_x l Z a0 hw [] ob20 t23 kb23 r_4 r_8 r_12 r_16 zc vf T23.heap n0 O25 E23q V23q C23q A23q (hp23 : ∀ c ∈ ([r_4, r_8, r_12, r_16] : List Int32), ¬ c < 0 ∧ ¬ (255 : Int32) < c) H0 H1 (hzc : ¬ (zc = (0 : Int32))) (rvf : vf.isRef = true)) hZ (hw _ (List.mem_of_getElem? (i := 38) rfl)) (hw _ (List.mem_of_getElem? (i := 37) rfl)) (by decide) (by decide)) (g := (mkF m 82 #[.val (Value.int p1), .val (Value.int p2), .val (Value.int p3), .val (Value.int p4), .val (Value.ref ob1), .val (Value.ref ob20), .val (Value.int (0 : Int32)), .val (Value.int (4 : Int32)), .unset, .unset, .unset] [(Value.int (4 : Int32)), (Value.int (0 : Int32)), (Value.ref ob20)])) rfl (by rw [hml]; rfl) (argsL := [(Value.ref ob20), (Value.int (0 : Int32)), (Value.int (4 : Int32))]) (rest := []) (lenOf own_pd2 rfl) rfl (by show 2 * 0 + _ ≤ _; exact Nat.le_of_eq rfl) (hb hby at_82) (fun _ _ => ⟨rfl, rfl, (by decide : 3 + 0 ≤ _), (by decide : 12 + 0 ≤ _)⟩)
      dsimp only [Pt.U, Pt.locs, Pt.cells, Pt.slots] at X46 l46 y46 z46 st46 hQ46
      subst l46 y46 z46
      refine own_Go.by st46 ?_
      obtain ⟨rfl, N46q, e46⟩ := hQ46
      have N46 := Fr.app N23 N46q
      show own_Go p.tables e below _ (T46.setTop (mkF m 85 #[.val (Value.int p1), .val (Value.int p2), .val (Value.int p3), .val (Value.int p4), .val (Value.ref ob1), .val (Value.ref ob20), .val (Value.int (0 : Int32)), .val (Value.int (4 : Int32)), .unset, .unset, .unset] [(Value.int (0 : Int32))]))
      refine own_Go.by (fun tq kq => XS.istore X46.here hx rfl (hb hby at_85) rfl (l' := #[.val (Value.int p1), .val (Value.int p2), .val (Value.int p3), .val (Value.int p4), .val (Value.ref ob1), .val (Value.ref ob20), .val (Value.int (0 : Int32)), .val (Value.int (4 : Int32)), .val (Value.int (0 : Int32)), .unset, .unset]) rfl kq) ?_
      show own_Go p.tables e below _ (T46.setTop (mkF m 87 #[.val (Value.int p1), .val (Value.int p2), .val (Value.int p3), .val (Value.int p4), .val (Value.ref ob1), .val (Value.ref ob20), .val (Value.int (0 : Int32)), .val (Value.int (4 : Int32)), .val (Value.int (0 : Int32)), .unset, .unset] []))
      refine own_Go.by (fun tq kq => XS.iload X46.here hx rfl (hb hby at_87) rfl kq) ?_
      show own_Go p.tables e below _ (T46.setTop (mkF m 89 #[.val (Value.int p1), .val (Value.int p2), .val (Value.int p3), .val (Value.int p4), .val (Value.ref ob1), .val (Value.ref ob20), .val (Value.int (0 : Int32)), .val (Value.int (4 : Int32)), .val (Value.int (0 : Int32)), .unset, .unset] [(Value.int (4 : Int32))]))
      refine own_Go.by (fun tq kq => XS.iload X46.here hx rfl (hb hby at_89) rfl kq) ?_
      show own_Go p.tables e below _ (T46.setTop (mkF m 91 #[.val (Value.int p1), .val (Value.int p2), .val (Value.int p3), .val (Value.int p4), .val (Value.ref ob1), .val (Value.ref ob20), .val (Value.int (0 : Int32)), .val (Value.int (4 : Int32)), .val (Value.int (0 : Int32)), .unset, .unset] [(Value.int (0 : Int32)), (Value.int (4 : Int32))]))
      refine own_Go.by (fun tq kq => XS.isub X46.here hx rfl (hb hby at_91) rfl kq) ?_
      show own_Go p.tables e below _ (T46.setTop (mkF m 92 #[.val (Value.int p1), .val (Value.int p2), .val (Value.int p3), .val (Value.int p4), .val (Value.ref ob1), .val (Value.ref ob20), .val (Value.int (0 : Int32)), .val (Value.int (4 : Int32)), .val (Value.int (0 : Int32)), .unset, .unset] [(Value.int (4 : Int32))]))
      refine own_Go.by (fun tq kq => XS.istore X46.here hx rfl (hb hby at_92) rfl (l' := #[.val (Value.int p1), .val (Value.int p2), .val (Value.int p3), .val (Value.int p4), .val (Value.ref ob1), .val (Value.ref ob20), .val (Value.int (0 : Int32)), .val (Value.int (4 : Int32)), .val (Value.int (0 : Int32)), .val (Value.int (4 : Int32)), .unset]) rfl kq) ?_
      show own_Go p.tables e below _ (T46.setTop (mkF m 94 #[.val (Value.int p1), .val (Value.int p2), .val (Value.int p3), .val (Value.int p4), .val (Value.ref ob1), .val (Value.ref ob20), .val (Value.int (0 : Int32)), .val (Value.int (4 : Int32)), .val (Value.int (0 : Int32)), .val (Value.int (4 : Int32)), .unset] []))
      refine own_Go.by (fun tq kq => XS.iload X46.here hx rfl (hb hby at_94) rfl kq) ?_
      show own_Go p.tables e below _ (T46.setTop (mkF m 96 #[.val (Value.int p1), .val (Value.int p2), .val (Value.int p3), .val (Value.int p4), .val (Value.ref ob1), .val (Value.ref ob20), .val (Value.int (0 : Int32)), .val (Value.int (4 : Int32)), .val (Value.int (0 : Int32)), .val (Value.int (4 : Int32)), .unset] [(Value.int (4 : Int32))]))
      refine own_Go.by (fun tq kq => XS.iconst X46.here hx rfl (hb hby at_96) kq) ?_
      show own_Go p.tables e below _ (T46.setTop (mkF m 97 #[.val (Value.int p1), .val (Value.int p2), .val (Value.int p3), .val (Value.int p4), .val (Value.ref ob1), .val (Value.ref ob20), .val (Value.int (0 : Int32)), .val (Value.int (4 : Int32)), .val (Value.int (0 : Int32)), .val (Value.int (4 : Int32)), .unset] [(Value.int (1 : Int32)), (Value.int (4 : Int32))]))
      refine own_Go.by (fun tq kq => XS.icmpYes X46.here hx rfl (pc0 := 97) (pc' := 120) rfl (hb hby at_97) rfl (feq (by decide : ¬ ((4 : Int32) = (1 : Int32)))).2 (by decide) (by decide) kq) ?_
      show own_Go p.tables e below _ (T46.setTop (mkF m 120 #[.val (Value.int p1), .val (Value.int p2), .val (Value.int p3), .val (Value.int p4), .val (Value.ref ob1), .val (Value.ref ob20), .val (Value.int (0 : Int32)), .val (Value.int (4 : Int32)), .val (Value.int (0 : Int32)), .val (Value.int (4 : Int32)), .unset] []))
      refine own_Go.by (fun tq kq => XS.iload X46.here hx rfl (hb hby at_120) rfl kq) ?_
      show own_Go p.tables e below _ (T46.setTop (mkF m 122 #[.val (Value.int p1), .val (Value.int p2), .val (Value.int p3), .val (Value.int p4), .val (Value.ref ob1), .val (Value.ref ob20), .val (Value.int (0 : Int32)), .val (Value.int (4 : Int32)), .val (Value.int (0 : Int32)), .val (Value.int (4 : Int32)), .unset] [(Value.int (4 : Int32))]))
      refine own_Go.by (fun tq kq => XS.iconst X46.here hx rfl (hb hby at_122) kq) ?_
      show own_Go p.tables e below _ (T46.setTop (mkF m 123 #[.val (Value.int p1), .val (Value.int p2), .val (Value.int p3), .val (Value.int p4), .val (Value.ref ob1), .val (Value.ref ob20), .val (Value.int (0 : Int32)), .val (Value.int (4 : Int32)), .val (Value.int (0 : Int32)), .val (Value.int (4 : Int32)), .unset] [(Value.int (2 : Int32)), (Value.int (4 : Int32))]))
      refine own_Go.by (fun tq kq => XS.icmpYes X46.here hx rfl (pc0 := 123) (pc' := 158) rfl (hb hby at_123) rfl (feq (by decide : ¬ ((4 : Int32) = (2 : Int32)))).2 (by decide) (by decide) kq) ?_
      show own_Go p.tables e below _ (T46.setTop (mkF m 158 #[.val (Value.int p1), .val (Value.int p2), .val (Value.int p3), .val (Value.int p4), .val (Value.ref ob1), .val (Value.ref ob20), .val (Value.int (0 : Int32)), .val (Value.int (4 : Int32)), .val (Value.int (0 : Int32)), .val (Value.int (4 : Int32)), .unset] []))
      refine own_Go.by (fun tq kq => XS.iconst X46.here hx rfl (hb hby at_158) kq) ?_
      show own_Go p.tables e below _ (T46.setTop (mkF m 159 #[.val (Value.int p1), .val (Value.int p2), .val (Value.int p3), .val (Value.int p4), .val (Value.ref ob1), .val (Value.ref ob20), .val (Value.int (0 : Int32)), .val (Value.int (4 : Int32)), .val (Value.int (0 : Int32)), .val (Value.int (4 : Int32)), .unset] [(Value.int (0 : Int32))]))
      refine own_Go.by (fun tq kq => XS.istore X46.here hx rfl (hb hby at_159) rfl (l' := #[.val (Value.int p1), .val (Value.int p2), .val (Value.int p3), .val (Value.int p4), .val (Value.ref ob1), .val (Value.ref ob20), .val (Value.int (0 : Int32)), .val (Value.int (4 : Int32)), .val (Value.int (0 : Int32)), .val (Value.int (4 : Int32)), .val (Value.int (0 : Int32))]) rfl kq) ?_
      show own_Go p.tables e below _ (T46.setTop (mkF m 161 #[.val (Value.int p1), .val (Value.int p2), .val (Value.int p3), .val (Value.int p4), .val (Value.ref ob1), .val (Value.ref ob20), .val (Value.int (0 : Int32)), .val (Value.int (4 : Int32)), .val (Value.int (0 : Int32)), .val (Value.int (4 : Int32)), .val (Value.int (0 : Int32))] []))
      refine own_Go.by (fun tq kq => XS.iload X46.here hx rfl (hb hby at_161) rfl kq) ?_
      show own_Go p.tables e below _ (T46.setTop (mkF m 163 #[.val (Value.int p1), .val (Value.int p2), .val (Value.int p3), .val (Value.int p4), .val (Value.ref ob1), .val (Value.ref ob20), .val (Value.int (0 : Int32)), .val (Value.int (4 : Int32)), .val (Value.int (0 : Int32)), .val (Value.int (4 : Int32)), .val (Value.int (0 : Int32))] [(Value.int (0 : Int32))]))
      refine own_Go.by (fun tq kq => XS.iload X46.here hx rfl (hb hby at_163) rfl kq) ?_
      show own_Go p.tables e below _ (T46.setTop (mkF m 165 #[.val (Value.int p1), .val (Value.int p2), .val (Value.int p3), .val (Value.int p4), .val (Value.ref ob1), .val (Value.ref ob20), .val (Value.int (0 : Int32)), .val (Value.int (4 : Int32)), .val (Value.int (0 : Int32)), .val (Value.int (4 : Int32)), .val (Value.int (0 : Int32))] [(Value.int (0 : Int32)), (Value.int (0 : Int32))]))
      refine own_Go.by (fun tq kq => XS.icmpNo X46.here hx rfl (hb hby at_165) rfl (teq (by decide : (0 : Int32) = (0 : Int32))).2 kq) ?_
      show own_Go p.tables e below _ (T46.setTop (mkF m 168 #[.val (Value.int p1), .val (Value.int p2), .val (Value.int p3), .val (Value.int p4), .val (Value.ref ob1), .val (Value.ref ob20), .val (Value.int (0 : Int32)), .val (Value.int (4 : Int32)), .val (Value.int (0 : Int32)), .val (Value.int (4 : Int32)), .val (Value.int (0 : Int32))] []))
      refine own_Go.by (fun tq kq => XS.iconst X46.here hx rfl (hb hby at_168) kq) ?_
      show own_Go p.tables e below _ (T46.setTop (mkF m 169 #[.val (Value.int p1), .val (Value.int p2), .val (Value.int p3), .val (Value.int p4), .val (Value.ref ob1), .val (Value.ref ob20), .val (Value.int (0 : Int32)), .val (Value.int (4 : Int32)), .val (Value.int (0 : Int32)), .val (Value.int (4 : Int32)), .val (Value.int (0 : Int32))] [(Value.int (1 : Int32))]))
      refine own_Go.by (fun tq kq => XS.goto X46.here hx rfl (pc0 := 169) (pc' := 173) rfl (hb hby at_169) (by decide) (by decide) kq) ?_
      show own_Go p.tables e below _ (T46.setTop (mkF m 173 #[.val (Value.int p1), .val (Value.int p2), .val (Value.int p3), .val (Value.int p4), .val (Value.ref ob1), .val (Value.ref ob20), .val (Value.int (0 : Int32)), .val (Value.int (4 : Int32)), .val (Value.int (0 : Int32)), .val (Value.int (4 : Int32)), .val (Value.int (0 : Int32))] [(Value.int (1 : Int32))]))
      obtain ⟨fs, hr, hrun, hended, hW, hsame⟩ := X46.leave (v := some (Value.int (nar .boolean (1 : Int32)))) (fun h => by rw [Bd.returns] at h; cases h)
      refine own_Go.fin (retN X46 hx (t := .boolean) Bd.returns (by simp) (hb hby at_173) hr) ⟨hrun, hended, _, _, rfl, ?_, ⟨_, rfl⟩, hW, hsame.mono (by decide) (by decide)⟩
      show Q0 Z p1 p2 p3 p4 zc vf h0 n0 _ T46.heap _
      rw [e46]
      exact ⟨rfl, N46, K25⟩
  ·
    subst hq_frm
    show own_Go p.tables e below _ (T23.setTop (mkF m 62 #[.val (Value.int p1), .val (Value.int p2), .val (Value.int p3), .val (Value.int p4), .val (Value.ref ob1), .val (Value.ref ob20), .val (Value.int (1 : Int32)), .unset, .unset, .unset, .unset] []))
    refine own_Go.by (fun tq kq => XS.iload X23.here hx rfl (hb hby at_62) rfl kq) ?_
    show own_Go p.tables e below _ (T23.setTop (mkF m 64 #[.val (Value.int p1), .val (Value.int p2), .val (Value.int p3), .val (Value.int p4), .val (Value.ref ob1), .val (Value.ref ob20), .val (Value.int (1 : Int32)), .unset, .unset, .unset, .unset] [(Value.int (1 : Int32))]))
    refine own_Go.by (fun tq kq => XS.iloadN X23.here hx rfl (hb hby at_64) rfl kq) ?_
    show own_Go p.tables e below _ (T23.setTop (mkF m 65 #[.val (Value.int p1), .val (Value.int p2), .val (Value.int p3), .val (Value.int p4), .val (Value.ref ob1), .val (Value.ref ob20), .val (Value.int (1 : Int32)), .unset, .unset, .unset, .unset] [(Value.int p4), (Value.int (1 : Int32))]))
    refine own_Go.by (fun tq kq => X23.ldcInt hx hown (mvT hZ (hw _ (List.mem_of_getElem? (i := 34) rfl))) (g := (mkF m 65 #[.val (Value.int p1), .val (Value.int p2), .val (Value.int p3), .val (Value.int p4), .val (Value.ref ob1), .val (Value.ref ob20), .val (Value.int (1 : Int32)), .unset, .unset, .unset, .unset] [(Value.int p4), (Value.int (1 : Int32))])) rfl (hb hby at_65) _ kq) ?_
    show own_Go p.tables e below _ (T23.setTop (mkF m 67 #[.val (Value.int p1), .val (Value.int p2), .val (Value.int p3), .val (Value.int p4), .val (Value.ref ob1), .val (Value.ref ob20), .val (Value.int (1 : Int32)), .unset, .unset, .unset, .unset] [(Value.int (2147483647 : Int32)), (Value.int p4), (Value.int (1 : Int32))]))
    refine own_Go.by (fun tq kq => XS.iand X23.here hx rfl (hb hby at_67) rfl kq) ?_
    show own_Go p.tables e below _ (T23.setTop (mkF m 68 #[.val (Value.int p1), .val (Value.int p2), .val (Value.int p3), .val (Value.int p4), .val (Value.ref ob1), .val (Value.ref ob20), .val (Value.int (1 : Int32)), .unset, .unset, .unset, .unset] [(Value.int (p4 &&& (2147483647 : Int32))), (Value.int (1 : Int32))]))
    refine own_Go.by (fun tq kq => XS.iconst X23.here hx rfl (hb hby at_68) kq) ?_
    show own_Go p.tables e below _ (T23.setTop (mkF m 69 #[.val (Value.int p1), .val (Value.int p2), .val (Value.int p3), .val (Value.int p4), .val (Value.ref ob1), .val (Value.ref ob20), .val (Value.int (1 : Int32)), .unset, .unset, .unset, .unset] [(Value.int (5 : Int32)), (Value.int (p4 &&& (2147483647 : Int32))), (Value.int (1 : Int32))]))
    refine own_Go.by (fun tq kq => XS.iload X23.here hx rfl (hb hby at_69) rfl kq) ?_
    show own_Go p.tables e below _ (T23.setTop (mkF m 71 #[.val (Value.int p1), .val (Value.int p2), .val (Value.int p3), .val (Value.int p4), .val (Value.ref ob1), .val (Value.ref ob20), .val (Value.int (1 : Int32)), .unset, .unset, .unset, .unset] [(Value.int (1 : Int32)), (Value.int (5 : Int32)), (Value.int (p4 &&& (2147483647 : Int32))), (Value.int (1 : Int32))]))
    refine own_Go.by (fun tq kq => XS.isub X23.here hx rfl (hb hby at_71) rfl kq) ?_
    show own_Go p.tables e below _ (T23.setTop (mkF m 72 #[.val (Value.int p1), .val (Value.int p2), .val (Value.int p3), .val (Value.int p4), .val (Value.ref ob1), .val (Value.ref ob20), .val (Value.int (1 : Int32)), .unset, .unset, .unset, .unset] [(Value.int (4 : Int32)), (Value.int (p4 &&& (2147483647 : Int32))), (Value.int (1 : Int32))]))
    refine own_Go.by (fun tq kq => iremM (g := (mkF m 72 #[.val (Value.int p1), .val (Value.int p2), .val (Value.int p3), .val (Value.int p4), .val (Value.ref ob1), .val (Value.ref ob20), .val (Value.int (1 : Int32)), .unset, .unset, .unset, .unset] [(Value.int (4 : Int32)), (Value.int (p4 &&& (2147483647 : Int32))), (Value.int (1 : Int32))])) X23 hx rfl (hb hby at_72) rfl (by decide) kq) ?_
    show own_Go p.tables e below _ (T23.setTop (mkF m 73 #[.val (Value.int p1), .val (Value.int p2), .val (Value.int p3), .val (Value.int p4), .val (Value.ref ob1), .val (Value.ref ob20), .val (Value.int (1 : Int32)), .unset, .unset, .unset, .unset] [(Value.int ((p4 &&& (2147483647 : Int32)) % (4 : Int32))), (Value.int (1 : Int32))]))
    generalize hv_rr : ((p4 &&& (2147483647 : Int32)) % (4 : Int32)) = rr
    rcases own_mod4 hv_rr with hq_rr | hq_rr | hq_rr | hq_rr
    ·
      subst hq_rr
      show own_Go p.tables e below _ (T23.setTop (mkF m 73 #[.val (Value.int p1), .val (Value.int p2), .val (Value.int p3), .val (Value.int p4), .val (Value.ref ob1), .val (Value.ref ob20), .val (Value.int (1 : Int32)), .unset, .unset, .unset, .unset] [(Value.int (0 : Int32)), (Value.int (1 : Int32))]))
      refine own_Go.by (fun tq kq => XS.iadd X23.here hx rfl (hb hby at_73) rfl kq) ?_
      show own_Go p.tables e below _ (T23.setTop (mkF m 74 #[.val (Value.int p1), .val (Value.int p2), .val (Value.int p3), .val (Value.int p4), .val (Value.ref ob1), .val (Value.ref ob20), .val (Value.int (1 : Int32)), .unset, .unset, .unset, .unset] [(Value.int (1 : Int32))]))
      refine own_Go.by (fun tq kq => XS.istore X23.here hx rfl (hb hby at_74) rfl (l' := #[.val (Value.int p1), .val (Value.int p2), .val (Value.int p3), .val (Value.int p4), .val (Value.ref ob1), .val (Value.ref ob20), .val (Value.int (1 : Int32)), .val (Value.int (1 : Int32)), .unset, .unset, .unset]) rfl kq) ?_
      show own_Go p.tables e below _ (T23.setTop (mkF m 76 #[.val (Value.int p1), .val (Value.int p2), .val (Value.int p3), .val (Value.int p4), .val (Value.ref ob1), .val (Value.ref ob20), .val (Value.int (1 : Int32)), .val (Value.int (1 : Int32)), .unset, .unset, .unset] []))
      refine own_Go.by (fun tq kq => XS.aload X23.here hx rfl (hb hby at_76) rfl rfl kq) ?_
      show own_Go p.tables e below _ (T23.setTop (mkF m 78 #[.val (Value.int p1), .val (Value.int p2), .val (Value.int p3), .val (Value.int p4), .val (Value.ref ob1), .val (Value.ref ob20), .val (Value.int (1 : Int32)), .val (Value.int (1 : Int32)), .unset, .unset, .unset] [(Value.ref ob20)]))
      refine own_Go.by (fun tq kq => XS.iload X23.here hx rfl (hb hby at_78) rfl kq) ?_
      show own_Go p.tables e below _ (T23.setTop (mkF m 80 #[.val (Value.int p1), .val (Value.int p2), .val (Value.int p3), .val (Value.int p4), .val (Value.ref ob1), .val (Value.ref ob20), .val (Value.int (1 : Int32)), .val (Value.int (1 : Int32)), .unset, .unset, .unset] [(Value.int (1 : Int32)), (Value.ref ob20)]))
      refine own_Go.by (fun tq kq => XS.iload X23.here hx rfl (hb hby at_80) rfl kq) ?_
      show own_Go p.tables e below _ (T23.setTop (mkF m 82 #[.val (Value.int p1), .val (Value.int p2), .val (Value.int p3), .val (Value.int p4), .val (Value.ref ob1), .val (Value.ref ob20), .val (Value.int (1 : Int32)), .val (Value.int (1 : Int32)), .unset, .unset, .unset] [(Value.int (1 : Int32)), (Value.int (1 : Int32)), (Value.ref ob20)]))
      obtain ⟨_, _, ⟨T47, L47, k47, n47⟩, -, X47, ⟨Lc47, hQ47, l47, y47, z47⟩, st47⟩ := Jvm.LawKit.callS X23 hx (y := (⟨"com/example/enlace/enlace/DotSegments", "isDotSegment", "(Ljava/lang/String;II)Z"⟩ : MethodName)) hown (mvT hZ (hw _ (List.mem_of_getElem? (i := 35) rfl))) (mvT hZ (hw _ (List.mem_of_getElem? (i := 36) rfl))) (mvT hZ (hw _ (List.mem_of_getElem? (i := 37) rfl))) (mvT hZ (hw _ (List.mem_of_getElem? (i := 38) rfl))) (by decide) (backOf (W := 0) (rm8_1_1_x l Z a0 hw [] ob20 t23 kb23 r_4 r_8 r_12 r_16 zc vf T23.heap n0 O25 E23q V23q C23q A23q (hp23 : ∀ c ∈ ([r_4, r_8, r_12, r_16] : List Int32), ¬ c < 0 ∧ ¬ (255 : Int32) < c) H0 H1 (hzc : ¬ (zc = (0 : Int32))) (rvf : vf.isRef = true)) hZ (hw _ (List.mem_of_getElem? (i := 38) rfl)) (hw _ (List.mem_of_getElem? (i := 37) rfl)) (by decide) (by decide)) (g := (mkF m 82 #[.val (Value.int p1), .val (Value.int p2), .val (Value.int p3), .val (Value.int p4), .val (Value.ref ob1), .val (Value.ref ob20), .val (Value.int (1 : Int32)), .val (Value.int (1 : Int32)), .unset, .unset, .unset] [(Value.int (1 : Int32)), (Value.int (1 : Int32)), (Value.ref ob20)])) rfl (by rw [hml]; rfl) (argsL := [(Value.ref ob20), (Value.int (1 : Int32)), (Value.int (1 : Int32))]) (rest := []) (lenOf own_pd2 rfl) rfl (by show 2 * 0 + _ ≤ _; exact Nat.le_of_eq rfl) (hb hby at_82) (fun _ _ => ⟨rfl, rfl, (by decide : 3 + 0 ≤ _), (by decide : 12 + 0 ≤ _)⟩)
      dsimp only [Pt.U, Pt.locs, Pt.cells, Pt.slots] at X47 l47 y47 z47 st47 hQ47
      subst l47 y47 z47
      refine own_Go.by st47 ?_
      obtain ⟨rfl, N47q, e47⟩ := hQ47
      have N47 := Fr.app N23 N47q
      show own_Go p.tables e below _ (T47.setTop (mkF m 85 #[.val (Value.int p1), .val (Value.int p2), .val (Value.int p3), .val (Value.int p4), .val (Value.ref ob1), .val (Value.ref ob20), .val (Value.int (1 : Int32)), .val (Value.int (1 : Int32)), .unset, .unset, .unset] [(Value.int (0 : Int32))]))
      refine own_Go.by (fun tq kq => XS.istore X47.here hx rfl (hb hby at_85) rfl (l' := #[.val (Value.int p1), .val (Value.int p2), .val (Value.int p3), .val (Value.int p4), .val (Value.ref ob1), .val (Value.ref ob20), .val (Value.int (1 : Int32)), .val (Value.int (1 : Int32)), .val (Value.int (0 : Int32)), .unset, .unset]) rfl kq) ?_
      show own_Go p.tables e below _ (T47.setTop (mkF m 87 #[.val (Value.int p1), .val (Value.int p2), .val (Value.int p3), .val (Value.int p4), .val (Value.ref ob1), .val (Value.ref ob20), .val (Value.int (1 : Int32)), .val (Value.int (1 : Int32)), .val (Value.int (0 : Int32)), .unset, .unset] []))
      refine own_Go.by (fun tq kq => XS.iload X47.here hx rfl (hb hby at_87) rfl kq) ?_
      show own_Go p.tables e below _ (T47.setTop (mkF m 89 #[.val (Value.int p1), .val (Value.int p2), .val (Value.int p3), .val (Value.int p4), .val (Value.ref ob1), .val (Value.ref ob20), .val (Value.int (1 : Int32)), .val (Value.int (1 : Int32)), .val (Value.int (0 : Int32)), .unset, .unset] [(Value.int (1 : Int32))]))
      refine own_Go.by (fun tq kq => XS.iload X47.here hx rfl (hb hby at_89) rfl kq) ?_
      show own_Go p.tables e below _ (T47.setTop (mkF m 91 #[.val (Value.int p1), .val (Value.int p2), .val (Value.int p3), .val (Value.int p4), .val (Value.ref ob1), .val (Value.ref ob20), .val (Value.int (1 : Int32)), .val (Value.int (1 : Int32)), .val (Value.int (0 : Int32)), .unset, .unset] [(Value.int (1 : Int32)), (Value.int (1 : Int32))]))
      refine own_Go.by (fun tq kq => XS.isub X47.here hx rfl (hb hby at_91) rfl kq) ?_
      show own_Go p.tables e below _ (T47.setTop (mkF m 92 #[.val (Value.int p1), .val (Value.int p2), .val (Value.int p3), .val (Value.int p4), .val (Value.ref ob1), .val (Value.ref ob20), .val (Value.int (1 : Int32)), .val (Value.int (1 : Int32)), .val (Value.int (0 : Int32)), .unset, .unset] [(Value.int (0 : Int32))]))
      refine own_Go.by (fun tq kq => XS.istore X47.here hx rfl (hb hby at_92) rfl (l' := #[.val (Value.int p1), .val (Value.int p2), .val (Value.int p3), .val (Value.int p4), .val (Value.ref ob1), .val (Value.ref ob20), .val (Value.int (1 : Int32)), .val (Value.int (1 : Int32)), .val (Value.int (0 : Int32)), .val (Value.int (0 : Int32)), .unset]) rfl kq) ?_
      show own_Go p.tables e below _ (T47.setTop (mkF m 94 #[.val (Value.int p1), .val (Value.int p2), .val (Value.int p3), .val (Value.int p4), .val (Value.ref ob1), .val (Value.ref ob20), .val (Value.int (1 : Int32)), .val (Value.int (1 : Int32)), .val (Value.int (0 : Int32)), .val (Value.int (0 : Int32)), .unset] []))
      refine own_Go.by (fun tq kq => XS.iload X47.here hx rfl (hb hby at_94) rfl kq) ?_
      show own_Go p.tables e below _ (T47.setTop (mkF m 96 #[.val (Value.int p1), .val (Value.int p2), .val (Value.int p3), .val (Value.int p4), .val (Value.ref ob1), .val (Value.ref ob20), .val (Value.int (1 : Int32)), .val (Value.int (1 : Int32)), .val (Value.int (0 : Int32)), .val (Value.int (0 : Int32)), .unset] [(Value.int (0 : Int32))]))
      refine own_Go.by (fun tq kq => XS.iconst X47.here hx rfl (hb hby at_96) kq) ?_
      show own_Go p.tables e below _ (T47.setTop (mkF m 97 #[.val (Value.int p1), .val (Value.int p2), .val (Value.int p3), .val (Value.int p4), .val (Value.ref ob1), .val (Value.ref ob20), .val (Value.int (1 : Int32)), .val (Value.int (1 : Int32)), .val (Value.int (0 : Int32)), .val (Value.int (0 : Int32)), .unset] [(Value.int (1 : Int32)), (Value.int (0 : Int32))]))
      refine own_Go.by (fun tq kq => XS.icmpYes X47.here hx rfl (pc0 := 97) (pc' := 120) rfl (hb hby at_97) rfl (feq (by decide : ¬ ((0 : Int32) = (1 : Int32)))).2 (by decide) (by decide) kq) ?_
      show own_Go p.tables e below _ (T47.setTop (mkF m 120 #[.val (Value.int p1), .val (Value.int p2), .val (Value.int p3), .val (Value.int p4), .val (Value.ref ob1), .val (Value.ref ob20), .val (Value.int (1 : Int32)), .val (Value.int (1 : Int32)), .val (Value.int (0 : Int32)), .val (Value.int (0 : Int32)), .unset] []))
      refine own_Go.by (fun tq kq => XS.iload X47.here hx rfl (hb hby at_120) rfl kq) ?_
      show own_Go p.tables e below _ (T47.setTop (mkF m 122 #[.val (Value.int p1), .val (Value.int p2), .val (Value.int p3), .val (Value.int p4), .val (Value.ref ob1), .val (Value.ref ob20), .val (Value.int (1 : Int32)), .val (Value.int (1 : Int32)), .val (Value.int (0 : Int32)), .val (Value.int (0 : Int32)), .unset] [(Value.int (0 : Int32))]))
      refine own_Go.by (fun tq kq => XS.iconst X47.here hx rfl (hb hby at_122) kq) ?_
      show own_Go p.tables e below _ (T47.setTop (mkF m 123 #[.val (Value.int p1), .val (Value.int p2), .val (Value.int p3), .val (Value.int p4), .val (Value.ref ob1), .val (Value.ref ob20), .val (Value.int (1 : Int32)), .val (Value.int (1 : Int32)), .val (Value.int (0 : Int32)), .val (Value.int (0 : Int32)), .unset] [(Value.int (2 : Int32)), (Value.int (0 : Int32))]))
      refine own_Go.by (fun tq kq => XS.icmpYes X47.here hx rfl (pc0 := 123) (pc' := 158) rfl (hb hby at_123) rfl (feq (by decide : ¬ ((0 : Int32) = (2 : Int32)))).2 (by decide) (by decide) kq) ?_
      show own_Go p.tables e below _ (T47.setTop (mkF m 158 #[.val (Value.int p1), .val (Value.int p2), .val (Value.int p3), .val (Value.int p4), .val (Value.ref ob1), .val (Value.ref ob20), .val (Value.int (1 : Int32)), .val (Value.int (1 : Int32)), .val (Value.int (0 : Int32)), .val (Value.int (0 : Int32)), .unset] []))
      refine own_Go.by (fun tq kq => XS.iconst X47.here hx rfl (hb hby at_158) kq) ?_
      show own_Go p.tables e below _ (T47.setTop (mkF m 159 #[.val (Value.int p1), .val (Value.int p2), .val (Value.int p3), .val (Value.int p4), .val (Value.ref ob1), .val (Value.ref ob20), .val (Value.int (1 : Int32)), .val (Value.int (1 : Int32)), .val (Value.int (0 : Int32)), .val (Value.int (0 : Int32)), .unset] [(Value.int (0 : Int32))]))
      refine own_Go.by (fun tq kq => XS.istore X47.here hx rfl (hb hby at_159) rfl (l' := #[.val (Value.int p1), .val (Value.int p2), .val (Value.int p3), .val (Value.int p4), .val (Value.ref ob1), .val (Value.ref ob20), .val (Value.int (1 : Int32)), .val (Value.int (1 : Int32)), .val (Value.int (0 : Int32)), .val (Value.int (0 : Int32)), .val (Value.int (0 : Int32))]) rfl kq) ?_
      show own_Go p.tables e below _ (T47.setTop (mkF m 161 #[.val (Value.int p1), .val (Value.int p2), .val (Value.int p3), .val (Value.int p4), .val (Value.ref ob1), .val (Value.ref ob20), .val (Value.int (1 : Int32)), .val (Value.int (1 : Int32)), .val (Value.int (0 : Int32)), .val (Value.int (0 : Int32)), .val (Value.int (0 : Int32))] []))
      refine own_Go.by (fun tq kq => XS.iload X47.here hx rfl (hb hby at_161) rfl kq) ?_
      show own_Go p.tables e below _ (T47.setTop (mkF m 163 #[.val (Value.int p1), .val (Value.int p2), .val (Value.int p3), .val (Value.int p4), .val (Value.ref ob1), .val (Value.ref ob20), .val (Value.int (1 : Int32)), .val (Value.int (1 : Int32)), .val (Value.int (0 : Int32)), .val (Value.int (0 : Int32)), .val (Value.int (0 : Int32))] [(Value.int (0 : Int32))]))
      refine own_Go.by (fun tq kq => XS.iload X47.here hx rfl (hb hby at_163) rfl kq) ?_
      show own_Go p.tables e below _ (T47.setTop (mkF m 165 #[.val (Value.int p1), .val (Value.int p2), .val (Value.int p3), .val (Value.int p4), .val (Value.ref ob1), .val (Value.ref ob20), .val (Value.int (1 : Int32)), .val (Value.int (1 : Int32)), .val (Value.int (0 : Int32)), .val (Value.int (0 : Int32)), .val (Value.int (0 : Int32))] [(Value.int (0 : Int32)), (Value.int (0 : Int32))]))
      refine own_Go.by (fun tq kq => XS.icmpNo X47.here hx rfl (hb hby at_165) rfl (teq (by decide : (0 : Int32) = (0 : Int32))).2 kq) ?_
      show own_Go p.tables e below _ (T47.setTop (mkF m 168 #[.val (Value.int p1), .val (Value.int p2), .val (Value.int p3), .val (Value.int p4), .val (Value.ref ob1), .val (Value.ref ob20), .val (Value.int (1 : Int32)), .val (Value.int (1 : Int32)), .val (Value.int (0 : Int32)), .val (Value.int (0 : Int32)), .val (Value.int (0 : Int32))] []))
      refine own_Go.by (fun tq kq => XS.iconst X47.here hx rfl (hb hby at_168) kq) ?_
      show own_Go p.tables e below _ (T47.setTop (mkF m 169 #[.val (Value.int p1), .val (Value.int p2), .val (Value.int p3), .val (Value.int p4), .val (Value.ref ob1), .val (Value.ref ob20), .val (Value.int (1 : Int32)), .val (Value.int (1 : Int32)), .val (Value.int (0 : Int32)), .val (Value.int (0 : Int32)), .val (Value.int (0 : Int32))] [(Value.int (1 : Int32))]))
      refine own_Go.by (fun tq kq => XS.goto X47.here hx rfl (pc0 := 169) (pc' := 173) rfl (hb hby at_169) (by decide) (by decide) kq) ?_
      show own_Go p.tables e below _ (T47.setTop (mkF m 173 #[.val (Value.int p1), .val (Value.int p2), .val (Value.int p3), .val (Value.int p4), .val (Value.ref ob1), .val (Value.ref ob20), .val (Value.int (1 : Int32)), .val (Value.int (1 : Int32)), .val (Value.int (0 : Int32)), .val (Value.int (0 : Int32)), .val (Value.int (0 : Int32))] [(Value.int (1 : Int32))]))
      obtain ⟨fs, hr, hrun, hended, hW, hsame⟩ := X47.leave (v := some (Value.int (nar .boolean (1 : Int32)))) (fun h => by rw [Bd.returns] at h; cases h)
      refine own_Go.fin (retN X47 hx (t := .boolean) Bd.returns (by simp) (hb hby at_173) hr) ⟨hrun, hended, _, _, rfl, ?_, ⟨_, rfl⟩, hW, hsame.mono (by decide) (by decide)⟩
      show Q0 Z p1 p2 p3 p4 zc vf h0 n0 _ T47.heap _
      rw [e47]
      exact ⟨rfl, N47, K25⟩
    ·
      subst hq_rr
      show own_Go p.tables e below _ (T23.setTop (mkF m 73 #[.val (Value.int p1), .val (Value.int p2), .val (Value.int p3), .val (Value.int p4), .val (Value.ref ob1), .val (Value.ref ob20), .val (Value.int (1 : Int32)), .unset, .unset, .unset, .unset] [(Value.int (1 : Int32)), (Value.int (1 : Int32))]))
      refine own_Go.by (fun tq kq => XS.iadd X23.here hx rfl (hb hby at_73) rfl kq) ?_
      show own_Go p.tables e below _ (T23.setTop (mkF m 74 #[.val (Value.int p1), .val (Value.int p2), .val (Value.int p3), .val (Value.int p4), .val (Value.ref ob1), .val (Value.ref ob20), .val (Value.int (1 : Int32)), .unset, .unset, .unset, .unset] [(Value.int (2 : Int32))]))
      refine own_Go.by (fun tq kq => XS.istore X23.here hx rfl (hb hby at_74) rfl (l' := #[.val (Value.int p1), .val (Value.int p2), .val (Value.int p3), .val (Value.int p4), .val (Value.ref ob1), .val (Value.ref ob20), .val (Value.int (1 : Int32)), .val (Value.int (2 : Int32)), .unset, .unset, .unset]) rfl kq) ?_
      by_cases hdot : r_8 = (46 : Int32)
      ·
        show own_Go p.tables e below _ (T23.setTop (mkF m 76 #[.val (Value.int p1), .val (Value.int p2), .val (Value.int p3), .val (Value.int p4), .val (Value.ref ob1), .val (Value.ref ob20), .val (Value.int (1 : Int32)), .val (Value.int (2 : Int32)), .unset, .unset, .unset] []))
        refine own_Go.by (fun tq kq => XS.aload X23.here hx rfl (hb hby at_76) rfl rfl kq) ?_
        show own_Go p.tables e below _ (T23.setTop (mkF m 78 #[.val (Value.int p1), .val (Value.int p2), .val (Value.int p3), .val (Value.int p4), .val (Value.ref ob1), .val (Value.ref ob20), .val (Value.int (1 : Int32)), .val (Value.int (2 : Int32)), .unset, .unset, .unset] [(Value.ref ob20)]))
        refine own_Go.by (fun tq kq => XS.iload X23.here hx rfl (hb hby at_78) rfl kq) ?_
        show own_Go p.tables e below _ (T23.setTop (mkF m 80 #[.val (Value.int p1), .val (Value.int p2), .val (Value.int p3), .val (Value.int p4), .val (Value.ref ob1), .val (Value.ref ob20), .val (Value.int (1 : Int32)), .val (Value.int (2 : Int32)), .unset, .unset, .unset] [(Value.int (1 : Int32)), (Value.ref ob20)]))
        refine own_Go.by (fun tq kq => XS.iload X23.here hx rfl (hb hby at_80) rfl kq) ?_
        show own_Go p.tables e below _ (T23.setTop (mkF m 82 #[.val (Value.int p1), .val (Value.int p2), .val (Value.int p3), .val (Value.int p4), .val (Value.ref ob1), .val (Value.ref ob20), .val (Value.int (1 : Int32)), .val (Value.int (2 : Int32)), .unset, .unset, .unset] [(Value.int (2 : Int32)), (Value.int (1 : Int32)), (Value.ref ob20)]))
        obtain ⟨_, _, ⟨T48, L48, k48, n48⟩, -, X48, ⟨Lc48, hQ48, l48, y48, z48⟩, st48⟩ := Jvm.LawKit.callS X23 hx (y := (⟨"com/example/enlace/enlace/DotSegments", "isDotSegment", "(Ljava/lang/String;II)Z"⟩ : MethodName)) hown (mvT hZ (hw _ (List.mem_of_getElem? (i := 35) rfl))) (mvT hZ (hw _ (List.mem_of_getElem? (i := 36) rfl))) (mvT hZ (hw _ (List.mem_of_getElem? (i := 37) rfl))) (mvT hZ (hw _ (List.mem_of_getElem? (i := 38) rfl))) (by decide) (backOf (W := 0) (rm8_1_2_t l Z a0 hw [] ob20 t23 kb23 r_4 r_8 r_12 r_16 zc vf T23.heap n0 O25 E23q V23q C23q A23q (hp23 : ∀ c ∈ ([r_4, r_8, r_12, r_16] : List Int32), ¬ c < 0 ∧ ¬ (255 : Int32) < c) H0 H1 (hzc : ¬ (zc = (0 : Int32))) (rvf : vf.isRef = true) hdot) hZ (hw _ (List.mem_of_getElem? (i := 38) rfl)) (hw _ (List.mem_of_getElem? (i := 37) rfl)) (by decide) (by decide)) (g := (mkF m 82 #[.val (Value.int p1), .val (Value.int p2), .val (Value.int p3), .val (Value.int p4), .val (Value.ref ob1), .val (Value.ref ob20), .val (Value.int (1 : Int32)), .val (Value.int (2 : Int32)), .unset, .unset, .unset] [(Value.int (2 : Int32)), (Value.int (1 : Int32)), (Value.ref ob20)])) rfl (by rw [hml]; rfl) (argsL := [(Value.ref ob20), (Value.int (1 : Int32)), (Value.int (2 : Int32))]) (rest := []) (lenOf own_pd2 rfl) rfl (by show 2 * 0 + _ ≤ _; exact Nat.le_of_eq rfl) (hb hby at_82) (fun _ _ => ⟨rfl, rfl, (by decide : 3 + 0 ≤ _), (by decide : 12 + 0 ≤ _)⟩)
        dsimp only [Pt.U, Pt.locs, Pt.cells, Pt.slots] at X48 l48 y48 z48 st48 hQ48
        subst l48 y48 z48
        refine own_Go.by st48 ?_
        obtain ⟨rfl, N48q, e48⟩ := hQ48
        have N48 := Fr.app N23 N48q
        show own_Go p.tables e below _ (T48.setTop (mkF m 85 #[.val (Value.int p1), .val (Value.int p2), .val (Value.int p3), .val (Value.int p4), .val (Value.ref ob1), .val (Value.ref ob20), .val (Value.int (1 : Int32)), .val (Value.int (2 : Int32)), .unset, .unset, .unset] [(Value.int (1 : Int32))]))
        refine own_Go.by (fun tq kq => XS.istore X48.here hx rfl (hb hby at_85) rfl (l' := #[.val (Value.int p1), .val (Value.int p2), .val (Value.int p3), .val (Value.int p4), .val (Value.ref ob1), .val (Value.ref ob20), .val (Value.int (1 : Int32)), .val (Value.int (2 : Int32)), .val (Value.int (1 : Int32)), .unset, .unset]) rfl kq) ?_
        show own_Go p.tables e below _ (T48.setTop (mkF m 87 #[.val (Value.int p1), .val (Value.int p2), .val (Value.int p3), .val (Value.int p4), .val (Value.ref ob1), .val (Value.ref ob20), .val (Value.int (1 : Int32)), .val (Value.int (2 : Int32)), .val (Value.int (1 : Int32)), .unset, .unset] []))
        refine own_Go.by (fun tq kq => XS.iload X48.here hx rfl (hb hby at_87) rfl kq) ?_
        show own_Go p.tables e below _ (T48.setTop (mkF m 89 #[.val (Value.int p1), .val (Value.int p2), .val (Value.int p3), .val (Value.int p4), .val (Value.ref ob1), .val (Value.ref ob20), .val (Value.int (1 : Int32)), .val (Value.int (2 : Int32)), .val (Value.int (1 : Int32)), .unset, .unset] [(Value.int (2 : Int32))]))
        refine own_Go.by (fun tq kq => XS.iload X48.here hx rfl (hb hby at_89) rfl kq) ?_
        show own_Go p.tables e below _ (T48.setTop (mkF m 91 #[.val (Value.int p1), .val (Value.int p2), .val (Value.int p3), .val (Value.int p4), .val (Value.ref ob1), .val (Value.ref ob20), .val (Value.int (1 : Int32)), .val (Value.int (2 : Int32)), .val (Value.int (1 : Int32)), .unset, .unset] [(Value.int (1 : Int32)), (Value.int (2 : Int32))]))
        refine own_Go.by (fun tq kq => XS.isub X48.here hx rfl (hb hby at_91) rfl kq) ?_
        show own_Go p.tables e below _ (T48.setTop (mkF m 92 #[.val (Value.int p1), .val (Value.int p2), .val (Value.int p3), .val (Value.int p4), .val (Value.ref ob1), .val (Value.ref ob20), .val (Value.int (1 : Int32)), .val (Value.int (2 : Int32)), .val (Value.int (1 : Int32)), .unset, .unset] [(Value.int (1 : Int32))]))
        refine own_Go.by (fun tq kq => XS.istore X48.here hx rfl (hb hby at_92) rfl (l' := #[.val (Value.int p1), .val (Value.int p2), .val (Value.int p3), .val (Value.int p4), .val (Value.ref ob1), .val (Value.ref ob20), .val (Value.int (1 : Int32)), .val (Value.int (2 : Int32)), .val (Value.int (1 : Int32)), .val (Value.int (1 : Int32)), .unset]) rfl kq) ?_
        show own_Go p.tables e below _ (T48.setTop (mkF m 94 #[.val (Value.int p1), .val (Value.int p2), .val (Value.int p3), .val (Value.int p4), .val (Value.ref ob1), .val (Value.ref ob20), .val (Value.int (1 : Int32)), .val (Value.int (2 : Int32)), .val (Value.int (1 : Int32)), .val (Value.int (1 : Int32)), .unset] []))
        refine own_Go.by (fun tq kq => XS.iload X48.here hx rfl (hb hby at_94) rfl kq) ?_
        show own_Go p.tables e below _ (T48.setTop (mkF m 96 #[.val (Value.int p1), .val (Value.int p2), .val (Value.int p3), .val (Value.int p4), .val (Value.ref ob1), .val (Value.ref ob20), .val (Value.int (1 : Int32)), .val (Value.int (2 : Int32)), .val (Value.int (1 : Int32)), .val (Value.int (1 : Int32)), .unset] [(Value.int (1 : Int32))]))
        refine own_Go.by (fun tq kq => XS.iconst X48.here hx rfl (hb hby at_96) kq) ?_
        show own_Go p.tables e below _ (T48.setTop (mkF m 97 #[.val (Value.int p1), .val (Value.int p2), .val (Value.int p3), .val (Value.int p4), .val (Value.ref ob1), .val (Value.ref ob20), .val (Value.int (1 : Int32)), .val (Value.int (2 : Int32)), .val (Value.int (1 : Int32)), .val (Value.int (1 : Int32)), .unset] [(Value.int (1 : Int32)), (Value.int (1 : Int32))]))
        refine own_Go.by (fun tq kq => XS.icmpNo X48.here hx rfl (hb hby at_97) rfl (teq (by decide : (1 : Int32) = (1 : Int32))).2 kq) ?_
        show own_Go p.tables e below _ (T48.setTop (mkF m 100 #[.val (Value.int p1), .val (Value.int p2), .val (Value.int p3), .val (Value.int p4), .val (Value.ref ob1), .val (Value.ref ob20), .val (Value.int (1 : Int32)), .val (Value.int (2 : Int32)), .val (Value.int (1 : Int32)), .val (Value.int (1 : Int32)), .unset] []))
        refine own_Go.by (fun tq kq => XS.aload X48.here hx rfl (hb hby at_100) rfl rfl kq) ?_
        show own_Go p.tables e below _ (T48.setTop (mkF m 102 #[.val (Value.int p1), .val (Value.int p2), .val (Value.int p3), .val (Value.int p4), .val (Value.ref ob1), .val (Value.ref ob20), .val (Value.int (1 : Int32)), .val (Value.int (2 : Int32)), .val (Value.int (1 : Int32)), .val (Value.int (1 : Int32)), .unset] [(Value.ref ob1)]))
        refine own_Go.by (fun tq kq => XS.iload X48.here hx rfl (hb hby at_102) rfl kq) ?_
        show own_Go p.tables e below _ (T48.setTop (mkF m 104 #[.val (Value.int p1), .val (Value.int p2), .val (Value.int p3), .val (Value.int p4), .val (Value.ref ob1), .val (Value.ref ob20), .val (Value.int (1 : Int32)), .val (Value.int (2 : Int32)), .val (Value.int (1 : Int32)), .val (Value.int (1 : Int32)), .unset] [(Value.int (1 : Int32)), (Value.ref ob1)]))
        have c49 := (c24.keep K23q (ninS (Nat.ne_of_lt (Nat.lt_of_lt_of_le A1.lt (Nat.le_trans (Keep.of_wr W6).1 (Nat.le_trans (Keep.of_wr W10).1 (Nat.le_trans (Keep.of_wr W14).1 (Nat.le_trans (Keep.of_wr W18).1 (Nat.le_of_eq y20.symm))))))) nin0))
        obtain ⟨cl50, Ar50, q50, S50, M50, Hh50, G50⟩ := id c49
        refine own_Go.by (fun tq kq => X48.caload hx (j := (1 : Int32)) (v := (Value.int r_8)) (by rw [e48]; exact Ar50.1) (State.isArrayOf_alike hZ.alike Ar50.2.1) Ar50.2.2 (inb_of S50 ⟨(by decide : ¬ ((1 : Int32) < (0 : Int32))), (by decide : (1 : Int32) < (4 : Int32))⟩) (Has.at Hh50 (inb_of S50 ⟨(by decide : ¬ ((1 : Int32) < (0 : Int32))), (by decide : (1 : Int32) < (4 : Int32))⟩) (rfl : _ = (Value.int r_8))) (g := (mkF m 104 #[.val (Value.int p1), .val (Value.int p2), .val (Value.int p3), .val (Value.int p4), .val (Value.ref ob1), .val (Value.ref ob20), .val (Value.int (1 : Int32)), .val (Value.int (2 : Int32)), .val (Value.int (1 : Int32)), .val (Value.int (1 : Int32)), .unset] [(Value.int (1 : Int32)), (Value.ref ob1)])) rfl rfl (hb hby at_104) _ kq) ?_
        show own_Go p.tables e below _ (T48.setTop (mkF m 105 #[.val (Value.int p1), .val (Value.int p2), .val (Value.int p3), .val (Value.int p4), .val (Value.ref ob1), .val (Value.ref ob20), .val (Value.int (1 : Int32)), .val (Value.int (2 : Int32)), .val (Value.int (1 : Int32)), .val (Value.int (1 : Int32)), .unset] [(Value.int r_8)]))
        refine own_Go.by (fun tq kq => XS.bipush X48.here hx rfl (hb hby at_105) kq) ?_
        show own_Go p.tables e below _ (T48.setTop (mkF m 107 #[.val (Value.int p1), .val (Value.int p2), .val (Value.int p3), .val (Value.int p4), .val (Value.ref ob1), .val (Value.ref ob20), .val (Value.int (1 : Int32)), .val (Value.int (2 : Int32)), .val (Value.int (1 : Int32)), .val (Value.int (1 : Int32)), .unset] [(Value.int (46 : Int32)), (Value.int r_8)]))
        refine own_Go.by (fun tq kq => XS.icmpNo X48.here hx rfl (hb hby at_107) rfl (teq hdot).2 kq) ?_
        show own_Go p.tables e below _ (T48.setTop (mkF m 110 #[.val (Value.int p1), .val (Value.int p2), .val (Value.int p3), .val (Value.int p4), .val (Value.ref ob1), .val (Value.ref ob20), .val (Value.int (1 : Int32)), .val (Value.int (2 : Int32)), .val (Value.int (1 : Int32)), .val (Value.int (1 : Int32)), .unset] []))
        refine own_Go.by (fun tq kq => XS.iconst X48.here hx rfl (hb hby at_110) kq) ?_
        show own_Go p.tables e below _ (T48.setTop (mkF m 111 #[.val (Value.int p1), .val (Value.int p2), .val (Value.int p3), .val (Value.int p4), .val (Value.ref ob1), .val (Value.ref ob20), .val (Value.int (1 : Int32)), .val (Value.int (2 : Int32)), .val (Value.int (1 : Int32)), .val (Value.int (1 : Int32)), .unset] [(Value.int (1 : Int32))]))
        refine own_Go.by (fun tq kq => XS.goto X48.here hx rfl (pc0 := 111) (pc' := 115) rfl (hb hby at_111) (by decide) (by decide) kq) ?_
        show own_Go p.tables e below _ (T48.setTop (mkF m 115 #[.val (Value.int p1), .val (Value.int p2), .val (Value.int p3), .val (Value.int p4), .val (Value.ref ob1), .val (Value.ref ob20), .val (Value.int (1 : Int32)), .val (Value.int (2 : Int32)), .val (Value.int (1 : Int32)), .val (Value.int (1 : Int32)), .unset] [(Value.int (1 : Int32))]))
        refine own_Go.by (fun tq kq => XS.istore X48.here hx rfl (hb hby at_115) rfl (l' := #[.val (Value.int p1), .val (Value.int p2), .val (Value.int p3), .val (Value.int p4), .val (Value.ref ob1), .val (Value.ref ob20), .val (Value.int (1 : Int32)), .val (Value.int (2 : Int32)), .val (Value.int (1 : Int32)), .val (Value.int (1 : Int32)), .val (Value.int (1 : Int32))]) rfl kq) ?_
        show own_Go p.tables e below _ (T48.setTop (mkF m 117 #[.val (Value.int p1), .val (Value.int p2), .val (Value.int p3), .val (Value.int p4), .val (Value.ref ob1), .val (Value.ref ob20), .val (Value.int (1 : Int32)), .val (Value.int (2 : Int32)), .val (Value.int (1 : Int32)), .val (Value.int (1 : Int32)), .val (Value.int (1 : Int32))] []))
        refine own_Go.by (fun tq kq => XS.goto X48.here hx rfl (pc0 := 117) (pc' := 161) rfl (hb hby at_117) (by decide) (by decide) kq) ?_
        show own_Go p.tables e below _ (T48.setTop (mkF m 161 #[.val (Value.int p1), .val (Value.int p2), .val (Value.int p3), .val (Value.int p4), .val (Value.ref ob1), .val (Value.ref ob20), .val (Value.int (1 : Int32)), .val (Value.int (2 : Int32)), .val (Value.int (1 : Int32)), .val (Value.int (1 : Int32)), .val (Value.int (1 : Int32))] []))
        refine own_Go.by (fun tq kq => XS.iload X48.here hx rfl (hb hby at_161) rfl kq) ?_
        show own_Go p.tables e below _ (T48.setTop (mkF m 163 #[.val (Value.int p1), .val (Value.int p2), .val (Value.int p3), .val (Value.int p4), .val (Value.ref ob1), .val (Value.ref ob20), .val (Value.int (1 : Int32)), .val (Value.int (2 : Int32)), .val (Value.int (1 : Int32)), .val (Value.int (1 : Int32)), .val (Value.int (1 : Int32))] [(Value.int (1 : Int32))]))
        refine own_Go.by (fun tq kq => XS.iload X48.here hx rfl (hb hby at_163) rfl kq) ?_
        show own_Go p.tables e below _ (T48.setTop (mkF m 165 #[.val (Value.int p1), .val (Value.int p2), .val (Value.int p3), .val (Value.int p4), .val (Value.ref ob1), .val (Value.ref ob20), .val (Value.int (1 : Int32)), .val (Value.int (2 : Int32)), .val (Value.int (1 : Int32)), .val (Value.int (1 : Int32)), .val (Value.int (1 : Int32))] [(Value.int (1 : Int32)), (Value.int (1 : Int32))]))
        refine own_Go.by (fun tq kq => XS.icmpNo X48.here hx rfl (hb hby at_165) rfl (teq (by decide : (1 : Int32) = (1 : Int32))).2 kq) ?_
        show own_Go p.tables e below _ (T48.setTop (mkF m 168 #[.val (Value.int p1), .val (Value.int p2), .val (Value.int p3), .val (Value.int p4), .val (Value.ref ob1), .val (Value.ref ob20), .val (Value.int (1 : Int32)), .val (Value.int (2 : Int32)), .val (Value.int (1 : Int32)), .val (Value.int (1 : Int32)), .val (Value.int (1 : Int32))] []))
        refine own_Go.by (fun tq kq => XS.iconst X48.here hx rfl (hb hby at_168) kq) ?_
        show own_Go p.tables e below _ (T48.setTop (mkF m 169 #[.val (Value.int p1), .val (Value.int p2), .val (Value.int p3), .val (Value.int p4), .val (Value.ref ob1), .val (Value.ref ob20), .val (Value.int (1 : Int32)), .val (Value.int (2 : Int32)), .val (Value.int (1 : Int32)), .val (Value.int (1 : Int32)), .val (Value.int (1 : Int32))] [(Value.int (1 : Int32))]))
        refine own_Go.by (fun tq kq => XS.goto X48.here hx rfl (pc0 := 169) (pc' := 173) rfl (hb hby at_169) (by decide) (by decide) kq) ?_
        show own_Go p.tables e below _ (T48.setTop (mkF m 173 #[.val (Value.int p1), .val (Value.int p2), .val (Value.int p3), .val (Value.int p4), .val (Value.ref ob1), .val (Value.ref ob20), .val (Value.int (1 : Int32)), .val (Value.int (2 : Int32)), .val (Value.int (1 : Int32)), .val (Value.int (1 : Int32)), .val (Value.int (1 : Int32))] [(Value.int (1 : Int32))]))
        obtain ⟨fs, hr, hrun, hended, hW, hsame⟩ := X48.leave (v := some (Value.int (nar .boolean (1 : Int32)))) (fun h => by rw [Bd.returns] at h; cases h)
        refine own_Go.fin (retN X48 hx (t := .boolean) Bd.returns (by simp) (hb hby at_173) hr) ⟨hrun, hended, _, _, rfl, ?_, ⟨_, rfl⟩, hW, hsame.mono (by decide) (by decide)⟩
        show Q0 Z p1 p2 p3 p4 zc vf h0 n0 _ T48.heap _
        rw [e48]
        exact ⟨rfl, N48, K25⟩
      ·
        show own_Go p.tables e below _ (T23.setTop (mkF m 76 #[.val (Value.int p1), .val (Value.int p2), .val (Value.int p3), .val (Value.int p4), .val (Value.ref ob1), .val (Value.ref ob20), .val (Value.int (1 : Int32)), .val (Value.int (2 : Int32)), .unset, .unset, .unset] []))
        refine own_Go.by (fun tq kq => XS.aload X23.here hx rfl (hb hby at_76) rfl rfl kq) ?_
        show own_Go p.tables e below _ (T23.setTop (mkF m 78 #[.val (Value.int p1), .val (Value.int p2), .val (Value.int p3), .val (Value.int p4), .val (Value.ref ob1), .val (Value.ref ob20), .val (Value.int (1 : Int32)), .val (Value.int (2 : Int32)), .unset, .unset, .unset] [(Value.ref ob20)]))
        refine own_Go.by (fun tq kq => XS.iload X23.here hx rfl (hb hby at_78) rfl kq) ?_
        show own_Go p.tables e below _ (T23.setTop (mkF m 80 #[.val (Value.int p1), .val (Value.int p2), .val (Value.int p3), .val (Value.int p4), .val (Value.ref ob1), .val (Value.ref ob20), .val (Value.int (1 : Int32)), .val (Value.int (2 : Int32)), .unset, .unset, .unset] [(Value.int (1 : Int32)), (Value.ref ob20)]))
        refine own_Go.by (fun tq kq => XS.iload X23.here hx rfl (hb hby at_80) rfl kq) ?_
        show own_Go p.tables e below _ (T23.setTop (mkF m 82 #[.val (Value.int p1), .val (Value.int p2), .val (Value.int p3), .val (Value.int p4), .val (Value.ref ob1), .val (Value.ref ob20), .val (Value.int (1 : Int32)), .val (Value.int (2 : Int32)), .unset, .unset, .unset] [(Value.int (2 : Int32)), (Value.int (1 : Int32)), (Value.ref ob20)]))
        obtain ⟨_, _, ⟨T51, L51, k51, n51⟩, -, X51, ⟨Lc51, hQ51, l51, y51, z51⟩, st51⟩ := Jvm.LawKit.callS X23 hx (y := (⟨"com/example/enlace/enlace/DotSegments", "isDotSegment", "(Ljava/lang/String;II)Z"⟩ : MethodName)) hown (mvT hZ (hw _ (List.mem_of_getElem? (i := 35) rfl))) (mvT hZ (hw _ (List.mem_of_getElem? (i := 36) rfl))) (mvT hZ (hw _ (List.mem_of_getElem? (i := 37) rfl))) (mvT hZ (hw _ (List.mem_of_getElem? (i := 38) rfl))) (by decide) (backOf (W := 0) (rm8_1_2_f l Z a0 hw [] ob20 t23 kb23 r_4 r_8 r_12 r_16 zc vf T23.heap n0 O25 E23q V23q C23q A23q (hp23 : ∀ c ∈ ([r_4, r_8, r_12, r_16] : List Int32), ¬ c < 0 ∧ ¬ (255 : Int32) < c) H0 H1 (hzc : ¬ (zc = (0 : Int32))) (rvf : vf.isRef = true) hdot) hZ (hw _ (List.mem_of_getElem? (i := 38) rfl)) (hw _ (List.mem_of_getElem? (i := 37) rfl)) (by decide) (by decide)) (g := (mkF m 82 #[.val (Value.int p1), .val (Value.int p2), .val (Value.int p3), .val (Value.int p4), .val (Value.ref ob1), .val (Value.ref ob20), .val (Value.int (1 : Int32)), .val (Value.int (2 : Int32)), .unset, .unset, .unset] [(Value.int (2 : Int32)), (Value.int (1 : Int32)), (Value.ref ob20)])) rfl (by rw [hml]; rfl) (argsL := [(Value.ref ob20), (Value.int (1 : Int32)), (Value.int (2 : Int32))]) (rest := []) (lenOf own_pd2 rfl) rfl (by show 2 * 0 + _ ≤ _; exact Nat.le_of_eq rfl) (hb hby at_82) (fun _ _ => ⟨rfl, rfl, (by decide : 3 + 0 ≤ _), (by decide : 12 + 0 ≤ _)⟩)
        dsimp only [Pt.U, Pt.locs, Pt.cells, Pt.slots] at X51 l51 y51 z51 st51 hQ51
        subst l51 y51 z51
        refine own_Go.by st51 ?_
        obtain ⟨rfl, N51q, e51⟩ := hQ51
        have N51 := Fr.app N23 N51q
        show own_Go p.tables e below _ (T51.setTop (mkF m 85 #[.val (Value.int p1), .val (Value.int p2), .val (Value.int p3), .val (Value.int p4), .val (Value.ref ob1), .val (Value.ref ob20), .val (Value.int (1 : Int32)), .val (Value.int (2 : Int32)), .unset, .unset, .unset] [(Value.int (0 : Int32))]))
        refine own_Go.by (fun tq kq => XS.istore X51.here hx rfl (hb hby at_85) rfl (l' := #[.val (Value.int p1), .val (Value.int p2), .val (Value.int p3), .val (Value.int p4), .val (Value.ref ob1), .val (Value.ref ob20), .val (Value.int (1 : Int32)), .val (Value.int (2 : Int32)), .val (Value.int (0 : Int32)), .unset, .unset]) rfl kq) ?_
        show own_Go p.tables e below _ (T51.setTop (mkF m 87 #[.val (Value.int p1), .val (Value.int p2), .val (Value.int p3), .val (Value.int p4), .val (Value.ref ob1), .val (Value.ref ob20), .val (Value.int (1 : Int32)), .val (Value.int (2 : Int32)), .val (Value.int (0 : Int32)), .unset, .unset] []))
        refine own_Go.by (fun tq kq => XS.iload X51.here hx rfl (hb hby at_87) rfl kq) ?_
        show own_Go p.tables e below _ (T51.setTop (mkF m 89 #[.val (Value.int p1), .val (Value.int p2), .val (Value.int p3), .val (Value.int p4), .val (Value.ref ob1), .val (Value.ref ob20), .val (Value.int (1 : Int32)), .val (Value.int (2 : Int32)), .val (Value.int (0 : Int32)), .unset, .unset] [(Value.int (2 : Int32))]))
        refine own_Go.by (fun tq kq => XS.iload X51.here hx rfl (hb hby at_89) rfl kq) ?_
        show own_Go p.tables e below _ (T51.setTop (mkF m 91 #[.val (Value.int p1), .val (Value.int p2), .val (Value.int p3), .val (Value.int p4), .val (Value.ref ob1), .val (Value.ref ob20), .val (Value.int (1 : Int32)), .val (Value.int (2 : Int32)), .val (Value.int (0 : Int32)), .unset, .unset] [(Value.int (1 : Int32)), (Value.int (2 : Int32))]))
        refine own_Go.by (fun tq kq => XS.isub X51.here hx rfl (hb hby at_91) rfl kq) ?_
        show own_Go p.tables e below _ (T51.setTop (mkF m 92 #[.val (Value.int p1), .val (Value.int p2), .val (Value.int p3), .val (Value.int p4), .val (Value.ref ob1), .val (Value.ref ob20), .val (Value.int (1 : Int32)), .val (Value.int (2 : Int32)), .val (Value.int (0 : Int32)), .unset, .unset] [(Value.int (1 : Int32))]))
        refine own_Go.by (fun tq kq => XS.istore X51.here hx rfl (hb hby at_92) rfl (l' := #[.val (Value.int p1), .val (Value.int p2), .val (Value.int p3), .val (Value.int p4), .val (Value.ref ob1), .val (Value.ref ob20), .val (Value.int (1 : Int32)), .val (Value.int (2 : Int32)), .val (Value.int (0 : Int32)), .val (Value.int (1 : Int32)), .unset]) rfl kq) ?_
        show own_Go p.tables e below _ (T51.setTop (mkF m 94 #[.val (Value.int p1), .val (Value.int p2), .val (Value.int p3), .val (Value.int p4), .val (Value.ref ob1), .val (Value.ref ob20), .val (Value.int (1 : Int32)), .val (Value.int (2 : Int32)), .val (Value.int (0 : Int32)), .val (Value.int (1 : Int32)), .unset] []))
        refine own_Go.by (fun tq kq => XS.iload X51.here hx rfl (hb hby at_94) rfl kq) ?_
        show own_Go p.tables e below _ (T51.setTop (mkF m 96 #[.val (Value.int p1), .val (Value.int p2), .val (Value.int p3), .val (Value.int p4), .val (Value.ref ob1), .val (Value.ref ob20), .val (Value.int (1 : Int32)), .val (Value.int (2 : Int32)), .val (Value.int (0 : Int32)), .val (Value.int (1 : Int32)), .unset] [(Value.int (1 : Int32))]))
        refine own_Go.by (fun tq kq => XS.iconst X51.here hx rfl (hb hby at_96) kq) ?_
        show own_Go p.tables e below _ (T51.setTop (mkF m 97 #[.val (Value.int p1), .val (Value.int p2), .val (Value.int p3), .val (Value.int p4), .val (Value.ref ob1), .val (Value.ref ob20), .val (Value.int (1 : Int32)), .val (Value.int (2 : Int32)), .val (Value.int (0 : Int32)), .val (Value.int (1 : Int32)), .unset] [(Value.int (1 : Int32)), (Value.int (1 : Int32))]))
        refine own_Go.by (fun tq kq => XS.icmpNo X51.here hx rfl (hb hby at_97) rfl (teq (by decide : (1 : Int32) = (1 : Int32))).2 kq) ?_
        show own_Go p.tables e below _ (T51.setTop (mkF m 100 #[.val (Value.int p1), .val (Value.int p2), .val (Value.int p3), .val (Value.int p4), .val (Value.ref ob1), .val (Value.ref ob20), .val (Value.int (1 : Int32)), .val (Value.int (2 : Int32)), .val (Value.int (0 : Int32)), .val (Value.int (1 : Int32)), .unset] []))
        refine own_Go.by (fun tq kq => XS.aload X51.here hx rfl (hb hby at_100) rfl rfl kq) ?_
        show own_Go p.tables e below _ (T51.setTop (mkF m 102 #[.val (Value.int p1), .val (Value.int p2), .val (Value.int p3), .val (Value.int p4), .val (Value.ref ob1), .val (Value.ref ob20), .val (Value.int (1 : Int32)), .val (Value.int (2 : Int32)), .val (Value.int (0 : Int32)), .val (Value.int (1 : Int32)), .unset] [(Value.ref ob1)]))
        refine own_Go.by (fun tq kq => XS.iload X51.here hx rfl (hb hby at_102) rfl kq) ?_
        show own_Go p.tables e below _ (T51.setTop (mkF m 104 #[.val (Value.int p1), .val (Value.int p2), .val (Value.int p3), .val (Value.int p4), .val (Value.ref ob1), .val (Value.ref ob20), .val (Value.int (1 : Int32)), .val (Value.int (2 : Int32)), .val (Value.int (0 : Int32)), .val (Value.int (1 : Int32)), .unset] [(Value.int (1 : Int32)), (Value.ref ob1)]))
        have c52 := (c24.keep K23q (ninS (Nat.ne_of_lt (Nat.lt_of_lt_of_le A1.lt (Nat.le_trans (Keep.of_wr W6).1 (Nat.le_trans (Keep.of_wr W10).1 (Nat.le_trans (Keep.of_wr W14).1 (Nat.le_trans (Keep.of_wr W18).1 (Nat.le_of_eq y20.symm))))))) nin0))
        obtain ⟨cl53, Ar53, q53, S53, M53, Hh53, G53⟩ := id c52
        refine own_Go.by (fun tq kq => X51.caload hx (j := (1 : Int32)) (v := (Value.int r_8)) (by rw [e51]; exact Ar53.1) (State.isArrayOf_alike hZ.alike Ar53.2.1) Ar53.2.2 (inb_of S53 ⟨(by decide : ¬ ((1 : Int32) < (0 : Int32))), (by decide : (1 : Int32) < (4 : Int32))⟩) (Has.at Hh53 (inb_of S53 ⟨(by decide : ¬ ((1 : Int32) < (0 : Int32))), (by decide : (1 : Int32) < (4 : Int32))⟩) (rfl : _ = (Value.int r_8))) (g := (mkF m 104 #[.val (Value.int p1), .val (Value.int p2), .val (Value.int p3), .val (Value.int p4), .val (Value.ref ob1), .val (Value.ref ob20), .val (Value.int (1 : Int32)), .val (Value.int (2 : Int32)), .val (Value.int (0 : Int32)), .val (Value.int (1 : Int32)), .unset] [(Value.int (1 : Int32)), (Value.ref ob1)])) rfl rfl (hb hby at_104) _ kq) ?_
        show own_Go p.tables e below _ (T51.setTop (mkF m 105 #[.val (Value.int p1), .val (Value.int p2), .val (Value.int p3), .val (Value.int p4), .val (Value.ref ob1), .val (Value.ref ob20), .val (Value.int (1 : Int32)), .val (Value.int (2 : Int32)), .val (Value.int (0 : Int32)), .val (Value.int (1 : Int32)), .unset] [(Value.int r_8)]))
        refine own_Go.by (fun tq kq => XS.bipush X51.here hx rfl (hb hby at_105) kq) ?_
        show own_Go p.tables e below _ (T51.setTop (mkF m 107 #[.val (Value.int p1), .val (Value.int p2), .val (Value.int p3), .val (Value.int p4), .val (Value.ref ob1), .val (Value.ref ob20), .val (Value.int (1 : Int32)), .val (Value.int (2 : Int32)), .val (Value.int (0 : Int32)), .val (Value.int (1 : Int32)), .unset] [(Value.int (46 : Int32)), (Value.int r_8)]))
        refine own_Go.by (fun tq kq => XS.icmpYes X51.here hx rfl (pc0 := 107) (pc' := 114) rfl (hb hby at_107) rfl (feq hdot).2 (by decide) (by decide) kq) ?_
        show own_Go p.tables e below _ (T51.setTop (mkF m 114 #[.val (Value.int p1), .val (Value.int p2), .val (Value.int p3), .val (Value.int p4), .val (Value.ref ob1), .val (Value.ref ob20), .val (Value.int (1 : Int32)), .val (Value.int (2 : Int32)), .val (Value.int (0 : Int32)), .val (Value.int (1 : Int32)), .unset] []))
        refine own_Go.by (fun tq kq => XS.iconst X51.here hx rfl (hb hby at_114) kq) ?_
        show own_Go p.tables e below _ (T51.setTop (mkF m 115 #[.val (Value.int p1), .val (Value.int p2), .val (Value.int p3), .val (Value.int p4), .val (Value.ref ob1), .val (Value.ref ob20), .val (Value.int (1 : Int32)), .val (Value.int (2 : Int32)), .val (Value.int (0 : Int32)), .val (Value.int (1 : Int32)), .unset] [(Value.int (0 : Int32))]))
        refine own_Go.by (fun tq kq => XS.istore X51.here hx rfl (hb hby at_115) rfl (l' := #[.val (Value.int p1), .val (Value.int p2), .val (Value.int p3), .val (Value.int p4), .val (Value.ref ob1), .val (Value.ref ob20), .val (Value.int (1 : Int32)), .val (Value.int (2 : Int32)), .val (Value.int (0 : Int32)), .val (Value.int (1 : Int32)), .val (Value.int (0 : Int32))]) rfl kq) ?_
        show own_Go p.tables e below _ (T51.setTop (mkF m 117 #[.val (Value.int p1), .val (Value.int p2), .val (Value.int p3), .val (Value.int p4), .val (Value.ref ob1), .val (Value.ref ob20), .val (Value.int (1 : Int32)), .val (Value.int (2 : Int32)), .val (Value.int (0 : Int32)), .val (Value.int (1 : Int32)), .val (Value.int (0 : Int32))] []))
        refine own_Go.by (fun tq kq => XS.goto X51.here hx rfl (pc0 := 117) (pc' := 161) rfl (hb hby at_117) (by decide) (by decide) kq) ?_
        show own_Go p.tables e below _ (T51.setTop (mkF m 161 #[.val (Value.int p1), .val (Value.int p2), .val (Value.int p3), .val (Value.int p4), .val (Value.ref ob1), .val (Value.ref ob20), .val (Value.int (1 : Int32)), .val (Value.int (2 : Int32)), .val (Value.int (0 : Int32)), .val (Value.int (1 : Int32)), .val (Value.int (0 : Int32))] []))
        refine own_Go.by (fun tq kq => XS.iload X51.here hx rfl (hb hby at_161) rfl kq) ?_
        show own_Go p.tables e below _ (T51.setTop (mkF m 163 #[.val (Value.int p1), .val (Value.int p2), .val (Value.int p3), .val (Value.int p4), .val (Value.ref ob1), .val (Value.ref ob20), .val (Value.int (1 : Int32)), .val (Value.int (2 : Int32)), .val (Value.int (0 : Int32)), .val (Value.int (1 : Int32)), .val (Value.int (0 : Int32))] [(Value.int (0 : Int32))]))
        refine own_Go.by (fun tq kq => XS.iload X51.here hx rfl (hb hby at_163) rfl kq) ?_
        show own_Go p.tables e below _ (T51.setTop (mkF m 165 #[.val (Value.int p1), .val (Value.int p2), .val (Value.int p3), .val (Value.int p4), .val (Value.ref ob1), .val (Value.ref ob20), .val (Value.int (1 : Int32)), .val (Value.int (2 : Int32)), .val (Value.int (0 : Int32)), .val (Value.int (1 : Int32)), .val (Value.int (0 : Int32))] [(Value.int (0 : Int32)), (Value.int (0 : Int32))]))
        refine own_Go.by (fun tq kq => XS.icmpNo X51.here hx rfl (hb hby at_165) rfl (teq (by decide : (0 : Int32) = (0 : Int32))).2 kq) ?_
        show own_Go p.tables e below _ (T51.setTop (mkF m 168 #[.val (Value.int p1), .val (Value.int p2), .val (Value.int p3), .val (Value.int p4), .val (Value.ref ob1), .val (Value.ref ob20), .val (Value.int (1 : Int32)), .val (Value.int (2 : Int32)), .val (Value.int (0 : Int32)), .val (Value.int (1 : Int32)), .val (Value.int (0 : Int32))] []))
        refine own_Go.by (fun tq kq => XS.iconst X51.here hx rfl (hb hby at_168) kq) ?_
        show own_Go p.tables e below _ (T51.setTop (mkF m 169 #[.val (Value.int p1), .val (Value.int p2), .val (Value.int p3), .val (Value.int p4), .val (Value.ref ob1), .val (Value.ref ob20), .val (Value.int (1 : Int32)), .val (Value.int (2 : Int32)), .val (Value.int (0 : Int32)), .val (Value.int (1 : Int32)), .val (Value.int (0 : Int32))] [(Value.int (1 : Int32))]))
        refine own_Go.by (fun tq kq => XS.goto X51.here hx rfl (pc0 := 169) (pc' := 173) rfl (hb hby at_169) (by decide) (by decide) kq) ?_
        show own_Go p.tables e below _ (T51.setTop (mkF m 173 #[.val (Value.int p1), .val (Value.int p2), .val (Value.int p3), .val (Value.int p4), .val (Value.ref ob1), .val (Value.ref ob20), .val (Value.int (1 : Int32)), .val (Value.int (2 : Int32)), .val (Value.int (0 : Int32)), .val (Value.int (1 : Int32)), .val (Value.int (0 : Int32))] [(Value.int (1 : Int32))]))
        obtain ⟨fs, hr, hrun, hended, hW, hsame⟩ := X51.leave (v := some (Value.int (nar .boolean (1 : Int32)))) (fun h => by rw [Bd.returns] at h; cases h)
        refine own_Go.fin (retN X51 hx (t := .boolean) Bd.returns (by simp) (hb hby at_173) hr) ⟨hrun, hended, _, _, rfl, ?_, ⟨_, rfl⟩, hW, hsame.mono (by decide) (by decide)⟩
        show Q0 Z p1 p2 p3 p4 zc vf h0 n0 _ T51.heap _
        rw [e51]
        exact ⟨rfl, N51, K25⟩
    ·
      subst hq_rr
      show own_Go p.tables e below _ (T23.setTop (mkF m 73 #[.val (Value.int p1), .val (Value.int p2), .val (Value.int p3), .val (Value.int p4), .val (Value.ref ob1), .val (Value.ref ob20), .val (Value.int (1 : Int32)), .unset, .unset, .unset, .unset] [(Value.int (2 : Int32)), (Value.int (1 : Int32))]))
      refine own_Go.by (fun tq kq => XS.iadd X23.here hx rfl (hb hby at_73) rfl kq) ?_
      show own_Go p.tables e below _ (T23.setTop (mkF m 74 #[.val (Value.int p1), .val (Value.int p2), .val (Value.int p3), .val (Value.int p4), .val (Value.ref ob1), .val (Value.ref ob20), .val (Value.int (1 : Int32)), .unset, .unset, .unset, .unset] [(Value.int (3 : Int32))]))
      refine own_Go.by (fun tq kq => XS.istore X23.here hx rfl (hb hby at_74) rfl (l' := #[.val (Value.int p1), .val (Value.int p2), .val (Value.int p3), .val (Value.int p4), .val (Value.ref ob1), .val (Value.ref ob20), .val (Value.int (1 : Int32)), .val (Value.int (3 : Int32)), .unset, .unset, .unset]) rfl kq) ?_
      by_cases hdot : r_8 = (46 : Int32)
      ·
        by_cases hdot2 : r_12 = (46 : Int32)
        ·
          show own_Go p.tables e below _ (T23.setTop (mkF m 76 #[.val (Value.int p1), .val (Value.int p2), .val (Value.int p3), .val (Value.int p4), .val (Value.ref ob1), .val (Value.ref ob20), .val (Value.int (1 : Int32)), .val (Value.int (3 : Int32)), .unset, .unset, .unset] []))
          refine own_Go.by (fun tq kq => XS.aload X23.here hx rfl (hb hby at_76) rfl rfl kq) ?_
          show own_Go p.tables e below _ (T23.setTop (mkF m 78 #[.val (Value.int p1), .val (Value.int p2), .val (Value.int p3), .val (Value.int p4), .val (Value.ref ob1), .val (Value.ref ob20), .val (Value.int (1 : Int32)), .val (Value.int (3 : Int32)), .unset, .unset, .unset] [(Value.ref ob20)]))
          refine own_Go.by (fun tq kq => XS.iload X23.here hx rfl (hb hby at_78) rfl kq) ?_
          show own_Go p.tables e below _ (T23.setTop (mkF m 80 #[.val (Value.int p1), .val (Value.int p2), .val (Value.int p3), .val (Value.int p4), .val (Value.ref ob1), .val (Value.ref ob20), .val (Value.int (1 : Int32)), .val (Value.int (3 : Int32)), .unset, .unset, .unset] [(Value.int (1 : Int32)), (Value.ref ob20)]))
          refine own_Go.by (fun tq kq => XS.iload X23.here hx rfl (hb hby at_80) rfl kq) ?_
          show own_Go p.tables e below _ (T23.setTop (mkF m 82 #[.val (Value.int p1), .val (Value.int p2), .val (Value.int p3), .val (Value.int p4), .val (Value.ref ob1), .val (Value.ref ob20), .val (Value.int (1 : Int32)), .val (Value.int (3 : Int32)), .unset, .unset, .unset] [(Value.int (3 : Int32)), (Value.int (1 : Int32)), (Value.ref ob20)]))
          obtain ⟨_, _, ⟨T54, L54, k54, n54⟩, -, X54, ⟨Lc54, hQ54, l54, y54, z54⟩, st54⟩ := Jvm.LawKit.callS X23 hx (y := (⟨"com/example/enlace/enlace/DotSegments", "isDotSegment", "(Ljava/lang/String;II)Z"⟩ : MethodName)) hown (mvT hZ (hw _ (List.mem_of_getElem? (i := 35) rfl))) (mvT hZ (hw _ (List.mem_of_getElem? (i := 36) rfl))) (mvT hZ (hw _ (List.mem_of_getElem? (i := 37) rfl))) (mvT hZ (hw _ (List.mem_of_getElem? (i := 38) rfl))) (by decide) (backOf (W := 0) (rm8_1_3_tt l Z a0 hw [] ob20 t23 kb23 r_4 r_8 r_12 r_16 zc vf T23.heap n0 O25 E23q V23q C23q A23q (hp23 : ∀ c ∈ ([r_4, r_8, r_12, r_16] : List Int32), ¬ c < 0 ∧ ¬ (255 : Int32) < c) H0 H1 (hzc : ¬ (zc = (0 : Int32))) (rvf : vf.isRef = true) hdot hdot2) hZ (hw _ (List.mem_of_getElem? (i := 38) rfl)) (hw _ (List.mem_of_getElem? (i := 37) rfl)) (by decide) (by decide)) (g := (mkF m 82 #[.val (Value.int p1), .val (Value.int p2), .val (Value.int p3), .val (Value.int p4), .val (Value.ref ob1), .val (Value.ref ob20), .val (Value.int (1 : Int32)), .val (Value.int (3 : Int32)), .unset, .unset, .unset] [(Value.int (3 : Int32)), (Value.int (1 : Int32)), (Value.ref ob20)])) rfl (by rw [hml]; rfl) (argsL := [(Value.ref ob20), (Value.int (1 : Int32)), (Value.int (3 : Int32))]) (rest := []) (lenOf own_pd2 rfl) rfl (by show 2 * 0 + _ ≤ _; exact Nat.le_of_eq rfl) (hb hby at_82) (fun _ _ => ⟨rfl, rfl, (by decide : 3 + 0 ≤ _), (by decide : 12 + 0 ≤ _)⟩)
          dsimp only [Pt.U, Pt.locs, Pt.cells, Pt.slots] at X54 l54 y54 z54 st54 hQ54
          subst l54 y54 z54
          refine own_Go.by st54 ?_
          obtain ⟨rfl, N54q, e54⟩ := hQ54
          have N54 := Fr.app N23 N54q
          show own_Go p.tables e below _ (T54.setTop (mkF m 85 #[.val (Value.int p1), .val (Value.int p2), .val (Value.int p3), .val (Value.int p4), .val (Value.ref ob1), .val (Value.ref ob20), .val (Value.int (1 : Int32)), .val (Value.int (3 : Int32)), .unset, .unset, .unset] [(Value.int (1 : Int32))]))
          refine own_Go.by (fun tq kq => XS.istore X54.here hx rfl (hb hby at_85) rfl (l' := #[.val (Value.int p1), .val (Value.int p2), .val (Value.int p3), .val (Value.int p4), .val (Value.ref ob1), .val (Value.ref ob20), .val (Value.int (1 : Int32)), .val (Value.int (3 : Int32)), .val (Value.int (1 : Int32)), .unset, .unset]) rfl kq) ?_
          show own_Go p.tables e below _ (T54.setTop (mkF m 87 #[.val (Value.int p1), .val (Value.int p2), .val (Value.int p3), .val (Value.int p4), .val (Value.ref ob1), .val (Value.ref ob20), .val (Value.int (1 : Int32)), .val (Value.int (3 : Int32)), .val (Value.int (1 : Int32)), .unset, .unset] []))
          refine own_Go.by (fun tq kq => XS.iload X54.here hx rfl (hb hby at_87) rfl kq) ?_
          show own_Go p.tables e below _ (T54.setTop (mkF m 89 #[.val (Value.int p1), .val (Value.int p2), .val (Value.int p3), .val (Value.int p4), .val (Value.ref ob1), .val (Value.ref ob20), .val (Value.int (1 : Int32)), .val (Value.int (3 : Int32)), .val (Value.int (1 : Int32)), .unset, .unset] [(Value.int (3 : Int32))]))
          refine own_Go.by (fun tq kq => XS.iload X54.here hx rfl (hb hby at_89) rfl kq) ?_
          show own_Go p.tables e below _ (T54.setTop (mkF m 91 #[.val (Value.int p1), .val (Value.int p2), .val (Value.int p3), .val (Value.int p4), .val (Value.ref ob1), .val (Value.ref ob20), .val (Value.int (1 : Int32)), .val (Value.int (3 : Int32)), .val (Value.int (1 : Int32)), .unset, .unset] [(Value.int (1 : Int32)), (Value.int (3 : Int32))]))
          refine own_Go.by (fun tq kq => XS.isub X54.here hx rfl (hb hby at_91) rfl kq) ?_
          show own_Go p.tables e below _ (T54.setTop (mkF m 92 #[.val (Value.int p1), .val (Value.int p2), .val (Value.int p3), .val (Value.int p4), .val (Value.ref ob1), .val (Value.ref ob20), .val (Value.int (1 : Int32)), .val (Value.int (3 : Int32)), .val (Value.int (1 : Int32)), .unset, .unset] [(Value.int (2 : Int32))]))
          refine own_Go.by (fun tq kq => XS.istore X54.here hx rfl (hb hby at_92) rfl (l' := #[.val (Value.int p1), .val (Value.int p2), .val (Value.int p3), .val (Value.int p4), .val (Value.ref ob1), .val (Value.ref ob20), .val (Value.int (1 : Int32)), .val (Value.int (3 : Int32)), .val (Value.int (1 : Int32)), .val (Value.int (2 : Int32)), .unset]) rfl kq) ?_
          show own_Go p.tables e below _ (T54.setTop (mkF m 94 #[.val (Value.int p1), .val (Value.int p2), .val (Value.int p3), .val (Value.int p4), .val (Value.ref ob1), .val (Value.ref ob20), .val (Value.int (1 : Int32)), .val (Value.int (3 : Int32)), .val (Value.int (1 : Int32)), .val (Value.int (2 : Int32)), .unset] []))
          refine own_Go.by (fun tq kq => XS.iload X54.here hx rfl (hb hby at_94) rfl kq) ?_
          show own_Go p.tables e below _ (T54.setTop (mkF m 96 #[.val (Value.int p1), .val (Value.int p2), .val (Value.int p3), .val (Value.int p4), .val (Value.ref ob1), .val (Value.ref ob20), .val (Value.int (1 : Int32)), .val (Value.int (3 : Int32)), .val (Value.int (1 : Int32)), .val (Value.int (2 : Int32)), .unset] [(Value.int (2 : Int32))]))
          refine own_Go.by (fun tq kq => XS.iconst X54.here hx rfl (hb hby at_96) kq) ?_
          show own_Go p.tables e below _ (T54.setTop (mkF m 97 #[.val (Value.int p1), .val (Value.int p2), .val (Value.int p3), .val (Value.int p4), .val (Value.ref ob1), .val (Value.ref ob20), .val (Value.int (1 : Int32)), .val (Value.int (3 : Int32)), .val (Value.int (1 : Int32)), .val (Value.int (2 : Int32)), .unset] [(Value.int (1 : Int32)), (Value.int (2 : Int32))]))
          refine own_Go.by (fun tq kq => XS.icmpYes X54.here hx rfl (pc0 := 97) (pc' := 120) rfl (hb hby at_97) rfl (feq (by decide : ¬ ((2 : Int32) = (1 : Int32)))).2 (by decide) (by decide) kq) ?_
          show own_Go p.tables e below _ (T54.setTop (mkF m 120 #[.val (Value.int p1), .val (Value.int p2), .val (Value.int p3), .val (Value.int p4), .val (Value.ref ob1), .val (Value.ref ob20), .val (Value.int (1 : Int32)), .val (Value.int (3 : Int32)), .val (Value.int (1 : Int32)), .val (Value.int (2 : Int32)), .unset] []))
          refine own_Go.by (fun tq kq => XS.iload X54.here hx rfl (hb hby at_120) rfl kq) ?_
          show own_Go p.tables e below _ (T54.setTop (mkF m 122 #[.val (Value.int p1), .val (Value.int p2), .val (Value.int p3), .val (Value.int p4), .val (Value.ref ob1), .val (Value.ref ob20), .val (Value.int (1 : Int32)), .val (Value.int (3 : Int32)), .val (Value.int (1 : Int32)), .val (Value.int (2 : Int32)), .unset] [(Value.int (2 : Int32))]))
          refine own_Go.by (fun tq kq => XS.iconst X54.here hx rfl (hb hby at_122) kq) ?_
          show own_Go p.tables e below _ (T54.setTop (mkF m 123 #[.val (Value.int p1), .val (Value.int p2), .val (Value.int p3), .val (Value.int p4), .val (Value.ref ob1), .val (Value.ref ob20), .val (Value.int (1 : Int32)), .val (Value.int (3 : Int32)), .val (Value.int (1 : Int32)), .val (Value.int (2 : Int32)), .unset] [(Value.int (2 : Int32)), (Value.int (2 : Int32))]))
          refine own_Go.by (fun tq kq => XS.icmpNo X54.here hx rfl (hb hby at_123) rfl (teq (by decide : (2 : Int32) = (2 : Int32))).2 kq) ?_
          show own_Go p.tables e below _ (T54.setTop (mkF m 126 #[.val (Value.int p1), .val (Value.int p2), .val (Value.int p3), .val (Value.int p4), .val (Value.ref ob1), .val (Value.ref ob20), .val (Value.int (1 : Int32)), .val (Value.int (3 : Int32)), .val (Value.int (1 : Int32)), .val (Value.int (2 : Int32)), .unset] []))
          refine own_Go.by (fun tq kq => XS.aload X54.here hx rfl (hb hby at_126) rfl rfl kq) ?_
          show own_Go p.tables e below _ (T54.setTop (mkF m 128 #[.val (Value.int p1), .val (Value.int p2), .val (Value.int p3), .val (Value.int p4), .val (Value.ref ob1), .val (Value.ref ob20), .val (Value.int (1 : Int32)), .val (Value.int (3 : Int32)), .val (Value.int (1 : Int32)), .val (Value.int (2 : Int32)), .unset] [(Value.ref ob1)]))
          refine own_Go.by (fun tq kq => XS.iload X54.here hx rfl (hb hby at_128) rfl kq) ?_
          show own_Go p.tables e below _ (T54.setTop (mkF m 130 #[.val (Value.int p1), .val (Value.int p2), .val (Value.int p3), .val (Value.int p4), .val (Value.ref ob1), .val (Value.ref ob20), .val (Value.int (1 : Int32)), .val (Value.int (3 : Int32)), .val (Value.int (1 : Int32)), .val (Value.int (2 : Int32)), .unset] [(Value.int (1 : Int32)), (Value.ref ob1)]))
          have c55 := (c24.keep K23q (ninS (Nat.ne_of_lt (Nat.lt_of_lt_of_le A1.lt (Nat.le_trans (Keep.of_wr W6).1 (Nat.le_trans (Keep.of_wr W10).1 (Nat.le_trans (Keep.of_wr W14).1 (Nat.le_trans (Keep.of_wr W18).1 (Nat.le_of_eq y20.symm))))))) nin0))
          obtain ⟨cl56, Ar56, q56, S56, M56, Hh56, G56⟩ := id c55
          refine own_Go.by (fun tq kq => X54.caload hx (j := (1 : Int32)) (v := (Value.int r_8)) (by rw [e54]; exact Ar56.1) (State.isArrayOf_alike hZ.alike Ar56.2.1) Ar56.2.2 (inb_of S56 ⟨(by decide : ¬ ((1 : Int32) < (0 : Int32))), (by decide : (1 : Int32) < (4 : Int32))⟩) (Has.at Hh56 (inb_of S56 ⟨(by decide : ¬ ((1 : Int32) < (0 : Int32))), (by decide : (1 : Int32) < (4 : Int32))⟩) (rfl : _ = (Value.int r_8))) (g := (mkF m 130 #[.val (Value.int p1), .val (Value.int p2), .val (Value.int p3), .val (Value.int p4), .val (Value.ref ob1), .val (Value.ref ob20), .val (Value.int (1 : Int32)), .val (Value.int (3 : Int32)), .val (Value.int (1 : Int32)), .val (Value.int (2 : Int32)), .unset] [(Value.int (1 : Int32)), (Value.ref ob1)])) rfl rfl (hb hby at_130) _ kq) ?_
          show own_Go p.tables e below _ (T54.setTop (mkF m 131 #[.val (Value.int p1), .val (Value.int p2), .val (Value.int p3), .val (Value.int p4), .val (Value.ref ob1), .val (Value.ref ob20), .val (Value.int (1 : Int32)), .val (Value.int (3 : Int32)), .val (Value.int (1 : Int32)), .val (Value.int (2 : Int32)), .unset] [(Value.int r_8)]))
          refine own_Go.by (fun tq kq => XS.bipush X54.here hx rfl (hb hby at_131) kq) ?_
          show own_Go p.tables e below _ (T54.setTop (mkF m 133 #[.val (Value.int p1), .val (Value.int p2), .val (Value.int p3), .val (Value.int p4), .val (Value.ref ob1), .val (Value.ref ob20), .val (Value.int (1 : Int32)), .val (Value.int (3 : Int32)), .val (Value.int (1 : Int32)), .val (Value.int (2 : Int32)), .unset] [(Value.int (46 : Int32)), (Value.int r_8)]))
          refine own_Go.by (fun tq kq => XS.icmpNo X54.here hx rfl (hb hby at_133) rfl (teq hdot).2 kq) ?_
          show own_Go p.tables e below _ (T54.setTop (mkF m 136 #[.val (Value.int p1), .val (Value.int p2), .val (Value.int p3), .val (Value.int p4), .val (Value.ref ob1), .val (Value.ref ob20), .val (Value.int (1 : Int32)), .val (Value.int (3 : Int32)), .val (Value.int (1 : Int32)), .val (Value.int (2 : Int32)), .unset] []))
          refine own_Go.by (fun tq kq => XS.aload X54.here hx rfl (hb hby at_136) rfl rfl kq) ?_
          show own_Go p.tables e below _ (T54.setTop (mkF m 138 #[.val (Value.int p1), .val (Value.int p2), .val (Value.int p3), .val (Value.int p4), .val (Value.ref ob1), .val (Value.ref ob20), .val (Value.int (1 : Int32)), .val (Value.int (3 : Int32)), .val (Value.int (1 : Int32)), .val (Value.int (2 : Int32)), .unset] [(Value.ref ob1)]))
          refine own_Go.by (fun tq kq => XS.iload X54.here hx rfl (hb hby at_138) rfl kq) ?_
          show own_Go p.tables e below _ (T54.setTop (mkF m 140 #[.val (Value.int p1), .val (Value.int p2), .val (Value.int p3), .val (Value.int p4), .val (Value.ref ob1), .val (Value.ref ob20), .val (Value.int (1 : Int32)), .val (Value.int (3 : Int32)), .val (Value.int (1 : Int32)), .val (Value.int (2 : Int32)), .unset] [(Value.int (1 : Int32)), (Value.ref ob1)]))
          refine own_Go.by (fun tq kq => XS.iconst X54.here hx rfl (hb hby at_140) kq) ?_
          show own_Go p.tables e below _ (T54.setTop (mkF m 141 #[.val (Value.int p1), .val (Value.int p2), .val (Value.int p3), .val (Value.int p4), .val (Value.ref ob1), .val (Value.ref ob20), .val (Value.int (1 : Int32)), .val (Value.int (3 : Int32)), .val (Value.int (1 : Int32)), .val (Value.int (2 : Int32)), .unset] [(Value.int (1 : Int32)), (Value.int (1 : Int32)), (Value.ref ob1)]))
          refine own_Go.by (fun tq kq => XS.iadd X54.here hx rfl (hb hby at_141) rfl kq) ?_
          show own_Go p.tables e below _ (T54.setTop (mkF m 142 #[.val (Value.int p1), .val (Value.int p2), .val (Value.int p3), .val (Value.int p4), .val (Value.ref ob1), .val (Value.ref ob20), .val (Value.int (1 : Int32)), .val (Value.int (3 : Int32)), .val (Value.int (1 : Int32)), .val (Value.int (2 : Int32)), .unset] [(Value.int (2 : Int32)), (Value.ref ob1)]))
          obtain ⟨cl57, Ar57, q57, S57, M57, Hh57, G57⟩ := id c55
          refine own_Go.by (fun tq kq => X54.caload hx (j := (2 : Int32)) (v := (Value.int r_12)) (by rw [e54]; exact Ar57.1) (State.isArrayOf_alike hZ.alike Ar57.2.1) Ar57.2.2 (inb_of S57 ⟨(by decide : ¬ ((2 : Int32) < (0 : Int32))), (by decide : (2 : Int32) < (4 : Int32))⟩) (Has.at Hh57 (inb_of S57 ⟨(by decide : ¬ ((2 : Int32) < (0 : Int32))), (by decide : (2 : Int32) < (4 : Int32))⟩) (rfl : _ = (Value.int r_12))) (g := (mkF m 142 #[.val (Value.int p1), .val (Value.int p2), .val (Value.int p3), .val (Value.int p4), .val (Value.ref ob1), .val (Value.ref ob20), .val (Value.int (1 : Int32)), .val (Value.int (3 : Int32)), .val (Value.int (1 : Int32)), .val (Value.int (2 : Int32)), .unset] [(Value.int (2 : Int32)), (Value.ref ob1)])) rfl rfl (hb hby at_142) _ kq) ?_
          show own_Go p.tables e below _ (T54.setTop (mkF m 143 #[.val (Value.int p1), .val (Value.int p2), .val (Value.int p3), .val (Value.int p4), .val (Value.ref ob1), .val (Value.ref ob20), .val (Value.int (1 : Int32)), .val (Value.int (3 : Int32)), .val (Value.int (1 : Int32)), .val (Value.int (2 : Int32)), .unset] [(Value.int r_12)]))
          refine own_Go.by (fun tq kq => XS.bipush X54.here hx rfl (hb hby at_143) kq) ?_
          show own_Go p.tables e below _ (T54.setTop (mkF m 145 #[.val (Value.int p1), .val (Value.int p2), .val (Value.int p3), .val (Value.int p4), .val (Value.ref ob1), .val (Value.ref ob20), .val (Value.int (1 : Int32)), .val (Value.int (3 : Int32)), .val (Value.int (1 : Int32)), .val (Value.int (2 : Int32)), .unset] [(Value.int (46 : Int32)), (Value.int r_12)]))
          refine own_Go.by (fun tq kq => XS.icmpNo X54.here hx rfl (hb hby at_145) rfl (teq hdot2).2 kq) ?_
          show own_Go p.tables e below _ (T54.setTop (mkF m 148 #[.val (Value.int p1), .val (Value.int p2), .val (Value.int p3), .val (Value.int p4), .val (Value.ref ob1), .val (Value.ref ob20), .val (Value.int (1 : Int32)), .val (Value.int (3 : Int32)), .val (Value.int (1 : Int32)), .val (Value.int (2 : Int32)), .unset] []))
          refine own_Go.by (fun tq kq => XS.iconst X54.here hx rfl (hb hby at_148) kq) ?_
          show own_Go p.tables e below _ (T54.setTop (mkF m 149 #[.val (Value.int p1), .val (Value.int p2), .val (Value.int p3), .val (Value.int p4), .val (Value.ref ob1), .val (Value.ref ob20), .val (Value.int (1 : Int32)), .val (Value.int (3 : Int32)), .val (Value.int (1 : Int32)), .val (Value.int (2 : Int32)), .unset] [(Value.int (1 : Int32))]))
          refine own_Go.by (fun tq kq => XS.goto X54.here hx rfl (pc0 := 149) (pc' := 153) rfl (hb hby at_149) (by decide) (by decide) kq) ?_
          show own_Go p.tables e below _ (T54.setTop (mkF m 153 #[.val (Value.int p1), .val (Value.int p2), .val (Value.int p3), .val (Value.int p4), .val (Value.ref ob1), .val (Value.ref ob20), .val (Value.int (1 : Int32)), .val (Value.int (3 : Int32)), .val (Value.int (1 : Int32)), .val (Value.int (2 : Int32)), .unset] [(Value.int (1 : Int32))]))
          refine own_Go.by (fun tq kq => XS.istore X54.here hx rfl (hb hby at_153) rfl (l' := #[.val (Value.int p1), .val (Value.int p2), .val (Value.int p3), .val (Value.int p4), .val (Value.ref ob1), .val (Value.ref ob20), .val (Value.int (1 : Int32)), .val (Value.int (3 : Int32)), .val (Value.int (1 : Int32)), .val (Value.int (2 : Int32)), .val (Value.int (1 : Int32))]) rfl kq) ?_
          show own_Go p.tables e below _ (T54.setTop (mkF m 155 #[.val (Value.int p1), .val (Value.int p2), .val (Value.int p3), .val (Value.int p4), .val (Value.ref ob1), .val (Value.ref ob20), .val (Value.int (1 : Int32)), .val (Value.int (3 : Int32)), .val (Value.int (1 : Int32)), .val (Value.int (2 : Int32)), .val (Value.int (1 : Int32))] []))
          refine own_Go.by (fun tq kq => XS.goto X54.here hx rfl (pc0 := 155) (pc' := 161) rfl (hb hby at_155) (by decide) (by decide) kq) ?_
          show own_Go p.tables e below _ (T54.setTop (mkF m 161 #[.val (Value.int p1), .val (Value.int p2), .val (Value.int p3), .val (Value.int p4), .val (Value.ref ob1), .val (Value.ref ob20), .val (Value.int (1 : Int32)), .val (Value.int (3 : Int32)), .val (Value.int (1 : Int32)), .val (Value.int (2 : Int32)), .val (Value.int (1 : Int32))] []))
          refine own_Go.by (fun tq kq => XS.iload X54.here hx rfl (hb hby at_161) rfl kq) ?_
          show own_Go p.tables e below _ (T54.setTop (mkF m 163 #[.val (Value.int p1), .val (Value.int p2), .val (Value.int p3), .val (Value.int p4), .val (Value.ref ob1), .val (Value.ref ob20), .val (Value.int (1 : Int32)), .val (Value.int (3 : Int32)), .val (Value.int (1 : Int32)), .val (Value.int (2 : Int32)), .val (Value.int (1 : Int32))] [(Value.int (1 : Int32))]))
          refine own_Go.by (fun tq kq => XS.iload X54.here hx rfl (hb hby at_163) rfl kq) ?_
          show own_Go p.tables e below _ (T54.setTop (mkF m 165 #[.val (Value.int p1), .val (Value.int p2), .val (Value.int p3), .val (Value.int p4), .val (Value.ref ob1), .val (Value.ref ob20), .val (Value.int (1 : Int32)), .val (Value.int (3 : Int32)), .val (Value.int (1 : Int32)), .val (Value.int (2 : Int32)), .val (Value.int (1 : Int32))] [(Value.int (1 : Int32)), (Value.int (1 : Int32))]))
          refine own_Go.by (fun tq kq => XS.icmpNo X54.here hx rfl (hb hby at_165) rfl (teq (by decide : (1 : Int32) = (1 : Int32))).2 kq) ?_
          show own_Go p.tables e below _ (T54.setTop (mkF m 168 #[.val (Value.int p1), .val (Value.int p2), .val (Value.int p3), .val (Value.int p4), .val (Value.ref ob1), .val (Value.ref ob20), .val (Value.int (1 : Int32)), .val (Value.int (3 : Int32)), .val (Value.int (1 : Int32)), .val (Value.int (2 : Int32)), .val (Value.int (1 : Int32))] []))
          refine own_Go.by (fun tq kq => XS.iconst X54.here hx rfl (hb hby at_168) kq) ?_
          show own_Go p.tables e below _ (T54.setTop (mkF m 169 #[.val (Value.int p1), .val (Value.int p2), .val (Value.int p3), .val (Value.int p4), .val (Value.ref ob1), .val (Value.ref ob20), .val (Value.int (1 : Int32)), .val (Value.int (3 : Int32)), .val (Value.int (1 : Int32)), .val (Value.int (2 : Int32)), .val (Value.int (1 : Int32))] [(Value.int (1 : Int32))]))
          refine own_Go.by (fun tq kq => XS.goto X54.here hx rfl (pc0 := 169) (pc' := 173) rfl (hb hby at_169) (by decide) (by decide) kq) ?_
          show own_Go p.tables e below _ (T54.setTop (mkF m 173 #[.val (Value.int p1), .val (Value.int p2), .val (Value.int p3), .val (Value.int p4), .val (Value.ref ob1), .val (Value.ref ob20), .val (Value.int (1 : Int32)), .val (Value.int (3 : Int32)), .val (Value.int (1 : Int32)), .val (Value.int (2 : Int32)), .val (Value.int (1 : Int32))] [(Value.int (1 : Int32))]))
          obtain ⟨fs, hr, hrun, hended, hW, hsame⟩ := X54.leave (v := some (Value.int (nar .boolean (1 : Int32)))) (fun h => by rw [Bd.returns] at h; cases h)
          refine own_Go.fin (retN X54 hx (t := .boolean) Bd.returns (by simp) (hb hby at_173) hr) ⟨hrun, hended, _, _, rfl, ?_, ⟨_, rfl⟩, hW, hsame.mono (by decide) (by decide)⟩
          show Q0 Z p1 p2 p3 p4 zc vf h0 n0 _ T54.heap _
          rw [e54]
          exact ⟨rfl, N54, K25⟩
        ·
          show own_Go p.tables e below _ (T23.setTop (mkF m 76 #[.val (Value.int p1), .val (Value.int p2), .val (Value.int p3), .val (Value.int p4), .val (Value.ref ob1), .val (Value.ref ob20), .val (Value.int (1 : Int32)), .val (Value.int (3 : Int32)), .unset, .unset, .unset] []))
          refine own_Go.by (fun tq kq => XS.aload X23.here hx rfl (hb hby at_76) rfl rfl kq) ?_
          show own_Go p.tables e below _ (T23.setTop (mkF m 78 #[.val (Value.int p1), .val (Value.int p2), .val (Value.int p3), .val (Value.int p4), .val (Value.ref ob1), .val (Value.ref ob20), .val (Value.int (1 : Int32)), .val (Value.int (3 : Int32)), .unset, .unset, .unset] [(Value.ref ob20)]))
          refine own_Go.by (fun tq kq => XS.iload X23.here hx rfl (hb hby at_78) rfl kq) ?_
          show own_Go p.tables e below _ (T23.setTop (mkF m 80 #[.val (Value.int p1), .val (Value.int p2), .val (Value.int p3), .val (Value.int p4), .val (Value.ref ob1), .val (Value.ref ob20), .val (Value.int (1 : Int32)), .val (Value.int (3 : Int32)), .unset, .unset, .unset] [(Value.int (1 : Int32)), (Value.ref ob20)]))
          refine own_Go.by (fun tq kq => XS.iload X23.here hx rfl (hb hby at_80) rfl kq) ?_
          show own_Go p.tables e below _ (T23.setTop (mkF m 82 #[.val (Value.int p1), .val (Value.int p2), .val (Value.int p3), .val (Value.int p4), .val (Value.ref ob1), .val (Value.ref ob20), .val (Value.int (1 : Int32)), .val (Value.int (3 : Int32)), .unset, .unset, .unset] [(Value.int (3 : Int32)), (Value.int (1 : Int32)), (Value.ref ob20)]))
          obtain ⟨_, _, ⟨T58, L58, k58, n58⟩, -, X58, ⟨Lc58, hQ58, l58, y58, z58⟩, st58⟩ := Jvm.LawKit.callS X23 hx (y := (⟨"com/example/enlace/enlace/DotSegments", "isDotSegment", "(Ljava/lang/String;II)Z"⟩ : MethodName)) hown (mvT hZ (hw _ (List.mem_of_getElem? (i := 35) rfl))) (mvT hZ (hw _ (List.mem_of_getElem? (i := 36) rfl))) (mvT hZ (hw _ (List.mem_of_getElem? (i := 37) rfl))) (mvT hZ (hw _ (List.mem_of_getElem? (i := 38) rfl))) (by decide) (backOf (W := 0) (rm8_1_3_tf l Z a0 hw [] ob20 t23 kb23 r_4 r_8 r_12 r_16 zc vf T23.heap n0 O25 E23q V23q C23q A23q (hp23 : ∀ c ∈ ([r_4, r_8, r_12, r_16] : List Int32), ¬ c < 0 ∧ ¬ (255 : Int32) < c) H0 H1 (hzc : ¬ (zc = (0 : Int32))) (rvf : vf.isRef = true) hdot hdot2) hZ (hw _ (List.mem_of_getElem? (i := 38) rfl)) (hw _ (List.mem_of_getElem? (i := 37) rfl)) (by decide) (by decide)) (g := (mkF m 82 #[.val (Value.int p1), .val (Value.int p2), .val (Value.int p3), .val (Value.int p4), .val (Value.ref ob1), .val (Value.ref ob20), .val (Value.int (1 : Int32)), .val (Value.int (3 : Int32)), .unset, .unset, .unset] [(Value.int (3 : Int32)), (Value.int (1 : Int32)), (Value.ref ob20)])) rfl (by rw [hml]; rfl) (argsL := [(Value.ref ob20), (Value.int (1 : Int32)), (Value.int (3 : Int32))]) (rest := []) (lenOf own_pd2 rfl) rfl (by show 2 * 0 + _ ≤ _; exact Nat.le_of_eq rfl) (hb hby at_82) (fun _ _ => ⟨rfl, rfl, (by decide : 3 + 0 ≤ _), (by decide : 12 + 0 ≤ _)⟩)
          dsimp only [Pt.U, Pt.locs, Pt.cells, Pt.slots] at X58 l58 y58 z58 st58 hQ58
          subst l58 y58 z58
          refine own_Go.by st58 ?_
          obtain ⟨rfl, N58q, e58⟩ := hQ58
          have N58 := Fr.app N23 N58q
          show own_Go p.tables e below _ (T58.setTop (mkF m 85 #[.val (Value.int p1), .val (Value.int p2), .val (Value.int p3), .val (Value.int p4), .val (Value.ref ob1), .val (Value.ref ob20), .val (Value.int (1 : Int32)), .val (Value.int (3 : Int32)), .unset, .unset, .unset] [(Value.int (0 : Int32))]))
          refine own_Go.by (fun tq kq => XS.istore X58.here hx rfl (hb hby at_85) rfl (l' := #[.val (Value.int p1), .val (Value.int p2), .val (Value.int p3), .val (Value.int p4), .val (Value.ref ob1), .val (Value.ref ob20), .val (Value.int (1 : Int32)), .val (Value.int (3 : Int32)), .val (Value.int (0 : Int32)), .unset, .unset]) rfl kq) ?_
          show own_Go p.tables e below _ (T58.setTop (mkF m 87 #[.val (Value.int p1), .val (Value.int p2), .val (Value.int p3), .val (Value.int p4), .val (Value.ref ob1), .val (Value.ref ob20), .val (Value.int (1 : Int32)), .val (Value.int (3 : Int32)), .val (Value.int (0 : Int32)), .unset, .unset] []))
          refine own_Go.by (fun tq kq => XS.iload X58.here hx rfl (hb hby at_87) rfl kq) ?_
          show own_Go p.tables e below _ (T58.setTop (mkF m 89 #[.val (Value.int p1), .val (Value.int p2), .val (Value.int p3), .val (Value.int p4), .val (Value.ref ob1), .val (Value.ref ob20), .val (Value.int (1 : Int32)), .val (Value.int (3 : Int32)), .val (Value.int (0 : Int32)), .unset, .unset] [(Value.int (3 : Int32))]))
          refine own_Go.by (fun tq kq => XS.iload X58.here hx rfl (hb hby at_89) rfl kq) ?_
          show own_Go p.tables e below _ (T58.setTop (mkF m 91 #[.val (Value.int p1), .val (Value.int p2), .val (Value.int p3), .val (Value.int p4), .val (Value.ref ob1), .val (Value.ref ob20), .val (Value.int (1 : Int32)), .val (Value.int (3 : Int32)), .val (Value.int (0 : Int32)), .unset, .unset] [(Value.int (1 : Int32)), (Value.int (3 : Int32))]))
          refine own_Go.by (fun tq kq => XS.isub X58.here hx rfl (hb hby at_91) rfl kq) ?_
          show own_Go p.tables e below _ (T58.setTop (mkF m 92 #[.val (Value.int p1), .val (Value.int p2), .val (Value.int p3), .val (Value.int p4), .val (Value.ref ob1), .val (Value.ref ob20), .val (Value.int (1 : Int32)), .val (Value.int (3 : Int32)), .val (Value.int (0 : Int32)), .unset, .unset] [(Value.int (2 : Int32))]))
          refine own_Go.by (fun tq kq => XS.istore X58.here hx rfl (hb hby at_92) rfl (l' := #[.val (Value.int p1), .val (Value.int p2), .val (Value.int p3), .val (Value.int p4), .val (Value.ref ob1), .val (Value.ref ob20), .val (Value.int (1 : Int32)), .val (Value.int (3 : Int32)), .val (Value.int (0 : Int32)), .val (Value.int (2 : Int32)), .unset]) rfl kq) ?_
          show own_Go p.tables e below _ (T58.setTop (mkF m 94 #[.val (Value.int p1), .val (Value.int p2), .val (Value.int p3), .val (Value.int p4), .val (Value.ref ob1), .val (Value.ref ob20), .val (Value.int (1 : Int32)), .val (Value.int (3 : Int32)), .val (Value.int (0 : Int32)), .val (Value.int (2 : Int32)), .unset] []))
          refine own_Go.by (fun tq kq => XS.iload X58.here hx rfl (hb hby at_94) rfl kq) ?_
          show own_Go p.tables e below _ (T58.setTop (mkF m 96 #[.val (Value.int p1), .val (Value.int p2), .val (Value.int p3), .val (Value.int p4), .val (Value.ref ob1), .val (Value.ref ob20), .val (Value.int (1 : Int32)), .val (Value.int (3 : Int32)), .val (Value.int (0 : Int32)), .val (Value.int (2 : Int32)), .unset] [(Value.int (2 : Int32))]))
          refine own_Go.by (fun tq kq => XS.iconst X58.here hx rfl (hb hby at_96) kq) ?_
          show own_Go p.tables e below _ (T58.setTop (mkF m 97 #[.val (Value.int p1), .val (Value.int p2), .val (Value.int p3), .val (Value.int p4), .val (Value.ref ob1), .val (Value.ref ob20), .val (Value.int (1 : Int32)), .val (Value.int (3 : Int32)), .val (Value.int (0 : Int32)), .val (Value.int (2 : Int32)), .unset] [(Value.int (1 : Int32)), (Value.int (2 : Int32))]))
          refine own_Go.by (fun tq kq => XS.icmpYes X58.here hx rfl (pc0 := 97) (pc' := 120) rfl (hb hby at_97) rfl (feq (by decide : ¬ ((2 : Int32) = (1 : Int32)))).2 (by decide) (by decide) kq) ?_
          show own_Go p.tables e below _ (T58.setTop (mkF m 120 #[.val (Value.int p1), .val (Value.int p2), .val (Value.int p3), .val (Value.int p4), .val (Value.ref ob1), .val (Value.ref ob20), .val (Value.int (1 : Int32)), .val (Value.int (3 : Int32)), .val (Value.int (0 : Int32)), .val (Value.int (2 : Int32)), .unset] []))
          refine own_Go.by (fun tq kq => XS.iload X58.here hx rfl (hb hby at_120) rfl kq) ?_
          show own_Go p.tables e below _ (T58.setTop (mkF m 122 #[.val (Value.int p1), .val (Value.int p2), .val (Value.int p3), .val (Value.int p4), .val (Value.ref ob1), .val (Value.ref ob20), .val (Value.int (1 : Int32)), .val (Value.int (3 : Int32)), .val (Value.int (0 : Int32)), .val (Value.int (2 : Int32)), .unset] [(Value.int (2 : Int32))]))
          refine own_Go.by (fun tq kq => XS.iconst X58.here hx rfl (hb hby at_122) kq) ?_
          show own_Go p.tables e below _ (T58.setTop (mkF m 123 #[.val (Value.int p1), .val (Value.int p2), .val (Value.int p3), .val (Value.int p4), .val (Value.ref ob1), .val (Value.ref ob20), .val (Value.int (1 : Int32)), .val (Value.int (3 : Int32)), .val (Value.int (0 : Int32)), .val (Value.int (2 : Int32)), .unset] [(Value.int (2 : Int32)), (Value.int (2 : Int32))]))
          refine own_Go.by (fun tq kq => XS.icmpNo X58.here hx rfl (hb hby at_123) rfl (teq (by decide : (2 : Int32) = (2 : Int32))).2 kq) ?_
          show own_Go p.tables e below _ (T58.setTop (mkF m 126 #[.val (Value.int p1), .val (Value.int p2), .val (Value.int p3), .val (Value.int p4), .val (Value.ref ob1), .val (Value.ref ob20), .val (Value.int (1 : Int32)), .val (Value.int (3 : Int32)), .val (Value.int (0 : Int32)), .val (Value.int (2 : Int32)), .unset] []))
          refine own_Go.by (fun tq kq => XS.aload X58.here hx rfl (hb hby at_126) rfl rfl kq) ?_
          show own_Go p.tables e below _ (T58.setTop (mkF m 128 #[.val (Value.int p1), .val (Value.int p2), .val (Value.int p3), .val (Value.int p4), .val (Value.ref ob1), .val (Value.ref ob20), .val (Value.int (1 : Int32)), .val (Value.int (3 : Int32)), .val (Value.int (0 : Int32)), .val (Value.int (2 : Int32)), .unset] [(Value.ref ob1)]))
          refine own_Go.by (fun tq kq => XS.iload X58.here hx rfl (hb hby at_128) rfl kq) ?_
          show own_Go p.tables e below _ (T58.setTop (mkF m 130 #[.val (Value.int p1), .val (Value.int p2), .val (Value.int p3), .val (Value.int p4), .val (Value.ref ob1), .val (Value.ref ob20), .val (Value.int (1 : Int32)), .val (Value.int (3 : Int32)), .val (Value.int (0 : Int32)), .val (Value.int (2 : Int32)), .unset] [(Value.int (1 : Int32)), (Value.ref ob1)]))
          have c59 := (c24.keep K23q (ninS (Nat.ne_of_lt (Nat.lt_of_lt_of_le A1.lt (Nat.le_trans (Keep.of_wr W6).1 (Nat.le_trans (Keep.of_wr W10).1 (Nat.le_trans (Keep.of_wr W14).1 (Nat.le_trans (Keep.of_wr W18).1 (Nat.le_of_eq y20.symm))))))) nin0))
          obtain ⟨cl60, Ar60, q60, S60, M60, Hh60, G60⟩ := id c59
          refine own_Go.by (fun tq kq => X58.caload hx (j := (1 : Int32)) (v := (Value.int r_8)) (by rw [e58]; exact Ar60.1) (State.isArrayOf_alike hZ.alike Ar60.2.1) Ar60.2.2 (inb_of S60 ⟨(by decide : ¬ ((1 : Int32) < (0 : Int32))), (by decide : (1 : Int32) < (4 : Int32))⟩) (Has.at Hh60 (inb_of S60 ⟨(by decide : ¬ ((1 : Int32) < (0 : Int32))), (by decide : (1 : Int32) < (4 : Int32))⟩) (rfl : _ = (Value.int r_8))) (g := (mkF m 130 #[.val (Value.int p1), .val (Value.int p2), .val (Value.int p3), .val (Value.int p4), .val (Value.ref ob1), .val (Value.ref ob20), .val (Value.int (1 : Int32)), .val (Value.int (3 : Int32)), .val (Value.int (0 : Int32)), .val (Value.int (2 : Int32)), .unset] [(Value.int (1 : Int32)), (Value.ref ob1)])) rfl rfl (hb hby at_130) _ kq) ?_
          show own_Go p.tables e below _ (T58.setTop (mkF m 131 #[.val (Value.int p1), .val (Value.int p2), .val (Value.int p3), .val (Value.int p4), .val (Value.ref ob1), .val (Value.ref ob20), .val (Value.int (1 : Int32)), .val (Value.int (3 : Int32)), .val (Value.int (0 : Int32)), .val (Value.int (2 : Int32)), .unset] [(Value.int r_8)]))
          refine own_Go.by (fun tq kq => XS.bipush X58.here hx rfl (hb hby at_131) kq) ?_
          show own_Go p.tables e below _ (T58.setTop (mkF m 133 #[.val (Value.int p1), .val (Value.int p2), .val (Value.int p3), .val (Value.int p4), .val (Value.ref ob1), .val (Value.ref ob20), .val (Value.int (1 : Int32)), .val (Value.int (3 : Int32)), .val (Value.int (0 : Int32)), .val (Value.int (2 : Int32)), .unset] [(Value.int (46 : Int32)), (Value.int r_8)]))
          refine own_Go.by (fun tq kq => XS.icmpNo X58.here hx rfl (hb hby at_133) rfl (teq hdot).2 kq) ?_
          show own_Go p.tables e below _ (T58.setTop (mkF m 136 #[.val (Value.int p1), .val (Value.int p2), .val (Value.int p3), .val (Value.int p4), .val (Value.ref ob1), .val (Value.ref ob20), .val (Value.int (1 : Int32)), .val (Value.int (3 : Int32)), .val (Value.int (0 : Int32)), .val (Value.int (2 : Int32)), .unset] []))
          refine own_Go.by (fun tq kq => XS.aload X58.here hx rfl (hb hby at_136) rfl rfl kq) ?_
          show own_Go p.tables e below _ (T58.setTop (mkF m 138 #[.val (Value.int p1), .val (Value.int p2), .val (Value.int p3), .val (Value.int p4), .val (Value.ref ob1), .val (Value.ref ob20), .val (Value.int (1 : Int32)), .val (Value.int (3 : Int32)), .val (Value.int (0 : Int32)), .val (Value.int (2 : Int32)), .unset] [(Value.ref ob1)]))
          refine own_Go.by (fun tq kq => XS.iload X58.here hx rfl (hb hby at_138) rfl kq) ?_
          show own_Go p.tables e below _ (T58.setTop (mkF m 140 #[.val (Value.int p1), .val (Value.int p2), .val (Value.int p3), .val (Value.int p4), .val (Value.ref ob1), .val (Value.ref ob20), .val (Value.int (1 : Int32)), .val (Value.int (3 : Int32)), .val (Value.int (0 : Int32)), .val (Value.int (2 : Int32)), .unset] [(Value.int (1 : Int32)), (Value.ref ob1)]))
          refine own_Go.by (fun tq kq => XS.iconst X58.here hx rfl (hb hby at_140) kq) ?_
          show own_Go p.tables e below _ (T58.setTop (mkF m 141 #[.val (Value.int p1), .val (Value.int p2), .val (Value.int p3), .val (Value.int p4), .val (Value.ref ob1), .val (Value.ref ob20), .val (Value.int (1 : Int32)), .val (Value.int (3 : Int32)), .val (Value.int (0 : Int32)), .val (Value.int (2 : Int32)), .unset] [(Value.int (1 : Int32)), (Value.int (1 : Int32)), (Value.ref ob1)]))
          refine own_Go.by (fun tq kq => XS.iadd X58.here hx rfl (hb hby at_141) rfl kq) ?_
          show own_Go p.tables e below _ (T58.setTop (mkF m 142 #[.val (Value.int p1), .val (Value.int p2), .val (Value.int p3), .val (Value.int p4), .val (Value.ref ob1), .val (Value.ref ob20), .val (Value.int (1 : Int32)), .val (Value.int (3 : Int32)), .val (Value.int (0 : Int32)), .val (Value.int (2 : Int32)), .unset] [(Value.int (2 : Int32)), (Value.ref ob1)]))
          obtain ⟨cl61, Ar61, q61, S61, M61, Hh61, G61⟩ := id c59
          refine own_Go.by (fun tq kq => X58.caload hx (j := (2 : Int32)) (v := (Value.int r_12)) (by rw [e58]; exact Ar61.1) (State.isArrayOf_alike hZ.alike Ar61.2.1) Ar61.2.2 (inb_of S61 ⟨(by decide : ¬ ((2 : Int32) < (0 : Int32))), (by decide : (2 : Int32) < (4 : Int32))⟩) (Has.at Hh61 (inb_of S61 ⟨(by decide : ¬ ((2 : Int32) < (0 : Int32))), (by decide : (2 : Int32) < (4 : Int32))⟩) (rfl : _ = (Value.int r_12))) (g := (mkF m 142 #[.val (Value.int p1), .val (Value.int p2), .val (Value.int p3), .val (Value.int p4), .val (Value.ref ob1), .val (Value.ref ob20), .val (Value.int (1 : Int32)), .val (Value.int (3 : Int32)), .val (Value.int (0 : Int32)), .val (Value.int (2 : Int32)), .unset] [(Value.int (2 : Int32)), (Value.ref ob1)])) rfl rfl (hb hby at_142) _ kq) ?_
          show own_Go p.tables e below _ (T58.setTop (mkF m 143 #[.val (Value.int p1), .val (Value.int p2), .val (Value.int p3), .val (Value.int p4), .val (Value.ref ob1), .val (Value.ref ob20), .val (Value.int (1 : Int32)), .val (Value.int (3 : Int32)), .val (Value.int (0 : Int32)), .val (Value.int (2 : Int32)), .unset] [(Value.int r_12)]))
          refine own_Go.by (fun tq kq => XS.bipush X58.here hx rfl (hb hby at_143) kq) ?_
          show own_Go p.tables e below _ (T58.setTop (mkF m 145 #[.val (Value.int p1), .val (Value.int p2), .val (Value.int p3), .val (Value.int p4), .val (Value.ref ob1), .val (Value.ref ob20), .val (Value.int (1 : Int32)), .val (Value.int (3 : Int32)), .val (Value.int (0 : Int32)), .val (Value.int (2 : Int32)), .unset] [(Value.int (46 : Int32)), (Value.int r_12)]))
          refine own_Go.by (fun tq kq => XS.icmpYes X58.here hx rfl (pc0 := 145) (pc' := 152) rfl (hb hby at_145) rfl (feq hdot2).2 (by decide) (by decide) kq) ?_
          show own_Go p.tables e below _ (T58.setTop (mkF m 152 #[.val (Value.int p1), .val (Value.int p2), .val (Value.int p3), .val (Value.int p4), .val (Value.ref ob1), .val (Value.ref ob20), .val (Value.int (1 : Int32)), .val (Value.int (3 : Int32)), .val (Value.int (0 : Int32)), .val (Value.int (2 : Int32)), .unset] []))
          refine own_Go.by (fun tq kq => XS.iconst X58.here hx rfl (hb hby at_152) kq) ?_
          show own_Go p.tables e below _ (T58.setTop (mkF m 153 #[.val (Value.int p1), .val (Value.int p2), .val (Value.int p3), .val (Value.int p4), .val (Value.ref ob1), .val (Value.ref ob20), .val (Value.int (1 : Int32)), .val (Value.int (3 : Int32)), .val (Value.int (0 : Int32)), .val (Value.int (2 : Int32)), .unset] [(Value.int (0 : Int32))]))
          refine own_Go.by (fun tq kq => XS.istore X58.here hx rfl (hb hby at_153) rfl (l' := #[.val (Value.int p1), .val (Value.int p2), .val (Value.int p3), .val (Value.int p4), .val (Value.ref ob1), .val (Value.ref ob20), .val (Value.int (1 : Int32)), .val (Value.int (3 : Int32)), .val (Value.int (0 : Int32)), .val (Value.int (2 : Int32)), .val (Value.int (0 : Int32))]) rfl kq) ?_
          show own_Go p.tables e below _ (T58.setTop (mkF m 155 #[.val (Value.int p1), .val (Value.int p2), .val (Value.int p3), .val (Value.int p4), .val (Value.ref ob1), .val (Value.ref ob20), .val (Value.int (1 : Int32)), .val (Value.int (3 : Int32)), .val (Value.int (0 : Int32)), .val (Value.int (2 : Int32)), .val (Value.int (0 : Int32))] []))
          refine own_Go.by (fun tq kq => XS.goto X58.here hx rfl (pc0 := 155) (pc' := 161) rfl (hb hby at_155) (by decide) (by decide) kq) ?_
          show own_Go p.tables e below _ (T58.setTop (mkF m 161 #[.val (Value.int p1), .val (Value.int p2), .val (Value.int p3), .val (Value.int p4), .val (Value.ref ob1), .val (Value.ref ob20), .val (Value.int (1 : Int32)), .val (Value.int (3 : Int32)), .val (Value.int (0 : Int32)), .val (Value.int (2 : Int32)), .val (Value.int (0 : Int32))] []))
          refine own_Go.by (fun tq kq => XS.iload X58.here hx rfl (hb hby at_161) rfl kq) ?_
          show own_Go p.tables e below _ (T58.setTop (mkF m 163 #[.val (Value.int p1), .val (Value.int p2), .val (Value.int p3), .val (Value.int p4), .val (Value.ref ob1), .val (Value.ref ob20), .val (Value.int (1 : Int32)), .val (Value.int (3 : Int32)), .val (Value.int (0 : Int32)), .val (Value.int (2 : Int32)), .val (Value.int (0 : Int32))] [(Value.int (0 : Int32))]))
          refine own_Go.by (fun tq kq => XS.iload X58.here hx rfl (hb hby at_163) rfl kq) ?_
          show own_Go p.tables e below _ (T58.setTop (mkF m 165 #[.val (Value.int p1), .val (Value.int p2), .val (Value.int p3), .val (Value.int p4), .val (Value.ref ob1), .val (Value.ref ob20), .val (Value.int (1 : Int32)), .val (Value.int (3 : Int32)), .val (Value.int (0 : Int32)), .val (Value.int (2 : Int32)), .val (Value.int (0 : Int32))] [(Value.int (0 : Int32)), (Value.int (0 : Int32))]))
          refine own_Go.by (fun tq kq => XS.icmpNo X58.here hx rfl (hb hby at_165) rfl (teq (by decide : (0 : Int32) = (0 : Int32))).2 kq) ?_
          show own_Go p.tables e below _ (T58.setTop (mkF m 168 #[.val (Value.int p1), .val (Value.int p2), .val (Value.int p3), .val (Value.int p4), .val (Value.ref ob1), .val (Value.ref ob20), .val (Value.int (1 : Int32)), .val (Value.int (3 : Int32)), .val (Value.int (0 : Int32)), .val (Value.int (2 : Int32)), .val (Value.int (0 : Int32))] []))
          refine own_Go.by (fun tq kq => XS.iconst X58.here hx rfl (hb hby at_168) kq) ?_
          show own_Go p.tables e below _ (T58.setTop (mkF m 169 #[.val (Value.int p1), .val (Value.int p2), .val (Value.int p3), .val (Value.int p4), .val (Value.ref ob1), .val (Value.ref ob20), .val (Value.int (1 : Int32)), .val (Value.int (3 : Int32)), .val (Value.int (0 : Int32)), .val (Value.int (2 : Int32)), .val (Value.int (0 : Int32))] [(Value.int (1 : Int32))]))
          refine own_Go.by (fun tq kq => XS.goto X58.here hx rfl (pc0 := 169) (pc' := 173) rfl (hb hby at_169) (by decide) (by decide) kq) ?_
          show own_Go p.tables e below _ (T58.setTop (mkF m 173 #[.val (Value.int p1), .val (Value.int p2), .val (Value.int p3), .val (Value.int p4), .val (Value.ref ob1), .val (Value.ref ob20), .val (Value.int (1 : Int32)), .val (Value.int (3 : Int32)), .val (Value.int (0 : Int32)), .val (Value.int (2 : Int32)), .val (Value.int (0 : Int32))] [(Value.int (1 : Int32))]))
          obtain ⟨fs, hr, hrun, hended, hW, hsame⟩ := X58.leave (v := some (Value.int (nar .boolean (1 : Int32)))) (fun h => by rw [Bd.returns] at h; cases h)
          refine own_Go.fin (retN X58 hx (t := .boolean) Bd.returns (by simp) (hb hby at_173) hr) ⟨hrun, hended, _, _, rfl, ?_, ⟨_, rfl⟩, hW, hsame.mono (by decide) (by decide)⟩
          show Q0 Z p1 p2 p3 p4 zc vf h0 n0 _ T58.heap _
          rw [e58]
          exact ⟨rfl, N58, K25⟩
      ·
        show own_Go p.tables e below _ (T23.setTop (mkF m 76 #[.val (Value.int p1), .val (Value.int p2), .val (Value.int p3), .val (Value.int p4), .val (Value.ref ob1), .val (Value.ref ob20), .val (Value.int (1 : Int32)), .val (Value.int (3 : Int32)), .unset, .unset, .unset] []))
        refine own_Go.by (fun tq kq => XS.aload X23.here hx rfl (hb hby at_76) rfl rfl kq) ?_
        show own_Go p.tables e below _ (T23.setTop (mkF m 78 #[.val (Value.int p1), .val (Value.int p2), .val (Value.int p3), .val (Value.int p4), .val (Value.ref ob1), .val (Value.ref ob20), .val (Value.int (1 : Int32)), .val (Value.int (3 : Int32)), .unset, .unset, .unset] [(Value.ref ob20)]))
        refine own_Go.by (fun tq kq => XS.iload X23.here hx rfl (hb hby at_78) rfl kq) ?_
        show own_Go p.tables e below _ (T23.setTop (mkF m 80 #[.val (Value.int p1), .val (Value.int p2), .val (Value.int p3), .val (Value.int p4), .val (Value.ref ob1), .val (Value.ref ob20), .val (Value.int (1 : Int32)), .val (Value.int (3 : Int32)), .unset, .unset, .unset] [(Value.int (1 : Int32)), (Value.ref ob20)]))
        refine own_Go.by (fun tq kq => XS.iload X23.here hx rfl (hb hby at_80) rfl kq) ?_
        show own_Go p.tables e below _ (T23.setTop (mkF m 82 #[.val (Value.int p1), .val (Value.int p2), .val (Value.int p3), .val (Value.int p4), .val (Value.ref ob1), .val (Value.ref ob20), .val (Value.int (1 : Int32)), .val (Value.int (3 : Int32)), .unset, .unset, .unset] [(Value.int (3 : Int32)), (Value.int (1 : Int32)), (Value.ref ob20)]))
        obtain ⟨_, _, ⟨T62, L62, k62, n62⟩, -, X62, ⟨Lc62, hQ62, l62, y62, z62⟩, st62⟩ := Jvm.LawKit.callS X23 hx (y := (⟨"com/example/enlace/enlace/DotSegments", "isDotSegment", "(Ljava/lang/String;II)Z"⟩ : MethodName)) hown (mvT hZ (hw _ (List.mem_of_getElem? (i := 35) rfl))) (mvT hZ (hw _ (List.mem_of_getElem? (i := 36) rfl))) (mvT hZ (hw _ (List.mem_of_getElem? (i := 37) rfl))) (mvT hZ (hw _ (List.mem_of_getElem? (i := 38) rfl))) (by decide) (backOf (W := 0) (rm8_1_3_f l Z a0 hw [] ob20 t23 kb23 r_4 r_8 r_12 r_16 zc vf T23.heap n0 O25 E23q V23q C23q A23q (hp23 : ∀ c ∈ ([r_4, r_8, r_12, r_16] : List Int32), ¬ c < 0 ∧ ¬ (255 : Int32) < c) H0 H1 (hzc : ¬ (zc = (0 : Int32))) (rvf : vf.isRef = true) hdot) hZ (hw _ (List.mem_of_getElem? (i := 38) rfl)) (hw _ (List.mem_of_getElem? (i := 37) rfl)) (by decide) (by decide)) (g := (mkF m 82 #[.val (Value.int p1), .val (Value.int p2), .val (Value.int p3), .val (Value.int p4), .val (Value.ref ob1), .val (Value.ref ob20), .val (Value.int (1 : Int32)), .val (Value.int (3 : Int32)), .unset, .unset, .unset] [(Value.int (3 : Int32)), (Value.int (1 : Int32)), (Value.ref ob20)])) rfl (by rw [hml]; rfl) (argsL := [(Value.ref ob20), (Value.int (1 : Int32)), (Value.int (3 : Int32))]) (rest := []) (lenOf own_pd2 rfl) rfl (by show 2 * 0 + _ ≤ _; exact Nat.le_of_eq rfl) (hb hby at_82) (fun _ _ => ⟨rfl, rfl, (by decide : 3 + 0 ≤ _), (by decide : 12 + 0 ≤ _)⟩)
        dsimp only [Pt.U, Pt.locs, Pt.cells, Pt.slots] at X62 l62 y62 z62 st62 hQ62
        subst l62 y62 z62
        refine own_Go.by st62 ?_
        obtain ⟨rfl, N62q, e62⟩ := hQ62
        have N62 := Fr.app N23 N62q
        show own_Go p.tables e below _ (T62.setTop (mkF m 85 #[.val (Value.int p1), .val (Value.int p2), .val (Value.int p3), .val (Value.int p4), .val (Value.ref ob1), .val (Value.ref ob20), .val (Value.int (1 : Int32)), .val (Value.int (3 : Int32)), .unset, .unset, .unset] [(Value.int (0 : Int32))]))
        refine own_Go.by (fun tq kq => XS.istore X62.here hx rfl (hb hby at_85) rfl (l' := #[.val (Value.int p1), .val (Value.int p2), .val (Value.int p3), .val (Value.int p4), .val (Value.ref ob1), .val (Value.ref ob20), .val (Value.int (1 : Int32)), .val (Value.int (3 : Int32)), .val (Value.int (0 : Int32)), .unset, .unset]) rfl kq) ?_
        show own_Go p.tables e below _ (T62.setTop (mkF m 87 #[.val (Value.int p1), .val (Value.int p2), .val (Value.int p3), .val (Value.int p4), .val (Value.ref ob1), .val (Value.ref ob20), .val (Value.int (1 : Int32)), .val (Value.int (3 : Int32)), .val (Value.int (0 : Int32)), .unset, .unset] []))
        refine own_Go.by (fun tq kq => XS.iload X62.here hx rfl (hb hby at_87) rfl kq) ?_
        show own_Go p.tables e below _ (T62.setTop (mkF m 89 #[.val (Value.int p1), .val (Value.int p2), .val (Value.int p3), .val (Value.int p4), .val (Value.ref ob1), .val (Value.ref ob20), .val (Value.int (1 : Int32)), .val (Value.int (3 : Int32)), .val (Value.int (0 : Int32)), .unset, .unset] [(Value.int (3 : Int32))]))
        refine own_Go.by (fun tq kq => XS.iload X62.here hx rfl (hb hby at_89) rfl kq) ?_
        show own_Go p.tables e below _ (T62.setTop (mkF m 91 #[.val (Value.int p1), .val (Value.int p2), .val (Value.int p3), .val (Value.int p4), .val (Value.ref ob1), .val (Value.ref ob20), .val (Value.int (1 : Int32)), .val (Value.int (3 : Int32)), .val (Value.int (0 : Int32)), .unset, .unset] [(Value.int (1 : Int32)), (Value.int (3 : Int32))]))
        refine own_Go.by (fun tq kq => XS.isub X62.here hx rfl (hb hby at_91) rfl kq) ?_
        show own_Go p.tables e below _ (T62.setTop (mkF m 92 #[.val (Value.int p1), .val (Value.int p2), .val (Value.int p3), .val (Value.int p4), .val (Value.ref ob1), .val (Value.ref ob20), .val (Value.int (1 : Int32)), .val (Value.int (3 : Int32)), .val (Value.int (0 : Int32)), .unset, .unset] [(Value.int (2 : Int32))]))
        refine own_Go.by (fun tq kq => XS.istore X62.here hx rfl (hb hby at_92) rfl (l' := #[.val (Value.int p1), .val (Value.int p2), .val (Value.int p3), .val (Value.int p4), .val (Value.ref ob1), .val (Value.ref ob20), .val (Value.int (1 : Int32)), .val (Value.int (3 : Int32)), .val (Value.int (0 : Int32)), .val (Value.int (2 : Int32)), .unset]) rfl kq) ?_
        show own_Go p.tables e below _ (T62.setTop (mkF m 94 #[.val (Value.int p1), .val (Value.int p2), .val (Value.int p3), .val (Value.int p4), .val (Value.ref ob1), .val (Value.ref ob20), .val (Value.int (1 : Int32)), .val (Value.int (3 : Int32)), .val (Value.int (0 : Int32)), .val (Value.int (2 : Int32)), .unset] []))
        refine own_Go.by (fun tq kq => XS.iload X62.here hx rfl (hb hby at_94) rfl kq) ?_
        show own_Go p.tables e below _ (T62.setTop (mkF m 96 #[.val (Value.int p1), .val (Value.int p2), .val (Value.int p3), .val (Value.int p4), .val (Value.ref ob1), .val (Value.ref ob20), .val (Value.int (1 : Int32)), .val (Value.int (3 : Int32)), .val (Value.int (0 : Int32)), .val (Value.int (2 : Int32)), .unset] [(Value.int (2 : Int32))]))
        refine own_Go.by (fun tq kq => XS.iconst X62.here hx rfl (hb hby at_96) kq) ?_
        show own_Go p.tables e below _ (T62.setTop (mkF m 97 #[.val (Value.int p1), .val (Value.int p2), .val (Value.int p3), .val (Value.int p4), .val (Value.ref ob1), .val (Value.ref ob20), .val (Value.int (1 : Int32)), .val (Value.int (3 : Int32)), .val (Value.int (0 : Int32)), .val (Value.int (2 : Int32)), .unset] [(Value.int (1 : Int32)), (Value.int (2 : Int32))]))
        refine own_Go.by (fun tq kq => XS.icmpYes X62.here hx rfl (pc0 := 97) (pc' := 120) rfl (hb hby at_97) rfl (feq (by decide : ¬ ((2 : Int32) = (1 : Int32)))).2 (by decide) (by decide) kq) ?_
        show own_Go p.tables e below _ (T62.setTop (mkF m 120 #[.val (Value.int p1), .val (Value.int p2), .val (Value.int p3), .val (Value.int p4), .val (Value.ref ob1), .val (Value.ref ob20), .val (Value.int (1 : Int32)), .val (Value.int (3 : Int32)), .val (Value.int (0 : Int32)), .val (Value.int (2 : Int32)), .unset] []))
        refine own_Go.by (fun tq kq => XS.iload X62.here hx rfl (hb hby at_120) rfl kq) ?_
        show own_Go p.tables e below _ (T62.setTop (mkF m 122 #[.val (Value.int p1), .val (Value.int p2), .val (Value.int p3), .val (Value.int p4), .val (Value.ref ob1), .val (Value.ref ob20), .val (Value.int (1 : Int32)), .val (Value.int (3 : Int32)), .val (Value.int (0 : Int32)), .val (Value.int (2 : Int32)), .unset] [(Value.int (2 : Int32))]))
        refine own_Go.by (fun tq kq => XS.iconst X62.here hx rfl (hb hby at_122) kq) ?_
        show own_Go p.tables e below _ (T62.setTop (mkF m 123 #[.val (Value.int p1), .val (Value.int p2), .val (Value.int p3), .val (Value.int p4), .val (Value.ref ob1), .val (Value.ref ob20), .val (Value.int (1 : Int32)), .val (Value.int (3 : Int32)), .val (Value.int (0 : Int32)), .val (Value.int (2 : Int32)), .unset] [(Value.int (2 : Int32)), (Value.int (2 : Int32))]))
        refine own_Go.by (fun tq kq => XS.icmpNo X62.here hx rfl (hb hby at_123) rfl (teq (by decide : (2 : Int32) = (2 : Int32))).2 kq) ?_
        show own_Go p.tables e below _ (T62.setTop (mkF m 126 #[.val (Value.int p1), .val (Value.int p2), .val (Value.int p3), .val (Value.int p4), .val (Value.ref ob1), .val (Value.ref ob20), .val (Value.int (1 : Int32)), .val (Value.int (3 : Int32)), .val (Value.int (0 : Int32)), .val (Value.int (2 : Int32)), .unset] []))
        refine own_Go.by (fun tq kq => XS.aload X62.here hx rfl (hb hby at_126) rfl rfl kq) ?_
        show own_Go p.tables e below _ (T62.setTop (mkF m 128 #[.val (Value.int p1), .val (Value.int p2), .val (Value.int p3), .val (Value.int p4), .val (Value.ref ob1), .val (Value.ref ob20), .val (Value.int (1 : Int32)), .val (Value.int (3 : Int32)), .val (Value.int (0 : Int32)), .val (Value.int (2 : Int32)), .unset] [(Value.ref ob1)]))
        refine own_Go.by (fun tq kq => XS.iload X62.here hx rfl (hb hby at_128) rfl kq) ?_
        show own_Go p.tables e below _ (T62.setTop (mkF m 130 #[.val (Value.int p1), .val (Value.int p2), .val (Value.int p3), .val (Value.int p4), .val (Value.ref ob1), .val (Value.ref ob20), .val (Value.int (1 : Int32)), .val (Value.int (3 : Int32)), .val (Value.int (0 : Int32)), .val (Value.int (2 : Int32)), .unset] [(Value.int (1 : Int32)), (Value.ref ob1)]))
        have c63 := (c24.keep K23q (ninS (Nat.ne_of_lt (Nat.lt_of_lt_of_le A1.lt (Nat.le_trans (Keep.of_wr W6).1 (Nat.le_trans (Keep.of_wr W10).1 (Nat.le_trans (Keep.of_wr W14).1 (Nat.le_trans (Keep.of_wr W18).1 (Nat.le_of_eq y20.symm))))))) nin0))
        obtain ⟨cl64, Ar64, q64, S64, M64, Hh64, G64⟩ := id c63
        refine own_Go.by (fun tq kq => X62.caload hx (j := (1 : Int32)) (v := (Value.int r_8)) (by rw [e62]; exact Ar64.1) (State.isArrayOf_alike hZ.alike Ar64.2.1) Ar64.2.2 (inb_of S64 ⟨(by decide : ¬ ((1 : Int32) < (0 : Int32))), (by decide : (1 : Int32) < (4 : Int32))⟩) (Has.at Hh64 (inb_of S64 ⟨(by decide : ¬ ((1 : Int32) < (0 : Int32))), (by decide : (1 : Int32) < (4 : Int32))⟩) (rfl : _ = (Value.int r_8))) (g := (mkF m 130 #[.val (Value.int p1), .val (Value.int p2), .val (Value.int p3), .val (Value.int p4), .val (Value.ref ob1), .val (Value.ref ob20), .val (Value.int (1 : Int32)), .val (Value.int (3 : Int32)), .val (Value.int (0 : Int32)), .val (Value.int (2 : Int32)), .unset] [(Value.int (1 : Int32)), (Value.ref ob1)])) rfl rfl (hb hby at_130) _ kq) ?_
        show own_Go p.tables e below _ (T62.setTop (mkF m 131 #[.val (Value.int p1), .val (Value.int p2), .val (Value.int p3), .val (Value.int p4), .val (Value.ref ob1), .val (Value.ref ob20), .val (Value.int (1 : Int32)), .val (Value.int (3 : Int32)), .val (Value.int (0 : Int32)), .val (Value.int (2 : Int32)), .unset] [(Value.int r_8)]))
        refine own_Go.by (fun tq kq => XS.bipush X62.here hx rfl (hb hby at_131) kq) ?_
        show own_Go p.tables e below _ (T62.setTop (mkF m 133 #[.val (Value.int p1), .val (Value.int p2), .val (Value.int p3), .val (Value.int p4), .val (Value.ref ob1), .val (Value.ref ob20), .val (Value.int (1 : Int32)), .val (Value.int (3 : Int32)), .val (Value.int (0 : Int32)), .val (Value.int (2 : Int32)), .unset] [(Value.int (46 : Int32)), (Value.int r_8)]))
        refine own_Go.by (fun tq kq => XS.icmpYes X62.here hx rfl (pc0 := 133) (pc' := 152) rfl (hb hby at_133) rfl (feq hdot).2 (by decide) (by decide) kq) ?_
        show own_Go p.tables e below _ (T62.setTop (mkF m 152 #[.val (Value.int p1), .val (Value.int p2), .val (Value.int p3), .val (Value.int p4), .val (Value.ref ob1), .val (Value.ref ob20), .val (Value.int (1 : Int32)), .val (Value.int (3 : Int32)), .val (Value.int (0 : Int32)), .val (Value.int (2 : Int32)), .unset] []))
        refine own_Go.by (fun tq kq => XS.iconst X62.here hx rfl (hb hby at_152) kq) ?_
        show own_Go p.tables e below _ (T62.setTop (mkF m 153 #[.val (Value.int p1), .val (Value.int p2), .val (Value.int p3), .val (Value.int p4), .val (Value.ref ob1), .val (Value.ref ob20), .val (Value.int (1 : Int32)), .val (Value.int (3 : Int32)), .val (Value.int (0 : Int32)), .val (Value.int (2 : Int32)), .unset] [(Value.int (0 : Int32))]))
        refine own_Go.by (fun tq kq => XS.istore X62.here hx rfl (hb hby at_153) rfl (l' := #[.val (Value.int p1), .val (Value.int p2), .val (Value.int p3), .val (Value.int p4), .val (Value.ref ob1), .val (Value.ref ob20), .val (Value.int (1 : Int32)), .val (Value.int (3 : Int32)), .val (Value.int (0 : Int32)), .val (Value.int (2 : Int32)), .val (Value.int (0 : Int32))]) rfl kq) ?_
        show own_Go p.tables e below _ (T62.setTop (mkF m 155 #[.val (Value.int p1), .val (Value.int p2), .val (Value.int p3), .val (Value.int p4), .val (Value.ref ob1), .val (Value.ref ob20), .val (Value.int (1 : Int32)), .val (Value.int (3 : Int32)), .val (Value.int (0 : Int32)), .val (Value.int (2 : Int32)), .val (Value.int (0 : Int32))] []))
        refine own_Go.by (fun tq kq => XS.goto X62.here hx rfl (pc0 := 155) (pc' := 161) rfl (hb hby at_155) (by decide) (by decide) kq) ?_
        show own_Go p.tables e below _ (T62.setTop (mkF m 161 #[.val (Value.int p1), .val (Value.int p2), .val (Value.int p3), .val (Value.int p4), .val (Value.ref ob1), .val (Value.ref ob20), .val (Value.int (1 : Int32)), .val (Value.int (3 : Int32)), .val (Value.int (0 : Int32)), .val (Value.int (2 : Int32)), .val (Value.int (0 : Int32))] []))
        refine own_Go.by (fun tq kq => XS.iload X62.here hx rfl (hb hby at_161) rfl kq) ?_
        show own_Go p.tables e below _ (T62.setTop (mkF m 163 #[.val (Value.int p1), .val (Value.int p2), .val (Value.int p3), .val (Value.int p4), .val (Value.ref ob1), .val (Value.ref ob20), .val (Value.int (1 : Int32)), .val (Value.int (3 : Int32)), .val (Value.int (0 : Int32)), .val (Value.int (2 : Int32)), .val (Value.int (0 : Int32))] [(Value.int (0 : Int32))]))
        refine own_Go.by (fun tq kq => XS.iload X62.here hx rfl (hb hby at_163) rfl kq) ?_
        show own_Go p.tables e below _ (T62.setTop (mkF m 165 #[.val (Value.int p1), .val (Value.int p2), .val (Value.int p3), .val (Value.int p4), .val (Value.ref ob1), .val (Value.ref ob20), .val (Value.int (1 : Int32)), .val (Value.int (3 : Int32)), .val (Value.int (0 : Int32)), .val (Value.int (2 : Int32)), .val (Value.int (0 : Int32))] [(Value.int (0 : Int32)), (Value.int (0 : Int32))]))
        refine own_Go.by (fun tq kq => XS.icmpNo X62.here hx rfl (hb hby at_165) rfl (teq (by decide : (0 : Int32) = (0 : Int32))).2 kq) ?_
        show own_Go p.tables e below _ (T62.setTop (mkF m 168 #[.val (Value.int p1), .val (Value.int p2), .val (Value.int p3), .val (Value.int p4), .val (Value.ref ob1), .val (Value.ref ob20), .val (Value.int (1 : Int32)), .val (Value.int (3 : Int32)), .val (Value.int (0 : Int32)), .val (Value.int (2 : Int32)), .val (Value.int (0 : Int32))] []))
        refine own_Go.by (fun tq kq => XS.iconst X62.here hx rfl (hb hby at_168) kq) ?_
        show own_Go p.tables e below _ (T62.setTop (mkF m 169 #[.val (Value.int p1), .val (Value.int p2), .val (Value.int p3), .val (Value.int p4), .val (Value.ref ob1), .val (Value.ref ob20), .val (Value.int (1 : Int32)), .val (Value.int (3 : Int32)), .val (Value.int (0 : Int32)), .val (Value.int (2 : Int32)), .val (Value.int (0 : Int32))] [(Value.int (1 : Int32))]))
        refine own_Go.by (fun tq kq => XS.goto X62.here hx rfl (pc0 := 169) (pc' := 173) rfl (hb hby at_169) (by decide) (by decide) kq) ?_
        show own_Go p.tables e below _ (T62.setTop (mkF m 173 #[.val (Value.int p1), .val (Value.int p2), .val (Value.int p3), .val (Value.int p4), .val (Value.ref ob1), .val (Value.ref ob20), .val (Value.int (1 : Int32)), .val (Value.int (3 : Int32)), .val (Value.int (0 : Int32)), .val (Value.int (2 : Int32)), .val (Value.int (0 : Int32))] [(Value.int (1 : Int32))]))
        obtain ⟨fs, hr, hrun, hended, hW, hsame⟩ := X62.leave (v := some (Value.int (nar .boolean (1 : Int32)))) (fun h => by rw [Bd.returns] at h; cases h)
        refine own_Go.fin (retN X62 hx (t := .boolean) Bd.returns (by simp) (hb hby at_173) hr) ⟨hrun, hended, _, _, rfl, ?_, ⟨_, rfl⟩, hW, hsame.mono (by decide) (by decide)⟩
        show Q0 Z p1 p2 p3 p4 zc vf h0 n0 _ T62.heap _
        rw [e62]
        exact ⟨rfl, N62, K25⟩
    ·
      subst hq_rr
      show own_Go p.tables e below _ (T23.setTop (mkF m 73 #[.val (Value.int p1), .val (Value.int p2), .val (Value.int p3), .val (Value.int p4), .val (Value.ref ob1), .val (Value.ref ob20), .val (Value.int (1 : Int32)), .unset, .unset, .unset, .unset] [(Value.int (3 : Int32)), (Value.int (1 : Int32))]))
      refine own_Go.by (fun tq kq => XS.iadd X23.here hx rfl (hb hby at_73) rfl kq) ?_
      show own_Go p.tables e below _ (T23.setTop (mkF m 74 #[.val (Value.int p1), .val (Value.int p2), .val (Value.int p3), .val (Value.int p4), .val (Value.ref ob1), .val (Value.ref ob20), .val (Value.int (1 : Int32)), .unset, .unset, .unset, .unset] [(Value.int (4 : Int32))]))
      refine own_Go.by (fun tq kq => XS.istore X23.here hx rfl (hb hby at_74) rfl (l' := #[.val (Value.int p1), .val (Value.int p2), .val (Value.int p3), .val (Value.int p4), .val (Value.ref ob1), .val (Value.ref ob20), .val (Value.int (1 : Int32)), .val (Value.int (4 : Int32)), .unset, .unset, .unset]) rfl kq) ?_
      show own_Go p.tables e below _ (T23.setTop (mkF m 76 #[.val (Value.int p1), .val (Value.int p2), .val (Value.int p3), .val (Value.int p4), .val (Value.ref ob1), .val (Value.ref ob20), .val (Value.int (1 : Int32)), .val (Value.int (4 : Int32)), .unset, .unset, .unset] []))
      refine own_Go.by (fun tq kq => XS.aload X23.here hx rfl (hb hby at_76) rfl rfl kq) ?_
      show own_Go p.tables e below _ (T23.setTop (mkF m 78 #[.val (Value.int p1), .val (Value.int p2), .val (Value.int p3), .val (Value.int p4), .val (Value.ref ob1), .val (Value.ref ob20), .val (Value.int (1 : Int32)), .val (Value.int (4 : Int32)), .unset, .unset, .unset] [(Value.ref ob20)]))
      refine own_Go.by (fun tq kq => XS.iload X23.here hx rfl (hb hby at_78) rfl kq) ?_
      show own_Go p.tables e below _ (T23.setTop (mkF m 80 #[.val (Value.int p1), .val (Value.int p2), .val (Value.int p3), .val (Value.int p4), .val (Value.ref ob1), .val (Value.ref ob20), .val (Value.int (1 : Int32)), .val (Value.int (4 : Int32)), .unset, .unset, .unset] [(Value.int (1 : Int32)), (Value.ref ob20)]))
      refine own_Go.by (fun tq kq => XS.iload X23.here hx rfl (hb hby at_80) rfl kq) ?_
      show own_Go p.tables e below _ (T23.setTop (mkF m 82 #[.val (Value.int p1), .val (Value.int p2), .val (Value.int p3), .val (Value.int p4), .val (Value.ref ob1), .val (Value.ref ob20), .val (Value.int (1 : Int32)), .val (Value.int (4 : Int32)), .unset, .unset, .unset] [(Value.int (4 : Int32)), (Value.int (1 : Int32)), (Value.ref ob20)]))
      obtain ⟨_, _, ⟨T65, L65, k65, n65⟩, -, X65, ⟨Lc65, hQ65, l65, y65, z65⟩, st65⟩ := Jvm.LawKit.callS X23 hx (y := (⟨"com/example/enlace/enlace/DotSegments", "isDotSegment", "(Ljava/lang/String;II)Z"⟩ : MethodName)) hown (mvT hZ (hw _ (List.mem_of_getElem? (i := 35) rfl))) (mvT hZ (hw _ (List.mem_of_getElem? (i := 36) rfl))) (mvT hZ (hw _ (List.mem_of_getElem? (i := 37) rfl))) (mvT hZ (hw _ (List.mem_of_getElem? (i := 38) rfl))) (by decide) (backOf (W := 0) (rm8_1_4_x l Z a0 hw [] ob20 t23 kb23 r_4 r_8 r_12 r_16 zc vf T23.heap n0 O25 E23q V23q C23q A23q (hp23 : ∀ c ∈ ([r_4, r_8, r_12, r_16] : List Int32), ¬ c < 0 ∧ ¬ (255 : Int32) < c) H0 H1 (hzc : ¬ (zc = (0 : Int32))) (rvf : vf.isRef = true)) hZ (hw _ (List.mem_of_getElem? (i := 38) rfl)) (hw _ (List.mem_of_getElem? (i := 37) rfl)) (by decide) (by decide)) (g := (mkF m 82 #[.val (Value.int p1), .val (Value.int p2), .val (Value.int p3), .val (Value.int p4), .val (Value.ref ob1), .val (Value.ref ob20), .val (Value.int (1 : Int32)), .val (Value.int (4 : Int32)), .unset, .unset, .unset] [(Value.int (4 : Int32)), (Value.int (1 : Int32)), (Value.ref ob20)])) rfl (by rw [hml]; rfl) (argsL := [(Value.ref ob20), (Value.int (1 : Int32)), (Value.int (4 : Int32))]) (rest := []) (lenOf own_pd2 rfl) rfl (by show 2 * 0 + _ ≤ _; exact Nat.le_of_eq rfl) (hb hby at_82) (fun _ _ => ⟨rfl, rfl, (by decide : 3 + 0 ≤ _), (by decide : 12 + 0 ≤ _)⟩)
      dsimp only [Pt.U, Pt.locs, Pt.cells, Pt.slots] at X65 l65 y65 z65 st65 hQ65
      subst l65 y65 z65
      refine own_Go.by st65 ?_
      obtain ⟨rfl, N65q, e65⟩ := hQ65
      have N65 := Fr.app N23 N65q
      show own_Go p.tables e below _ (T65.setTop (mkF m 85 #[.val (Value.int p1), .val (Value.int p2), .val (Value.int p3), .val (Value.int p4), .val (Value.ref ob1), .val (Value.ref ob20), .val (Value.int (1 : Int32)), .val (Value.int (4 : Int32)), .unset, .unset, .unset] [(Value.int (0 : Int32))]))
      refine own_Go.by (fun tq kq => XS.istore X65.here hx rfl (hb hby at_85) rfl (l' := #[.val (Value.int p1), .val (Value.int p2), .val (Value.int p3), .val (Value.int p4), .val (Value.ref ob1), .val (Value.ref ob20), .val (Value.int (1 : Int32)), .val (Value.int (4 : Int32)), .val (Value.int (0 : Int32)), .unset, .unset]) rfl kq) ?_
      show own_Go p.tables e below _ (T65.setTop (mkF m 87 #[.val (Value.int p1), .val (Value.int p2), .val (Value.int p3), .val (Value.int p4), .val (Value.ref ob1), .val (Value.ref ob20), .val (Value.int (1 : Int32)), .val (Value.int (4 : Int32)), .val (Value.int (0 : Int32)), .unset, .unset] []))
      refine own_Go.by (fun tq kq => XS.iload X65.here hx rfl (hb hby at_87) rfl kq) ?_
      show own_Go p.tables e below _ (T65.setTop (mkF m 89 #[.val (Value.int p1), .val (Value.int p2), .val (Value.int p3), .val (Value.int p4), .val (Value.ref ob1), .val (Value.ref ob20), .val (Value.int (1 : Int32)), .val (Value.int (4 : Int32)), .val (Value.int (0 : Int32)), .unset, .unset] [(Value.int (4 : Int32))]))
      refine own_Go.by (fun tq kq => XS.iload X65.here hx rfl (hb hby at_89) rfl kq) ?_
      show own_Go p.tables e below _ (T65.setTop (mkF m 91 #[.val (Value.int p1), .val (Value.int p2), .val (Value.int p3), .val (Value.int p4), .val (Value.ref ob1), .val (Value.ref ob20), .val (Value.int (1 : Int32)), .val (Value.int (4 : Int32)), .val (Value.int (0 : Int32)), .unset, .unset] [(Value.int (1 : Int32)), (Value.int (4 : Int32))]))
      refine own_Go.by (fun tq kq => XS.isub X65.here hx rfl (hb hby at_91) rfl kq) ?_
      show own_Go p.tables e below _ (T65.setTop (mkF m 92 #[.val (Value.int p1), .val (Value.int p2), .val (Value.int p3), .val (Value.int p4), .val (Value.ref ob1), .val (Value.ref ob20), .val (Value.int (1 : Int32)), .val (Value.int (4 : Int32)), .val (Value.int (0 : Int32)), .unset, .unset] [(Value.int (3 : Int32))]))
      refine own_Go.by (fun tq kq => XS.istore X65.here hx rfl (hb hby at_92) rfl (l' := #[.val (Value.int p1), .val (Value.int p2), .val (Value.int p3), .val (Value.int p4), .val (Value.ref ob1), .val (Value.ref ob20), .val (Value.int (1 : Int32)), .val (Value.int (4 : Int32)), .val (Value.int (0 : Int32)), .val (Value.int (3 : Int32)), .unset]) rfl kq) ?_
      show own_Go p.tables e below _ (T65.setTop (mkF m 94 #[.val (Value.int p1), .val (Value.int p2), .val (Value.int p3), .val (Value.int p4), .val (Value.ref ob1), .val (Value.ref ob20), .val (Value.int (1 : Int32)), .val (Value.int (4 : Int32)), .val (Value.int (0 : Int32)), .val (Value.int (3 : Int32)), .unset] []))
      refine own_Go.by (fun tq kq => XS.iload X65.here hx rfl (hb hby at_94) rfl kq) ?_
      show own_Go p.tables e below _ (T65.setTop (mkF m 96 #[.val (Value.int p1), .val (Value.int p2), .val (Value.int p3), .val (Value.int p4), .val (Value.ref ob1), .val (Value.ref ob20), .val (Value.int (1 : Int32)), .val (Value.int (4 : Int32)), .val (Value.int (0 : Int32)), .val (Value.int (3 : Int32)), .unset] [(Value.int (3 : Int32))]))
      refine own_Go.by (fun tq kq => XS.iconst X65.here hx rfl (hb hby at_96) kq) ?_
      show own_Go p.tables e below _ (T65.setTop (mkF m 97 #[.val (Value.int p1), .val (Value.int p2), .val (Value.int p3), .val (Value.int p4), .val (Value.ref ob1), .val (Value.ref ob20), .val (Value.int (1 : Int32)), .val (Value.int (4 : Int32)), .val (Value.int (0 : Int32)), .val (Value.int (3 : Int32)), .unset] [(Value.int (1 : Int32)), (Value.int (3 : Int32))]))
      refine own_Go.by (fun tq kq => XS.icmpYes X65.here hx rfl (pc0 := 97) (pc' := 120) rfl (hb hby at_97) rfl (feq (by decide : ¬ ((3 : Int32) = (1 : Int32)))).2 (by decide) (by decide) kq) ?_
      show own_Go p.tables e below _ (T65.setTop (mkF m 120 #[.val (Value.int p1), .val (Value.int p2), .val (Value.int p3), .val (Value.int p4), .val (Value.ref ob1), .val (Value.ref ob20), .val (Value.int (1 : Int32)), .val (Value.int (4 : Int32)), .val (Value.int (0 : Int32)), .val (Value.int (3 : Int32)), .unset] []))
      refine own_Go.by (fun tq kq => XS.iload X65.here hx rfl (hb hby at_120) rfl kq) ?_
      show own_Go p.tables e below _ (T65.setTop (mkF m 122 #[.val (Value.int p1), .val (Value.int p2), .val (Value.int p3), .val (Value.int p4), .val (Value.ref ob1), .val (Value.ref ob20), .val (Value.int (1 : Int32)), .val (Value.int (4 : Int32)), .val (Value.int (0 : Int32)), .val (Value.int (3 : Int32)), .unset] [(Value.int (3 : Int32))]))
      refine own_Go.by (fun tq kq => XS.iconst X65.here hx rfl (hb hby at_122) kq) ?_
      show own_Go p.tables e below _ (T65.setTop (mkF m 123 #[.val (Value.int p1), .val (Value.int p2), .val (Value.int p3), .val (Value.int p4), .val (Value.ref ob1), .val (Value.ref ob20), .val (Value.int (1 : Int32)), .val (Value.int (4 : Int32)), .val (Value.int (0 : Int32)), .val (Value.int (3 : Int32)), .unset] [(Value.int (2 : Int32)), (Value.int (3 : Int32))]))
      refine own_Go.by (fun tq kq => XS.icmpYes X65.here hx rfl (pc0 := 123) (pc' := 158) rfl (hb hby at_123) rfl (feq (by decide : ¬ ((3 : Int32) = (2 : Int32)))).2 (by decide) (by decide) kq) ?_
      show own_Go p.tables e below _ (T65.setTop (mkF m 158 #[.val (Value.int p1), .val (Value.int p2), .val (Value.int p3), .val (Value.int p4), .val (Value.ref ob1), .val (Value.ref ob20), .val (Value.int (1 : Int32)), .val (Value.int (4 : Int32)), .val (Value.int (0 : Int32)), .val (Value.int (3 : Int32)), .unset] []))
      refine own_Go.by (fun tq kq => XS.iconst X65.here hx rfl (hb hby at_158) kq) ?_
      show own_Go p.tables e below _ (T65.setTop (mkF m 159 #[.val (Value.int p1), .val (Value.int p2), .val (Value.int p3), .val (Value.int p4), .val (Value.ref ob1), .val (Value.ref ob20), .val (Value.int (1 : Int32)), .val (Value.int (4 : Int32)), .val (Value.int (0 : Int32)), .val (Value.int (3 : Int32)), .unset] [(Value.int (0 : Int32))]))
      refine own_Go.by (fun tq kq => XS.istore X65.here hx rfl (hb hby at_159) rfl (l' := #[.val (Value.int p1), .val (Value.int p2), .val (Value.int p3), .val (Value.int p4), .val (Value.ref ob1), .val (Value.ref ob20), .val (Value.int (1 : Int32)), .val (Value.int (4 : Int32)), .val (Value.int (0 : Int32)), .val (Value.int (3 : Int32)), .val (Value.int (0 : Int32))]) rfl kq) ?_
      show own_Go p.tables e below _ (T65.setTop (mkF m 161 #[.val (Value.int p1), .val (Value.int p2), .val (Value.int p3), .val (Value.int p4), .val (Value.ref ob1), .val (Value.ref ob20), .val (Value.int (1 : Int32)), .val (Value.int (4 : Int32)), .val (Value.int (0 : Int32)), .val (Value.int (3 : Int32)), .val (Value.int (0 : Int32))] []))
      refine own_Go.by (fun tq kq => XS.iload X65.here hx rfl (hb hby at_161) rfl kq) ?_
      show own_Go p.tables e below _ (T65.setTop (mkF m 163 #[.val (Value.int p1), .val (Value.int p2), .val (Value.int p3), .val (Value.int p4), .val (Value.ref ob1), .val (Value.ref ob20), .val (Value.int (1 : Int32)), .val (Value.int (4 : Int32)), .val (Value.int (0 : Int32)), .val (Value.int (3 : Int32)), .val (Value.int (0 : Int32))] [(Value.int (0 : Int32))]))
      refine own_Go.by (fun tq kq => XS.iload X65.here hx rfl (hb hby at_163) rfl kq) ?_
      show own_Go p.tables e below _ (T65.setTop (mkF m 165 #[.val (Value.int p1), .val (Value.int p2), .val (Value.int p3), .val (Value.int p4), .val (Value.ref ob1), .val (Value.ref ob20), .val (Value.int (1 : Int32)), .val (Value.int (4 : Int32)), .val (Value.int (0 : Int32)), .val (Value.int (3 : Int32)), .val (Value.int (0 : Int32))] [(Value.int (0 : Int32)), (Value.int (0 : Int32))]))
      refine own_Go.by (fun tq kq => XS.icmpNo X65.here hx rfl (hb hby at_165) rfl (teq (by decide : (0 : Int32) = (0 : Int32))).2 kq) ?_
      show own_Go p.tables e below _ (T65.setTop (mkF m 168 #[.val (Value.int p1), .val (Value.int p2), .val (Value.int p3), .val (Value.int p4), .val (Value.ref ob1), .val (Value.ref ob20), .val (Value.int (1 : Int32)), .val (Value.int (4 : Int32)), .val (Value.int (0 : Int32)), .val (Value.int (3 : Int32)), .val (Value.int (0 : Int32))] []))
      refine own_Go.by (fun tq kq => XS.iconst X65.here hx rfl (hb hby at_168) kq) ?_
      show own_Go p.tables e below _ (T65.setTop (mkF m 169 #[.val (Value.int p1), .val (Value.int p2), .val (Value.int p3), .val (Value.int p4), .val (Value.ref ob1), .val (Value.ref ob20), .val (Value.int (1 : Int32)), .val (Value.int (4 : Int32)), .val (Value.int (0 : Int32)), .val (Value.int (3 : Int32)), .val (Value.int (0 : Int32))] [(Value.int (1 : Int32))]))
      refine own_Go.by (fun tq kq => XS.goto X65.here hx rfl (pc0 := 169) (pc' := 173) rfl (hb hby at_169) (by decide) (by decide) kq) ?_
      show own_Go p.tables e below _ (T65.setTop (mkF m 173 #[.val (Value.int p1), .val (Value.int p2), .val (Value.int p3), .val (Value.int p4), .val (Value.ref ob1), .val (Value.ref ob20), .val (Value.int (1 : Int32)), .val (Value.int (4 : Int32)), .val (Value.int (0 : Int32)), .val (Value.int (3 : Int32)), .val (Value.int (0 : Int32))] [(Value.int (1 : Int32))]))
      obtain ⟨fs, hr, hrun, hended, hW, hsame⟩ := X65.leave (v := some (Value.int (nar .boolean (1 : Int32)))) (fun h => by rw [Bd.returns] at h; cases h)
      refine own_Go.fin (retN X65 hx (t := .boolean) Bd.returns (by simp) (hb hby at_173) hr) ⟨hrun, hended, _, _, rfl, ?_, ⟨_, rfl⟩, hW, hsame.mono (by decide) (by decide)⟩
      show Q0 Z p1 p2 p3 p4 zc vf h0 n0 _ T65.heap _
      rw [e65]
      exact ⟨rfl, N65, K25⟩
  ·
    subst hq_frm
    show own_Go p.tables e below _ (T23.setTop (mkF m 62 #[.val (Value.int p1), .val (Value.int p2), .val (Value.int p3), .val (Value.int p4), .val (Value.ref ob1), .val (Value.ref ob20), .val (Value.int (2 : Int32)), .unset, .unset, .unset, .unset] []))
    refine own_Go.by (fun tq kq => XS.iload X23.here hx rfl (hb hby at_62) rfl kq) ?_
    show own_Go p.tables e below _ (T23.setTop (mkF m 64 #[.val (Value.int p1), .val (Value.int p2), .val (Value.int p3), .val (Value.int p4), .val (Value.ref ob1), .val (Value.ref ob20), .val (Value.int (2 : Int32)), .unset, .unset, .unset, .unset] [(Value.int (2 : Int32))]))
    refine own_Go.by (fun tq kq => XS.iloadN X23.here hx rfl (hb hby at_64) rfl kq) ?_
    show own_Go p.tables e below _ (T23.setTop (mkF m 65 #[.val (Value.int p1), .val (Value.int p2), .val (Value.int p3), .val (Value.int p4), .val (Value.ref ob1), .val (Value.ref ob20), .val (Value.int (2 : Int32)), .unset, .unset, .unset, .unset] [(Value.int p4), (Value.int (2 : Int32))]))
    refine own_Go.by (fun tq kq => X23.ldcInt hx hown (mvT hZ (hw _ (List.mem_of_getElem? (i := 34) rfl))) (g := (mkF m 65 #[.val (Value.int p1), .val (Value.int p2), .val (Value.int p3), .val (Value.int p4), .val (Value.ref ob1), .val (Value.ref ob20), .val (Value.int (2 : Int32)), .unset, .unset, .unset, .unset] [(Value.int p4), (Value.int (2 : Int32))])) rfl (hb hby at_65) _ kq) ?_
    show own_Go p.tables e below _ (T23.setTop (mkF m 67 #[.val (Value.int p1), .val (Value.int p2), .val (Value.int p3), .val (Value.int p4), .val (Value.ref ob1), .val (Value.ref ob20), .val (Value.int (2 : Int32)), .unset, .unset, .unset, .unset] [(Value.int (2147483647 : Int32)), (Value.int p4), (Value.int (2 : Int32))]))
    refine own_Go.by (fun tq kq => XS.iand X23.here hx rfl (hb hby at_67) rfl kq) ?_
    show own_Go p.tables e below _ (T23.setTop (mkF m 68 #[.val (Value.int p1), .val (Value.int p2), .val (Value.int p3), .val (Value.int p4), .val (Value.ref ob1), .val (Value.ref ob20), .val (Value.int (2 : Int32)), .unset, .unset, .unset, .unset] [(Value.int (p4 &&& (2147483647 : Int32))), (Value.int (2 : Int32))]))
    refine own_Go.by (fun tq kq => XS.iconst X23.here hx rfl (hb hby at_68) kq) ?_
    show own_Go p.tables e below _ (T23.setTop (mkF m 69 #[.val (Value.int p1), .val (Value.int p2), .val (Value.int p3), .val (Value.int p4), .val (Value.ref ob1), .val (Value.ref ob20), .val (Value.int (2 : Int32)), .unset, .unset, .unset, .unset] [(Value.int (5 : Int32)), (Value.int (p4 &&& (2147483647 : Int32))), (Value.int (2 : Int32))]))
    refine own_Go.by (fun tq kq => XS.iload X23.here hx rfl (hb hby at_69) rfl kq) ?_
    show own_Go p.tables e below _ (T23.setTop (mkF m 71 #[.val (Value.int p1), .val (Value.int p2), .val (Value.int p3), .val (Value.int p4), .val (Value.ref ob1), .val (Value.ref ob20), .val (Value.int (2 : Int32)), .unset, .unset, .unset, .unset] [(Value.int (2 : Int32)), (Value.int (5 : Int32)), (Value.int (p4 &&& (2147483647 : Int32))), (Value.int (2 : Int32))]))
    refine own_Go.by (fun tq kq => XS.isub X23.here hx rfl (hb hby at_71) rfl kq) ?_
    show own_Go p.tables e below _ (T23.setTop (mkF m 72 #[.val (Value.int p1), .val (Value.int p2), .val (Value.int p3), .val (Value.int p4), .val (Value.ref ob1), .val (Value.ref ob20), .val (Value.int (2 : Int32)), .unset, .unset, .unset, .unset] [(Value.int (3 : Int32)), (Value.int (p4 &&& (2147483647 : Int32))), (Value.int (2 : Int32))]))
    refine own_Go.by (fun tq kq => iremM (g := (mkF m 72 #[.val (Value.int p1), .val (Value.int p2), .val (Value.int p3), .val (Value.int p4), .val (Value.ref ob1), .val (Value.ref ob20), .val (Value.int (2 : Int32)), .unset, .unset, .unset, .unset] [(Value.int (3 : Int32)), (Value.int (p4 &&& (2147483647 : Int32))), (Value.int (2 : Int32))])) X23 hx rfl (hb hby at_72) rfl (by decide) kq) ?_
    show own_Go p.tables e below _ (T23.setTop (mkF m 73 #[.val (Value.int p1), .val (Value.int p2), .val (Value.int p3), .val (Value.int p4), .val (Value.ref ob1), .val (Value.ref ob20), .val (Value.int (2 : Int32)), .unset, .unset, .unset, .unset] [(Value.int ((p4 &&& (2147483647 : Int32)) % (3 : Int32))), (Value.int (2 : Int32))]))
    generalize hv_rr : ((p4 &&& (2147483647 : Int32)) % (3 : Int32)) = rr
    rcases own_mod3 hv_rr with hq_rr | hq_rr | hq_rr
    ·
      subst hq_rr
      show own_Go p.tables e below _ (T23.setTop (mkF m 73 #[.val (Value.int p1), .val (Value.int p2), .val (Value.int p3), .val (Value.int p4), .val (Value.ref ob1), .val (Value.ref ob20), .val (Value.int (2 : Int32)), .unset, .unset, .unset, .unset] [(Value.int (0 : Int32)), (Value.int (2 : Int32))]))
      refine own_Go.by (fun tq kq => XS.iadd X23.here hx rfl (hb hby at_73) rfl kq) ?_
      show own_Go p.tables e below _ (T23.setTop (mkF m 74 #[.val (Value.int p1), .val (Value.int p2), .val (Value.int p3), .val (Value.int p4), .val (Value.ref ob1), .val (Value.ref ob20), .val (Value.int (2 : Int32)), .unset, .unset, .unset, .unset] [(Value.int (2 : Int32))]))
      refine own_Go.by (fun tq kq => XS.istore X23.here hx rfl (hb hby at_74) rfl (l' := #[.val (Value.int p1), .val (Value.int p2), .val (Value.int p3), .val (Value.int p4), .val (Value.ref ob1), .val (Value.ref ob20), .val (Value.int (2 : Int32)), .val (Value.int (2 : Int32)), .unset, .unset, .unset]) rfl kq) ?_
      show own_Go p.tables e below _ (T23.setTop (mkF m 76 #[.val (Value.int p1), .val (Value.int p2), .val (Value.int p3), .val (Value.int p4), .val (Value.ref ob1), .val (Value.ref ob20), .val (Value.int (2 : Int32)), .val (Value.int (2 : Int32)), .unset, .unset, .unset] []))
      refine own_Go.by (fun tq kq => XS.aload X23.here hx rfl (hb hby at_76) rfl rfl kq) ?_
      show own_Go p.tables e below _ (T23.setTop (mkF m 78 #[.val (Value.int p1), .val (Value.int p2), .val (Value.int p3), .val (Value.int p4), .val (Value.ref ob1), .val (Value.ref ob20), .val (Value.int (2 : Int32)), .val (Value.int (2 : Int32)), .unset, .unset, .unset] [(Value.ref ob20)]))
      refine own_Go.by (fun tq kq => XS.iload X23.here hx rfl (hb hby at_78) rfl kq) ?_
      show own_Go p.tables e below _ (T23.setTop (mkF m 80 #[.val (Value.int p1), .val (Value.int p2), .val (Value.int p3), .val (Value.int p4), .val (Value.ref ob1), .val (Value.ref ob20), .val (Value.int (2 : Int32)), .val (Value.int (2 : Int32)), .unset, .unset, .unset] [(Value.int (2 : Int32)), (Value.ref ob20)]))
      refine own_Go.by (fun tq kq => XS.iload X23.here hx rfl (hb hby at_80) rfl kq) ?_
      show own_Go p.tables e below _ (T23.setTop (mkF m 82 #[.val (Value.int p1), .val (Value.int p2), .val (Value.int p3), .val (Value.int p4), .val (Value.ref ob1), .val (Value.ref ob20), .val (Value.int (2 : Int32)), .val (Value.int (2 : Int32)), .unset, .unset, .unset] [(Value.int (2 : Int32)), (Value.int (2 : Int32)), (Value.ref ob20)]))
      obtain ⟨_, _, ⟨T66, L66, k66, n66⟩, -, X66, ⟨Lc66, hQ66, l66, y66, z66⟩, st66⟩ := Jvm.LawKit.callS X23 hx (y := (⟨"com/example/enlace/enlace/DotSegments", "isDotSegment", "(Ljava/lang/String;II)Z"⟩ : MethodName)) hown (mvT hZ (hw _ (List.mem_of_getElem? (i := 35) rfl))) (mvT hZ (hw _ (List.mem_of_getElem? (i := 36) rfl))) (mvT hZ (hw _ (List.mem_of_getElem? (i := 37) rfl))) (mvT hZ (hw _ (List.mem_of_getElem? (i := 38) rfl))) (by decide) (backOf (W := 0) (rm8_2_2_x l Z a0 hw [] ob20 t23 kb23 r_4 r_8 r_12 r_16 zc vf T23.heap n0 O25 E23q V23q C23q A23q (hp23 : ∀ c ∈ ([r_4, r_8, r_12, r_16] : List Int32), ¬ c < 0 ∧ ¬ (255 : Int32) < c) H0 H1 (hzc : ¬ (zc = (0 : Int32))) (rvf : vf.isRef = true)) hZ (hw _ (List.mem_of_getElem? (i := 38) rfl)) (hw _ (List.mem_of_getElem? (i := 37) rfl)) (by decide) (by decide)) (g := (mkF m 82 #[.val (Value.int p1), .val (Value.int p2), .val (Value.int p3), .val (Value.int p4), .val (Value.ref ob1), .val (Value.ref ob20), .val (Value.int (2 : Int32)), .val (Value.int (2 : Int32)), .unset, .unset, .unset] [(Value.int (2 : Int32)), (Value.int (2 : Int32)), (Value.ref ob20)])) rfl (by rw [hml]; rfl) (argsL := [(Value.ref ob20), (Value.int (2 : Int32)), (Value.int (2 : Int32))]) (rest := []) (lenOf own_pd2 rfl) rfl (by show 2 * 0 + _ ≤ _; exact Nat.le_of_eq rfl) (hb hby at_82) (fun _ _ => ⟨rfl, rfl, (by decide : 3 + 0 ≤ _), (by decide : 12 + 0 ≤ _)⟩)
      dsimp only [Pt.U, Pt.locs, Pt.cells, Pt.slots] at X66 l66 y66 z66 st66 hQ66
      subst l66 y66 z66
      refine own_Go.by st66 ?_
      obtain ⟨rfl, N66q, e66⟩ := hQ66
      have N66 := Fr.app N23 N66q
      show own_Go p.tables e below _ (T66.setTop (mkF m 85 #[.val (Value.int p1), .val (Value.int p2), .val (Value.int p3), .val (Value.int p4), .val (Value.ref ob1), .val (Value.ref ob20), .val (Value.int (2 : Int32)), .val (Value.int (2 : Int32)), .unset, .unset, .unset] [(Value.int (0 : Int32))]))
      refine own_Go.by (fun tq kq => XS.istore X66.here hx rfl (hb hby at_85) rfl (l' := #[.val (Value.int p1), .val (Value.int p2), .val (Value.int p3), .val (Value.int p4), .val (Value.ref ob1), .val (Value.ref ob20), .val (Value.int (2 : Int32)), .val (Value.int (2 : Int32)), .val (Value.int (0 : Int32)), .unset, .unset]) rfl kq) ?_
      show own_Go p.tables e below _ (T66.setTop (mkF m 87 #[.val (Value.int p1), .val (Value.int p2), .val (Value.int p3), .val (Value.int p4), .val (Value.ref ob1), .val (Value.ref ob20), .val (Value.int (2 : Int32)), .val (Value.int (2 : Int32)), .val (Value.int (0 : Int32)), .unset, .unset] []))
      refine own_Go.by (fun tq kq => XS.iload X66.here hx rfl (hb hby at_87) rfl kq) ?_
      show own_Go p.tables e below _ (T66.setTop (mkF m 89 #[.val (Value.int p1), .val (Value.int p2), .val (Value.int p3), .val (Value.int p4), .val (Value.ref ob1), .val (Value.ref ob20), .val (Value.int (2 : Int32)), .val (Value.int (2 : Int32)), .val (Value.int (0 : Int32)), .unset, .unset] [(Value.int (2 : Int32))]))
      refine own_Go.by (fun tq kq => XS.iload X66.here hx rfl (hb hby at_89) rfl kq) ?_
      show own_Go p.tables e below _ (T66.setTop (mkF m 91 #[.val (Value.int p1), .val (Value.int p2), .val (Value.int p3), .val (Value.int p4), .val (Value.ref ob1), .val (Value.ref ob20), .val (Value.int (2 : Int32)), .val (Value.int (2 : Int32)), .val (Value.int (0 : Int32)), .unset, .unset] [(Value.int (2 : Int32)), (Value.int (2 : Int32))]))
      refine own_Go.by (fun tq kq => XS.isub X66.here hx rfl (hb hby at_91) rfl kq) ?_
      show own_Go p.tables e below _ (T66.setTop (mkF m 92 #[.val (Value.int p1), .val (Value.int p2), .val (Value.int p3), .val (Value.int p4), .val (Value.ref ob1), .val (Value.ref ob20), .val (Value.int (2 : Int32)), .val (Value.int (2 : Int32)), .val (Value.int (0 : Int32)), .unset, .unset] [(Value.int (0 : Int32))]))
      refine own_Go.by (fun tq kq => XS.istore X66.here hx rfl (hb hby at_92) rfl (l' := #[.val (Value.int p1), .val (Value.int p2), .val (Value.int p3), .val (Value.int p4), .val (Value.ref ob1), .val (Value.ref ob20), .val (Value.int (2 : Int32)), .val (Value.int (2 : Int32)), .val (Value.int (0 : Int32)), .val (Value.int (0 : Int32)), .unset]) rfl kq) ?_
      show own_Go p.tables e below _ (T66.setTop (mkF m 94 #[.val (Value.int p1), .val (Value.int p2), .val (Value.int p3), .val (Value.int p4), .val (Value.ref ob1), .val (Value.ref ob20), .val (Value.int (2 : Int32)), .val (Value.int (2 : Int32)), .val (Value.int (0 : Int32)), .val (Value.int (0 : Int32)), .unset] []))
      refine own_Go.by (fun tq kq => XS.iload X66.here hx rfl (hb hby at_94) rfl kq) ?_
      show own_Go p.tables e below _ (T66.setTop (mkF m 96 #[.val (Value.int p1), .val (Value.int p2), .val (Value.int p3), .val (Value.int p4), .val (Value.ref ob1), .val (Value.ref ob20), .val (Value.int (2 : Int32)), .val (Value.int (2 : Int32)), .val (Value.int (0 : Int32)), .val (Value.int (0 : Int32)), .unset] [(Value.int (0 : Int32))]))
      refine own_Go.by (fun tq kq => XS.iconst X66.here hx rfl (hb hby at_96) kq) ?_
      show own_Go p.tables e below _ (T66.setTop (mkF m 97 #[.val (Value.int p1), .val (Value.int p2), .val (Value.int p3), .val (Value.int p4), .val (Value.ref ob1), .val (Value.ref ob20), .val (Value.int (2 : Int32)), .val (Value.int (2 : Int32)), .val (Value.int (0 : Int32)), .val (Value.int (0 : Int32)), .unset] [(Value.int (1 : Int32)), (Value.int (0 : Int32))]))
      refine own_Go.by (fun tq kq => XS.icmpYes X66.here hx rfl (pc0 := 97) (pc' := 120) rfl (hb hby at_97) rfl (feq (by decide : ¬ ((0 : Int32) = (1 : Int32)))).2 (by decide) (by decide) kq) ?_
      show own_Go p.tables e below _ (T66.setTop (mkF m 120 #[.val (Value.int p1), .val (Value.int p2), .val (Value.int p3), .val (Value.int p4), .val (Value.ref ob1), .val (Value.ref ob20), .val (Value.int (2 : Int32)), .val (Value.int (2 : Int32)), .val (Value.int (0 : Int32)), .val (Value.int (0 : Int32)), .unset] []))
      refine own_Go.by (fun tq kq => XS.iload X66.here hx rfl (hb hby at_120) rfl kq) ?_
      show own_Go p.tables e below _ (T66.setTop (mkF m 122 #[.val (Value.int p1), .val (Value.int p2), .val (Value.int p3), .val (Value.int p4), .val (Value.ref ob1), .val (Value.ref ob20), .val (Value.int (2 : Int32)), .val (Value.int (2 : Int32)), .val (Value.int (0 : Int32)), .val (Value.int (0 : Int32)), .unset] [(Value.int (0 : Int32))]))
      refine own_Go.by (fun tq kq => XS.iconst X66.here hx rfl (hb hby at_122) kq) ?_
      show own_Go p.tables e below _ (T66.setTop (mkF m 123 #[.val (Value.int p1), .val (Value.int p2), .val (Value.int p3), .val (Value.int p4), .val (Value.ref ob1), .val (Value.ref ob20), .val (Value.int (2 : Int32)), .val (Value.int (2 : Int32)), .val (Value.int (0 : Int32)), .val (Value.int (0 : Int32)), .unset] [(Value.int (2 : Int32)), (Value.int (0 : Int32))]))
      refine own_Go.by (fun tq kq => XS.icmpYes X66.here hx rfl (pc0 := 123) (pc' := 158) rfl (hb hby at_123) rfl (feq (by decide : ¬ ((0 : Int32) = (2 : Int32)))).2 (by decide) (by decide) kq) ?_
      show own_Go p.tables e below _ (T66.setTop (mkF m 158 #[.val (Value.int p1), .val (Value.int p2), .val (Value.int p3), .val (Value.int p4), .val (Value.ref ob1), .val (Value.ref ob20), .val (Value.int (2 : Int32)), .val (Value.int (2 : Int32)), .val (Value.int (0 : Int32)), .val (Value.int (0 : Int32)), .unset] []))
      refine own_Go.by (fun tq kq => XS.iconst X66.here hx rfl (hb hby at_158) kq) ?_
      show own_Go p.tables e below _ (T66.setTop (mkF m 159 #[.val (Value.int p1), .val (Value.int p2), .val (Value.int p3), .val (Value.int p4), .val (Value.ref ob1), .val (Value.ref ob20), .val (Value.int (2 : Int32)), .val (Value.int (2 : Int32)), .val (Value.int (0 : Int32)), .val (Value.int (0 : Int32)), .unset] [(Value.int (0 : Int32))]))
      refine own_Go.by (fun tq kq => XS.istore X66.here hx rfl (hb hby at_159) rfl (l' := #[.val (Value.int p1), .val (Value.int p2), .val (Value.int p3), .val (Value.int p4), .val (Value.ref ob1), .val (Value.ref ob20), .val (Value.int (2 : Int32)), .val (Value.int (2 : Int32)), .val (Value.int (0 : Int32)), .val (Value.int (0 : Int32)), .val (Value.int (0 : Int32))]) rfl kq) ?_
      show own_Go p.tables e below _ (T66.setTop (mkF m 161 #[.val (Value.int p1), .val (Value.int p2), .val (Value.int p3), .val (Value.int p4), .val (Value.ref ob1), .val (Value.ref ob20), .val (Value.int (2 : Int32)), .val (Value.int (2 : Int32)), .val (Value.int (0 : Int32)), .val (Value.int (0 : Int32)), .val (Value.int (0 : Int32))] []))
      refine own_Go.by (fun tq kq => XS.iload X66.here hx rfl (hb hby at_161) rfl kq) ?_
      show own_Go p.tables e below _ (T66.setTop (mkF m 163 #[.val (Value.int p1), .val (Value.int p2), .val (Value.int p3), .val (Value.int p4), .val (Value.ref ob1), .val (Value.ref ob20), .val (Value.int (2 : Int32)), .val (Value.int (2 : Int32)), .val (Value.int (0 : Int32)), .val (Value.int (0 : Int32)), .val (Value.int (0 : Int32))] [(Value.int (0 : Int32))]))
      refine own_Go.by (fun tq kq => XS.iload X66.here hx rfl (hb hby at_163) rfl kq) ?_
      show own_Go p.tables e below _ (T66.setTop (mkF m 165 #[.val (Value.int p1), .val (Value.int p2), .val (Value.int p3), .val (Value.int p4), .val (Value.ref ob1), .val (Value.ref ob20), .val (Value.int (2 : Int32)), .val (Value.int (2 : Int32)), .val (Value.int (0 : Int32)), .val (Value.int (0 : Int32)), .val (Value.int (0 : Int32))] [(Value.int (0 : Int32)), (Value.int (0 : Int32))]))
      refine own_Go.by (fun tq kq => XS.icmpNo X66.here hx rfl (hb hby at_165) rfl (teq (by decide : (0 : Int32) = (0 : Int32))).2 kq) ?_
      show own_Go p.tables e below _ (T66.setTop (mkF m 168 #[.val (Value.int p1), .val (Value.int p2), .val (Value.int p3), .val (Value.int p4), .val (Value.ref ob1), .val (Value.ref ob20), .val (Value.int (2 : Int32)), .val (Value.int (2 : Int32)), .val (Value.int (0 : Int32)), .val (Value.int (0 : Int32)), .val (Value.int (0 : Int32))] []))
      refine own_Go.by (fun tq kq => XS.iconst X66.here hx rfl (hb hby at_168) kq) ?_
      show own_Go p.tables e below _ (T66.setTop (mkF m 169 #[.val (Value.int p1), .val (Value.int p2), .val (Value.int p3), .val (Value.int p4), .val (Value.ref ob1), .val (Value.ref ob20), .val (Value.int (2 : Int32)), .val (Value.int (2 : Int32)), .val (Value.int (0 : Int32)), .val (Value.int (0 : Int32)), .val (Value.int (0 : Int32))] [(Value.int (1 : Int32))]))
      refine own_Go.by (fun tq kq => XS.goto X66.here hx rfl (pc0 := 169) (pc' := 173) rfl (hb hby at_169) (by decide) (by decide) kq) ?_
      show own_Go p.tables e below _ (T66.setTop (mkF m 173 #[.val (Value.int p1), .val (Value.int p2), .val (Value.int p3), .val (Value.int p4), .val (Value.ref ob1), .val (Value.ref ob20), .val (Value.int (2 : Int32)), .val (Value.int (2 : Int32)), .val (Value.int (0 : Int32)), .val (Value.int (0 : Int32)), .val (Value.int (0 : Int32))] [(Value.int (1 : Int32))]))
      obtain ⟨fs, hr, hrun, hended, hW, hsame⟩ := X66.leave (v := some (Value.int (nar .boolean (1 : Int32)))) (fun h => by rw [Bd.returns] at h; cases h)
      refine own_Go.fin (retN X66 hx (t := .boolean) Bd.returns (by simp) (hb hby at_173) hr) ⟨hrun, hended, _, _, rfl, ?_, ⟨_, rfl⟩, hW, hsame.mono (by decide) (by decide)⟩
      show Q0 Z p1 p2 p3 p4 zc vf h0 n0 _ T66.heap _
      rw [e66]
      exact ⟨rfl, N66, K25⟩
    ·
      subst hq_rr
      show own_Go p.tables e below _ (T23.setTop (mkF m 73 #[.val (Value.int p1), .val (Value.int p2), .val (Value.int p3), .val (Value.int p4), .val (Value.ref ob1), .val (Value.ref ob20), .val (Value.int (2 : Int32)), .unset, .unset, .unset, .unset] [(Value.int (1 : Int32)), (Value.int (2 : Int32))]))
      refine own_Go.by (fun tq kq => XS.iadd X23.here hx rfl (hb hby at_73) rfl kq) ?_
      show own_Go p.tables e below _ (T23.setTop (mkF m 74 #[.val (Value.int p1), .val (Value.int p2), .val (Value.int p3), .val (Value.int p4), .val (Value.ref ob1), .val (Value.ref ob20), .val (Value.int (2 : Int32)), .unset, .unset, .unset, .unset] [(Value.int (3 : Int32))]))
      refine own_Go.by (fun tq kq => XS.istore X23.here hx rfl (hb hby at_74) rfl (l' := #[.val (Value.int p1), .val (Value.int p2), .val (Value.int p3), .val (Value.int p4), .val (Value.ref ob1), .val (Value.ref ob20), .val (Value.int (2 : Int32)), .val (Value.int (3 : Int32)), .unset, .unset, .unset]) rfl kq) ?_
      by_cases hdot : r_12 = (46 : Int32)
      ·
        show own_Go p.tables e below _ (T23.setTop (mkF m 76 #[.val (Value.int p1), .val (Value.int p2), .val (Value.int p3), .val (Value.int p4), .val (Value.ref ob1), .val (Value.ref ob20), .val (Value.int (2 : Int32)), .val (Value.int (3 : Int32)), .unset, .unset, .unset] []))
        refine own_Go.by (fun tq kq => XS.aload X23.here hx rfl (hb hby at_76) rfl rfl kq) ?_
        show own_Go p.tables e below _ (T23.setTop (mkF m 78 #[.val (Value.int p1), .val (Value.int p2), .val (Value.int p3), .val (Value.int p4), .val (Value.ref ob1), .val (Value.ref ob20), .val (Value.int (2 : Int32)), .val (Value.int (3 : Int32)), .unset, .unset, .unset] [(Value.ref ob20)]))
        refine own_Go.by (fun tq kq => XS.iload X23.here hx rfl (hb hby at_78) rfl kq) ?_
        show own_Go p.tables e below _ (T23.setTop (mkF m 80 #[.val (Value.int p1), .val (Value.int p2), .val (Value.int p3), .val (Value.int p4), .val (Value.ref ob1), .val (Value.ref ob20), .val (Value.int (2 : Int32)), .val (Value.int (3 : Int32)), .unset, .unset, .unset] [(Value.int (2 : Int32)), (Value.ref ob20)]))
        refine own_Go.by (fun tq kq => XS.iload X23.here hx rfl (hb hby at_80) rfl kq) ?_
        show own_Go p.tables e below _ (T23.setTop (mkF m 82 #[.val (Value.int p1), .val (Value.int p2), .val (Value.int p3), .val (Value.int p4), .val (Value.ref ob1), .val (Value.ref ob20), .val (Value.int (2 : Int32)), .val (Value.int (3 : Int32)), .unset, .unset, .unset] [(Value.int (3 : Int32)), (Value.int (2 : Int32)), (Value.ref ob20)]))
        obtain ⟨_, _, ⟨T67, L67, k67, n67⟩, -, X67, ⟨Lc67, hQ67, l67, y67, z67⟩, st67⟩ := Jvm.LawKit.callS X23 hx (y := (⟨"com/example/enlace/enlace/DotSegments", "isDotSegment", "(Ljava/lang/String;II)Z"⟩ : MethodName)) hown (mvT hZ (hw _ (List.mem_of_getElem? (i := 35) rfl))) (mvT hZ (hw _ (List.mem_of_getElem? (i := 36) rfl))) (mvT hZ (hw _ (List.mem_of_getElem? (i := 37) rfl))) (mvT hZ (hw _ (List.mem_of_getElem? (i := 38) rfl))) (by decide) (backOf (W := 0) (rm8_2_3_t l Z a0 hw [] ob20 t23 kb23 r_4 r_8 r_12 r_16 zc vf T23.heap n0 O25 E23q V23q C23q A23q (hp23 : ∀ c ∈ ([r_4, r_8, r_12, r_16] : List Int32), ¬ c < 0 ∧ ¬ (255 : Int32) < c) H0 H1 (hzc : ¬ (zc = (0 : Int32))) (rvf : vf.isRef = true) hdot) hZ (hw _ (List.mem_of_getElem? (i := 38) rfl)) (hw _ (List.mem_of_getElem? (i := 37) rfl)) (by decide) (by decide)) (g := (mkF m 82 #[.val (Value.int p1), .val (Value.int p2), .val (Value.int p3), .val (Value.int p4), .val (Value.ref ob1), .val (Value.ref ob20), .val (Value.int (2 : Int32)), .val (Value.int (3 : Int32)), .unset, .unset, .unset] [(Value.int (3 : Int32)), (Value.int (2 : Int32)), (Value.ref ob20)])) rfl (by rw [hml]; rfl) (argsL := [(Value.ref ob20), (Value.int (2 : Int32)), (Value.int (3 : Int32))]) (rest := []) (lenOf own_pd2 rfl) rfl (by show 2 * 0 + _ ≤ _; exact Nat.le_of_eq rfl) (hb hby at_82) (fun _ _ => ⟨rfl, rfl, (by decide : 3 + 0 ≤ _), (by decide : 12 + 0 ≤ _)⟩)
        dsimp only [Pt.U, Pt.locs, Pt.cells, Pt.slots] at X67 l67 y67 z67 st67 hQ67
        subst l67 y67 z67
        refine own_Go.by st67 ?_
        obtain ⟨rfl, N67q, e67⟩ := hQ67
        have N67 := Fr.app N23 N67q
        show own_Go p.tables e below _ (T67.setTop (mkF m 85 #[.val (Value.int p1), .val (Value.int p2), .val (Value.int p3), .val (Value.int p4), .val (Value.ref ob1), .val (Value.ref ob20), .val (Value.int (2 : Int32)), .val (Value.int (3 : Int32)), .unset, .unset, .unset] [(Value.int (1 : Int32))]))
        refine own_Go.by (fun tq kq => XS.istore X67.here hx rfl (hb hby at_85) rfl (l' := #[.val (Value.int p1), .val (Value.int p2), .val (Value.int p3), .val (Value.int p4), .val (Value.ref ob1), .val (Value.ref ob20), .val (Value.int (2 : Int32)), .val (Value.int (3 : Int32)), .val (Value.int (1 : Int32)), .unset, .unset]) rfl kq) ?_
        show own_Go p.tables e below _ (T67.setTop (mkF m 87 #[.val (Value.int p1), .val (Value.int p2), .val (Value.int p3), .val (Value.int p4), .val (Value.ref ob1), .val (Value.ref ob20), .val (Value.int (2 : Int32)), .val (Value.int (3 : Int32)), .val (Value.int (1 : Int32)), .unset, .unset] []))
        refine own_Go.by (fun tq kq => XS.iload X67.here hx rfl (hb hby at_87) rfl kq) ?_
        show own_Go p.tables e below _ (T67.setTop (mkF m 89 #[.val (Value.int p1), .val (Value.int p2), .val (Value.int p3), .val (Value.int p4), .val (Value.ref ob1), .val (Value.ref ob20), .val (Value.int (2 : Int32)), .val (Value.int (3 : Int32)), .val (Value.int (1 : Int32)), .unset, .unset] [(Value.int (3 : Int32))]))
        refine own_Go.by (fun tq kq => XS.iload X67.here hx rfl (hb hby at_89) rfl kq) ?_
        show own_Go p.tables e below _ (T67.setTop (mkF m 91 #[.val (Value.int p1), .val (Value.int p2), .val (Value.int p3), .val (Value.int p4), .val (Value.ref ob1), .val (Value.ref ob20), .val (Value.int (2 : Int32)), .val (Value.int (3 : Int32)), .val (Value.int (1 : Int32)), .unset, .unset] [(Value.int (2 : Int32)), (Value.int (3 : Int32))]))
        refine own_Go.by (fun tq kq => XS.isub X67.here hx rfl (hb hby at_91) rfl kq) ?_
        show own_Go p.tables e below _ (T67.setTop (mkF m 92 #[.val (Value.int p1), .val (Value.int p2), .val (Value.int p3), .val (Value.int p4), .val (Value.ref ob1), .val (Value.ref ob20), .val (Value.int (2 : Int32)), .val (Value.int (3 : Int32)), .val (Value.int (1 : Int32)), .unset, .unset] [(Value.int (1 : Int32))]))
        refine own_Go.by (fun tq kq => XS.istore X67.here hx rfl (hb hby at_92) rfl (l' := #[.val (Value.int p1), .val (Value.int p2), .val (Value.int p3), .val (Value.int p4), .val (Value.ref ob1), .val (Value.ref ob20), .val (Value.int (2 : Int32)), .val (Value.int (3 : Int32)), .val (Value.int (1 : Int32)), .val (Value.int (1 : Int32)), .unset]) rfl kq) ?_
        show own_Go p.tables e below _ (T67.setTop (mkF m 94 #[.val (Value.int p1), .val (Value.int p2), .val (Value.int p3), .val (Value.int p4), .val (Value.ref ob1), .val (Value.ref ob20), .val (Value.int (2 : Int32)), .val (Value.int (3 : Int32)), .val (Value.int (1 : Int32)), .val (Value.int (1 : Int32)), .unset] []))
        refine own_Go.by (fun tq kq => XS.iload X67.here hx rfl (hb hby at_94) rfl kq) ?_
        show own_Go p.tables e below _ (T67.setTop (mkF m 96 #[.val (Value.int p1), .val (Value.int p2), .val (Value.int p3), .val (Value.int p4), .val (Value.ref ob1), .val (Value.ref ob20), .val (Value.int (2 : Int32)), .val (Value.int (3 : Int32)), .val (Value.int (1 : Int32)), .val (Value.int (1 : Int32)), .unset] [(Value.int (1 : Int32))]))
        refine own_Go.by (fun tq kq => XS.iconst X67.here hx rfl (hb hby at_96) kq) ?_
        show own_Go p.tables e below _ (T67.setTop (mkF m 97 #[.val (Value.int p1), .val (Value.int p2), .val (Value.int p3), .val (Value.int p4), .val (Value.ref ob1), .val (Value.ref ob20), .val (Value.int (2 : Int32)), .val (Value.int (3 : Int32)), .val (Value.int (1 : Int32)), .val (Value.int (1 : Int32)), .unset] [(Value.int (1 : Int32)), (Value.int (1 : Int32))]))
        refine own_Go.by (fun tq kq => XS.icmpNo X67.here hx rfl (hb hby at_97) rfl (teq (by decide : (1 : Int32) = (1 : Int32))).2 kq) ?_
        show own_Go p.tables e below _ (T67.setTop (mkF m 100 #[.val (Value.int p1), .val (Value.int p2), .val (Value.int p3), .val (Value.int p4), .val (Value.ref ob1), .val (Value.ref ob20), .val (Value.int (2 : Int32)), .val (Value.int (3 : Int32)), .val (Value.int (1 : Int32)), .val (Value.int (1 : Int32)), .unset] []))
        refine own_Go.by (fun tq kq => XS.aload X67.here hx rfl (hb hby at_100) rfl rfl kq) ?_
        show own_Go p.tables e below _ (T67.setTop (mkF m 102 #[.val (Value.int p1), .val (Value.int p2), .val (Value.int p3), .val (Value.int p4), .val (Value.ref ob1), .val (Value.ref ob20), .val (Value.int (2 : Int32)), .val (Value.int (3 : Int32)), .val (Value.int (1 : Int32)), .val (Value.int (1 : Int32)), .unset] [(Value.ref ob1)]))
        refine own_Go.by (fun tq kq => XS.iload X67.here hx rfl (hb hby at_102) rfl kq) ?_
        show own_Go p.tables e below _ (T67.setTop (mkF m 104 #[.val (Value.int p1), .val (Value.int p2), .val (Value.int p3), .val (Value.int p4), .val (Value.ref ob1), .val (Value.ref ob20), .val (Value.int (2 : Int32)), .val (Value.int (3 : Int32)), .val (Value.int (1 : Int32)), .val (Value.int (1 : Int32)), .unset] [(Value.int (2 : Int32)), (Value.ref ob1)]))
        have c68 := (c24.keep K23q (ninS (Nat.ne_of_lt (Nat.lt_of_lt_of_le A1.lt (Nat.le_trans (Keep.of_wr W6).1 (Nat.le_trans (Keep.of_wr W10).1 (Nat.le_trans (Keep.of_wr W14).1 (Nat.le_trans (Keep.of_wr W18).1 (Nat.le_of_eq y20.symm))))))) nin0))
        obtain ⟨cl69, Ar69, q69, S69, M69, Hh69, G69⟩ := id c68
        refine own_Go.by (fun tq kq => X67.caload hx (j := (2 : Int32)) (v := (Value.int r_12)) (by rw [e67]; exact Ar69.1) (State.isArrayOf_alike hZ.alike Ar69.2.1) Ar69.2.2 (inb_of S69 ⟨(by decide : ¬ ((2 : Int32) < (0 : Int32))), (by decide : (2 : Int32) < (4 : Int32))⟩) (Has.at Hh69 (inb_of S69 ⟨(by decide : ¬ ((2 : Int32) < (0 : Int32))), (by decide : (2 : Int32) < (4 : Int32))⟩) (rfl : _ = (Value.int r_12))) (g := (mkF m 104 #[.val (Value.int p1), .val (Value.int p2), .val (Value.int p3), .val (Value.int p4), .val (Value.ref ob1), .val (Value.ref ob20), .val (Value.int (2 : Int32)), .val (Value.int (3 : Int32)), .val (Value.int (1 : Int32)), .val (Value.int (1 : Int32)), .unset] [(Value.int (2 : Int32)), (Value.ref ob1)])) rfl rfl (hb hby at_104) _ kq) ?_
        show own_Go p.tables e below _ (T67.setTop (mkF m 105 #[.val (Value.int p1), .val (Value.int p2), .val (Value.int p3), .val (Value.int p4), .val (Value.ref ob1), .val (Value.ref ob20), .val (Value.int (2 : Int32)), .val (Value.int (3 : Int32)), .val (Value.int (1 : Int32)), .val (Value.int (1 : Int32)), .unset] [(Value.int r_12)]))
        refine own_Go.by (fun tq kq => XS.bipush X67.here hx rfl (hb hby at_105) kq) ?_
        show own_Go p.tables e below _ (T67.setTop (mkF m 107 #[.val (Value.int p1), .val (Value.int p2), .val (Value.int p3), .val (Value.int p4), .val (Value.ref ob1), .val (Value.ref ob20), .val (Value.int (2 : Int32)), .val (Value.int (3 : Int32)), .val (Value.int (1 : Int32)), .val (Value.int (1 : Int32)), .unset] [(Value.int (46 : Int32)), (Value.int r_12)]))
        refine own_Go.by (fun tq kq => XS.icmpNo X67.here hx rfl (hb hby at_107) rfl (teq hdot).2 kq) ?_
        show own_Go p.tables e below _ (T67.setTop (mkF m 110 #[.val (Value.int p1), .val (Value.int p2), .val (Value.int p3), .val (Value.int p4), .val (Value.ref ob1), .val (Value.ref ob20), .val (Value.int (2 : Int32)), .val (Value.int (3 : Int32)), .val (Value.int (1 : Int32)), .val (Value.int (1 : Int32)), .unset] []))
        refine own_Go.by (fun tq kq => XS.iconst X67.here hx rfl (hb hby at_110) kq) ?_
        show own_Go p.tables e below _ (T67.setTop (mkF m 111 #[.val (Value.int p1), .val (Value.int p2), .val (Value.int p3), .val (Value.int p4), .val (Value.ref ob1), .val (Value.ref ob20), .val (Value.int (2 : Int32)), .val (Value.int (3 : Int32)), .val (Value.int (1 : Int32)), .val (Value.int (1 : Int32)), .unset] [(Value.int (1 : Int32))]))
        refine own_Go.by (fun tq kq => XS.goto X67.here hx rfl (pc0 := 111) (pc' := 115) rfl (hb hby at_111) (by decide) (by decide) kq) ?_
        show own_Go p.tables e below _ (T67.setTop (mkF m 115 #[.val (Value.int p1), .val (Value.int p2), .val (Value.int p3), .val (Value.int p4), .val (Value.ref ob1), .val (Value.ref ob20), .val (Value.int (2 : Int32)), .val (Value.int (3 : Int32)), .val (Value.int (1 : Int32)), .val (Value.int (1 : Int32)), .unset] [(Value.int (1 : Int32))]))
        refine own_Go.by (fun tq kq => XS.istore X67.here hx rfl (hb hby at_115) rfl (l' := #[.val (Value.int p1), .val (Value.int p2), .val (Value.int p3), .val (Value.int p4), .val (Value.ref ob1), .val (Value.ref ob20), .val (Value.int (2 : Int32)), .val (Value.int (3 : Int32)), .val (Value.int (1 : Int32)), .val (Value.int (1 : Int32)), .val (Value.int (1 : Int32))]) rfl kq) ?_
        show own_Go p.tables e below _ (T67.setTop (mkF m 117 #[.val (Value.int p1), .val (Value.int p2), .val (Value.int p3), .val (Value.int p4), .val (Value.ref ob1), .val (Value.ref ob20), .val (Value.int (2 : Int32)), .val (Value.int (3 : Int32)), .val (Value.int (1 : Int32)), .val (Value.int (1 : Int32)), .val (Value.int (1 : Int32))] []))
        refine own_Go.by (fun tq kq => XS.goto X67.here hx rfl (pc0 := 117) (pc' := 161) rfl (hb hby at_117) (by decide) (by decide) kq) ?_
        show own_Go p.tables e below _ (T67.setTop (mkF m 161 #[.val (Value.int p1), .val (Value.int p2), .val (Value.int p3), .val (Value.int p4), .val (Value.ref ob1), .val (Value.ref ob20), .val (Value.int (2 : Int32)), .val (Value.int (3 : Int32)), .val (Value.int (1 : Int32)), .val (Value.int (1 : Int32)), .val (Value.int (1 : Int32))] []))
        refine own_Go.by (fun tq kq => XS.iload X67.here hx rfl (hb hby at_161) rfl kq) ?_
        show own_Go p.tables e below _ (T67.setTop (mkF m 163 #[.val (Value.int p1), .val (Value.int p2), .val (Value.int p3), .val (Value.int p4), .val (Value.ref ob1), .val (Value.ref ob20), .val (Value.int (2 : Int32)), .val (Value.int (3 : Int32)), .val (Value.int (1 : Int32)), .val (Value.int (1 : Int32)), .val (Value.int (1 : Int32))] [(Value.int (1 : Int32))]))
        refine own_Go.by (fun tq kq => XS.iload X67.here hx rfl (hb hby at_163) rfl kq) ?_
        show own_Go p.tables e below _ (T67.setTop (mkF m 165 #[.val (Value.int p1), .val (Value.int p2), .val (Value.int p3), .val (Value.int p4), .val (Value.ref ob1), .val (Value.ref ob20), .val (Value.int (2 : Int32)), .val (Value.int (3 : Int32)), .val (Value.int (1 : Int32)), .val (Value.int (1 : Int32)), .val (Value.int (1 : Int32))] [(Value.int (1 : Int32)), (Value.int (1 : Int32))]))
        refine own_Go.by (fun tq kq => XS.icmpNo X67.here hx rfl (hb hby at_165) rfl (teq (by decide : (1 : Int32) = (1 : Int32))).2 kq) ?_
        show own_Go p.tables e below _ (T67.setTop (mkF m 168 #[.val (Value.int p1), .val (Value.int p2), .val (Value.int p3), .val (Value.int p4), .val (Value.ref ob1), .val (Value.ref ob20), .val (Value.int (2 : Int32)), .val (Value.int (3 : Int32)), .val (Value.int (1 : Int32)), .val (Value.int (1 : Int32)), .val (Value.int (1 : Int32))] []))
        refine own_Go.by (fun tq kq => XS.iconst X67.here hx rfl (hb hby at_168) kq) ?_
        show own_Go p.tables e below _ (T67.setTop (mkF m 169 #[.val (Value.int p1), .val (Value.int p2), .val (Value.int p3), .val (Value.int p4), .val (Value.ref ob1), .val (Value.ref ob20), .val (Value.int (2 : Int32)), .val (Value.int (3 : Int32)), .val (Value.int (1 : Int32)), .val (Value.int (1 : Int32)), .val (Value.int (1 : Int32))] [(Value.int (1 : Int32))]))
        refine own_Go.by (fun tq kq => XS.goto X67.here hx rfl (pc0 := 169) (pc' := 173) rfl (hb hby at_169) (by decide) (by decide) kq) ?_
        show own_Go p.tables e below _ (T67.setTop (mkF m 173 #[.val (Value.int p1), .val (Value.int p2), .val (Value.int p3), .val (Value.int p4), .val (Value.ref ob1), .val (Value.ref ob20), .val (Value.int (2 : Int32)), .val (Value.int (3 : Int32)), .val (Value.int (1 : Int32)), .val (Value.int (1 : Int32)), .val (Value.int (1 : Int32))] [(Value.int (1 : Int32))]))
        obtain ⟨fs, hr, hrun, hended, hW, hsame⟩ := X67.leave (v := some (Value.int (nar .boolean (1 : Int32)))) (fun h => by rw [Bd.returns] at h; cases h)
        refine own_Go.fin (retN X67 hx (t := .boolean) Bd.returns (by simp) (hb hby at_173) hr) ⟨hrun, hended, _, _, rfl, ?_, ⟨_, rfl⟩, hW, hsame.mono (by decide) (by decide)⟩
        show Q0 Z p1 p2 p3 p4 zc vf h0 n0 _ T67.heap _
        rw [e67]
        exact ⟨rfl, N67, K25⟩
      ·
        show own_Go p.tables e below _ (T23.setTop (mkF m 76 #[.val (Value.int p1), .val (Value.int p2), .val (Value.int p3), .val (Value.int p4), .val (Value.ref ob1), .val (Value.ref ob20), .val (Value.int (2 : Int32)), .val (Value.int (3 : Int32)), .unset, .unset, .unset] []))
        refine own_Go.by (fun tq kq => XS.aload X23.here hx rfl (hb hby at_76) rfl rfl kq) ?_
        show own_Go p.tables e below _ (T23.setTop (mkF m 78 #[.val (Value.int p1), .val (Value.int p2), .val (Value.int p3), .val (Value.int p4), .val (Value.ref ob1), .val (Value.ref ob20), .val (Value.int (2 : Int32)), .val (Value.int (3 : Int32)), .unset, .unset, .unset] [(Value.ref ob20)]))
        refine own_Go.by (fun tq kq => XS.iload X23.here hx rfl (hb hby at_78) rfl kq) ?_
        show own_Go p.tables e below _ (T23.setTop (mkF m 80 #[.val (Value.int p1), .val (Value.int p2), .val (Value.int p3), .val (Value.int p4), .val (Value.ref ob1), .val (Value.ref ob20), .val (Value.int (2 : Int32)), .val (Value.int (3 : Int32)), .unset, .unset, .unset] [(Value.int (2 : Int32)), (Value.ref ob20)]))
        refine own_Go.by (fun tq kq => XS.iload X23.here hx rfl (hb hby at_80) rfl kq) ?_
        show own_Go p.tables e below _ (T23.setTop (mkF m 82 #[.val (Value.int p1), .val (Value.int p2), .val (Value.int p3), .val (Value.int p4), .val (Value.ref ob1), .val (Value.ref ob20), .val (Value.int (2 : Int32)), .val (Value.int (3 : Int32)), .unset, .unset, .unset] [(Value.int (3 : Int32)), (Value.int (2 : Int32)), (Value.ref ob20)]))
        obtain ⟨_, _, ⟨T70, L70, k70, n70⟩, -, X70, ⟨Lc70, hQ70, l70, y70, z70⟩, st70⟩ := Jvm.LawKit.callS X23 hx (y := (⟨"com/example/enlace/enlace/DotSegments", "isDotSegment", "(Ljava/lang/String;II)Z"⟩ : MethodName)) hown (mvT hZ (hw _ (List.mem_of_getElem? (i := 35) rfl))) (mvT hZ (hw _ (List.mem_of_getElem? (i := 36) rfl))) (mvT hZ (hw _ (List.mem_of_getElem? (i := 37) rfl))) (mvT hZ (hw _ (List.mem_of_getElem? (i := 38) rfl))) (by decide) (backOf (W := 0) (rm8_2_3_f l Z a0 hw [] ob20 t23 kb23 r_4 r_8 r_12 r_16 zc vf T23.heap n0 O25 E23q V23q C23q A23q (hp23 : ∀ c ∈ ([r_4, r_8, r_12, r_16] : List Int32), ¬ c < 0 ∧ ¬ (255 : Int32) < c) H0 H1 (hzc : ¬ (zc = (0 : Int32))) (rvf : vf.isRef = true) hdot) hZ (hw _ (List.mem_of_getElem? (i := 38) rfl)) (hw _ (List.mem_of_getElem? (i := 37) rfl)) (by decide) (by decide)) (g := (mkF m 82 #[.val (Value.int p1), .val (Value.int p2), .val (Value.int p3), .val (Value.int p4), .val (Value.ref ob1), .val (Value.ref ob20), .val (Value.int (2 : Int32)), .val (Value.int (3 : Int32)), .unset, .unset, .unset] [(Value.int (3 : Int32)), (Value.int (2 : Int32)), (Value.ref ob20)])) rfl (by rw [hml]; rfl) (argsL := [(Value.ref ob20), (Value.int (2 : Int32)), (Value.int (3 : Int32))]) (rest := []) (lenOf own_pd2 rfl) rfl (by show 2 * 0 + _ ≤ _; exact Nat.le_of_eq rfl) (hb hby at_82) (fun _ _ => ⟨rfl, rfl, (by decide : 3 + 0 ≤ _), (by decide : 12 + 0 ≤ _)⟩)
        dsimp only [Pt.U, Pt.locs, Pt.cells, Pt.slots] at X70 l70 y70 z70 st70 hQ70
        subst l70 y70 z70
        refine own_Go.by st70 ?_
        obtain ⟨rfl, N70q, e70⟩ := hQ70
        have N70 := Fr.app N23 N70q
        show own_Go p.tables e below _ (T70.setTop (mkF m 85 #[.val (Value.int p1), .val (Value.int p2), .val (Value.int p3), .val (Value.int p4), .val (Value.ref ob1), .val (Value.ref ob20), .val (Value.int (2 : Int32)), .val (Value.int (3 : Int32)), .unset, .unset, .unset] [(Value.int (0 : Int32))]))
        refine own_Go.by (fun tq kq => XS.istore X70.here hx rfl (hb hby at_85) rfl (l' := #[.val (Value.int p1), .val (Value.int p2), .val (Value.int p3), .val (Value.int p4), .val (Value.ref ob1), .val (Value.ref ob20), .val (Value.int (2 : Int32)), .val (Value.int (3 : Int32)), .val (Value.int (0 : Int32)), .unset, .unset]) rfl kq) ?_
        show own_Go p.tables e below _ (T70.setTop (mkF m 87 #[.val (Value.int p1), .val (Value.int p2), .val (Value.int p3), .val (Value.int p4), .val (Value.ref ob1), .val (Value.ref ob20), .val (Value.int (2 : Int32)), .val (Value.int (3 : Int32)), .val (Value.int (0 : Int32)), .unset, .unset] []))
        refine own_Go.by (fun tq kq => XS.iload X70.here hx rfl (hb hby at_87) rfl kq) ?_
        show own_Go p.tables e below _ (T70.setTop (mkF m 89 #[.val (Value.int p1), .val (Value.int p2), .val (Value.int p3), .val (Value.int p4), .val (Value.ref ob1), .val (Value.ref ob20), .val (Value.int (2 : Int32)), .val (Value.int (3 : Int32)), .val (Value.int (0 : Int32)), .unset, .unset] [(Value.int (3 : Int32))]))
        refine own_Go.by (fun tq kq => XS.iload X70.here hx rfl (hb hby at_89) rfl kq) ?_
        show own_Go p.tables e below _ (T70.setTop (mkF m 91 #[.val (Value.int p1), .val (Value.int p2), .val (Value.int p3), .val (Value.int p4), .val (Value.ref ob1), .val (Value.ref ob20), .val (Value.int (2 : Int32)), .val (Value.int (3 : Int32)), .val (Value.int (0 : Int32)), .unset, .unset] [(Value.int (2 : Int32)), (Value.int (3 : Int32))]))
        refine own_Go.by (fun tq kq => XS.isub X70.here hx rfl (hb hby at_91) rfl kq) ?_
        show own_Go p.tables e below _ (T70.setTop (mkF m 92 #[.val (Value.int p1), .val (Value.int p2), .val (Value.int p3), .val (Value.int p4), .val (Value.ref ob1), .val (Value.ref ob20), .val (Value.int (2 : Int32)), .val (Value.int (3 : Int32)), .val (Value.int (0 : Int32)), .unset, .unset] [(Value.int (1 : Int32))]))
        refine own_Go.by (fun tq kq => XS.istore X70.here hx rfl (hb hby at_92) rfl (l' := #[.val (Value.int p1), .val (Value.int p2), .val (Value.int p3), .val (Value.int p4), .val (Value.ref ob1), .val (Value.ref ob20), .val (Value.int (2 : Int32)), .val (Value.int (3 : Int32)), .val (Value.int (0 : Int32)), .val (Value.int (1 : Int32)), .unset]) rfl kq) ?_
        show own_Go p.tables e below _ (T70.setTop (mkF m 94 #[.val (Value.int p1), .val (Value.int p2), .val (Value.int p3), .val (Value.int p4), .val (Value.ref ob1), .val (Value.ref ob20), .val (Value.int (2 : Int32)), .val (Value.int (3 : Int32)), .val (Value.int (0 : Int32)), .val (Value.int (1 : Int32)), .unset] []))
        refine own_Go.by (fun tq kq => XS.iload X70.here hx rfl (hb hby at_94) rfl kq) ?_
        show own_Go p.tables e below _ (T70.setTop (mkF m 96 #[.val (Value.int p1), .val (Value.int p2), .val (Value.int p3), .val (Value.int p4), .val (Value.ref ob1), .val (Value.ref ob20), .val (Value.int (2 : Int32)), .val (Value.int (3 : Int32)), .val (Value.int (0 : Int32)), .val (Value.int (1 : Int32)), .unset] [(Value.int (1 : Int32))]))
        refine own_Go.by (fun tq kq => XS.iconst X70.here hx rfl (hb hby at_96) kq) ?_
        show own_Go p.tables e below _ (T70.setTop (mkF m 97 #[.val (Value.int p1), .val (Value.int p2), .val (Value.int p3), .val (Value.int p4), .val (Value.ref ob1), .val (Value.ref ob20), .val (Value.int (2 : Int32)), .val (Value.int (3 : Int32)), .val (Value.int (0 : Int32)), .val (Value.int (1 : Int32)), .unset] [(Value.int (1 : Int32)), (Value.int (1 : Int32))]))
        refine own_Go.by (fun tq kq => XS.icmpNo X70.here hx rfl (hb hby at_97) rfl (teq (by decide : (1 : Int32) = (1 : Int32))).2 kq) ?_
        show own_Go p.tables e below _ (T70.setTop (mkF m 100 #[.val (Value.int p1), .val (Value.int p2), .val (Value.int p3), .val (Value.int p4), .val (Value.ref ob1), .val (Value.ref ob20), .val (Value.int (2 : Int32)), .val (Value.int (3 : Int32)), .val (Value.int (0 : Int32)), .val (Value.int (1 : Int32)), .unset] []))
        refine own_Go.by (fun tq kq => XS.aload X70.here hx rfl (hb hby at_100) rfl rfl kq) ?_
        show own_Go p.tables e below _ (T70.setTop (mkF m 102 #[.val (Value.int p1), .val (Value.int p2), .val (Value.int p3), .val (Value.int p4), .val (Value.ref ob1), .val (Value.ref ob20), .val (Value.int (2 : Int32)), .val (Value.int (3 : Int32)), .val (Value.int (0 : Int32)), .val (Value.int (1 : Int32)), .unset] [(Value.ref ob1)]))
        refine own_Go.by (fun tq kq => XS.iload X70.here hx rfl (hb hby at_102) rfl kq) ?_
        show own_Go p.tables e below _ (T70.setTop (mkF m 104 #[.val (Value.int p1), .val (Value.int p2), .val (Value.int p3), .val (Value.int p4), .val (Value.ref ob1), .val (Value.ref ob20), .val (Value.int (2 : Int32)), .val (Value.int (3 : Int32)), .val (Value.int (0 : Int32)), .val (Value.int (1 : Int32)), .unset] [(Value.int (2 : Int32)), (Value.ref ob1)]))
        have c71 := (c24.keep K23q (ninS (Nat.ne_of_lt (Nat.lt_of_lt_of_le A1.lt (Nat.le_trans (Keep.of_wr W6).1 (Nat.le_trans (Keep.of_wr W10).1 (Nat.le_trans (Keep.of_wr W14).1 (Nat.le_trans (Keep.of_wr W18).1 (Nat.le_of_eq y20.symm))))))) nin0))
        obtain ⟨cl72, Ar72, q72, S72, M72, Hh72, G72⟩ := id c71
        refine own_Go.by (fun tq kq => X70.caload hx (j := (2 : Int32)) (v := (Value.int r_12)) (by rw [e70]; exact Ar72.1) (State.isArrayOf_alike hZ.alike Ar72.2.1) Ar72.2.2 (inb_of S72 ⟨(by decide : ¬ ((2 : Int32) < (0 : Int32))), (by decide : (2 : Int32) < (4 : Int32))⟩) (Has.at Hh72 (inb_of S72 ⟨(by decide : ¬ ((2 : Int32) < (0 : Int32))), (by decide : (2 : Int32) < (4 : Int32))⟩) (rfl : _ = (Value.int r_12))) (g := (mkF m 104 #[.val (Value.int p1), .val (Value.int p2), .val (Value.int p3), .val (Value.int p4), .val (Value.ref ob1), .val (Value.ref ob20), .val (Value.int (2 : Int32)), .val (Value.int (3 : Int32)), .val (Value.int (0 : Int32)), .val (Value.int (1 : Int32)), .unset] [(Value.int (2 : Int32)), (Value.ref ob1)])) rfl rfl (hb hby at_104) _ kq) ?_
        show own_Go p.tables e below _ (T70.setTop (mkF m 105 #[.val (Value.int p1), .val (Value.int p2), .val (Value.int p3), .val (Value.int p4), .val (Value.ref ob1), .val (Value.ref ob20), .val (Value.int (2 : Int32)), .val (Value.int (3 : Int32)), .val (Value.int (0 : Int32)), .val (Value.int (1 : Int32)), .unset] [(Value.int r_12)]))
        refine own_Go.by (fun tq kq => XS.bipush X70.here hx rfl (hb hby at_105) kq) ?_
        show own_Go p.tables e below _ (T70.setTop (mkF m 107 #[.val (Value.int p1), .val (Value.int p2), .val (Value.int p3), .val (Value.int p4), .val (Value.ref ob1), .val (Value.ref ob20), .val (Value.int (2 : Int32)), .val (Value.int (3 : Int32)), .val (Value.int (0 : Int32)), .val (Value.int (1 : Int32)), .unset] [(Value.int (46 : Int32)), (Value.int r_12)]))
        refine own_Go.by (fun tq kq => XS.icmpYes X70.here hx rfl (pc0 := 107) (pc' := 114) rfl (hb hby at_107) rfl (feq hdot).2 (by decide) (by decide) kq) ?_
        show own_Go p.tables e below _ (T70.setTop (mkF m 114 #[.val (Value.int p1), .val (Value.int p2), .val (Value.int p3), .val (Value.int p4), .val (Value.ref ob1), .val (Value.ref ob20), .val (Value.int (2 : Int32)), .val (Value.int (3 : Int32)), .val (Value.int (0 : Int32)), .val (Value.int (1 : Int32)), .unset] []))
        refine own_Go.by (fun tq kq => XS.iconst X70.here hx rfl (hb hby at_114) kq) ?_
        show own_Go p.tables e below _ (T70.setTop (mkF m 115 #[.val (Value.int p1), .val (Value.int p2), .val (Value.int p3), .val (Value.int p4), .val (Value.ref ob1), .val (Value.ref ob20), .val (Value.int (2 : Int32)), .val (Value.int (3 : Int32)), .val (Value.int (0 : Int32)), .val (Value.int (1 : Int32)), .unset] [(Value.int (0 : Int32))]))
        refine own_Go.by (fun tq kq => XS.istore X70.here hx rfl (hb hby at_115) rfl (l' := #[.val (Value.int p1), .val (Value.int p2), .val (Value.int p3), .val (Value.int p4), .val (Value.ref ob1), .val (Value.ref ob20), .val (Value.int (2 : Int32)), .val (Value.int (3 : Int32)), .val (Value.int (0 : Int32)), .val (Value.int (1 : Int32)), .val (Value.int (0 : Int32))]) rfl kq) ?_
        show own_Go p.tables e below _ (T70.setTop (mkF m 117 #[.val (Value.int p1), .val (Value.int p2), .val (Value.int p3), .val (Value.int p4), .val (Value.ref ob1), .val (Value.ref ob20), .val (Value.int (2 : Int32)), .val (Value.int (3 : Int32)), .val (Value.int (0 : Int32)), .val (Value.int (1 : Int32)), .val (Value.int (0 : Int32))] []))
        refine own_Go.by (fun tq kq => XS.goto X70.here hx rfl (pc0 := 117) (pc' := 161) rfl (hb hby at_117) (by decide) (by decide) kq) ?_
        show own_Go p.tables e below _ (T70.setTop (mkF m 161 #[.val (Value.int p1), .val (Value.int p2), .val (Value.int p3), .val (Value.int p4), .val (Value.ref ob1), .val (Value.ref ob20), .val (Value.int (2 : Int32)), .val (Value.int (3 : Int32)), .val (Value.int (0 : Int32)), .val (Value.int (1 : Int32)), .val (Value.int (0 : Int32))] []))
        refine own_Go.by (fun tq kq => XS.iload X70.here hx rfl (hb hby at_161) rfl kq) ?_
        show own_Go p.tables e below _ (T70.setTop (mkF m 163 #[.val (Value.int p1), .val (Value.int p2), .val (Value.int p3), .val (Value.int p4), .val (Value.ref ob1), .val (Value.ref ob20), .val (Value.int (2 : Int32)), .val (Value.int (3 : Int32)), .val (Value.int (0 : Int32)), .val (Value.int (1 : Int32)), .val (Value.int (0 : Int32))] [(Value.int (0 : Int32))]))
        refine own_Go.by (fun tq kq => XS.iload X70.here hx rfl (hb hby at_163) rfl kq) ?_
        show own_Go p.tables e below _ (T70.setTop (mkF m 165 #[.val (Value.int p1), .val (Value.int p2), .val (Value.int p3), .val (Value.int p4), .val (Value.ref ob1), .val (Value.ref ob20), .val (Value.int (2 : Int32)), .val (Value.int (3 : Int32)), .val (Value.int (0 : Int32)), .val (Value.int (1 : Int32)), .val (Value.int (0 : Int32))] [(Value.int (0 : Int32)), (Value.int (0 : Int32))]))
        refine own_Go.by (fun tq kq => XS.icmpNo X70.here hx rfl (hb hby at_165) rfl (teq (by decide : (0 : Int32) = (0 : Int32))).2 kq) ?_
        show own_Go p.tables e below _ (T70.setTop (mkF m 168 #[.val (Value.int p1), .val (Value.int p2), .val (Value.int p3), .val (Value.int p4), .val (Value.ref ob1), .val (Value.ref ob20), .val (Value.int (2 : Int32)), .val (Value.int (3 : Int32)), .val (Value.int (0 : Int32)), .val (Value.int (1 : Int32)), .val (Value.int (0 : Int32))] []))
        refine own_Go.by (fun tq kq => XS.iconst X70.here hx rfl (hb hby at_168) kq) ?_
        show own_Go p.tables e below _ (T70.setTop (mkF m 169 #[.val (Value.int p1), .val (Value.int p2), .val (Value.int p3), .val (Value.int p4), .val (Value.ref ob1), .val (Value.ref ob20), .val (Value.int (2 : Int32)), .val (Value.int (3 : Int32)), .val (Value.int (0 : Int32)), .val (Value.int (1 : Int32)), .val (Value.int (0 : Int32))] [(Value.int (1 : Int32))]))
        refine own_Go.by (fun tq kq => XS.goto X70.here hx rfl (pc0 := 169) (pc' := 173) rfl (hb hby at_169) (by decide) (by decide) kq) ?_
        show own_Go p.tables e below _ (T70.setTop (mkF m 173 #[.val (Value.int p1), .val (Value.int p2), .val (Value.int p3), .val (Value.int p4), .val (Value.ref ob1), .val (Value.ref ob20), .val (Value.int (2 : Int32)), .val (Value.int (3 : Int32)), .val (Value.int (0 : Int32)), .val (Value.int (1 : Int32)), .val (Value.int (0 : Int32))] [(Value.int (1 : Int32))]))
        obtain ⟨fs, hr, hrun, hended, hW, hsame⟩ := X70.leave (v := some (Value.int (nar .boolean (1 : Int32)))) (fun h => by rw [Bd.returns] at h; cases h)
        refine own_Go.fin (retN X70 hx (t := .boolean) Bd.returns (by simp) (hb hby at_173) hr) ⟨hrun, hended, _, _, rfl, ?_, ⟨_, rfl⟩, hW, hsame.mono (by decide) (by decide)⟩
        show Q0 Z p1 p2 p3 p4 zc vf h0 n0 _ T70.heap _
        rw [e70]
        exact ⟨rfl, N70, K25⟩
    ·
      subst hq_rr
      show own_Go p.tables e below _ (T23.setTop (mkF m 73 #[.val (Value.int p1), .val (Value.int p2), .val (Value.int p3), .val (Value.int p4), .val (Value.ref ob1), .val (Value.ref ob20), .val (Value.int (2 : Int32)), .unset, .unset, .unset, .unset] [(Value.int (2 : Int32)), (Value.int (2 : Int32))]))
      refine own_Go.by (fun tq kq => XS.iadd X23.here hx rfl (hb hby at_73) rfl kq) ?_
      show own_Go p.tables e below _ (T23.setTop (mkF m 74 #[.val (Value.int p1), .val (Value.int p2), .val (Value.int p3), .val (Value.int p4), .val (Value.ref ob1), .val (Value.ref ob20), .val (Value.int (2 : Int32)), .unset, .unset, .unset, .unset] [(Value.int (4 : Int32))]))
      refine own_Go.by (fun tq kq => XS.istore X23.here hx rfl (hb hby at_74) rfl (l' := #[.val (Value.int p1), .val (Value.int p2), .val (Value.int p3), .val (Value.int p4), .val (Value.ref ob1), .val (Value.ref ob20), .val (Value.int (2 : Int32)), .val (Value.int (4 : Int32)), .unset, .unset, .unset]) rfl kq) ?_
      by_cases hdot : r_12 = (46 : Int32)
      ·
        by_cases hdot2 : r_16 = (46 : Int32)
        ·
          show own_Go p.tables e below _ (T23.setTop (mkF m 76 #[.val (Value.int p1), .val (Value.int p2), .val (Value.int p3), .val (Value.int p4), .val (Value.ref ob1), .val (Value.ref ob20), .val (Value.int (2 : Int32)), .val (Value.int (4 : Int32)), .unset, .unset, .unset] []))
          refine own_Go.by (fun tq kq => XS.aload X23.here hx rfl (hb hby at_76) rfl rfl kq) ?_
          show own_Go p.tables e below _ (T23.setTop (mkF m 78 #[.val (Value.int p1), .val (Value.int p2), .val (Value.int p3), .val (Value.int p4), .val (Value.ref ob1), .val (Value.ref ob20), .val (Value.int (2 : Int32)), .val (Value.int (4 : Int32)), .unset, .unset, .unset] [(Value.ref ob20)]))
          refine own_Go.by (fun tq kq => XS.iload X23.here hx rfl (hb hby at_78) rfl kq) ?_
          show own_Go p.tables e below _ (T23.setTop (mkF m 80 #[.val (Value.int p1), .val (Value.int p2), .val (Value.int p3), .val (Value.int p4), .val (Value.ref ob1), .val (Value.ref ob20), .val (Value.int (2 : Int32)), .val (Value.int (4 : Int32)), .unset, .unset, .unset] [(Value.int (2 : Int32)), (Value.ref ob20)]))
          refine own_Go.by (fun tq kq => XS.iload X23.here hx rfl (hb hby at_80) rfl kq) ?_
          show own_Go p.tables e below _ (T23.setTop (mkF m 82 #[.val (Value.int p1), .val (Value.int p2), .val (Value.int p3), .val (Value.int p4), .val (Value.ref ob1), .val (Value.ref ob20), .val (Value.int (2 : Int32)), .val (Value.int (4 : Int32)), .unset, .unset, .unset] [(Value.int (4 : Int32)), (Value.int (2 : Int32)), (Value.ref ob20)]))
          obtain ⟨_, _, ⟨T73, L73, k73, n73⟩, -, X73, ⟨Lc73, hQ73, l73, y73, z73⟩, st73⟩ := Jvm.LawKit.callS X23 hx (y := (⟨"com/example/enlace/enlace/DotSegments", "isDotSegment", "(Ljava/lang/String;II)Z"⟩ : MethodName)) hown (mvT hZ (hw _ (List.mem_of_getElem? (i := 35) rfl))) (mvT hZ (hw _ (List.mem_of_getElem? (i := 36) rfl))) (mvT hZ (hw _ (List.mem_of_getElem? (i := 37) rfl))) (mvT hZ (hw _ (List.mem_of_getElem? (i := 38) rfl))) (by decide) (backOf (W := 0) (rm8_2_4_tt l Z a0 hw [] ob20 t23 kb23 r_4 r_8 r_12 r_16 zc vf T23.heap n0 O25 E23q V23q C23q A23q (hp23 : ∀ c ∈ ([r_4, r_8, r_12, r_16] : List Int32), ¬ c < 0 ∧ ¬ (255 : Int32) < c) H0 H1 (hzc : ¬ (zc = (0 : Int32))) (rvf : vf.isRef = true) hdot hdot2) hZ (hw _ (List.mem_of_getElem? (i := 38) rfl)) (hw _ (List.mem_of_getElem? (i := 37) rfl)) (by decide) (by decide)) (g := (mkF m 82 #[.val (Value.int p1), .val (Value.int p2), .val (Value.int p3), .val (Value.int p4), .val (Value.ref ob1), .val (Value.ref ob20), .val (Value.int (2 : Int32)), .val (Value.int (4 : Int32)), .unset, .unset, .unset] [(Value.int (4 : Int32)), (Value.int (2 : Int32)), (Value.ref ob20)])) rfl (by rw [hml]; rfl) (argsL := [(Value.ref ob20), (Value.int (2 : Int32)), (Value.int (4 : Int32))]) (rest := []) (lenOf own_pd2 rfl) rfl (by show 2 * 0 + _ ≤ _; exact Nat.le_of_eq rfl) (hb hby at_82) (fun _ _ => ⟨rfl, rfl, (by decide : 3 + 0 ≤ _), (by decide : 12 + 0 ≤ _)⟩)
          dsimp only [Pt.U, Pt.locs, Pt.cells, Pt.slots] at X73 l73 y73 z73 st73 hQ73
          subst l73 y73 z73
          refine own_Go.by st73 ?_
          obtain ⟨rfl, N73q, e73⟩ := hQ73
          have N73 := Fr.app N23 N73q
          show own_Go p.tables e below _ (T73.setTop (mkF m 85 #[.val (Value.int p1), .val (Value.int p2), .val (Value.int p3), .val (Value.int p4), .val (Value.ref ob1), .val (Value.ref ob20), .val (Value.int (2 : Int32)), .val (Value.int (4 : Int32)), .unset, .unset, .unset] [(Value.int (1 : Int32))]))
          refine own_Go.by (fun tq kq => XS.istore X73.here hx rfl (hb hby at_85) rfl (l' := #[.val (Value.int p1), .val (Value.int p2), .val (Value.int p3), .val (Value.int p4), .val (Value.ref ob1), .val (Value.ref ob20), .val (Value.int (2 : Int32)), .val (Value.int (4 : Int32)), .val (Value.int (1 : Int32)), .unset, .unset]) rfl kq) ?_
          show own_Go p.tables e below _ (T73.setTop (mkF m 87 #[.val (Value.int p1), .val (Value.int p2), .val (Value.int p3), .val (Value.int p4), .val (Value.ref ob1), .val (Value.ref ob20), .val (Value.int (2 : Int32)), .val (Value.int (4 : Int32)), .val (Value.int (1 : Int32)), .unset, .unset] []))
          refine own_Go.by (fun tq kq => XS.iload X73.here hx rfl (hb hby at_87) rfl kq) ?_
          show own_Go p.tables e below _ (T73.setTop (mkF m 89 #[.val (Value.int p1), .val (Value.int p2), .val (Value.int p3), .val (Value.int p4), .val (Value.ref ob1), .val (Value.ref ob20), .val (Value.int (2 : Int32)), .val (Value.int (4 : Int32)), .val (Value.int (1 : Int32)), .unset, .unset] [(Value.int (4 : Int32))]))
          refine own_Go.by (fun tq kq => XS.iload X73.here hx rfl (hb hby at_89) rfl kq) ?_
          show own_Go p.tables e below _ (T73.setTop (mkF m 91 #[.val (Value.int p1), .val (Value.int p2), .val (Value.int p3), .val (Value.int p4), .val (Value.ref ob1), .val (Value.ref ob20), .val (Value.int (2 : Int32)), .val (Value.int (4 : Int32)), .val (Value.int (1 : Int32)), .unset, .unset] [(Value.int (2 : Int32)), (Value.int (4 : Int32))]))
          refine own_Go.by (fun tq kq => XS.isub X73.here hx rfl (hb hby at_91) rfl kq) ?_
          show own_Go p.tables e below _ (T73.setTop (mkF m 92 #[.val (Value.int p1), .val (Value.int p2), .val (Value.int p3), .val (Value.int p4), .val (Value.ref ob1), .val (Value.ref ob20), .val (Value.int (2 : Int32)), .val (Value.int (4 : Int32)), .val (Value.int (1 : Int32)), .unset, .unset] [(Value.int (2 : Int32))]))
          refine own_Go.by (fun tq kq => XS.istore X73.here hx rfl (hb hby at_92) rfl (l' := #[.val (Value.int p1), .val (Value.int p2), .val (Value.int p3), .val (Value.int p4), .val (Value.ref ob1), .val (Value.ref ob20), .val (Value.int (2 : Int32)), .val (Value.int (4 : Int32)), .val (Value.int (1 : Int32)), .val (Value.int (2 : Int32)), .unset]) rfl kq) ?_
          show own_Go p.tables e below _ (T73.setTop (mkF m 94 #[.val (Value.int p1), .val (Value.int p2), .val (Value.int p3), .val (Value.int p4), .val (Value.ref ob1), .val (Value.ref ob20), .val (Value.int (2 : Int32)), .val (Value.int (4 : Int32)), .val (Value.int (1 : Int32)), .val (Value.int (2 : Int32)), .unset] []))
          refine own_Go.by (fun tq kq => XS.iload X73.here hx rfl (hb hby at_94) rfl kq) ?_
          show own_Go p.tables e below _ (T73.setTop (mkF m 96 #[.val (Value.int p1), .val (Value.int p2), .val (Value.int p3), .val (Value.int p4), .val (Value.ref ob1), .val (Value.ref ob20), .val (Value.int (2 : Int32)), .val (Value.int (4 : Int32)), .val (Value.int (1 : Int32)), .val (Value.int (2 : Int32)), .unset] [(Value.int (2 : Int32))]))
          refine own_Go.by (fun tq kq => XS.iconst X73.here hx rfl (hb hby at_96) kq) ?_
          show own_Go p.tables e below _ (T73.setTop (mkF m 97 #[.val (Value.int p1), .val (Value.int p2), .val (Value.int p3), .val (Value.int p4), .val (Value.ref ob1), .val (Value.ref ob20), .val (Value.int (2 : Int32)), .val (Value.int (4 : Int32)), .val (Value.int (1 : Int32)), .val (Value.int (2 : Int32)), .unset] [(Value.int (1 : Int32)), (Value.int (2 : Int32))]))
          refine own_Go.by (fun tq kq => XS.icmpYes X73.here hx rfl (pc0 := 97) (pc' := 120) rfl (hb hby at_97) rfl (feq (by decide : ¬ ((2 : Int32) = (1 : Int32)))).2 (by decide) (by decide) kq) ?_
          show own_Go p.tables e below _ (T73.setTop (mkF m 120 #[.val (Value.int p1), .val (Value.int p2), .val (Value.int p3), .val (Value.int p4), .val (Value.ref ob1), .val (Value.ref ob20), .val (Value.int (2 : Int32)), .val (Value.int (4 : Int32)), .val (Value.int (1 : Int32)), .val (Value.int (2 : Int32)), .unset] []))
          refine own_Go.by (fun tq kq => XS.iload X73.here hx rfl (hb hby at_120) rfl kq) ?_
          show own_Go p.tables e below _ (T73.setTop (mkF m 122 #[.val (Value.int p1), .val (Value.int p2), .val (Value.int p3), .val (Value.int p4), .val (Value.ref ob1), .val (Value.ref ob20), .val (Value.int (2 : Int32)), .val (Value.int (4 : Int32)), .val (Value.int (1 : Int32)), .val (Value.int (2 : Int32)), .unset] [(Value.int (2 : Int32))]))
          refine own_Go.by (fun tq kq => XS.iconst X73.here hx rfl (hb hby at_122) kq) ?_
          show own_Go p.tables e below _ (T73.setTop (mkF m 123 #[.val (Value.int p1), .val (Value.int p2), .val (Value.int p3), .val (Value.int p4), .val (Value.ref ob1), .val (Value.ref ob20), .val (Value.int (2 : Int32)), .val (Value.int (4 : Int32)), .val (Value.int (1 : Int32)), .val (Value.int (2 : Int32)), .unset] [(Value.int (2 : Int32)), (Value.int (2 : Int32))]))
          refine own_Go.by (fun tq kq => XS.icmpNo X73.here hx rfl (hb hby at_123) rfl (teq (by decide : (2 : Int32) = (2 : Int32))).2 kq) ?_
          show own_Go p.tables e below _ (T73.setTop (mkF m 126 #[.val (Value.int p1), .val (Value.int p2), .val (Value.int p3), .val (Value.int p4), .val (Value.ref ob1), .val (Value.ref ob20), .val (Value.int (2 : Int32)), .val (Value.int (4 : Int32)), .val (Value.int (1 : Int32)), .val (Value.int (2 : Int32)), .unset] []))
          refine own_Go.by (fun tq kq => XS.aload X73.here hx rfl (hb hby at_126) rfl rfl kq) ?_
          show own_Go p.tables e below _ (T73.setTop (mkF m 128 #[.val (Value.int p1), .val (Value.int p2), .val (Value.int p3), .val (Value.int p4), .val (Value.ref ob1), .val (Value.ref ob20), .val (Value.int (2 : Int32)), .val (Value.int (4 : Int32)), .val (Value.int (1 : Int32)), .val (Value.int (2 : Int32)), .unset] [(Value.ref ob1)]))
          refine own_Go.by (fun tq kq => XS.iload X73.here hx rfl (hb hby at_128) rfl kq) ?_
          show own_Go p.tables e below _ (T73.setTop (mkF m 130 #[.val (Value.int p1), .val (Value.int p2), .val (Value.int p3), .val (Value.int p4), .val (Value.ref ob1), .val (Value.ref ob20), .val (Value.int (2 : Int32)), .val (Value.int (4 : Int32)), .val (Value.int (1 : Int32)), .val (Value.int (2 : Int32)), .unset] [(Value.int (2 : Int32)), (Value.ref ob1)]))
          have c74 := (c24.keep K23q (ninS (Nat.ne_of_lt (Nat.lt_of_lt_of_le A1.lt (Nat.le_trans (Keep.of_wr W6).1 (Nat.le_trans (Keep.of_wr W10).1 (Nat.le_trans (Keep.of_wr W14).1 (Nat.le_trans (Keep.of_wr W18).1 (Nat.le_of_eq y20.symm))))))) nin0))
          obtain ⟨cl75, Ar75, q75, S75, M75, Hh75, G75⟩ := id c74
          refine own_Go.by (fun tq kq => X73.caload hx (j := (2 : Int32)) (v := (Value.int r_12)) (by rw [e73]; exact Ar75.1) (State.isArrayOf_alike hZ.alike Ar75.2.1) Ar75.2.2 (inb_of S75 ⟨(by decide : ¬ ((2 : Int32) < (0 : Int32))), (by decide : (2 : Int32) < (4 : Int32))⟩) (Has.at Hh75 (inb_of S75 ⟨(by decide : ¬ ((2 : Int32) < (0 : Int32))), (by decide : (2 : Int32) < (4 : Int32))⟩) (rfl : _ = (Value.int r_12))) (g := (mkF m 130 #[.val (Value.int p1), .val (Value.int p2), .val (Value.int p3), .val (Value.int p4), .val (Value.ref ob1), .val (Value.ref ob20), .val (Value.int (2 : Int32)), .val (Value.int (4 : Int32)), .val (Value.int (1 : Int32)), .val (Value.int (2 : Int32)), .unset] [(Value.int (2 : Int32)), (Value.ref ob1)])) rfl rfl (hb hby at_130) _ kq) ?_
          show own_Go p.tables e below _ (T73.setTop (mkF m 131 #[.val (Value.int p1), .val (Value.int p2), .val (Value.int p3), .val (Value.int p4), .val (Value.ref ob1), .val (Value.ref ob20), .val (Value.int (2 : Int32)), .val (Value.int (4 : Int32)), .val (Value.int (1 : Int32)), .val (Value.int (2 : Int32)), .unset] [(Value.int r_12)]))
          refine own_Go.by (fun tq kq => XS.bipush X73.here hx rfl (hb hby at_131) kq) ?_
          show own_Go p.tables e below _ (T73.setTop (mkF m 133 #[.val (Value.int p1), .val (Value.int p2), .val (Value.int p3), .val (Value.int p4), .val (Value.ref ob1), .val (Value.ref ob20), .val (Value.int (2 : Int32)), .val (Value.int (4 : Int32)), .val (Value.int (1 : Int32)), .val (Value.int (2 : Int32)), .unset] [(Value.int (46 : Int32)), (Value.int r_12)]))
          refine own_Go.by (fun tq kq => XS.icmpNo X73.here hx rfl (hb hby at_133) rfl (teq hdot).2 kq) ?_
          show own_Go p.tables e below _ (T73.setTop (mkF m 136 #[.val (Value.int p1), .val (Value.int p2), .val (Value.int p3), .val (Value.int p4), .val (Value.ref ob1), .val (Value.ref ob20), .val (Value.int (2 : Int32)), .val (Value.int (4 : Int32)), .val (Value.int (1 : Int32)), .val (Value.int (2 : Int32)), .unset] []))
          refine own_Go.by (fun tq kq => XS.aload X73.here hx rfl (hb hby at_136) rfl rfl kq) ?_
          show own_Go p.tables e below _ (T73.setTop (mkF m 138 #[.val (Value.int p1), .val (Value.int p2), .val (Value.int p3), .val (Value.int p4), .val (Value.ref ob1), .val (Value.ref ob20), .val (Value.int (2 : Int32)), .val (Value.int (4 : Int32)), .val (Value.int (1 : Int32)), .val (Value.int (2 : Int32)), .unset] [(Value.ref ob1)]))
          refine own_Go.by (fun tq kq => XS.iload X73.here hx rfl (hb hby at_138) rfl kq) ?_
          show own_Go p.tables e below _ (T73.setTop (mkF m 140 #[.val (Value.int p1), .val (Value.int p2), .val (Value.int p3), .val (Value.int p4), .val (Value.ref ob1), .val (Value.ref ob20), .val (Value.int (2 : Int32)), .val (Value.int (4 : Int32)), .val (Value.int (1 : Int32)), .val (Value.int (2 : Int32)), .unset] [(Value.int (2 : Int32)), (Value.ref ob1)]))
          refine own_Go.by (fun tq kq => XS.iconst X73.here hx rfl (hb hby at_140) kq) ?_
          show own_Go p.tables e below _ (T73.setTop (mkF m 141 #[.val (Value.int p1), .val (Value.int p2), .val (Value.int p3), .val (Value.int p4), .val (Value.ref ob1), .val (Value.ref ob20), .val (Value.int (2 : Int32)), .val (Value.int (4 : Int32)), .val (Value.int (1 : Int32)), .val (Value.int (2 : Int32)), .unset] [(Value.int (1 : Int32)), (Value.int (2 : Int32)), (Value.ref ob1)]))
          refine own_Go.by (fun tq kq => XS.iadd X73.here hx rfl (hb hby at_141) rfl kq) ?_
          show own_Go p.tables e below _ (T73.setTop (mkF m 142 #[.val (Value.int p1), .val (Value.int p2), .val (Value.int p3), .val (Value.int p4), .val (Value.ref ob1), .val (Value.ref ob20), .val (Value.int (2 : Int32)), .val (Value.int (4 : Int32)), .val (Value.int (1 : Int32)), .val (Value.int (2 : Int32)), .unset] [(Value.int (3 : Int32)), (Value.ref ob1)]))
          obtain ⟨cl76, Ar76, q76, S76, M76, Hh76, G76⟩ := id c74
          refine own_Go.by (fun tq kq => X73.caload hx (j := (3 : Int32)) (v := (Value.int r_16)) (by rw [e73]; exact Ar76.1) (State.isArrayOf_alike hZ.alike Ar76.2.1) Ar76.2.2 (inb_of S76 ⟨(by decide : ¬ ((3 : Int32) < (0 : Int32))), (by decide : (3 : Int32) < (4 : Int32))⟩) (Has.at Hh76 (inb_of S76 ⟨(by decide : ¬ ((3 : Int32) < (0 : Int32))), (by decide : (3 : Int32) < (4 : Int32))⟩) (rfl : _ = (Value.int r_16))) (g := (mkF m 142 #[.val (Value.int p1), .val (Value.int p2), .val (Value.int p3), .val (Value.int p4), .val (Value.ref ob1), .val (Value.ref ob20), .val (Value.int (2 : Int32)), .val (Value.int (4 : Int32)), .val (Value.int (1 : Int32)), .val (Value.int (2 : Int32)), .unset] [(Value.int (3 : Int32)), (Value.ref ob1)])) rfl rfl (hb hby at_142) _ kq) ?_
          show own_Go p.tables e below _ (T73.setTop (mkF m 143 #[.val (Value.int p1), .val (Value.int p2), .val (Value.int p3), .val (Value.int p4), .val (Value.ref ob1), .val (Value.ref ob20), .val (Value.int (2 : Int32)), .val (Value.int (4 : Int32)), .val (Value.int (1 : Int32)), .val (Value.int (2 : Int32)), .unset] [(Value.int r_16)]))
          refine own_Go.by (fun tq kq => XS.bipush X73.here hx rfl (hb hby at_143) kq) ?_
          show own_Go p.tables e below _ (T73.setTop (mkF m 145 #[.val (Value.int p1), .val (Value.int p2), .val (Value.int p3), .val (Value.int p4), .val (Value.ref ob1), .val (Value.ref ob20), .val (Value.int (2 : Int32)), .val (Value.int (4 : Int32)), .val (Value.int (1 : Int32)), .val (Value.int (2 : Int32)), .unset] [(Value.int (46 : Int32)), (Value.int r_16)]))
          refine own_Go.by (fun tq kq => XS.icmpNo X73.here hx rfl (hb hby at_145) rfl (teq hdot2).2 kq) ?_
          show own_Go p.tables e below _ (T73.setTop (mkF m 148 #[.val (Value.int p1), .val (Value.int p2), .val (Value.int p3), .val (Value.int p4), .val (Value.ref ob1), .val (Value.ref ob20), .val (Value.int (2 : Int32)), .val (Value.int (4 : Int32)), .val (Value.int (1 : Int32)), .val (Value.int (2 : Int32)), .unset] []))
          refine own_Go.by (fun tq kq => XS.iconst X73.here hx rfl (hb hby at_148) kq) ?_
          show own_Go p.tables e below _ (T73.setTop (mkF m 149 #[.val (Value.int p1), .val (Value.int p2), .val (Value.int p3), .val (Value.int p4), .val (Value.ref ob1), .val (Value.ref ob20), .val (Value.int (2 : Int32)), .val (Value.int (4 : Int32)), .val (Value.int (1 : Int32)), .val (Value.int (2 : Int32)), .unset] [(Value.int (1 : Int32))]))
          refine own_Go.by (fun tq kq => XS.goto X73.here hx rfl (pc0 := 149) (pc' := 153) rfl (hb hby at_149) (by decide) (by decide) kq) ?_
          show own_Go p.tables e below _ (T73.setTop (mkF m 153 #[.val (Value.int p1), .val (Value.int p2), .val (Value.int p3), .val (Value.int p4), .val (Value.ref ob1), .val (Value.ref ob20), .val (Value.int (2 : Int32)), .val (Value.int (4 : Int32)), .val (Value.int (1 : Int32)), .val (Value.int (2 : Int32)), .unset] [(Value.int (1 : Int32))]))
          refine own_Go.by (fun tq kq => XS.istore X73.here hx rfl (hb hby at_153) rfl (l' := #[.val (Value.int p1), .val (Value.int p2), .val (Value.int p3), .val (Value.int p4), .val (Value.ref ob1), .val (Value.ref ob20), .val (Value.int (2 : Int32)), .val (Value.int (4 : Int32)), .val (Value.int (1 : Int32)), .val (Value.int (2 : Int32)), .val (Value.int (1 : Int32))]) rfl kq) ?_
          show own_Go p.tables e below _ (T73.setTop (mkF m 155 #[.val (Value.int p1), .val (Value.int p2), .val (Value.int p3), .val (Value.int p4), .val (Value.ref ob1), .val (Value.ref ob20), .val (Value.int (2 : Int32)), .val (Value.int (4 : Int32)), .val (Value.int (1 : Int32)), .val (Value.int (2 : Int32)), .val (Value.int (1 : Int32))] []))
          refine own_Go.by (fun tq kq => XS.goto X73.here hx rfl (pc0 := 155) (pc' := 161) rfl (hb hby at_155) (by decide) (by decide) kq) ?_
          show own_Go p.tables e below _ (T73.setTop (mkF m 161 #[.val (Value.int p1), .val (Value.int p2), .val (Value.int p3), .val (Value.int p4), .val (Value.ref ob1), .val (Value.ref ob20), .val (Value.int (2 : Int32)), .val (Value.int (4 : Int32)), .val (Value.int (1 : Int32)), .val (Value.int (2 : Int32)), .val (Value.int (1 : Int32))] []))
          refine own_Go.by (fun tq kq => XS.iload X73.here hx rfl (hb hby at_161) rfl kq) ?_
          show own_Go p.tables e below _ (T73.setTop (mkF m 163 #[.val (Value.int p1), .val (Value.int p2), .val (Value.int p3), .val (Value.int p4), .val (Value.ref ob1), .val (Value.ref ob20), .val (Value.int (2 : Int32)), .val (Value.int (4 : Int32)), .val (Value.int (1 : Int32)), .val (Value.int (2 : Int32)), .val (Value.int (1 : Int32))] [(Value.int (1 : Int32))]))
          refine own_Go.by (fun tq kq => XS.iload X73.here hx rfl (hb hby at_163) rfl kq) ?_
          show own_Go p.tables e below _ (T73.setTop (mkF m 165 #[.val (Value.int p1), .val (Value.int p2), .val (Value.int p3), .val (Value.int p4), .val (Value.ref ob1), .val (Value.ref ob20), .val (Value.int (2 : Int32)), .val (Value.int (4 : Int32)), .val (Value.int (1 : Int32)), .val (Value.int (2 : Int32)), .val (Value.int (1 : Int32))] [(Value.int (1 : Int32)), (Value.int (1 : Int32))]))
          refine own_Go.by (fun tq kq => XS.icmpNo X73.here hx rfl (hb hby at_165) rfl (teq (by decide : (1 : Int32) = (1 : Int32))).2 kq) ?_
          show own_Go p.tables e below _ (T73.setTop (mkF m 168 #[.val (Value.int p1), .val (Value.int p2), .val (Value.int p3), .val (Value.int p4), .val (Value.ref ob1), .val (Value.ref ob20), .val (Value.int (2 : Int32)), .val (Value.int (4 : Int32)), .val (Value.int (1 : Int32)), .val (Value.int (2 : Int32)), .val (Value.int (1 : Int32))] []))
          refine own_Go.by (fun tq kq => XS.iconst X73.here hx rfl (hb hby at_168) kq) ?_
          show own_Go p.tables e below _ (T73.setTop (mkF m 169 #[.val (Value.int p1), .val (Value.int p2), .val (Value.int p3), .val (Value.int p4), .val (Value.ref ob1), .val (Value.ref ob20), .val (Value.int (2 : Int32)), .val (Value.int (4 : Int32)), .val (Value.int (1 : Int32)), .val (Value.int (2 : Int32)), .val (Value.int (1 : Int32))] [(Value.int (1 : Int32))]))
          refine own_Go.by (fun tq kq => XS.goto X73.here hx rfl (pc0 := 169) (pc' := 173) rfl (hb hby at_169) (by decide) (by decide) kq) ?_
          show own_Go p.tables e below _ (T73.setTop (mkF m 173 #[.val (Value.int p1), .val (Value.int p2), .val (Value.int p3), .val (Value.int p4), .val (Value.ref ob1), .val (Value.ref ob20), .val (Value.int (2 : Int32)), .val (Value.int (4 : Int32)), .val (Value.int (1 : Int32)), .val (Value.int (2 : Int32)), .val (Value.int (1 : Int32))] [(Value.int (1 : Int32))]))
          obtain ⟨fs, hr, hrun, hended, hW, hsame⟩ := X73.leave (v := some (Value.int (nar .boolean (1 : Int32)))) (fun h => by rw [Bd.returns] at h; cases h)
          refine own_Go.fin (retN X73 hx (t := .boolean) Bd.returns (by simp) (hb hby at_173) hr) ⟨hrun, hended, _, _, rfl, ?_, ⟨_, rfl⟩, hW, hsame.mono (by decide) (by decide)⟩
          show Q0 Z p1 p2 p3 p4 zc vf h0 n0 _ T73.heap _
          rw [e73]
          exact ⟨rfl, N73, K25⟩
        ·
          show own_Go p.tables e below _ (T23.setTop (mkF m 76 #[.val (Value.int p1), .val (Value.int p2), .val (Value.int p3), .val (Value.int p4), .val (Value.ref ob1), .val (Value.ref ob20), .val (Value.int (2 : Int32)), .val (Value.int (4 : Int32)), .unset, .unset, .unset] []))
          refine own_Go.by (fun tq kq => XS.aload X23.here hx rfl (hb hby at_76) rfl rfl kq) ?_
          show own_Go p.tables e below _ (T23.setTop (mkF m 78 #[.val (Value.int p1), .val (Value.int p2), .val (Value.int p3), .val (Value.int p4), .val (Value.ref ob1), .val (Value.ref ob20), .val (Value.int (2 : Int32)), .val (Value.int (4 : Int32)), .unset, .unset, .unset] [(Value.ref ob20)]))
          refine own_Go.by (fun tq kq => XS.iload X23.here hx rfl (hb hby at_78) rfl kq) ?_
          show own_Go p.tables e below _ (T23.setTop (mkF m 80 #[.val (Value.int p1), .val (Value.int p2), .val (Value.int p3), .val (Value.int p4), .val (Value.ref ob1), .val (Value.ref ob20), .val (Value.int (2 : Int32)), .val (Value.int (4 : Int32)), .unset, .unset, .unset] [(Value.int (2 : Int32)), (Value.ref ob20)]))
          refine own_Go.by (fun tq kq => XS.iload X23.here hx rfl (hb hby at_80) rfl kq) ?_
          show own_Go p.tables e below _ (T23.setTop (mkF m 82 #[.val (Value.int p1), .val (Value.int p2), .val (Value.int p3), .val (Value.int p4), .val (Value.ref ob1), .val (Value.ref ob20), .val (Value.int (2 : Int32)), .val (Value.int (4 : Int32)), .unset, .unset, .unset] [(Value.int (4 : Int32)), (Value.int (2 : Int32)), (Value.ref ob20)]))
          obtain ⟨_, _, ⟨T77, L77, k77, n77⟩, -, X77, ⟨Lc77, hQ77, l77, y77, z77⟩, st77⟩ := Jvm.LawKit.callS X23 hx (y := (⟨"com/example/enlace/enlace/DotSegments", "isDotSegment", "(Ljava/lang/String;II)Z"⟩ : MethodName)) hown (mvT hZ (hw _ (List.mem_of_getElem? (i := 35) rfl))) (mvT hZ (hw _ (List.mem_of_getElem? (i := 36) rfl))) (mvT hZ (hw _ (List.mem_of_getElem? (i := 37) rfl))) (mvT hZ (hw _ (List.mem_of_getElem? (i := 38) rfl))) (by decide) (backOf (W := 0) (rm8_2_4_tf l Z a0 hw [] ob20 t23 kb23 r_4 r_8 r_12 r_16 zc vf T23.heap n0 O25 E23q V23q C23q A23q (hp23 : ∀ c ∈ ([r_4, r_8, r_12, r_16] : List Int32), ¬ c < 0 ∧ ¬ (255 : Int32) < c) H0 H1 (hzc : ¬ (zc = (0 : Int32))) (rvf : vf.isRef = true) hdot hdot2) hZ (hw _ (List.mem_of_getElem? (i := 38) rfl)) (hw _ (List.mem_of_getElem? (i := 37) rfl)) (by decide) (by decide)) (g := (mkF m 82 #[.val (Value.int p1), .val (Value.int p2), .val (Value.int p3), .val (Value.int p4), .val (Value.ref ob1), .val (Value.ref ob20), .val (Value.int (2 : Int32)), .val (Value.int (4 : Int32)), .unset, .unset, .unset] [(Value.int (4 : Int32)), (Value.int (2 : Int32)), (Value.ref ob20)])) rfl (by rw [hml]; rfl) (argsL := [(Value.ref ob20), (Value.int (2 : Int32)), (Value.int (4 : Int32))]) (rest := []) (lenOf own_pd2 rfl) rfl (by show 2 * 0 + _ ≤ _; exact Nat.le_of_eq rfl) (hb hby at_82) (fun _ _ => ⟨rfl, rfl, (by decide : 3 + 0 ≤ _), (by decide : 12 + 0 ≤ _)⟩)
          dsimp only [Pt.U, Pt.locs, Pt.cells, Pt.slots] at X77 l77 y77 z77 st77 hQ77
          subst l77 y77 z77
          refine own_Go.by st77 ?_
          obtain ⟨rfl, N77q, e77⟩ := hQ77
          have N77 := Fr.app N23 N77q
          show own_Go p.tables e below _ (T77.setTop (mkF m 85 #[.val (Value.int p1), .val (Value.int p2), .val (Value.int p3), .val (Value.int p4), .val (Value.ref ob1), .val (Value.ref ob20), .val (Value.int (2 : Int32)), .val (Value.int (4 : Int32)), .unset, .unset, .unset] [(Value.int (0 : Int32))]))
          refine own_Go.by (fun tq kq => XS.istore X77.here hx rfl (hb hby at_85) rfl (l' := #[.val (Value.int p1), .val (Value.int p2), .val (Value.int p3), .val (Value.int p4), .val (Value.ref ob1), .val (Value.ref ob20), .val (Value.int (2 : Int32)), .val (Value.int (4 : Int32)), .val (Value.int (0 : Int32)), .unset, .unset]) rfl kq) ?_
          show own_Go p.tables e below _ (T77.setTop (mkF m 87 #[.val (Value.int p1), .val (Value.int p2), .val (Value.int p3), .val (Value.int p4), .val (Value.ref ob1), .val (Value.ref ob20), .val (Value.int (2 : Int32)), .val (Value.int (4 : Int32)), .val (Value.int (0 : Int32)), .unset, .unset] []))
          refine own_Go.by (fun tq kq => XS.iload X77.here hx rfl (hb hby at_87) rfl kq) ?_
          show own_Go p.tables e below _ (T77.setTop (mkF m 89 #[.val (Value.int p1), .val (Value.int p2), .val (Value.int p3), .val (Value.int p4), .val (Value.ref ob1), .val (Value.ref ob20), .val (Value.int (2 : Int32)), .val (Value.int (4 : Int32)), .val (Value.int (0 : Int32)), .unset, .unset] [(Value.int (4 : Int32))]))
          refine own_Go.by (fun tq kq => XS.iload X77.here hx rfl (hb hby at_89) rfl kq) ?_
          show own_Go p.tables e below _ (T77.setTop (mkF m 91 #[.val (Value.int p1), .val (Value.int p2), .val (Value.int p3), .val (Value.int p4), .val (Value.ref ob1), .val (Value.ref ob20), .val (Value.int (2 : Int32)), .val (Value.int (4 : Int32)), .val (Value.int (0 : Int32)), .unset, .unset] [(Value.int (2 : Int32)), (Value.int (4 : Int32))]))
          refine own_Go.by (fun tq kq => XS.isub X77.here hx rfl (hb hby at_91) rfl kq) ?_
          show own_Go p.tables e below _ (T77.setTop (mkF m 92 #[.val (Value.int p1), .val (Value.int p2), .val (Value.int p3), .val (Value.int p4), .val (Value.ref ob1), .val (Value.ref ob20), .val (Value.int (2 : Int32)), .val (Value.int (4 : Int32)), .val (Value.int (0 : Int32)), .unset, .unset] [(Value.int (2 : Int32))]))
          refine own_Go.by (fun tq kq => XS.istore X77.here hx rfl (hb hby at_92) rfl (l' := #[.val (Value.int p1), .val (Value.int p2), .val (Value.int p3), .val (Value.int p4), .val (Value.ref ob1), .val (Value.ref ob20), .val (Value.int (2 : Int32)), .val (Value.int (4 : Int32)), .val (Value.int (0 : Int32)), .val (Value.int (2 : Int32)), .unset]) rfl kq) ?_
          show own_Go p.tables e below _ (T77.setTop (mkF m 94 #[.val (Value.int p1), .val (Value.int p2), .val (Value.int p3), .val (Value.int p4), .val (Value.ref ob1), .val (Value.ref ob20), .val (Value.int (2 : Int32)), .val (Value.int (4 : Int32)), .val (Value.int (0 : Int32)), .val (Value.int (2 : Int32)), .unset] []))
          refine own_Go.by (fun tq kq => XS.iload X77.here hx rfl (hb hby at_94) rfl kq) ?_
          show own_Go p.tables e below _ (T77.setTop (mkF m 96 #[.val (Value.int p1), .val (Value.int p2), .val (Value.int p3), .val (Value.int p4), .val (Value.ref ob1), .val (Value.ref ob20), .val (Value.int (2 : Int32)), .val (Value.int (4 : Int32)), .val (Value.int (0 : Int32)), .val (Value.int (2 : Int32)), .unset] [(Value.int (2 : Int32))]))
          refine own_Go.by (fun tq kq => XS.iconst X77.here hx rfl (hb hby at_96) kq) ?_
          show own_Go p.tables e below _ (T77.setTop (mkF m 97 #[.val (Value.int p1), .val (Value.int p2), .val (Value.int p3), .val (Value.int p4), .val (Value.ref ob1), .val (Value.ref ob20), .val (Value.int (2 : Int32)), .val (Value.int (4 : Int32)), .val (Value.int (0 : Int32)), .val (Value.int (2 : Int32)), .unset] [(Value.int (1 : Int32)), (Value.int (2 : Int32))]))
          refine own_Go.by (fun tq kq => XS.icmpYes X77.here hx rfl (pc0 := 97) (pc' := 120) rfl (hb hby at_97) rfl (feq (by decide : ¬ ((2 : Int32) = (1 : Int32)))).2 (by decide) (by decide) kq) ?_
          show own_Go p.tables e below _ (T77.setTop (mkF m 120 #[.val (Value.int p1), .val (Value.int p2), .val (Value.int p3), .val (Value.int p4), .val (Value.ref ob1), .val (Value.ref ob20), .val (Value.int (2 : Int32)), .val (Value.int (4 : Int32)), .val (Value.int (0 : Int32)), .val (Value.int (2 : Int32)), .unset] []))
          refine own_Go.by (fun tq kq => XS.iload X77.here hx rfl (hb hby at_120) rfl kq) ?_
          show own_Go p.tables e below _ (T77.setTop (mkF m 122 #[.val (Value.int p1), .val (Value.int p2), .val (Value.int p3), .val (Value.int p4), .val (Value.ref ob1), .val (Value.ref ob20), .val (Value.int (2 : Int32)), .val (Value.int (4 : Int32)), .val (Value.int (0 : Int32)), .val (Value.int (2 : Int32)), .unset] [(Value.int (2 : Int32))]))
          refine own_Go.by (fun tq kq => XS.iconst X77.here hx rfl (hb hby at_122) kq) ?_
          show own_Go p.tables e below _ (T77.setTop (mkF m 123 #[.val (Value.int p1), .val (Value.int p2), .val (Value.int p3), .val (Value.int p4), .val (Value.ref ob1), .val (Value.ref ob20), .val (Value.int (2 : Int32)), .val (Value.int (4 : Int32)), .val (Value.int (0 : Int32)), .val (Value.int (2 : Int32)), .unset] [(Value.int (2 : Int32)), (Value.int (2 : Int32))]))
          refine own_Go.by (fun tq kq => XS.icmpNo X77.here hx rfl (hb hby at_123) rfl (teq (by decide : (2 : Int32) = (2 : Int32))).2 kq) ?_
          show own_Go p.tables e below _ (T77.setTop (mkF m 126 #[.val (Value.int p1), .val (Value.int p2), .val (Value.int p3), .val (Value.int p4), .val (Value.ref ob1), .val (Value.ref ob20), .val (Value.int (2 : Int32)), .val (Value.int (4 : Int32)), .val (Value.int (0 : Int32)), .val (Value.int (2 : Int32)), .unset] []))
          refine own_Go.by (fun tq kq => XS.aload X77.here hx rfl (hb hby at_126) rfl rfl kq) ?_
          show own_Go p.tables e below _ (T77.setTop (mkF m 128 #[.val (Value.int p1), .val (Value.int p2), .val (Value.int p3), .val (Value.int p4), .val (Value.ref ob1), .val (Value.ref ob20), .val (Value.int (2 : Int32)), .val (Value.int (4 : Int32)), .val (Value.int (0 : Int32)), .val (Value.int (2 : Int32)), .unset] [(Value.ref ob1)]))
          refine own_Go.by (fun tq kq => XS.iload X77.here hx rfl (hb hby at_128) rfl kq) ?_
          show own_Go p.tables e below _ (T77.setTop (mkF m 130 #[.val (Value.int p1), .val (Value.int p2), .val (Value.int p3), .val (Value.int p4), .val (Value.ref ob1), .val (Value.ref ob20), .val (Value.int (2 : Int32)), .val (Value.int (4 : Int32)), .val (Value.int (0 : Int32)), .val (Value.int (2 : Int32)), .unset] [(Value.int (2 : Int32)), (Value.ref ob1)]))
          have c78 := (c24.keep K23q (ninS (Nat.ne_of_lt (Nat.lt_of_lt_of_le A1.lt (Nat.le_trans (Keep.of_wr W6).1 (Nat.le_trans (Keep.of_wr W10).1 (Nat.le_trans (Keep.of_wr W14).1 (Nat.le_trans (Keep.of_wr W18).1 (Nat.le_of_eq y20.symm))))))) nin0))
          obtain ⟨cl79, Ar79, q79, S79, M79, Hh79, G79⟩ := id c78
          refine own_Go.by (fun tq kq => X77.caload hx (j := (2 : Int32)) (v := (Value.int r_12)) (by rw [e77]; exact Ar79.1) (State.isArrayOf_alike hZ.alike Ar79.2.1) Ar79.2.2 (inb_of S79 ⟨(by decide : ¬ ((2 : Int32) < (0 : Int32))), (by decide : (2 : Int32) < (4 : Int32))⟩) (Has.at Hh79 (inb_of S79 ⟨(by decide : ¬ ((2 : Int32) < (0 : Int32))), (by decide : (2 : Int32) < (4 : Int32))⟩) (rfl : _ = (Value.int r_12))) (g := (mkF m 130 #[.val (Value.int p1), .val (Value.int p2), .val (Value.int p3), .val (Value.int p4), .val (Value.ref ob1), .val (Value.ref ob20), .val (Value.int (2 : Int32)), .val (Value.int (4 : Int32)), .val (Value.int (0 : Int32)), .val (Value.int (2 : Int32)), .unset] [(Value.int (2 : Int32)), (Value.ref ob1)])) rfl rfl (hb hby at_130) _ kq) ?_
          show own_Go p.tables e below _ (T77.setTop (mkF m 131 #[.val (Value.int p1), .val (Value.int p2), .val (Value.int p3), .val (Value.int p4), .val (Value.ref ob1), .val (Value.ref ob20), .val (Value.int (2 : Int32)), .val (Value.int (4 : Int32)), .val (Value.int (0 : Int32)), .val (Value.int (2 : Int32)), .unset] [(Value.int r_12)]))
          refine own_Go.by (fun tq kq => XS.bipush X77.here hx rfl (hb hby at_131) kq) ?_
          show own_Go p.tables e below _ (T77.setTop (mkF m 133 #[.val (Value.int p1), .val (Value.int p2), .val (Value.int p3), .val (Value.int p4), .val (Value.ref ob1), .val (Value.ref ob20), .val (Value.int (2 : Int32)), .val (Value.int (4 : Int32)), .val (Value.int (0 : Int32)), .val (Value.int (2 : Int32)), .unset] [(Value.int (46 : Int32)), (Value.int r_12)]))
          refine own_Go.by (fun tq kq => XS.icmpNo X77.here hx rfl (hb hby at_133) rfl (teq hdot).2 kq) ?_
          show own_Go p.tables e below _ (T77.setTop (mkF m 136 #[.val (Value.int p1), .val (Value.int p2), .val (Value.int p3), .val (Value.int p4), .val (Value.ref ob1), .val (Value.ref ob20), .val (Value.int (2 : Int32)), .val (Value.int (4 : Int32)), .val (Value.int (0 : Int32)), .val (Value.int (2 : Int32)), .unset] []))
          refine own_Go.by (fun tq kq => XS.aload X77.here hx rfl (hb hby at_136) rfl rfl kq) ?_
          show own_Go p.tables e below _ (T77.setTop (mkF m 138 #[.val (Value.int p1), .val (Value.int p2), .val (Value.int p3), .val (Value.int p4), .val (Value.ref ob1), .val (Value.ref ob20), .val (Value.int (2 : Int32)), .val (Value.int (4 : Int32)), .val (Value.int (0 : Int32)), .val (Value.int (2 : Int32)), .unset] [(Value.ref ob1)]))
          refine own_Go.by (fun tq kq => XS.iload X77.here hx rfl (hb hby at_138) rfl kq) ?_
          show own_Go p.tables e below _ (T77.setTop (mkF m 140 #[.val (Value.int p1), .val (Value.int p2), .val (Value.int p3), .val (Value.int p4), .val (Value.ref ob1), .val (Value.ref ob20), .val (Value.int (2 : Int32)), .val (Value.int (4 : Int32)), .val (Value.int (0 : Int32)), .val (Value.int (2 : Int32)), .unset] [(Value.int (2 : Int32)), (Value.ref ob1)]))
          refine own_Go.by (fun tq kq => XS.iconst X77.here hx rfl (hb hby at_140) kq) ?_
          show own_Go p.tables e below _ (T77.setTop (mkF m 141 #[.val (Value.int p1), .val (Value.int p2), .val (Value.int p3), .val (Value.int p4), .val (Value.ref ob1), .val (Value.ref ob20), .val (Value.int (2 : Int32)), .val (Value.int (4 : Int32)), .val (Value.int (0 : Int32)), .val (Value.int (2 : Int32)), .unset] [(Value.int (1 : Int32)), (Value.int (2 : Int32)), (Value.ref ob1)]))
          refine own_Go.by (fun tq kq => XS.iadd X77.here hx rfl (hb hby at_141) rfl kq) ?_
          show own_Go p.tables e below _ (T77.setTop (mkF m 142 #[.val (Value.int p1), .val (Value.int p2), .val (Value.int p3), .val (Value.int p4), .val (Value.ref ob1), .val (Value.ref ob20), .val (Value.int (2 : Int32)), .val (Value.int (4 : Int32)), .val (Value.int (0 : Int32)), .val (Value.int (2 : Int32)), .unset] [(Value.int (3 : Int32)), (Value.ref ob1)]))
          obtain ⟨cl80, Ar80, q80, S80, M80, Hh80, G80⟩ := id c78
          refine own_Go.by (fun tq kq => X77.caload hx (j := (3 : Int32)) (v := (Value.int r_16)) (by rw [e77]; exact Ar80.1) (State.isArrayOf_alike hZ.alike Ar80.2.1) Ar80.2.2 (inb_of S80 ⟨(by decide : ¬ ((3 : Int32) < (0 : Int32))), (by decide : (3 : Int32) < (4 : Int32))⟩) (Has.at Hh80 (inb_of S80 ⟨(by decide : ¬ ((3 : Int32) < (0 : Int32))), (by decide : (3 : Int32) < (4 : Int32))⟩) (rfl : _ = (Value.int r_16))) (g := (mkF m 142 #[.val (Value.int p1), .val (Value.int p2), .val (Value.int p3), .val (Value.int p4), .val (Value.ref ob1), .val (Value.ref ob20), .val (Value.int (2 : Int32)), .val (Value.int (4 : Int32)), .val (Value.int (0 : Int32)), .val (Value.int (2 : Int32)), .unset] [(Value.int (3 : Int32)), (Value.ref ob1)])) rfl rfl (hb hby at_142) _ kq) ?_
          show own_Go p.tables e below _ (T77.setTop (mkF m 143 #[.val (Value.int p1), .val (Value.int p2), .val (Value.int p3), .val (Value.int p4), .val (Value.ref ob1), .val (Value.ref ob20), .val (Value.int (2 : Int32)), .val (Value.int (4 : Int32)), .val (Value.int (0 : Int32)), .val (Value.int (2 : Int32)), .unset] [(Value.int r_16)]))
          refine own_Go.by (fun tq kq => XS.bipush X77.here hx rfl (hb hby at_143) kq) ?_
          show own_Go p.tables e below _ (T77.setTop (mkF m 145 #[.val (Value.int p1), .val (Value.int p2), .val (Value.int p3), .val (Value.int p4), .val (Value.ref ob1), .val (Value.ref ob20), .val (Value.int (2 : Int32)), .val (Value.int (4 : Int32)), .val (Value.int (0 : Int32)), .val (Value.int (2 : Int32)), .unset] [(Value.int (46 : Int32)), (Value.int r_16)]))
          refine own_Go.by (fun tq kq => XS.icmpYes X77.here hx rfl (pc0 := 145) (pc' := 152) rfl (hb hby at_145) rfl (feq hdot2).2 (by decide) (by decide) kq) ?_
          show own_Go p.tables e below _ (T77.setTop (mkF m 152 #[.val (Value.int p1), .val (Value.int p2), .val (Value.int p3), .val (Value.int p4), .val (Value.ref ob1), .val (Value.ref ob20), .val (Value.int (2 : Int32)), .val (Value.int (4 : Int32)), .val (Value.int (0 : Int32)), .val (Value.int (2 : Int32)), .unset] []))
          refine own_Go.by (fun tq kq => XS.iconst X77.here hx rfl (hb hby at_152) kq) ?_
          show own_Go p.tables e below _ (T77.setTop (mkF m 153 #[.val (Value.int p1), .val (Value.int p2), .val (Value.int p3), .val (Value.int p4), .val (Value.ref ob1), .val (Value.ref ob20), .val (Value.int (2 : Int32)), .val (Value.int (4 : Int32)), .val (Value.int (0 : Int32)), .val (Value.int (2 : Int32)), .unset] [(Value.int (0 : Int32))]))
          refine own_Go.by (fun tq kq => XS.istore X77.here hx rfl (hb hby at_153) rfl (l' := #[.val (Value.int p1), .val (Value.int p2), .val (Value.int p3), .val (Value.int p4), .val (Value.ref ob1), .val (Value.ref ob20), .val (Value.int (2 : Int32)), .val (Value.int (4 : Int32)), .val (Value.int (0 : Int32)), .val (Value.int (2 : Int32)), .val (Value.int (0 : Int32))]) rfl kq) ?_
          show own_Go p.tables e below _ (T77.setTop (mkF m 155 #[.val (Value.int p1), .val (Value.int p2), .val (Value.int p3), .val (Value.int p4), .val (Value.ref ob1), .val (Value.ref ob20), .val (Value.int (2 : Int32)), .val (Value.int (4 : Int32)), .val (Value.int (0 : Int32)), .val (Value.int (2 : Int32)), .val (Value.int (0 : Int32))] []))
          refine own_Go.by (fun tq kq => XS.goto X77.here hx rfl (pc0 := 155) (pc' := 161) rfl (hb hby at_155) (by decide) (by decide) kq) ?_
          show own_Go p.tables e below _ (T77.setTop (mkF m 161 #[.val (Value.int p1), .val (Value.int p2), .val (Value.int p3), .val (Value.int p4), .val (Value.ref ob1), .val (Value.ref ob20), .val (Value.int (2 : Int32)), .val (Value.int (4 : Int32)), .val (Value.int (0 : Int32)), .val (Value.int (2 : Int32)), .val (Value.int (0 : Int32))] []))
          refine own_Go.by (fun tq kq => XS.iload X77.here hx rfl (hb hby at_161) rfl kq) ?_
          show own_Go p.tables e below _ (T77.setTop (mkF m 163 #[.val (Value.int p1), .val (Value.int p2), .val (Value.int p3), .val (Value.int p4), .val (Value.ref ob1), .val (Value.ref ob20), .val (Value.int (2 : Int32)), .val (Value.int (4 : Int32)), .val (Value.int (0 : Int32)), .val (Value.int (2 : Int32)), .val (Value.int (0 : Int32))] [(Value.int (0 : Int32))]))
          refine own_Go.by (fun tq kq => XS.iload X77.here hx rfl (hb hby at_163) rfl kq) ?_
          show own_Go p.tables e below _ (T77.setTop (mkF m 165 #[.val (Value.int p1), .val (Value.int p2), .val (Value.int p3), .val (Value.int p4), .val (Value.ref ob1), .val (Value.ref ob20), .val (Value.int (2 : Int32)), .val (Value.int (4 : Int32)), .val (Value.int (0 : Int32)), .val (Value.int (2 : Int32)), .val (Value.int (0 : Int32))] [(Value.int (0 : Int32)), (Value.int (0 : Int32))]))
          refine own_Go.by (fun tq kq => XS.icmpNo X77.here hx rfl (hb hby at_165) rfl (teq (by decide : (0 : Int32) = (0 : Int32))).2 kq) ?_
          show own_Go p.tables e below _ (T77.setTop (mkF m 168 #[.val (Value.int p1), .val (Value.int p2), .val (Value.int p3), .val (Value.int p4), .val (Value.ref ob1), .val (Value.ref ob20), .val (Value.int (2 : Int32)), .val (Value.int (4 : Int32)), .val (Value.int (0 : Int32)), .val (Value.int (2 : Int32)), .val (Value.int (0 : Int32))] []))
          refine own_Go.by (fun tq kq => XS.iconst X77.here hx rfl (hb hby at_168) kq) ?_
          show own_Go p.tables e below _ (T77.setTop (mkF m 169 #[.val (Value.int p1), .val (Value.int p2), .val (Value.int p3), .val (Value.int p4), .val (Value.ref ob1), .val (Value.ref ob20), .val (Value.int (2 : Int32)), .val (Value.int (4 : Int32)), .val (Value.int (0 : Int32)), .val (Value.int (2 : Int32)), .val (Value.int (0 : Int32))] [(Value.int (1 : Int32))]))
          refine own_Go.by (fun tq kq => XS.goto X77.here hx rfl (pc0 := 169) (pc' := 173) rfl (hb hby at_169) (by decide) (by decide) kq) ?_
          show own_Go p.tables e below _ (T77.setTop (mkF m 173 #[.val (Value.int p1), .val (Value.int p2), .val (Value.int p3), .val (Value.int p4), .val (Value.ref ob1), .val (Value.ref ob20), .val (Value.int (2 : Int32)), .val (Value.int (4 : Int32)), .val (Value.int (0 : Int32)), .val (Value.int (2 : Int32)), .val (Value.int (0 : Int32))] [(Value.int (1 : Int32))]))
          obtain ⟨fs, hr, hrun, hended, hW, hsame⟩ := X77.leave (v := some (Value.int (nar .boolean (1 : Int32)))) (fun h => by rw [Bd.returns] at h; cases h)
          refine own_Go.fin (retN X77 hx (t := .boolean) Bd.returns (by simp) (hb hby at_173) hr) ⟨hrun, hended, _, _, rfl, ?_, ⟨_, rfl⟩, hW, hsame.mono (by decide) (by decide)⟩
          show Q0 Z p1 p2 p3 p4 zc vf h0 n0 _ T77.heap _
          rw [e77]
          exact ⟨rfl, N77, K25⟩
      ·
        show own_Go p.tables e below _ (T23.setTop (mkF m 76 #[.val (Value.int p1), .val (Value.int p2), .val (Value.int p3), .val (Value.int p4), .val (Value.ref ob1), .val (Value.ref ob20), .val (Value.int (2 : Int32)), .val (Value.int (4 : Int32)), .unset, .unset, .unset] []))
        refine own_Go.by (fun tq kq => XS.aload X23.here hx rfl (hb hby at_76) rfl rfl kq) ?_
        show own_Go p.tables e below _ (T23.setTop (mkF m 78 #[.val (Value.int p1), .val (Value.int p2), .val (Value.int p3), .val (Value.int p4), .val (Value.ref ob1), .val (Value.ref ob20), .val (Value.int (2 : Int32)), .val (Value.int (4 : Int32)), .unset, .unset, .unset] [(Value.ref ob20)]))
        refine own_Go.by (fun tq kq => XS.iload X23.here hx rfl (hb hby at_78) rfl kq) ?_
        show own_Go p.tables e below _ (T23.setTop (mkF m 80 #[.val (Value.int p1), .val (Value.int p2), .val (Value.int p3), .val (Value.int p4), .val (Value.ref ob1), .val (Value.ref ob20), .val (Value.int (2 : Int32)), .val (Value.int (4 : Int32)), .unset, .unset, .unset] [(Value.int (2 : Int32)), (Value.ref ob20)]))
        refine own_Go.by (fun tq kq => XS.iload X23.here hx rfl (hb hby at_80) rfl kq) ?_
        show own_Go p.tables e below _ (T23.setTop (mkF m 82 #[.val (Value.int p1), .val (Value.int p2), .val (Value.int p3), .val (Value.int p4), .val (Value.ref ob1), .val (Value.ref ob20), .val (Value.int (2 : Int32)), .val (Value.int (4 : Int32)), .unset, .unset, .unset] [(Value.int (4 : Int32)), (Value.int (2 : Int32)), (Value.ref ob20)]))
        obtain ⟨_, _, ⟨T81, L81, k81, n81⟩, -, X81, ⟨Lc81, hQ81, l81, y81, z81⟩, st81⟩ := Jvm.LawKit.callS X23 hx (y := (⟨"com/example/enlace/enlace/DotSegments", "isDotSegment", "(Ljava/lang/String;II)Z"⟩ : MethodName)) hown (mvT hZ (hw _ (List.mem_of_getElem? (i := 35) rfl))) (mvT hZ (hw _ (List.mem_of_getElem? (i := 36) rfl))) (mvT hZ (hw _ (List.mem_of_getElem? (i := 37) rfl))) (mvT hZ (hw _ (List.mem_of_getElem? (i := 38) rfl))) (by decide) (backOf (W := 0) (rm8_2_4_f l Z a0 hw [] ob20 t23 kb23 r_4 r_8 r_12 r_16 zc vf T23.heap n0 O25 E23q V23q C23q A23q (hp23 : ∀ c ∈ ([r_4, r_8, r_12, r_16] : List Int32), ¬ c < 0 ∧ ¬ (255 : Int32) < c) H0 H1 (hzc : ¬ (zc = (0 : Int32))) (rvf : vf.isRef = true) hdot) hZ (hw _ (List.mem_of_getElem? (i := 38) rfl)) (hw _ (List.mem_of_getElem? (i := 37) rfl)) (by decide) (by decide)) (g := (mkF m 82 #[.val (Value.int p1), .val (Value.int p2), .val (Value.int p3), .val (Value.int p4), .val (Value.ref ob1), .val (Value.ref ob20), .val (Value.int (2 : Int32)), .val (Value.int (4 : Int32)), .unset, .unset, .unset] [(Value.int (4 : Int32)), (Value.int (2 : Int32)), (Value.ref ob20)])) rfl (by rw [hml]; rfl) (argsL := [(Value.ref ob20), (Value.int (2 : Int32)), (Value.int (4 : Int32))]) (rest := []) (lenOf own_pd2 rfl) rfl (by show 2 * 0 + _ ≤ _; exact Nat.le_of_eq rfl) (hb hby at_82) (fun _ _ => ⟨rfl, rfl, (by decide : 3 + 0 ≤ _), (by decide : 12 + 0 ≤ _)⟩)
        dsimp only [Pt.U, Pt.locs, Pt.cells, Pt.slots] at X81 l81 y81 z81 st81 hQ81
        subst l81 y81 z81
        refine own_Go.by st81 ?_
        obtain ⟨rfl, N81q, e81⟩ := hQ81
        have N81 := Fr.app N23 N81q
        show own_Go p.tables e below _ (T81.setTop (mkF m 85 #[.val (Value.int p1), .val (Value.int p2), .val (Value.int p3), .val (Value.int p4), .val (Value.ref ob1), .val (Value.ref ob20), .val (Value.int (2 : Int32)), .val (Value.int (4 : Int32)), .unset, .unset, .unset] [(Value.int (0 : Int32))]))
        refine own_Go.by (fun tq kq => XS.istore X81.here hx rfl (hb hby at_85) rfl (l' := #[.val (Value.int p1), .val (Value.int p2), .val (Value.int p3), .val (Value.int p4), .val (Value.ref ob1), .val (Value.ref ob20), .val (Value.int (2 : Int32)), .val (Value.int (4 : Int32)), .val (Value.int (0 : Int32)), .unset, .unset]) rfl kq) ?_
        show own_Go p.tables e below _ (T81.setTop (mkF m 87 #[.val (Value.int p1), .val (Value.int p2), .val (Value.int p3), .val (Value.int p4), .val (Value.ref ob1), .val (Value.ref ob20), .val (Value.int (2 : Int32)), .val (Value.int (4 : Int32)), .val (Value.int (0 : Int32)), .unset, .unset] []))
        refine own_Go.by (fun tq kq => XS.iload X81.here hx rfl (hb hby at_87) rfl kq) ?_
        show own_Go p.tables e below _ (T81.setTop (mkF m 89 #[.val (Value.int p1), .val (Value.int p2), .val (Value.int p3), .val (Value.int p4), .val (Value.ref ob1), .val (Value.ref ob20), .val (Value.int (2 : Int32)), .val (Value.int (4 : Int32)), .val (Value.int (0 : Int32)), .unset, .unset] [(Value.int (4 : Int32))]))
        refine own_Go.by (fun tq kq => XS.iload X81.here hx rfl (hb hby at_89) rfl kq) ?_
        show own_Go p.tables e below _ (T81.setTop (mkF m 91 #[.val (Value.int p1), .val (Value.int p2), .val (Value.int p3), .val (Value.int p4), .val (Value.ref ob1), .val (Value.ref ob20), .val (Value.int (2 : Int32)), .val (Value.int (4 : Int32)), .val (Value.int (0 : Int32)), .unset, .unset] [(Value.int (2 : Int32)), (Value.int (4 : Int32))]))
        refine own_Go.by (fun tq kq => XS.isub X81.here hx rfl (hb hby at_91) rfl kq) ?_
        show own_Go p.tables e below _ (T81.setTop (mkF m 92 #[.val (Value.int p1), .val (Value.int p2), .val (Value.int p3), .val (Value.int p4), .val (Value.ref ob1), .val (Value.ref ob20), .val (Value.int (2 : Int32)), .val (Value.int (4 : Int32)), .val (Value.int (0 : Int32)), .unset, .unset] [(Value.int (2 : Int32))]))
        refine own_Go.by (fun tq kq => XS.istore X81.here hx rfl (hb hby at_92) rfl (l' := #[.val (Value.int p1), .val (Value.int p2), .val (Value.int p3), .val (Value.int p4), .val (Value.ref ob1), .val (Value.ref ob20), .val (Value.int (2 : Int32)), .val (Value.int (4 : Int32)), .val (Value.int (0 : Int32)), .val (Value.int (2 : Int32)), .unset]) rfl kq) ?_
        show own_Go p.tables e below _ (T81.setTop (mkF m 94 #[.val (Value.int p1), .val (Value.int p2), .val (Value.int p3), .val (Value.int p4), .val (Value.ref ob1), .val (Value.ref ob20), .val (Value.int (2 : Int32)), .val (Value.int (4 : Int32)), .val (Value.int (0 : Int32)), .val (Value.int (2 : Int32)), .unset] []))
        refine own_Go.by (fun tq kq => XS.iload X81.here hx rfl (hb hby at_94) rfl kq) ?_
        show own_Go p.tables e below _ (T81.setTop (mkF m 96 #[.val (Value.int p1), .val (Value.int p2), .val (Value.int p3), .val (Value.int p4), .val (Value.ref ob1), .val (Value.ref ob20), .val (Value.int (2 : Int32)), .val (Value.int (4 : Int32)), .val (Value.int (0 : Int32)), .val (Value.int (2 : Int32)), .unset] [(Value.int (2 : Int32))]))
        refine own_Go.by (fun tq kq => XS.iconst X81.here hx rfl (hb hby at_96) kq) ?_
        show own_Go p.tables e below _ (T81.setTop (mkF m 97 #[.val (Value.int p1), .val (Value.int p2), .val (Value.int p3), .val (Value.int p4), .val (Value.ref ob1), .val (Value.ref ob20), .val (Value.int (2 : Int32)), .val (Value.int (4 : Int32)), .val (Value.int (0 : Int32)), .val (Value.int (2 : Int32)), .unset] [(Value.int (1 : Int32)), (Value.int (2 : Int32))]))
        refine own_Go.by (fun tq kq => XS.icmpYes X81.here hx rfl (pc0 := 97) (pc' := 120) rfl (hb hby at_97) rfl (feq (by decide : ¬ ((2 : Int32) = (1 : Int32)))).2 (by decide) (by decide) kq) ?_
        show own_Go p.tables e below _ (T81.setTop (mkF m 120 #[.val (Value.int p1), .val (Value.int p2), .val (Value.int p3), .val (Value.int p4), .val (Value.ref ob1), .val (Value.ref ob20), .val (Value.int (2 : Int32)), .val (Value.int (4 : Int32)), .val (Value.int (0 : Int32)), .val (Value.int (2 : Int32)), .unset] []))
        refine own_Go.by (fun tq kq => XS.iload X81.here hx rfl (hb hby at_120) rfl kq) ?_
        show own_Go p.tables e below _ (T81.setTop (mkF m 122 #[.val (Value.int p1), .val (Value.int p2), .val (Value.int p3), .val (Value.int p4), .val (Value.ref ob1), .val (Value.ref ob20), .val (Value.int (2 : Int32)), .val (Value.int (4 : Int32)), .val (Value.int (0 : Int32)), .val (Value.int (2 : Int32)), .unset] [(Value.int (2 : Int32))]))
        refine own_Go.by (fun tq kq => XS.iconst X81.here hx rfl (hb hby at_122) kq) ?_
        show own_Go p.tables e below _ (T81.setTop (mkF m 123 #[.val (Value.int p1), .val (Value.int p2), .val (Value.int p3), .val (Value.int p4), .val (Value.ref ob1), .val (Value.ref ob20), .val (Value.int (2 : Int32)), .val (Value.int (4 : Int32)), .val (Value.int (0 : Int32)), .val (Value.int (2 : Int32)), .unset] [(Value.int (2 : Int32)), (Value.int (2 : Int32))]))
        refine own_Go.by (fun tq kq => XS.icmpNo X81.here hx rfl (hb hby at_123) rfl (teq (by decide : (2 : Int32) = (2 : Int32))).2 kq) ?_
        show own_Go p.tables e below _ (T81.setTop (mkF m 126 #[.val (Value.int p1), .val (Value.int p2), .val (Value.int p3), .val (Value.int p4), .val (Value.ref ob1), .val (Value.ref ob20), .val (Value.int (2 : Int32)), .val (Value.int (4 : Int32)), .val (Value.int (0 : Int32)), .val (Value.int (2 : Int32)), .unset] []))
        refine own_Go.by (fun tq kq => XS.aload X81.here hx rfl (hb hby at_126) rfl rfl kq) ?_
        show own_Go p.tables e below _ (T81.setTop (mkF m 128 #[.val (Value.int p1), .val (Value.int p2), .val (Value.int p3), .val (Value.int p4), .val (Value.ref ob1), .val (Value.ref ob20), .val (Value.int (2 : Int32)), .val (Value.int (4 : Int32)), .val (Value.int (0 : Int32)), .val (Value.int (2 : Int32)), .unset] [(Value.ref ob1)]))
        refine own_Go.by (fun tq kq => XS.iload X81.here hx rfl (hb hby at_128) rfl kq) ?_
        show own_Go p.tables e below _ (T81.setTop (mkF m 130 #[.val (Value.int p1), .val (Value.int p2), .val (Value.int p3), .val (Value.int p4), .val (Value.ref ob1), .val (Value.ref ob20), .val (Value.int (2 : Int32)), .val (Value.int (4 : Int32)), .val (Value.int (0 : Int32)), .val (Value.int (2 : Int32)), .unset] [(Value.int (2 : Int32)), (Value.ref ob1)]))
        have c82 := (c24.keep K23q (ninS (Nat.ne_of_lt (Nat.lt_of_lt_of_le A1.lt (Nat.le_trans (Keep.of_wr W6).1 (Nat.le_trans (Keep.of_wr W10).1 (Nat.le_trans (Keep.of_wr W14).1 (Nat.le_trans (Keep.of_wr W18).1 (Nat.le_of_eq y20.symm))))))) nin0))
        obtain ⟨cl83, Ar83, q83, S83, M83, Hh83, G83⟩ := id c82
        refine own_Go.by (fun tq kq => X81.caload hx (j := (2 : Int32)) (v := (Value.int r_12)) (by rw [e81]; exact Ar83.1) (State.isArrayOf_alike hZ.alike Ar83.2.1) Ar83.2.2 (inb_of S83 ⟨(by decide : ¬ ((2 : Int32) < (0 : Int32))), (by decide : (2 : Int32) < (4 : Int32))⟩) (Has.at Hh83 (inb_of S83 ⟨(by decide : ¬ ((2 : Int32) < (0 : Int32))), (by decide : (2 : Int32) < (4 : Int32))⟩) (rfl : _ = (Value.int r_12))) (g := (mkF m 130 #[.val (Value.int p1), .val (Value.int p2), .val (Value.int p3), .val (Value.int p4), .val (Value.ref ob1), .val (Value.ref ob20), .val (Value.int (2 : Int32)), .val (Value.int (4 : Int32)), .val (Value.int (0 : Int32)), .val (Value.int (2 : Int32)), .unset] [(Value.int (2 : Int32)), (Value.ref ob1)])) rfl rfl (hb hby at_130) _ kq) ?_
        show own_Go p.tables e below _ (T81.setTop (mkF m 131 #[.val (Value.int p1), .val (Value.int p2), .val (Value.int p3), .val (Value.int p4), .val (Value.ref ob1), .val (Value.ref ob20), .val (Value.int (2 : Int32)), .val (Value.int (4 : Int32)), .val (Value.int (0 : Int32)), .val (Value.int (2 : Int32)), .unset] [(Value.int r_12)]))
        refine own_Go.by (fun tq kq => XS.bipush X81.here hx rfl (hb hby at_131) kq) ?_
        show own_Go p.tables e below _ (T81.setTop (mkF m 133 #[.val (Value.int p1), .val (Value.int p2), .val (Value.int p3), .val (Value.int p4), .val (Value.ref ob1), .val (Value.ref ob20), .val (Value.int (2 : Int32)), .val (Value.int (4 : Int32)), .val (Value.int (0 : Int32)), .val (Value.int (2 : Int32)), .unset] [(Value.int (46 : Int32)), (Value.int r_12)]))
        refine own_Go.by (fun tq kq => XS.icmpYes X81.here hx rfl (pc0 := 133) (pc' := 152) rfl (hb hby at_133) rfl (feq hdot).2 (by decide) (by decide) kq) ?_
        show own_Go p.tables e below _ (T81.setTop (mkF m 152 #[.val (Value.int p1), .val (Value.int p2), .val (Value.int p3), .val (Value.int p4), .val (Value.ref ob1), .val (Value.ref ob20), .val (Value.int (2 : Int32)), .val (Value.int (4 : Int32)), .val (Value.int (0 : Int32)), .val (Value.int (2 : Int32)), .unset] []))
        refine own_Go.by (fun tq kq => XS.iconst X81.here hx rfl (hb hby at_152) kq) ?_
        show own_Go p.tables e below _ (T81.setTop (mkF m 153 #[.val (Value.int p1), .val (Value.int p2), .val (Value.int p3), .val (Value.int p4), .val (Value.ref ob1), .val (Value.ref ob20), .val (Value.int (2 : Int32)), .val (Value.int (4 : Int32)), .val (Value.int (0 : Int32)), .val (Value.int (2 : Int32)), .unset] [(Value.int (0 : Int32))]))
        refine own_Go.by (fun tq kq => XS.istore X81.here hx rfl (hb hby at_153) rfl (l' := #[.val (Value.int p1), .val (Value.int p2), .val (Value.int p3), .val (Value.int p4), .val (Value.ref ob1), .val (Value.ref ob20), .val (Value.int (2 : Int32)), .val (Value.int (4 : Int32)), .val (Value.int (0 : Int32)), .val (Value.int (2 : Int32)), .val (Value.int (0 : Int32))]) rfl kq) ?_
        show own_Go p.tables e below _ (T81.setTop (mkF m 155 #[.val (Value.int p1), .val (Value.int p2), .val (Value.int p3), .val (Value.int p4), .val (Value.ref ob1), .val (Value.ref ob20), .val (Value.int (2 : Int32)), .val (Value.int (4 : Int32)), .val (Value.int (0 : Int32)), .val (Value.int (2 : Int32)), .val (Value.int (0 : Int32))] []))
        refine own_Go.by (fun tq kq => XS.goto X81.here hx rfl (pc0 := 155) (pc' := 161) rfl (hb hby at_155) (by decide) (by decide) kq) ?_
        show own_Go p.tables e below _ (T81.setTop (mkF m 161 #[.val (Value.int p1), .val (Value.int p2), .val (Value.int p3), .val (Value.int p4), .val (Value.ref ob1), .val (Value.ref ob20), .val (Value.int (2 : Int32)), .val (Value.int (4 : Int32)), .val (Value.int (0 : Int32)), .val (Value.int (2 : Int32)), .val (Value.int (0 : Int32))] []))
        refine own_Go.by (fun tq kq => XS.iload X81.here hx rfl (hb hby at_161) rfl kq) ?_
        show own_Go p.tables e below _ (T81.setTop (mkF m 163 #[.val (Value.int p1), .val (Value.int p2), .val (Value.int p3), .val (Value.int p4), .val (Value.ref ob1), .val (Value.ref ob20), .val (Value.int (2 : Int32)), .val (Value.int (4 : Int32)), .val (Value.int (0 : Int32)), .val (Value.int (2 : Int32)), .val (Value.int (0 : Int32))] [(Value.int (0 : Int32))]))
        refine own_Go.by (fun tq kq => XS.iload X81.here hx rfl (hb hby at_163) rfl kq) ?_
        show own_Go p.tables e below _ (T81.setTop (mkF m 165 #[.val (Value.int p1), .val (Value.int p2), .val (Value.int p3), .val (Value.int p4), .val (Value.ref ob1), .val (Value.ref ob20), .val (Value.int (2 : Int32)), .val (Value.int (4 : Int32)), .val (Value.int (0 : Int32)), .val (Value.int (2 : Int32)), .val (Value.int (0 : Int32))] [(Value.int (0 : Int32)), (Value.int (0 : Int32))]))
        refine own_Go.by (fun tq kq => XS.icmpNo X81.here hx rfl (hb hby at_165) rfl (teq (by decide : (0 : Int32) = (0 : Int32))).2 kq) ?_
        show own_Go p.tables e below _ (T81.setTop (mkF m 168 #[.val (Value.int p1), .val (Value.int p2), .val (Value.int p3), .val (Value.int p4), .val (Value.ref ob1), .val (Value.ref ob20), .val (Value.int (2 : Int32)), .val (Value.int (4 : Int32)), .val (Value.int (0 : Int32)), .val (Value.int (2 : Int32)), .val (Value.int (0 : Int32))] []))
        refine own_Go.by (fun tq kq => XS.iconst X81.here hx rfl (hb hby at_168) kq) ?_
        show own_Go p.tables e below _ (T81.setTop (mkF m 169 #[.val (Value.int p1), .val (Value.int p2), .val (Value.int p3), .val (Value.int p4), .val (Value.ref ob1), .val (Value.ref ob20), .val (Value.int (2 : Int32)), .val (Value.int (4 : Int32)), .val (Value.int (0 : Int32)), .val (Value.int (2 : Int32)), .val (Value.int (0 : Int32))] [(Value.int (1 : Int32))]))
        refine own_Go.by (fun tq kq => XS.goto X81.here hx rfl (pc0 := 169) (pc' := 173) rfl (hb hby at_169) (by decide) (by decide) kq) ?_
        show own_Go p.tables e below _ (T81.setTop (mkF m 173 #[.val (Value.int p1), .val (Value.int p2), .val (Value.int p3), .val (Value.int p4), .val (Value.ref ob1), .val (Value.ref ob20), .val (Value.int (2 : Int32)), .val (Value.int (4 : Int32)), .val (Value.int (0 : Int32)), .val (Value.int (2 : Int32)), .val (Value.int (0 : Int32))] [(Value.int (1 : Int32))]))
        obtain ⟨fs, hr, hrun, hended, hW, hsame⟩ := X81.leave (v := some (Value.int (nar .boolean (1 : Int32)))) (fun h => by rw [Bd.returns] at h; cases h)
        refine own_Go.fin (retN X81 hx (t := .boolean) Bd.returns (by simp) (hb hby at_173) hr) ⟨hrun, hended, _, _, rfl, ?_, ⟨_, rfl⟩, hW, hsame.mono (by decide) (by decide)⟩
        show Q0 Z p1 p2 p3 p4 zc vf h0 n0 _ T81.heap _
        rw [e81]
        exact ⟨rfl, N81, K25⟩
  ·
    subst hq_frm
    show own_Go p.tables e below _ (T23.setTop (mkF m 62 #[.val (Value.int p1), .val (Value.int p2), .val (Value.int p3), .val (Value.int p4), .val (Value.ref ob1), .val (Value.ref ob20), .val (Value.int (3 : Int32)), .unset, .unset, .unset, .unset] []))
    refine own_Go.by (fun tq kq => XS.iload X23.here hx rfl (hb hby at_62) rfl kq) ?_
    show own_Go p.tables e below _ (T23.setTop (mkF m 64 #[.val (Value.int p1), .val (Value.int p2), .val (Value.int p3), .val (Value.int p4), .val (Value.ref ob1), .val (Value.ref ob20), .val (Value.int (3 : Int32)), .unset, .unset, .unset, .unset] [(Value.int (3 : Int32))]))
    refine own_Go.by (fun tq kq => XS.iloadN X23.here hx rfl (hb hby at_64) rfl kq) ?_
    show own_Go p.tables e below _ (T23.setTop (mkF m 65 #[.val (Value.int p1), .val (Value.int p2), .val (Value.int p3), .val (Value.int p4), .val (Value.ref ob1), .val (Value.ref ob20), .val (Value.int (3 : Int32)), .unset, .unset, .unset, .unset] [(Value.int p4), (Value.int (3 : Int32))]))
    refine own_Go.by (fun tq kq => X23.ldcInt hx hown (mvT hZ (hw _ (List.mem_of_getElem? (i := 34) rfl))) (g := (mkF m 65 #[.val (Value.int p1), .val (Value.int p2), .val (Value.int p3), .val (Value.int p4), .val (Value.ref ob1), .val (Value.ref ob20), .val (Value.int (3 : Int32)), .unset, .unset, .unset, .unset] [(Value.int p4), (Value.int (3 : Int32))])) rfl (hb hby at_65) _ kq) ?_
    show own_Go p.tables e below _ (T23.setTop (mkF m 67 #[.val (Value.int p1), .val (Value.int p2), .val (Value.int p3), .val (Value.int p4), .val (Value.ref ob1), .val (Value.ref ob20), .val (Value.int (3 : Int32)), .unset, .unset, .unset, .unset] [(Value.int (2147483647 : Int32)), (Value.int p4), (Value.int (3 : Int32))]))
    refine own_Go.by (fun tq kq => XS.iand X23.here hx rfl (hb hby at_67) rfl kq) ?_
    show own_Go p.tables e below _ (T23.setTop (mkF m 68 #[.val (Value.int p1), .val (Value.int p2), .val (Value.int p3), .val (Value.int p4), .val (Value.ref ob1), .val (Value.ref ob20), .val (Value.int (3 : Int32)), .unset, .unset, .unset, .unset] [(Value.int (p4 &&& (2147483647 : Int32))), (Value.int (3 : Int32))]))
    refine own_Go.by (fun tq kq => XS.iconst X23.here hx rfl (hb hby at_68) kq) ?_
    show own_Go p.tables e below _ (T23.setTop (mkF m 69 #[.val (Value.int p1), .val (Value.int p2), .val (Value.int p3), .val (Value.int p4), .val (Value.ref ob1), .val (Value.ref ob20), .val (Value.int (3 : Int32)), .unset, .unset, .unset, .unset] [(Value.int (5 : Int32)), (Value.int (p4 &&& (2147483647 : Int32))), (Value.int (3 : Int32))]))
    refine own_Go.by (fun tq kq => XS.iload X23.here hx rfl (hb hby at_69) rfl kq) ?_
    show own_Go p.tables e below _ (T23.setTop (mkF m 71 #[.val (Value.int p1), .val (Value.int p2), .val (Value.int p3), .val (Value.int p4), .val (Value.ref ob1), .val (Value.ref ob20), .val (Value.int (3 : Int32)), .unset, .unset, .unset, .unset] [(Value.int (3 : Int32)), (Value.int (5 : Int32)), (Value.int (p4 &&& (2147483647 : Int32))), (Value.int (3 : Int32))]))
    refine own_Go.by (fun tq kq => XS.isub X23.here hx rfl (hb hby at_71) rfl kq) ?_
    show own_Go p.tables e below _ (T23.setTop (mkF m 72 #[.val (Value.int p1), .val (Value.int p2), .val (Value.int p3), .val (Value.int p4), .val (Value.ref ob1), .val (Value.ref ob20), .val (Value.int (3 : Int32)), .unset, .unset, .unset, .unset] [(Value.int (2 : Int32)), (Value.int (p4 &&& (2147483647 : Int32))), (Value.int (3 : Int32))]))
    refine own_Go.by (fun tq kq => iremM (g := (mkF m 72 #[.val (Value.int p1), .val (Value.int p2), .val (Value.int p3), .val (Value.int p4), .val (Value.ref ob1), .val (Value.ref ob20), .val (Value.int (3 : Int32)), .unset, .unset, .unset, .unset] [(Value.int (2 : Int32)), (Value.int (p4 &&& (2147483647 : Int32))), (Value.int (3 : Int32))])) X23 hx rfl (hb hby at_72) rfl (by decide) kq) ?_
    show own_Go p.tables e below _ (T23.setTop (mkF m 73 #[.val (Value.int p1), .val (Value.int p2), .val (Value.int p3), .val (Value.int p4), .val (Value.ref ob1), .val (Value.ref ob20), .val (Value.int (3 : Int32)), .unset, .unset, .unset, .unset] [(Value.int ((p4 &&& (2147483647 : Int32)) % (2 : Int32))), (Value.int (3 : Int32))]))
    generalize hv_rr : ((p4 &&& (2147483647 : Int32)) % (2 : Int32)) = rr
    rcases own_mod2 hv_rr with hq_rr | hq_rr
    ·
      subst hq_rr
      show own_Go p.tables e below _ (T23.setTop (mkF m 73 #[.val (Value.int p1), .val (Value.int p2), .val (Value.int p3), .val (Value.int p4), .val (Value.ref ob1), .val (Value.ref ob20), .val (Value.int (3 : Int32)), .unset, .unset, .unset, .unset] [(Value.int (0 : Int32)), (Value.int (3 : Int32))]))
      refine own_Go.by (fun tq kq => XS.iadd X23.here hx rfl (hb hby at_73) rfl kq) ?_
      show own_Go p.tables e below _ (T23.setTop (mkF m 74 #[.val (Value.int p1), .val (Value.int p2), .val (Value.int p3), .val (Value.int p4), .val (Value.ref ob1), .val (Value.ref ob20), .val (Value.int (3 : Int32)), .unset, .unset, .unset, .unset] [(Value.int (3 : Int32))]))
      refine own_Go.by (fun tq kq => XS.istore X23.here hx rfl (hb hby at_74) rfl (l' := #[.val (Value.int p1), .val (Value.int p2), .val (Value.int p3), .val (Value.int p4), .val (Value.ref ob1), .val (Value.ref ob20), .val (Value.int (3 : Int32)), .val (Value.int (3 : Int32)), .unset, .unset, .unset]) rfl kq) ?_
      show own_Go p.tables e below _ (T23.setTop (mkF m 76 #[.val (Value.int p1), .val (Value.int p2), .val (Value.int p3), .val (Value.int p4), .val (Value.ref ob1), .val (Value.ref ob20), .val (Value.int (3 : Int32)), .val (Value.int (3 : Int32)), .unset, .unset, .unset] []))
      refine own_Go.by (fun tq kq => XS.aload X23.here hx rfl (hb hby at_76) rfl rfl kq) ?_
      show own_Go p.tables e below _ (T23.setTop (mkF m 78 #[.val (Value.int p1), .val (Value.int p2), .val (Value.int p3), .val (Value.int p4), .val (Value.ref ob1), .val (Value.ref ob20), .val (Value.int (3 : Int32)), .val (Value.int (3 : Int32)), .unset, .unset, .unset] [(Value.ref ob20)]))
      refine own_Go.by (fun tq kq => XS.iload X23.here hx rfl (hb hby at_78) rfl kq) ?_
      show own_Go p.tables e below _ (T23.setTop (mkF m 80 #[.val (Value.int p1), .val (Value.int p2), .val (Value.int p3), .val (Value.int p4), .val (Value.ref ob1), .val (Value.ref ob20), .val (Value.int (3 : Int32)), .val (Value.int (3 : Int32)), .unset, .unset, .unset] [(Value.int (3 : Int32)), (Value.ref ob20)]))
      refine own_Go.by (fun tq kq => XS.iload X23.here hx rfl (hb hby at_80) rfl kq) ?_
      show own_Go p.tables e below _ (T23.setTop (mkF m 82 #[.val (Value.int p1), .val (Value.int p2), .val (Value.int p3), .val (Value.int p4), .val (Value.ref ob1), .val (Value.ref ob20), .val (Value.int (3 : Int32)), .val (Value.int (3 : Int32)), .unset, .unset, .unset] [(Value.int (3 : Int32)), (Value.int (3 : Int32)), (Value.ref ob20)]))
      obtain ⟨_, _, ⟨T84, L84, k84, n84⟩, -, X84, ⟨Lc84, hQ84, l84, y84, z84⟩, st84⟩ := Jvm.LawKit.callS X23 hx (y := (⟨"com/example/enlace/enlace/DotSegments", "isDotSegment", "(Ljava/lang/String;II)Z"⟩ : MethodName)) hown (mvT hZ (hw _ (List.mem_of_getElem? (i := 35) rfl))) (mvT hZ (hw _ (List.mem_of_getElem? (i := 36) rfl))) (mvT hZ (hw _ (List.mem_of_getElem? (i := 37) rfl))) (mvT hZ (hw _ (List.mem_of_getElem? (i := 38) rfl))) (by decide) (backOf (W := 0) (rm8_3_3_x l Z a0 hw [] ob20 t23 kb23 r_4 r_8 r_12 r_16 zc vf T23.heap n0 O25 E23q V23q C23q A23q (hp23 : ∀ c ∈ ([r_4, r_8, r_12, r_16] : List Int32), ¬ c < 0 ∧ ¬ (255 : Int32) < c) H0 H1 (hzc : ¬ (zc = (0 : Int32))) (rvf : vf.isRef = true)) hZ (hw _ (List.mem_of_getElem? (i := 38) rfl)) (hw _ (List.mem_of_getElem? (i := 37) rfl)) (by decide) (by decide)) (g := (mkF m 82 #[.val (Value.int p1), .val (Value.int p2), .val (Value.int p3), .val (Value.int p4), .val (Value.ref ob1), .val (Value.ref ob20), .val (Value.int (3 : Int32)), .val (Value.int (3 : Int32)), .unset, .unset, .unset] [(Value.int (3 : Int32)), (Value.int (3 : Int32)), (Value.ref ob20)])) rfl (by rw [hml]; rfl) (argsL := [(Value.ref ob20), (Value.int (3 : Int32)), (Value.int (3 : Int32))]) (rest := []) (lenOf own_pd2 rfl) rfl (by show 2 * 0 + _ ≤ _; exact Nat.le_of_eq rfl) (hb hby at_82) (fun _ _ => ⟨rfl, rfl, (by decide : 3 + 0 ≤ _), (by decide : 12 + 0 ≤ _)⟩)
      dsimp only [Pt.U, Pt.locs, Pt.cells, Pt.slots] at X84 l84 y84 z84 st84 hQ84
      subst l84 y84 z84
      refine own_Go.by st84 ?_
      obtain ⟨rfl, N84q, e84⟩ := hQ84
      have N84 := Fr.app N23 N84q
      show own_Go p.tables e below _ (T84.setTop (mkF m 85 #[.val (Value.int p1), .val (Value.int p2), .val (Value.int p3), .val (Value.int p4), .val (Value.ref ob1), .val (Value.ref ob20), .val (Value.int (3 : Int32)), .val (Value.int (3 : Int32)), .unset, .unset, .unset] [(Value.int (0 : Int32))]))
      refine own_Go.by (fun tq kq => XS.istore X84.here hx rfl (hb hby at_85) rfl (l' := #[.val (Value.int p1), .val (Value.int p2), .val (Value.int p3), .val (Value.int p4), .val (Value.ref ob1), .val (Value.ref ob20), .val (Value.int (3 : Int32)), .val (Value.int (3 : Int32)), .val (Value.int (0 : Int32)), .unset, .unset]) rfl kq) ?_
      show own_Go p.tables e below _ (T84.setTop (mkF m 87 #[.val (Value.int p1), .val (Value.int p2), .val (Value.int p3), .val (Value.int p4), .val (Value.ref ob1), .val (Value.ref ob20), .val (Value.int (3 : Int32)), .val (Value.int (3 : Int32)), .val (Value.int (0 : Int32)), .unset, .unset] []))
      refine own_Go.by (fun tq kq => XS.iload X84.here hx rfl (hb hby at_87) rfl kq) ?_
      show own_Go p.tables e below _ (T84.setTop (mkF m 89 #[.val (Value.int p1), .val (Value.int p2), .val (Value.int p3), .val (Value.int p4), .val (Value.ref ob1), .val (Value.ref ob20), .val (Value.int (3 : Int32)), .val (Value.int (3 : Int32)), .val (Value.int (0 : Int32)), .unset, .unset] [(Value.int (3 : Int32))]))
      refine own_Go.by (fun tq kq => XS.iload X84.here hx rfl (hb hby at_89) rfl kq) ?_
      show own_Go p.tables e below _ (T84.setTop (mkF m 91 #[.val (Value.int p1), .val (Value.int p2), .val (Value.int p3), .val (Value.int p4), .val (Value.ref ob1), .val (Value.ref ob20), .val (Value.int (3 : Int32)), .val (Value.int (3 : Int32)), .val (Value.int (0 : Int32)), .unset, .unset] [(Value.int (3 : Int32)), (Value.int (3 : Int32))]))
      refine own_Go.by (fun tq kq => XS.isub X84.here hx rfl (hb hby at_91) rfl kq) ?_
      show own_Go p.tables e below _ (T84.setTop (mkF m 92 #[.val (Value.int p1), .val (Value.int p2), .val (Value.int p3), .val (Value.int p4), .val (Value.ref ob1), .val (Value.ref ob20), .val (Value.int (3 : Int32)), .val (Value.int (3 : Int32)), .val (Value.int (0 : Int32)), .unset, .unset] [(Value.int (0 : Int32))]))
      refine own_Go.by (fun tq kq => XS.istore X84.here hx rfl (hb hby at_92) rfl (l' := #[.val (Value.int p1), .val (Value.int p2), .val (Value.int p3), .val (Value.int p4), .val (Value.ref ob1), .val (Value.ref ob20), .val (Value.int (3 : Int32)), .val (Value.int (3 : Int32)), .val (Value.int (0 : Int32)), .val (Value.int (0 : Int32)), .unset]) rfl kq) ?_
      show own_Go p.tables e below _ (T84.setTop (mkF m 94 #[.val (Value.int p1), .val (Value.int p2), .val (Value.int p3), .val (Value.int p4), .val (Value.ref ob1), .val (Value.ref ob20), .val (Value.int (3 : Int32)), .val (Value.int (3 : Int32)), .val (Value.int (0 : Int32)), .val (Value.int (0 : Int32)), .unset] []))
      refine own_Go.by (fun tq kq => XS.iload X84.here hx rfl (hb hby at_94) rfl kq) ?_
      show own_Go p.tables e below _ (T84.setTop (mkF m 96 #[.val (Value.int p1), .val (Value.int p2), .val (Value.int p3), .val (Value.int p4), .val (Value.ref ob1), .val (Value.ref ob20), .val (Value.int (3 : Int32)), .val (Value.int (3 : Int32)), .val (Value.int (0 : Int32)), .val (Value.int (0 : Int32)), .unset] [(Value.int (0 : Int32))]))
      refine own_Go.by (fun tq kq => XS.iconst X84.here hx rfl (hb hby at_96) kq) ?_
      show own_Go p.tables e below _ (T84.setTop (mkF m 97 #[.val (Value.int p1), .val (Value.int p2), .val (Value.int p3), .val (Value.int p4), .val (Value.ref ob1), .val (Value.ref ob20), .val (Value.int (3 : Int32)), .val (Value.int (3 : Int32)), .val (Value.int (0 : Int32)), .val (Value.int (0 : Int32)), .unset] [(Value.int (1 : Int32)), (Value.int (0 : Int32))]))
      refine own_Go.by (fun tq kq => XS.icmpYes X84.here hx rfl (pc0 := 97) (pc' := 120) rfl (hb hby at_97) rfl (feq (by decide : ¬ ((0 : Int32) = (1 : Int32)))).2 (by decide) (by decide) kq) ?_
      show own_Go p.tables e below _ (T84.setTop (mkF m 120 #[.val (Value.int p1), .val (Value.int p2), .val (Value.int p3), .val (Value.int p4), .val (Value.ref ob1), .val (Value.ref ob20), .val (Value.int (3 : Int32)), .val (Value.int (3 : Int32)), .val (Value.int (0 : Int32)), .val (Value.int (0 : Int32)), .unset] []))
      refine own_Go.by (fun tq kq => XS.iload X84.here hx rfl (hb hby at_120) rfl kq) ?_
      show own_Go p.tables e below _ (T84.setTop (mkF m 122 #[.val (Value.int p1), .val (Value.int p2), .val (Value.int p3), .val (Value.int p4), .val (Value.ref ob1), .val (Value.ref ob20), .val (Value.int (3 : Int32)), .val (Value.int (3 : Int32)), .val (Value.int (0 : Int32)), .val (Value.int (0 : Int32)), .unset] [(Value.int (0 : Int32))]))
      refine own_Go.by (fun tq kq => XS.iconst X84.here hx rfl (hb hby at_122) kq) ?_
      show own_Go p.tables e below _ (T84.setTop (mkF m 123 #[.val (Value.int p1), .val (Value.int p2), .val (Value.int p3), .val (Value.int p4), .val (Value.ref ob1), .val (Value.ref ob20), .val (Value.int (3 : Int32)), .val (Value.int (3 : Int32)), .val (Value.int (0 : Int32)), .val (Value.int (0 : Int32)), .unset] [(Value.int (2 : Int32)), (Value.int (0 : Int32))]))
      refine own_Go.by (fun tq kq => XS.icmpYes X84.here hx rfl (pc0 := 123) (pc' := 158) rfl (hb hby at_123) rfl (feq (by decide : ¬ ((0 : Int32) = (2 : Int32)))).2 (by decide) (by decide) kq) ?_
      show own_Go p.tables e below _ (T84.setTop (mkF m 158 #[.val (Value.int p1), .val (Value.int p2), .val (Value.int p3), .val (Value.int p4), .val (Value.ref ob1), .val (Value.ref ob20), .val (Value.int (3 : Int32)), .val (Value.int (3 : Int32)), .val (Value.int (0 : Int32)), .val (Value.int (0 : Int32)), .unset] []))
      refine own_Go.by (fun tq kq => XS.iconst X84.here hx rfl (hb hby at_158) kq) ?_
      show own_Go p.tables e below _ (T84.setTop (mkF m 159 #[.val (Value.int p1), .val (Value.int p2), .val (Value.int p3), .val (Value.int p4), .val (Value.ref ob1), .val (Value.ref ob20), .val (Value.int (3 : Int32)), .val (Value.int (3 : Int32)), .val (Value.int (0 : Int32)), .val (Value.int (0 : Int32)), .unset] [(Value.int (0 : Int32))]))
      refine own_Go.by (fun tq kq => XS.istore X84.here hx rfl (hb hby at_159) rfl (l' := #[.val (Value.int p1), .val (Value.int p2), .val (Value.int p3), .val (Value.int p4), .val (Value.ref ob1), .val (Value.ref ob20), .val (Value.int (3 : Int32)), .val (Value.int (3 : Int32)), .val (Value.int (0 : Int32)), .val (Value.int (0 : Int32)), .val (Value.int (0 : Int32))]) rfl kq) ?_
      show own_Go p.tables e below _ (T84.setTop (mkF m 161 #[.val (Value.int p1), .val (Value.int p2), .val (Value.int p3), .val (Value.int p4), .val (Value.ref ob1), .val (Value.ref ob20), .val (Value.int (3 : Int32)), .val (Value.int (3 : Int32)), .val (Value.int (0 : Int32)), .val (Value.int (0 : Int32)), .val (Value.int (0 : Int32))] []))
      refine own_Go.by (fun tq kq => XS.iload X84.here hx rfl (hb hby at_161) rfl kq) ?_
      show own_Go p.tables e below _ (T84.setTop (mkF m 163 #[.val (Value.int p1), .val (Value.int p2), .val (Value.int p3), .val (Value.int p4), .val (Value.ref ob1), .val (Value.ref ob20), .val (Value.int (3 : Int32)), .val (Value.int (3 : Int32)), .val (Value.int (0 : Int32)), .val (Value.int (0 : Int32)), .val (Value.int (0 : Int32))] [(Value.int (0 : Int32))]))
      refine own_Go.by (fun tq kq => XS.iload X84.here hx rfl (hb hby at_163) rfl kq) ?_
      show own_Go p.tables e below _ (T84.setTop (mkF m 165 #[.val (Value.int p1), .val (Value.int p2), .val (Value.int p3), .val (Value.int p4), .val (Value.ref ob1), .val (Value.ref ob20), .val (Value.int (3 : Int32)), .val (Value.int (3 : Int32)), .val (Value.int (0 : Int32)), .val (Value.int (0 : Int32)), .val (Value.int (0 : Int32))] [(Value.int (0 : Int32)), (Value.int (0 : Int32))]))
      refine own_Go.by (fun tq kq => XS.icmpNo X84.here hx rfl (hb hby at_165) rfl (teq (by decide : (0 : Int32) = (0 : Int32))).2 kq) ?_
      show own_Go p.tables e below _ (T84.setTop (mkF m 168 #[.val (Value.int p1), .val (Value.int p2), .val (Value.int p3), .val (Value.int p4), .val (Value.ref ob1), .val (Value.ref ob20), .val (Value.int (3 : Int32)), .val (Value.int (3 : Int32)), .val (Value.int (0 : Int32)), .val (Value.int (0 : Int32)), .val (Value.int (0 : Int32))] []))
      refine own_Go.by (fun tq kq => XS.iconst X84.here hx rfl (hb hby at_168) kq) ?_
      show own_Go p.tables e below _ (T84.setTop (mkF m 169 #[.val (Value.int p1), .val (Value.int p2), .val (Value.int p3), .val (Value.int p4), .val (Value.ref ob1), .val (Value.ref ob20), .val (Value.int (3 : Int32)), .val (Value.int (3 : Int32)), .val (Value.int (0 : Int32)), .val (Value.int (0 : Int32)), .val (Value.int (0 : Int32))] [(Value.int (1 : Int32))]))
      refine own_Go.by (fun tq kq => XS.goto X84.here hx rfl (pc0 := 169) (pc' := 173) rfl (hb hby at_169) (by decide) (by decide) kq) ?_
      show own_Go p.tables e below _ (T84.setTop (mkF m 173 #[.val (Value.int p1), .val (Value.int p2), .val (Value.int p3), .val (Value.int p4), .val (Value.ref ob1), .val (Value.ref ob20), .val (Value.int (3 : Int32)), .val (Value.int (3 : Int32)), .val (Value.int (0 : Int32)), .val (Value.int (0 : Int32)), .val (Value.int (0 : Int32))] [(Value.int (1 : Int32))]))
      obtain ⟨fs, hr, hrun, hended, hW, hsame⟩ := X84.leave (v := some (Value.int (nar .boolean (1 : Int32)))) (fun h => by rw [Bd.returns] at h; cases h)
      refine own_Go.fin (retN X84 hx (t := .boolean) Bd.returns (by simp) (hb hby at_173) hr) ⟨hrun, hended, _, _, rfl, ?_, ⟨_, rfl⟩, hW, hsame.mono (by decide) (by decide)⟩
      show Q0 Z p1 p2 p3 p4 zc vf h0 n0 _ T84.heap _
      rw [e84]
      exact ⟨rfl, N84, K25⟩
    ·
      subst hq_rr
      show own_Go p.tables e below _ (T23.setTop (mkF m 73 #[.val (Value.int p1), .val (Value.int p2), .val (Value.int p3), .val (Value.int p4), .val (Value.ref ob1), .val (Value.ref ob20), .val (Value.int (3 : Int32)), .unset, .unset, .unset, .unset] [(Value.int (1 : Int32)), (Value.int (3 : Int32))]))
      refine own_Go.by (fun tq kq => XS.iadd X23.here hx rfl (hb hby at_73) rfl kq) ?_
      show own_Go p.tables e below _ (T23.setTop (mkF m 74 #[.val (Value.int p1), .val (Value.int p2), .val (Value.int p3), .val (Value.int p4), .val (Value.ref ob1), .val (Value.ref ob20), .val (Value.int (3 : Int32)), .unset, .unset, .unset, .unset] [(Value.int (4 : Int32))]))
      refine own_Go.by (fun tq kq => XS.istore X23.here hx rfl (hb hby at_74) rfl (l' := #[.val (Value.int p1), .val (Value.int p2), .val (Value.int p3), .val (Value.int p4), .val (Value.ref ob1), .val (Value.ref ob20), .val (Value.int (3 : Int32)), .val (Value.int (4 : Int32)), .unset, .unset, .unset]) rfl kq) ?_
      by_cases hdot : r_16 = (46 : Int32)
      ·
        show own_Go p.tables e below _ (T23.setTop (mkF m 76 #[.val (Value.int p1), .val (Value.int p2), .val (Value.int p3), .val (Value.int p4), .val (Value.ref ob1), .val (Value.ref ob20), .val (Value.int (3 : Int32)), .val (Value.int (4 : Int32)), .unset, .unset, .unset] []))
        refine own_Go.by (fun tq kq => XS.aload X23.here hx rfl (hb hby at_76) rfl rfl kq) ?_
        show own_Go p.tables e below _ (T23.setTop (mkF m 78 #[.val (Value.int p1), .val (Value.int p2), .val (Value.int p3), .val (Value.int p4), .val (Value.ref ob1), .val (Value.ref ob20), .val (Value.int (3 : Int32)), .val (Value.int (4 : Int32)), .unset, .unset, .unset] [(Value.ref ob20)]))
        refine own_Go.by (fun tq kq => XS.iload X23.here hx rfl (hb hby at_78) rfl kq) ?_
        show own_Go p.tables e below _ (T23.setTop (mkF m 80 #[.val (Value.int p1), .val (Value.int p2), .val (Value.int p3), .val (Value.int p4), .val (Value.ref ob1), .val (Value.ref ob20), .val (Value.int (3 : Int32)), .val (Value.int (4 : Int32)), .unset, .unset, .unset] [(Value.int (3 : Int32)), (Value.ref ob20)]))
        refine own_Go.by (fun tq kq => XS.iload X23.here hx rfl (hb hby at_80) rfl kq) ?_
        show own_Go p.tables e below _ (T23.setTop (mkF m 82 #[.val (Value.int p1), .val (Value.int p2), .val (Value.int p3), .val (Value.int p4), .val (Value.ref ob1), .val (Value.ref ob20), .val (Value.int (3 : Int32)), .val (Value.int (4 : Int32)), .unset, .unset, .unset] [(Value.int (4 : Int32)), (Value.int (3 : Int32)), (Value.ref ob20)]))
        obtain ⟨_, _, ⟨T85, L85, k85, n85⟩, -, X85, ⟨Lc85, hQ85, l85, y85, z85⟩, st85⟩ := Jvm.LawKit.callS X23 hx (y := (⟨"com/example/enlace/enlace/DotSegments", "isDotSegment", "(Ljava/lang/String;II)Z"⟩ : MethodName)) hown (mvT hZ (hw _ (List.mem_of_getElem? (i := 35) rfl))) (mvT hZ (hw _ (List.mem_of_getElem? (i := 36) rfl))) (mvT hZ (hw _ (List.mem_of_getElem? (i := 37) rfl))) (mvT hZ (hw _ (List.mem_of_getElem? (i := 38) rfl))) (by decide) (backOf (W := 0) (rm8_3_4_t l Z a0 hw [] ob20 t23 kb23 r_4 r_8 r_12 r_16 zc vf T23.heap n0 O25 E23q V23q C23q A23q (hp23 : ∀ c ∈ ([r_4, r_8, r_12, r_16] : List Int32), ¬ c < 0 ∧ ¬ (255 : Int32) < c) H0 H1 (hzc : ¬ (zc = (0 : Int32))) (rvf : vf.isRef = true) hdot) hZ (hw _ (List.mem_of_getElem? (i := 38) rfl)) (hw _ (List.mem_of_getElem? (i := 37) rfl)) (by decide) (by decide)) (g := (mkF m 82 #[.val (Value.int p1), .val (Value.int p2), .val (Value.int p3), .val (Value.int p4), .val (Value.ref ob1), .val (Value.ref ob20), .val (Value.int (3 : Int32)), .val (Value.int (4 : Int32)), .unset, .unset, .unset] [(Value.int (4 : Int32)), (Value.int (3 : Int32)), (Value.ref ob20)])) rfl (by rw [hml]; rfl) (argsL := [(Value.ref ob20), (Value.int (3 : Int32)), (Value.int (4 : Int32))]) (rest := []) (lenOf own_pd2 rfl) rfl (by show 2 * 0 + _ ≤ _; exact Nat.le_of_eq rfl) (hb hby at_82) (fun _ _ => ⟨rfl, rfl, (by decide : 3 + 0 ≤ _), (by decide : 12 + 0 ≤ _)⟩)
        dsimp only [Pt.U, Pt.locs, Pt.cells, Pt.slots] at X85 l85 y85 z85 st85 hQ85
        subst l85 y85 z85
        refine own_Go.by st85 ?_
        obtain ⟨rfl, N85q, e85⟩ := hQ85
        have N85 := Fr.app N23 N85q
        show own_Go p.tables e below _ (T85.setTop (mkF m 85 #[.val (Value.int p1), .val (Value.int p2), .val (Value.int p3), .val (Value.int p4), .val (Value.ref ob1), .val (Value.ref ob20), .val (Value.int (3 : Int32)), .val (Value.int (4 : Int32)), .unset, .unset, .unset] [(Value.int (1 : Int32))]))
        refine own_Go.by (fun tq kq => XS.istore X85.here hx rfl (hb hby at_85) rfl (l' := #[.val (Value.int p1), .val (Value.int p2), .val (Value.int p3), .val (Value.int p4), .val (Value.ref ob1), .val (Value.ref ob20), .val (Value.int (3 : Int32)), .val (Value.int (4 : Int32)), .val (Value.int (1 : Int32)), .unset, .unset]) rfl kq) ?_
        show own_Go p.tables e below _ (T85.setTop (mkF m 87 #[.val (Value.int p1), .val (Value.int p2), .val (Value.int p3), .val (Value.int p4), .val (Value.ref ob1), .val (Value.ref ob20), .val (Value.int (3 : Int32)), .val (Value.int (4 : Int32)), .val (Value.int (1 : Int32)), .unset, .unset] []))
        refine own_Go.by (fun tq kq => XS.iload X85.here hx rfl (hb hby at_87) rfl kq) ?_
        show own_Go p.tables e below _ (T85.setTop (mkF m 89 #[.val (Value.int p1), .val (Value.int p2), .val (Value.int p3), .val (Value.int p4), .val (Value.ref ob1), .val (Value.ref ob20), .val (Value.int (3 : Int32)), .val (Value.int (4 : Int32)), .val (Value.int (1 : Int32)), .unset, .unset] [(Value.int (4 : Int32))]))
        refine own_Go.by (fun tq kq => XS.iload X85.here hx rfl (hb hby at_89) rfl kq) ?_
        show own_Go p.tables e below _ (T85.setTop (mkF m 91 #[.val (Value.int p1), .val (Value.int p2), .val (Value.int p3), .val (Value.int p4), .val (Value.ref ob1), .val (Value.ref ob20), .val (Value.int (3 : Int32)), .val (Value.int (4 : Int32)), .val (Value.int (1 : Int32)), .unset, .unset] [(Value.int (3 : Int32)), (Value.int (4 : Int32))]))
        refine own_Go.by (fun tq kq => XS.isub X85.here hx rfl (hb hby at_91) rfl kq) ?_
        show own_Go p.tables e below _ (T85.setTop (mkF m 92 #[.val (Value.int p1), .val (Value.int p2), .val (Value.int p3), .val (Value.int p4), .val (Value.ref ob1), .val (Value.ref ob20), .val (Value.int (3 : Int32)), .val (Value.int (4 : Int32)), .val (Value.int (1 : Int32)), .unset, .unset] [(Value.int (1 : Int32))]))
        refine own_Go.by (fun tq kq => XS.istore X85.here hx rfl (hb hby at_92) rfl (l' := #[.val (Value.int p1), .val (Value.int p2), .val (Value.int p3), .val (Value.int p4), .val (Value.ref ob1), .val (Value.ref ob20), .val (Value.int (3 : Int32)), .val (Value.int (4 : Int32)), .val (Value.int (1 : Int32)), .val (Value.int (1 : Int32)), .unset]) rfl kq) ?_
        show own_Go p.tables e below _ (T85.setTop (mkF m 94 #[.val (Value.int p1), .val (Value.int p2), .val (Value.int p3), .val (Value.int p4), .val (Value.ref ob1), .val (Value.ref ob20), .val (Value.int (3 : Int32)), .val (Value.int (4 : Int32)), .val (Value.int (1 : Int32)), .val (Value.int (1 : Int32)), .unset] []))
        refine own_Go.by (fun tq kq => XS.iload X85.here hx rfl (hb hby at_94) rfl kq) ?_
        show own_Go p.tables e below _ (T85.setTop (mkF m 96 #[.val (Value.int p1), .val (Value.int p2), .val (Value.int p3), .val (Value.int p4), .val (Value.ref ob1), .val (Value.ref ob20), .val (Value.int (3 : Int32)), .val (Value.int (4 : Int32)), .val (Value.int (1 : Int32)), .val (Value.int (1 : Int32)), .unset] [(Value.int (1 : Int32))]))
        refine own_Go.by (fun tq kq => XS.iconst X85.here hx rfl (hb hby at_96) kq) ?_
        show own_Go p.tables e below _ (T85.setTop (mkF m 97 #[.val (Value.int p1), .val (Value.int p2), .val (Value.int p3), .val (Value.int p4), .val (Value.ref ob1), .val (Value.ref ob20), .val (Value.int (3 : Int32)), .val (Value.int (4 : Int32)), .val (Value.int (1 : Int32)), .val (Value.int (1 : Int32)), .unset] [(Value.int (1 : Int32)), (Value.int (1 : Int32))]))
        refine own_Go.by (fun tq kq => XS.icmpNo X85.here hx rfl (hb hby at_97) rfl (teq (by decide : (1 : Int32) = (1 : Int32))).2 kq) ?_
        show own_Go p.tables e below _ (T85.setTop (mkF m 100 #[.val (Value.int p1), .val (Value.int p2), .val (Value.int p3), .val (Value.int p4), .val (Value.ref ob1), .val (Value.ref ob20), .val (Value.int (3 : Int32)), .val (Value.int (4 : Int32)), .val (Value.int (1 : Int32)), .val (Value.int (1 : Int32)), .unset] []))
        refine own_Go.by (fun tq kq => XS.aload X85.here hx rfl (hb hby at_100) rfl rfl kq) ?_
        show own_Go p.tables e below _ (T85.setTop (mkF m 102 #[.val (Value.int p1), .val (Value.int p2), .val (Value.int p3), .val (Value.int p4), .val (Value.ref ob1), .val (Value.ref ob20), .val (Value.int (3 : Int32)), .val (Value.int (4 : Int32)), .val (Value.int (1 : Int32)), .val (Value.int (1 : Int32)), .unset] [(Value.ref ob1)]))
        refine own_Go.by (fun tq kq => XS.iload X85.here hx rfl (hb hby at_102) rfl kq) ?_
        show own_Go p.tables e below _ (T85.setTop (mkF m 104 #[.val (Value.int p1), .val (Value.int p2), .val (Value.int p3), .val (Value.int p4), .val (Value.ref ob1), .val (Value.ref ob20), .val (Value.int (3 : Int32)), .val (Value.int (4 : Int32)), .val (Value.int (1 : Int32)), .val (Value.int (1 : Int32)), .unset] [(Value.int (3 : Int32)), (Value.ref ob1)]))
        have c86 := (c24.keep K23q (ninS (Nat.ne_of_lt (Nat.lt_of_lt_of_le A1.lt (Nat.le_trans (Keep.of_wr W6).1 (Nat.le_trans (Keep.of_wr W10).1 (Nat.le_trans (Keep.of_wr W14).1 (Nat.le_trans (Keep.of_wr W18).1 (Nat.le_of_eq y20.symm))))))) nin0))
        obtain ⟨cl87, Ar87, q87, S87, M87, Hh87, G87⟩ := id c86
        refine own_Go.by (fun tq kq => X85.caload hx (j := (3 : Int32)) (v := (Value.int r_16)) (by rw [e85]; exact Ar87.1) (State.isArrayOf_alike hZ.alike Ar87.2.1) Ar87.2.2 (inb_of S87 ⟨(by decide : ¬ ((3 : Int32) < (0 : Int32))), (by decide : (3 : Int32) < (4 : Int32))⟩) (Has.at Hh87 (inb_of S87 ⟨(by decide : ¬ ((3 : Int32) < (0 : Int32))), (by decide : (3 : Int32) < (4 : Int32))⟩) (rfl : _ = (Value.int r_16))) (g := (mkF m 104 #[.val (Value.int p1), .val (Value.int p2), .val (Value.int p3), .val (Value.int p4), .val (Value.ref ob1), .val (Value.ref ob20), .val (Value.int (3 : Int32)), .val (Value.int (4 : Int32)), .val (Value.int (1 : Int32)), .val (Value.int (1 : Int32)), .unset] [(Value.int (3 : Int32)), (Value.ref ob1)])) rfl rfl (hb hby at_104) _ kq) ?_
        show own_Go p.tables e below _ (T85.setTop (mkF m 105 #[.val (Value.int p1), .val (Value.int p2), .val (Value.int p3), .val (Value.int p4), .val (Value.ref ob1), .val (Value.ref ob20), .val (Value.int (3 : Int32)), .val (Value.int (4 : Int32)), .val (Value.int (1 : Int32)), .val (Value.int (1 : Int32)), .unset] [(Value.int r_16)]))
        refine own_Go.by (fun tq kq => XS.bipush X85.here hx rfl (hb hby at_105) kq) ?_
        show own_Go p.tables e below _ (T85.setTop (mkF m 107 #[.val (Value.int p1), .val (Value.int p2), .val (Value.int p3), .val (Value.int p4), .val (Value.ref ob1), .val (Value.ref ob20), .val (Value.int (3 : Int32)), .val (Value.int (4 : Int32)), .val (Value.int (1 : Int32)), .val (Value.int (1 : Int32)), .unset] [(Value.int (46 : Int32)), (Value.int r_16)]))
        refine own_Go.by (fun tq kq => XS.icmpNo X85.here hx rfl (hb hby at_107) rfl (teq hdot).2 kq) ?_
        show own_Go p.tables e below _ (T85.setTop (mkF m 110 #[.val (Value.int p1), .val (Value.int p2), .val (Value.int p3), .val (Value.int p4), .val (Value.ref ob1), .val (Value.ref ob20), .val (Value.int (3 : Int32)), .val (Value.int (4 : Int32)), .val (Value.int (1 : Int32)), .val (Value.int (1 : Int32)), .unset] []))
        refine own_Go.by (fun tq kq => XS.iconst X85.here hx rfl (hb hby at_110) kq) ?_
        show own_Go p.tables e below _ (T85.setTop (mkF m 111 #[.val (Value.int p1), .val (Value.int p2), .val (Value.int p3), .val (Value.int p4), .val (Value.ref ob1), .val (Value.ref ob20), .val (Value.int (3 : Int32)), .val (Value.int (4 : Int32)), .val (Value.int (1 : Int32)), .val (Value.int (1 : Int32)), .unset] [(Value.int (1 : Int32))]))
        refine own_Go.by (fun tq kq => XS.goto X85.here hx rfl (pc0 := 111) (pc' := 115) rfl (hb hby at_111) (by decide) (by decide) kq) ?_
        show own_Go p.tables e below _ (T85.setTop (mkF m 115 #[.val (Value.int p1), .val (Value.int p2), .val (Value.int p3), .val (Value.int p4), .val (Value.ref ob1), .val (Value.ref ob20), .val (Value.int (3 : Int32)), .val (Value.int (4 : Int32)), .val (Value.int (1 : Int32)), .val (Value.int (1 : Int32)), .unset] [(Value.int (1 : Int32))]))
        refine own_Go.by (fun tq kq => XS.istore X85.here hx rfl (hb hby at_115) rfl (l' := #[.val (Value.int p1), .val (Value.int p2), .val (Value.int p3), .val (Value.int p4), .val (Value.ref ob1), .val (Value.ref ob20), .val (Value.int (3 : Int32)), .val (Value.int (4 : Int32)), .val (Value.int (1 : Int32)), .val (Value.int (1 : Int32)), .val (Value.int (1 : Int32))]) rfl kq) ?_
        show own_Go p.tables e below _ (T85.setTop (mkF m 117 #[.val (Value.int p1), .val (Value.int p2), .val (Value.int p3), .val (Value.int p4), .val (Value.ref ob1), .val (Value.ref ob20), .val (Value.int (3 : Int32)), .val (Value.int (4 : Int32)), .val (Value.int (1 : Int32)), .val (Value.int (1 : Int32)), .val (Value.int (1 : Int32))] []))
        refine own_Go.by (fun tq kq => XS.goto X85.here hx rfl (pc0 := 117) (pc' := 161) rfl (hb hby at_117) (by decide) (by decide) kq) ?_
        show own_Go p.tables e below _ (T85.setTop (mkF m 161 #[.val (Value.int p1), .val (Value.int p2), .val (Value.int p3), .val (Value.int p4), .val (Value.ref ob1), .val (Value.ref ob20), .val (Value.int (3 : Int32)), .val (Value.int (4 : Int32)), .val (Value.int (1 : Int32)), .val (Value.int (1 : Int32)), .val (Value.int (1 : Int32))] []))
        refine own_Go.by (fun tq kq => XS.iload X85.here hx rfl (hb hby at_161) rfl kq) ?_
        show own_Go p.tables e below _ (T85.setTop (mkF m 163 #[.val (Value.int p1), .val (Value.int p2), .val (Value.int p3), .val (Value.int p4), .val (Value.ref ob1), .val (Value.ref ob20), .val (Value.int (3 : Int32)), .val (Value.int (4 : Int32)), .val (Value.int (1 : Int32)), .val (Value.int (1 : Int32)), .val (Value.int (1 : Int32))] [(Value.int (1 : Int32))]))
        refine own_Go.by (fun tq kq => XS.iload X85.here hx rfl (hb hby at_163) rfl kq) ?_
        show own_Go p.tables e below _ (T85.setTop (mkF m 165 #[.val (Value.int p1), .val (Value.int p2), .val (Value.int p3), .val (Value.int p4), .val (Value.ref ob1), .val (Value.ref ob20), .val (Value.int (3 : Int32)), .val (Value.int (4 : Int32)), .val (Value.int (1 : Int32)), .val (Value.int (1 : Int32)), .val (Value.int (1 : Int32))] [(Value.int (1 : Int32)), (Value.int (1 : Int32))]))
        refine own_Go.by (fun tq kq => XS.icmpNo X85.here hx rfl (hb hby at_165) rfl (teq (by decide : (1 : Int32) = (1 : Int32))).2 kq) ?_
        show own_Go p.tables e below _ (T85.setTop (mkF m 168 #[.val (Value.int p1), .val (Value.int p2), .val (Value.int p3), .val (Value.int p4), .val (Value.ref ob1), .val (Value.ref ob20), .val (Value.int (3 : Int32)), .val (Value.int (4 : Int32)), .val (Value.int (1 : Int32)), .val (Value.int (1 : Int32)), .val (Value.int (1 : Int32))] []))
        refine own_Go.by (fun tq kq => XS.iconst X85.here hx rfl (hb hby at_168) kq) ?_
        show own_Go p.tables e below _ (T85.setTop (mkF m 169 #[.val (Value.int p1), .val (Value.int p2), .val (Value.int p3), .val (Value.int p4), .val (Value.ref ob1), .val (Value.ref ob20), .val (Value.int (3 : Int32)), .val (Value.int (4 : Int32)), .val (Value.int (1 : Int32)), .val (Value.int (1 : Int32)), .val (Value.int (1 : Int32))] [(Value.int (1 : Int32))]))
        refine own_Go.by (fun tq kq => XS.goto X85.here hx rfl (pc0 := 169) (pc' := 173) rfl (hb hby at_169) (by decide) (by decide) kq) ?_
        show own_Go p.tables e below _ (T85.setTop (mkF m 173 #[.val (Value.int p1), .val (Value.int p2), .val (Value.int p3), .val (Value.int p4), .val (Value.ref ob1), .val (Value.ref ob20), .val (Value.int (3 : Int32)), .val (Value.int (4 : Int32)), .val (Value.int (1 : Int32)), .val (Value.int (1 : Int32)), .val (Value.int (1 : Int32))] [(Value.int (1 : Int32))]))
        obtain ⟨fs, hr, hrun, hended, hW, hsame⟩ := X85.leave (v := some (Value.int (nar .boolean (1 : Int32)))) (fun h => by rw [Bd.returns] at h; cases h)
        refine own_Go.fin (retN X85 hx (t := .boolean) Bd.returns (by simp) (hb hby at_173) hr) ⟨hrun, hended, _, _, rfl, ?_, ⟨_, rfl⟩, hW, hsame.mono (by decide) (by decide)⟩
        show Q0 Z p1 p2 p3 p4 zc vf h0 n0 _ T85.heap _
        rw [e85]
        exact ⟨rfl, N85, K25⟩
      ·
        show own_Go p.tables e below _ (T23.setTop (mkF m 76 #[.val (Value.int p1), .val (Value.int p2), .val (Value.int p3), .val (Value.int p4), .val (Value.ref ob1), .val (Value.ref ob20), .val (Value.int (3 : Int32)), .val (Value.int (4 : Int32)), .unset, .unset, .unset] []))
        refine own_Go.by (fun tq kq => XS.aload X23.here hx rfl (hb hby at_76) rfl rfl kq) ?_
        show own_Go p.tables e below _ (T23.setTop (mkF m 78 #[.val (Value.int p1), .val (Value.int p2), .val (Value.int p3), .val (Value.int p4), .val (Value.ref ob1), .val (Value.ref ob20), .val (Value.int (3 : Int32)), .val (Value.int (4 : Int32)), .unset, .unset, .unset] [(Value.ref ob20)]))
        refine own_Go.by (fun tq kq => XS.iload X23.here hx rfl (hb hby at_78) rfl kq) ?_
        show own_Go p.tables e below _ (T23.setTop (mkF m 80 #[.val (Value.int p1), .val (Value.int p2), .val (Value.int p3), .val (Value.int p4), .val (Value.ref ob1), .val (Value.ref ob20), .val (Value.int (3 : Int32)), .val (Value.int (4 : Int32)), .unset, .unset, .unset] [(Value.int (3 : Int32)), (Value.ref ob20)]))
        refine own_Go.by (fun tq kq => XS.iload X23.here hx rfl (hb hby at_80) rfl kq) ?_
        show own_Go p.tables e below _ (T23.setTop (mkF m 82 #[.val (Value.int p1), .val (Value.int p2), .val (Value.int p3), .val (Value.int p4), .val (Value.ref ob1), .val (Value.ref ob20), .val (Value.int (3 : Int32)), .val (Value.int (4 : Int32)), .unset, .unset, .unset] [(Value.int (4 : Int32)), (Value.int (3 : Int32)), (Value.ref ob20)]))
        obtain ⟨_, _, ⟨T88, L88, k88, n88⟩, -, X88, ⟨Lc88, hQ88, l88, y88, z88⟩, st88⟩ := Jvm.LawKit.callS X23 hx (y := (⟨"com/example/enlace/enlace/DotSegments", "isDotSegment", "(Ljava/lang/String;II)Z"⟩ : MethodName)) hown (mvT hZ (hw _ (List.mem_of_getElem? (i := 35) rfl))) (mvT hZ (hw _ (List.mem_of_getElem? (i := 36) rfl))) (mvT hZ (hw _ (List.mem_of_getElem? (i := 37) rfl))) (mvT hZ (hw _ (List.mem_of_getElem? (i := 38) rfl))) (by decide) (backOf (W := 0) (rm8_3_4_f l Z a0 hw [] ob20 t23 kb23 r_4 r_8 r_12 r_16 zc vf T23.heap n0 O25 E23q V23q C23q A23q (hp23 : ∀ c ∈ ([r_4, r_8, r_12, r_16] : List Int32), ¬ c < 0 ∧ ¬ (255 : Int32) < c) H0 H1 (hzc : ¬ (zc = (0 : Int32))) (rvf : vf.isRef = true) hdot) hZ (hw _ (List.mem_of_getElem? (i := 38) rfl)) (hw _ (List.mem_of_getElem? (i := 37) rfl)) (by decide) (by decide)) (g := (mkF m 82 #[.val (Value.int p1), .val (Value.int p2), .val (Value.int p3), .val (Value.int p4), .val (Value.ref ob1), .val (Value.ref ob20), .val (Value.int (3 : Int32)), .val (Value.int (4 : Int32)), .unset, .unset, .unset] [(Value.int (4 : Int32)), (Value.int (3 : Int32)), (Value.ref ob20)])) rfl (by rw [hml]; rfl) (argsL := [(Value.ref ob20), (Value.int (3 : Int32)), (Value.int (4 : Int32))]) (rest := []) (lenOf own_pd2 rfl) rfl (by show 2 * 0 + _ ≤ _; exact Nat.le_of_eq rfl) (hb hby at_82) (fun _ _ => ⟨rfl, rfl, (by decide : 3 + 0 ≤ _), (by decide : 12 + 0 ≤ _)⟩)
        dsimp only [Pt.U, Pt.locs, Pt.cells, Pt.slots] at X88 l88 y88 z88 st88 hQ88
        subst l88 y88 z88
        refine own_Go.by st88 ?_
        obtain ⟨rfl, N88q, e88⟩ := hQ88
        have N88 := Fr.app N23 N88q
        show own_Go p.tables e below _ (T88.setTop (mkF m 85 #[.val (Value.int p1), .val (Value.int p2), .val (Value.int p3), .val (Value.int p4), .val (Value.ref ob1), .val (Value.ref ob20), .val (Value.int (3 : Int32)), .val (Value.int (4 : Int32)), .unset, .unset, .unset] [(Value.int (0 : Int32))]))
        refine own_Go.by (fun tq kq => XS.istore X88.here hx rfl (hb hby at_85) rfl (l' := #[.val (Value.int p1), .val (Value.int p2), .val (Value.int p3), .val (Value.int p4), .val (Value.ref ob1), .val (Value.ref ob20), .val (Value.int (3 : Int32)), .val (Value.int (4 : Int32)), .val (Value.int (0 : Int32)), .unset, .unset]) rfl kq) ?_
        show own_Go p.tables e below _ (T88.setTop (mkF m 87 #[.val (Value.int p1), .val (Value.int p2), .val (Value.int p3), .val (Value.int p4), .val (Value.ref ob1), .val (Value.ref ob20), .val (Value.int (3 : Int32)), .val (Value.int (4 : Int32)), .val (Value.int (0 : Int32)), .unset, .unset] []))
        refine own_Go.by (fun tq kq => XS.iload X88.here hx rfl (hb hby at_87) rfl kq) ?_
        show own_Go p.tables e below _ (T88.setTop (mkF m 89 #[.val (Value.int p1), .val (Value.int p2), .val (Value.int p3), .val (Value.int p4), .val (Value.ref ob1), .val (Value.ref ob20), .val (Value.int (3 : Int32)), .val (Value.int (4 : Int32)), .val (Value.int (0 : Int32)), .unset, .unset] [(Value.int (4 : Int32))]))
        refine own_Go.by (fun tq kq => XS.iload X88.here hx rfl (hb hby at_89) rfl kq) ?_
        show own_Go p.tables e below _ (T88.setTop (mkF m 91 #[.val (Value.int p1), .val (Value.int p2), .val (Value.int p3), .val (Value.int p4), .val (Value.ref ob1), .val (Value.ref ob20), .val (Value.int (3 : Int32)), .val (Value.int (4 : Int32)), .val (Value.int (0 : Int32)), .unset, .unset] [(Value.int (3 : Int32)), (Value.int (4 : Int32))]))
        refine own_Go.by (fun tq kq => XS.isub X88.here hx rfl (hb hby at_91) rfl kq) ?_
        show own_Go p.tables e below _ (T88.setTop (mkF m 92 #[.val (Value.int p1), .val (Value.int p2), .val (Value.int p3), .val (Value.int p4), .val (Value.ref ob1), .val (Value.ref ob20), .val (Value.int (3 : Int32)), .val (Value.int (4 : Int32)), .val (Value.int (0 : Int32)), .unset, .unset] [(Value.int (1 : Int32))]))
        refine own_Go.by (fun tq kq => XS.istore X88.here hx rfl (hb hby at_92) rfl (l' := #[.val (Value.int p1), .val (Value.int p2), .val (Value.int p3), .val (Value.int p4), .val (Value.ref ob1), .val (Value.ref ob20), .val (Value.int (3 : Int32)), .val (Value.int (4 : Int32)), .val (Value.int (0 : Int32)), .val (Value.int (1 : Int32)), .unset]) rfl kq) ?_
        show own_Go p.tables e below _ (T88.setTop (mkF m 94 #[.val (Value.int p1), .val (Value.int p2), .val (Value.int p3), .val (Value.int p4), .val (Value.ref ob1), .val (Value.ref ob20), .val (Value.int (3 : Int32)), .val (Value.int (4 : Int32)), .val (Value.int (0 : Int32)), .val (Value.int (1 : Int32)), .unset] []))
        refine own_Go.by (fun tq kq => XS.iload X88.here hx rfl (hb hby at_94) rfl kq) ?_
        show own_Go p.tables e below _ (T88.setTop (mkF m 96 #[.val (Value.int p1), .val (Value.int p2), .val (Value.int p3), .val (Value.int p4), .val (Value.ref ob1), .val (Value.ref ob20), .val (Value.int (3 : Int32)), .val (Value.int (4 : Int32)), .val (Value.int (0 : Int32)), .val (Value.int (1 : Int32)), .unset] [(Value.int (1 : Int32))]))
        refine own_Go.by (fun tq kq => XS.iconst X88.here hx rfl (hb hby at_96) kq) ?_
        show own_Go p.tables e below _ (T88.setTop (mkF m 97 #[.val (Value.int p1), .val (Value.int p2), .val (Value.int p3), .val (Value.int p4), .val (Value.ref ob1), .val (Value.ref ob20), .val (Value.int (3 : Int32)), .val (Value.int (4 : Int32)), .val (Value.int (0 : Int32)), .val (Value.int (1 : Int32)), .unset] [(Value.int (1 : Int32)), (Value.int (1 : Int32))]))
        refine own_Go.by (fun tq kq => XS.icmpNo X88.here hx rfl (hb hby at_97) rfl (teq (by decide : (1 : Int32) = (1 : Int32))).2 kq) ?_
        show own_Go p.tables e below _ (T88.setTop (mkF m 100 #[.val (Value.int p1), .val (Value.int p2), .val (Value.int p3), .val (Value.int p4), .val (Value.ref ob1), .val (Value.ref ob20), .val (Value.int (3 : Int32)), .val (Value.int (4 : Int32)), .val (Value.int (0 : Int32)), .val (Value.int (1 : Int32)), .unset] []))
        refine own_Go.by (fun tq kq => XS.aload X88.here hx rfl (hb hby at_100) rfl rfl kq) ?_
        show own_Go p.tables e below _ (T88.setTop (mkF m 102 #[.val (Value.int p1), .val (Value.int p2), .val (Value.int p3), .val (Value.int p4), .val (Value.ref ob1), .val (Value.ref ob20), .val (Value.int (3 : Int32)), .val (Value.int (4 : Int32)), .val (Value.int (0 : Int32)), .val (Value.int (1 : Int32)), .unset] [(Value.ref ob1)]))
        refine own_Go.by (fun tq kq => XS.iload X88.here hx rfl (hb hby at_102) rfl kq) ?_
        show own_Go p.tables e below _ (T88.setTop (mkF m 104 #[.val (Value.int p1), .val (Value.int p2), .val (Value.int p3), .val (Value.int p4), .val (Value.ref ob1), .val (Value.ref ob20), .val (Value.int (3 : Int32)), .val (Value.int (4 : Int32)), .val (Value.int (0 : Int32)), .val (Value.int (1 : Int32)), .unset] [(Value.int (3 : Int32)), (Value.ref ob1)]))
        have c89 := (c24.keep K23q (ninS (Nat.ne_of_lt (Nat.lt_of_lt_of_le A1.lt (Nat.le_trans (Keep.of_wr W6).1 (Nat.le_trans (Keep.of_wr W10).1 (Nat.le_trans (Keep.of_wr W14).1 (Nat.le_trans (Keep.of_wr W18).1 (Nat.le_of_eq y20.symm))))))) nin0))
        obtain ⟨cl90, Ar90, q90, S90, M90, Hh90, G90⟩ := id c89
        refine own_Go.by (fun tq kq => X88.caload hx (j := (3 : Int32)) (v := (Value.int r_16)) (by rw [e88]; exact Ar90.1) (State.isArrayOf_alike hZ.alike Ar90.2.1) Ar90.2.2 (inb_of S90 ⟨(by decide : ¬ ((3 : Int32) < (0 : Int32))), (by decide : (3 : Int32) < (4 : Int32))⟩) (Has.at Hh90 (inb_of S90 ⟨(by decide : ¬ ((3 : Int32) < (0 : Int32))), (by decide : (3 : Int32) < (4 : Int32))⟩) (rfl : _ = (Value.int r_16))) (g := (mkF m 104 #[.val (Value.int p1), .val (Value.int p2), .val (Value.int p3), .val (Value.int p4), .val (Value.ref ob1), .val (Value.ref ob20), .val (Value.int (3 : Int32)), .val (Value.int (4 : Int32)), .val (Value.int (0 : Int32)), .val (Value.int (1 : Int32)), .unset] [(Value.int (3 : Int32)), (Value.ref ob1)])) rfl rfl (hb hby at_104) _ kq) ?_
        show own_Go p.tables e below _ (T88.setTop (mkF m 105 #[.val (Value.int p1), .val (Value.int p2), .val (Value.int p3), .val (Value.int p4), .val (Value.ref ob1), .val (Value.ref ob20), .val (Value.int (3 : Int32)), .val (Value.int (4 : Int32)), .val (Value.int (0 : Int32)), .val (Value.int (1 : Int32)), .unset] [(Value.int r_16)]))
        refine own_Go.by (fun tq kq => XS.bipush X88.here hx rfl (hb hby at_105) kq) ?_
        show own_Go p.tables e below _ (T88.setTop (mkF m 107 #[.val (Value.int p1), .val (Value.int p2), .val (Value.int p3), .val (Value.int p4), .val (Value.ref ob1), .val (Value.ref ob20), .val (Value.int (3 : Int32)), .val (Value.int (4 : Int32)), .val (Value.int (0 : Int32)), .val (Value.int (1 : Int32)), .unset] [(Value.int (46 : Int32)), (Value.int r_16)]))
        refine own_Go.by (fun tq kq => XS.icmpYes X88.here hx rfl (pc0 := 107) (pc' := 114) rfl (hb hby at_107) rfl (feq hdot).2 (by decide) (by decide) kq) ?_
        show own_Go p.tables e below _ (T88.setTop (mkF m 114 #[.val (Value.int p1), .val (Value.int p2), .val (Value.int p3), .val (Value.int p4), .val (Value.ref ob1), .val (Value.ref ob20), .val (Value.int (3 : Int32)), .val (Value.int (4 : Int32)), .val (Value.int (0 : Int32)), .val (Value.int (1 : Int32)), .unset] []))
        refine own_Go.by (fun tq kq => XS.iconst X88.here hx rfl (hb hby at_114) kq) ?_
        show own_Go p.tables e below _ (T88.setTop (mkF m 115 #[.val (Value.int p1), .val (Value.int p2), .val (Value.int p3), .val (Value.int p4), .val (Value.ref ob1), .val (Value.ref ob20), .val (Value.int (3 : Int32)), .val (Value.int (4 : Int32)), .val (Value.int (0 : Int32)), .val (Value.int (1 : Int32)), .unset] [(Value.int (0 : Int32))]))
        refine own_Go.by (fun tq kq => XS.istore X88.here hx rfl (hb hby at_115) rfl (l' := #[.val (Value.int p1), .val (Value.int p2), .val (Value.int p3), .val (Value.int p4), .val (Value.ref ob1), .val (Value.ref ob20), .val (Value.int (3 : Int32)), .val (Value.int (4 : Int32)), .val (Value.int (0 : Int32)), .val (Value.int (1 : Int32)), .val (Value.int (0 : Int32))]) rfl kq) ?_
        show own_Go p.tables e below _ (T88.setTop (mkF m 117 #[.val (Value.int p1), .val (Value.int p2), .val (Value.int p3), .val (Value.int p4), .val (Value.ref ob1), .val (Value.ref ob20), .val (Value.int (3 : Int32)), .val (Value.int (4 : Int32)), .val (Value.int (0 : Int32)), .val (Value.int (1 : Int32)), .val (Value.int (0 : Int32))] []))
        refine own_Go.by (fun tq kq => XS.goto X88.here hx rfl (pc0 := 117) (pc' := 161) rfl (hb hby at_117) (by decide) (by decide) kq) ?_
        show own_Go p.tables e below _ (T88.setTop (mkF m 161 #[.val (Value.int p1), .val (Value.int p2), .val (Value.int p3), .val (Value.int p4), .val (Value.ref ob1), .val (Value.ref ob20), .val (Value.int (3 : Int32)), .val (Value.int (4 : Int32)), .val (Value.int (0 : Int32)), .val (Value.int (1 : Int32)), .val (Value.int (0 : Int32))] []))
        refine own_Go.by (fun tq kq => XS.iload X88.here hx rfl (hb hby at_161) rfl kq) ?_
        show own_Go p.tables e below _ (T88.setTop (mkF m 163 #[.val (Value.int p1), .val (Value.int p2), .val (Value.int p3), .val (Value.int p4), .val (Value.ref ob1), .val (Value.ref ob20), .val (Value.int (3 : Int32)), .val (Value.int (4 : Int32)), .val (Value.int (0 : Int32)), .val (Value.int (1 : Int32)), .val (Value.int (0 : Int32))] [(Value.int (0 : Int32))]))
        refine own_Go.by (fun tq kq => XS.iload X88.here hx rfl (hb hby at_163) rfl kq) ?_
        show own_Go p.tables e below _ (T88.setTop (mkF m 165 #[.val (Value.int p1), .val (Value.int p2), .val (Value.int p3), .val (Value.int p4), .val (Value.ref ob1), .val (Value.ref ob20), .val (Value.int (3 : Int32)), .val (Value.int (4 : Int32)), .val (Value.int (0 : Int32)), .val (Value.int (1 : Int32)), .val (Value.int (0 : Int32))] [(Value.int (0 : Int32)), (Value.int (0 : Int32))]))
        refine own_Go.by (fun tq kq => XS.icmpNo X88.here hx rfl (hb hby at_165) rfl (teq (by decide : (0 : Int32) = (0 : Int32))).2 kq) ?_
        show own_Go p.tables e below _ (T88.setTop (mkF m 168 #[.val (Value.int p1), .val (Value.int p2), .val (Value.int p3), .val (Value.int p4), .val (Value.ref ob1), .val (Value.ref ob20), .val (Value.int (3 : Int32)), .val (Value.int (4 : Int32)), .val (Value.int (0 : Int32)), .val (Value.int (1 : Int32)), .val (Value.int (0 : Int32))] []))
        refine own_Go.by (fun tq kq => XS.iconst X88.here hx rfl (hb hby at_168) kq) ?_
        show own_Go p.tables e below _ (T88.setTop (mkF m 169 #[.val (Value.int p1), .val (Value.int p2), .val (Value.int p3), .val (Value.int p4), .val (Value.ref ob1), .val (Value.ref ob20), .val (Value.int (3 : Int32)), .val (Value.int (4 : Int32)), .val (Value.int (0 : Int32)), .val (Value.int (1 : Int32)), .val (Value.int (0 : Int32))] [(Value.int (1 : Int32))]))
        refine own_Go.by (fun tq kq => XS.goto X88.here hx rfl (pc0 := 169) (pc' := 173) rfl (hb hby at_169) (by decide) (by decide) kq) ?_
        show own_Go p.tables e below _ (T88.setTop (mkF m 173 #[.val (Value.int p1), .val (Value.int p2), .val (Value.int p3), .val (Value.int p4), .val (Value.ref ob1), .val (Value.ref ob20), .val (Value.int (3 : Int32)), .val (Value.int (4 : Int32)), .val (Value.int (0 : Int32)), .val (Value.int (1 : Int32)), .val (Value.int (0 : Int32))] [(Value.int (1 : Int32))]))
        obtain ⟨fs, hr, hrun, hended, hW, hsame⟩ := X88.leave (v := some (Value.int (nar .boolean (1 : Int32)))) (fun h => by rw [Bd.returns] at h; cases h)
        refine own_Go.fin (retN X88 hx (t := .boolean) Bd.returns (by simp) (hb hby at_173) hr) ⟨hrun, hended, _, _, rfl, ?_, ⟨_, rfl⟩, hW, hsame.mono (by decide) (by decide)⟩
        show Q0 Z p1 p2 p3 p4 zc vf h0 n0 _ T88.heap _
        rw [e88]
        exact ⟨rfl, N88, K25⟩
  ·
    subst hq_frm
    show own_Go p.tables e below _ (T23.setTop (mkF m 62 #[.val (Value.int p1), .val (Value.int p2), .val (Value.int p3), .val (Value.int p4), .val (Value.ref ob1), .val (Value.ref ob20), .val (Value.int (4 : Int32)), .unset, .unset, .unset, .unset] []))
    refine own_Go.by (fun tq kq => XS.iload X23.here hx rfl (hb hby at_62) rfl kq) ?_
    show own_Go p.tables e below _ (T23.setTop (mkF m 64 #[.val (Value.int p1), .val (Value.int p2), .val (Value.int p3), .val (Value.int p4), .val (Value.ref ob1), .val (Value.ref ob20), .val (Value.int (4 : Int32)), .unset, .unset, .unset, .unset] [(Value.int (4 : Int32))]))
    refine own_Go.by (fun tq kq => XS.iloadN X23.here hx rfl (hb hby at_64) rfl kq) ?_
    show own_Go p.tables e below _ (T23.setTop (mkF m 65 #[.val (Value.int p1), .val (Value.int p2), .val (Value.int p3), .val (Value.int p4), .val (Value.ref ob1), .val (Value.ref ob20), .val (Value.int (4 : Int32)), .unset, .unset, .unset, .unset] [(Value.int p4), (Value.int (4 : Int32))]))
    refine own_Go.by (fun tq kq => X23.ldcInt hx hown (mvT hZ (hw _ (List.mem_of_getElem? (i := 34) rfl))) (g := (mkF m 65 #[.val (Value.int p1), .val (Value.int p2), .val (Value.int p3), .val (Value.int p4), .val (Value.ref ob1), .val (Value.ref ob20), .val (Value.int (4 : Int32)), .unset, .unset, .unset, .unset] [(Value.int p4), (Value.int (4 : Int32))])) rfl (hb hby at_65) _ kq) ?_
    show own_Go p.tables e below _ (T23.setTop (mkF m 67 #[.val (Value.int p1), .val (Value.int p2), .val (Value.int p3), .val (Value.int p4), .val (Value.ref ob1), .val (Value.ref ob20), .val (Value.int (4 : Int32)), .unset, .unset, .unset, .unset] [(Value.int (2147483647 : Int32)), (Value.int p4), (Value.int (4 : Int32))]))
    refine own_Go.by (fun tq kq => XS.iand X23.here hx rfl (hb hby at_67) rfl kq) ?_
    show own_Go p.tables e below _ (T23.setTop (mkF m 68 #[.val (Value.int p1), .val (Value.int p2), .val (Value.int p3), .val (Value.int p4), .val (Value.ref ob1), .val (Value.ref ob20), .val (Value.int (4 : Int32)), .unset, .unset, .unset, .unset] [(Value.int (p4 &&& (2147483647 : Int32))), (Value.int (4 : Int32))]))
    refine own_Go.by (fun tq kq => XS.iconst X23.here hx rfl (hb hby at_68) kq) ?_
    show own_Go p.tables e below _ (T23.setTop (mkF m 69 #[.val (Value.int p1), .val (Value.int p2), .val (Value.int p3), .val (Value.int p4), .val (Value.ref ob1), .val (Value.ref ob20), .val (Value.int (4 : Int32)), .unset, .unset, .unset, .unset] [(Value.int (5 : Int32)), (Value.int (p4 &&& (2147483647 : Int32))), (Value.int (4 : Int32))]))
    refine own_Go.by (fun tq kq => XS.iload X23.here hx rfl (hb hby at_69) rfl kq) ?_
    show own_Go p.tables e below _ (T23.setTop (mkF m 71 #[.val (Value.int p1), .val (Value.int p2), .val (Value.int p3), .val (Value.int p4), .val (Value.ref ob1), .val (Value.ref ob20), .val (Value.int (4 : Int32)), .unset, .unset, .unset, .unset] [(Value.int (4 : Int32)), (Value.int (5 : Int32)), (Value.int (p4 &&& (2147483647 : Int32))), (Value.int (4 : Int32))]))
    refine own_Go.by (fun tq kq => XS.isub X23.here hx rfl (hb hby at_71) rfl kq) ?_
    show own_Go p.tables e below _ (T23.setTop (mkF m 72 #[.val (Value.int p1), .val (Value.int p2), .val (Value.int p3), .val (Value.int p4), .val (Value.ref ob1), .val (Value.ref ob20), .val (Value.int (4 : Int32)), .unset, .unset, .unset, .unset] [(Value.int (1 : Int32)), (Value.int (p4 &&& (2147483647 : Int32))), (Value.int (4 : Int32))]))
    refine own_Go.by (fun tq kq => iremM (g := (mkF m 72 #[.val (Value.int p1), .val (Value.int p2), .val (Value.int p3), .val (Value.int p4), .val (Value.ref ob1), .val (Value.ref ob20), .val (Value.int (4 : Int32)), .unset, .unset, .unset, .unset] [(Value.int (1 : Int32)), (Value.int (p4 &&& (2147483647 : Int32))), (Value.int (4 : Int32))])) X23 hx rfl (hb hby at_72) rfl (by decide) kq) ?_
    show own_Go p.tables e below _ (T23.setTop (mkF m 73 #[.val (Value.int p1), .val (Value.int p2), .val (Value.int p3), .val (Value.int p4), .val (Value.ref ob1), .val (Value.ref ob20), .val (Value.int (4 : Int32)), .unset, .unset, .unset, .unset] [(Value.int ((p4 &&& (2147483647 : Int32)) % (1 : Int32))), (Value.int (4 : Int32))]))
    generalize hv_rr : ((p4 &&& (2147483647 : Int32)) % (1 : Int32)) = rr
    rcases own_mod1 hv_rr with hq_rr
    ·
      subst hq_rr
      show own_Go p.tables e below _ (T23.setTop (mkF m 73 #[.val (Value.int p1), .val (Value.int p2), .val (Value.int p3), .val (Value.int p4), .val (Value.ref ob1), .val (Value.ref ob20), .val (Value.int (4 : Int32)), .unset, .unset, .unset, .unset] [(Value.int (0 : Int32)), (Value.int (4 : Int32))]))
      refine own_Go.by (fun tq kq => XS.iadd X23.here hx rfl (hb hby at_73) rfl kq) ?_
      show own_Go p.tables e below _ (T23.setTop (mkF m 74 #[.val (Value.int p1), .val (Value.int p2), .val (Value.int p3), .val (Value.int p4), .val (Value.ref ob1), .val (Value.ref ob20), .val (Value.int (4 : Int32)), .unset, .unset, .unset, .unset] [(Value.int (4 : Int32))]))
      refine own_Go.by (fun tq kq => XS.istore X23.here hx rfl (hb hby at_74) rfl (l' := #[.val (Value.int p1), .val (Value.int p2), .val (Value.int p3), .val (Value.int p4), .val (Value.ref ob1), .val (Value.ref ob20), .val (Value.int (4 : Int32)), .val (Value.int (4 : Int32)), .unset, .unset, .unset]) rfl kq) ?_
      show own_Go p.tables e below _ (T23.setTop (mkF m 76 #[.val (Value.int p1), .val (Value.int p2), .val (Value.int p3), .val (Value.int p4), .val (Value.ref ob1), .val (Value.ref ob20), .val (Value.int (4 : Int32)), .val (Value.int (4 : Int32)), .unset, .unset, .unset] []))
      refine own_Go.by (fun tq kq => XS.aload X23.here hx rfl (hb hby at_76) rfl rfl kq) ?_
      show own_Go p.tables e below _ (T23.setTop (mkF m 78 #[.val (Value.int p1), .val (Value.int p2), .val (Value.int p3), .val (Value.int p4), .val (Value.ref ob1), .val (Value.ref ob20), .val (Value.int (4 : Int32)), .val (Value.int (4 : Int32)), .unset, .unset, .unset] [(Value.ref ob20)]))
      refine own_Go.by (fun tq kq => XS.iload X23.here hx rfl (hb hby at_78) rfl kq) ?_
      show own_Go p.tables e below _ (T23.setTop (mkF m 80 #[.val (Value.int p1), .val (Value.int p2), .val (Value.int p3), .val (Value.int p4), .val (Value.ref ob1), .val (Value.ref ob20), .val (Value.int (4 : Int32)), .val (Value.int (4 : Int32)), .unset, .unset, .unset] [(Value.int (4 : Int32)), (Value.ref ob20)]))
      refine own_Go.by (fun tq kq => XS.iload X23.here hx rfl (hb hby at_80) rfl kq) ?_
      show own_Go p.tables e below _ (T23.setTop (mkF m 82 #[.val (Value.int p1), .val (Value.int p2), .val (Value.int p3), .val (Value.int p4), .val (Value.ref ob1), .val (Value.ref ob20), .val (Value.int (4 : Int32)), .val (Value.int (4 : Int32)), .unset, .unset, .unset] [(Value.int (4 : Int32)), (Value.int (4 : Int32)), (Value.ref ob20)]))
      obtain ⟨_, _, ⟨T91, L91, k91, n91⟩, -, X91, ⟨Lc91, hQ91, l91, y91, z91⟩, st91⟩ := Jvm.LawKit.callS X23 hx (y := (⟨"com/example/enlace/enlace/DotSegments", "isDotSegment", "(Ljava/lang/String;II)Z"⟩ : MethodName)) hown (mvT hZ (hw _ (List.mem_of_getElem? (i := 35) rfl))) (mvT hZ (hw _ (List.mem_of_getElem? (i := 36) rfl))) (mvT hZ (hw _ (List.mem_of_getElem? (i := 37) rfl))) (mvT hZ (hw _ (List.mem_of_getElem? (i := 38) rfl))) (by decide) (backOf (W := 0) (rm8_4_4_x l Z a0 hw [] ob20 t23 kb23 r_4 r_8 r_12 r_16 zc vf T23.heap n0 O25 E23q V23q C23q A23q (hp23 : ∀ c ∈ ([r_4, r_8, r_12, r_16] : List Int32), ¬ c < 0 ∧ ¬ (255 : Int32) < c) H0 H1 (hzc : ¬ (zc = (0 : Int32))) (rvf : vf.isRef = true)) hZ (hw _ (List.mem_of_getElem? (i := 38) rfl)) (hw _ (List.mem_of_getElem? (i := 37) rfl)) (by decide) (by decide)) (g := (mkF m 82 #[.val (Value.int p1), .val (Value.int p2), .val (Value.int p3), .val (Value.int p4), .val (Value.ref ob1), .val (Value.ref ob20), .val (Value.int (4 : Int32)), .val (Value.int (4 : Int32)), .unset, .unset, .unset] [(Value.int (4 : Int32)), (Value.int (4 : Int32)), (Value.ref ob20)])) rfl (by rw [hml]; rfl) (argsL := [(Value.ref ob20), (Value.int (4 : Int32)), (Value.int (4 : Int32))]) (rest := []) (lenOf own_pd2 rfl) rfl (by show 2 * 0 + _ ≤ _; exact Nat.le_of_eq rfl) (hb hby at_82) (fun _ _ => ⟨rfl, rfl, (by decide : 3 + 0 ≤ _), (by decide : 12 + 0 ≤ _)⟩)
      dsimp only [Pt.U, Pt.locs, Pt.cells, Pt.slots] at X91 l91 y91 z91 st91 hQ91
      subst l91 y91 z91
      refine own_Go.by st91 ?_
      obtain ⟨rfl, N91q, e91⟩ := hQ91
      have N91 := Fr.app N23 N91q
      show own_Go p.tables e below _ (T91.setTop (mkF m 85 #[.val (Value.int p1), .val (Value.int p2), .val (Value.int p3), .val (Value.int p4), .val (Value.ref ob1), .val (Value.ref ob20), .val (Value.int (4 : Int32)), .val (Value.int (4 : Int32)), .unset, .unset, .unset] [(Value.int (0 : Int32))]))
      refine own_Go.by (fun tq kq => XS.istore X91.here hx rfl (hb hby at_85) rfl (l' := #[.val (Value.int p1), .val (Value.int p2), .val (Value.int p3), .val (Value.int p4), .val (Value.ref ob1), .val (Value.ref ob20), .val (Value.int (4 : Int32)), .val (Value.int (4 : Int32)), .val (Value.int (0 : Int32)), .unset, .unset]) rfl kq) ?_
      show own_Go p.tables e below _ (T91.setTop (mkF m 87 #[.val (Value.int p1), .val (Value.int p2), .val (Value.int p3), .val (Value.int p4), .val (Value.ref ob1), .val (Value.ref ob20), .val (Value.int (4 : Int32)), .val (Value.int (4 : Int32)), .val (Value.int (0 : Int32)), .unset, .unset] []))
      refine own_Go.by (fun tq kq => XS.iload X91.here hx rfl (hb hby at_87) rfl kq) ?_
      show own_Go p.tables e below _ (T91.setTop (mkF m 89 #[.val (Value.int p1), .val (Value.int p2), .val (Value.int p3), .val (Value.int p4), .val (Value.ref ob1), .val (Value.ref ob20), .val (Value.int (4 : Int32)), .val (Value.int (4 : Int32)), .val (Value.int (0 : Int32)), .unset, .unset] [(Value.int (4 : Int32))]))
      refine own_Go.by (fun tq kq => XS.iload X91.here hx rfl (hb hby at_89) rfl kq) ?_
      show own_Go p.tables e below _ (T91.setTop (mkF m 91 #[.val (Value.int p1), .val (Value.int p2), .val (Value.int p3), .val (Value.int p4), .val (Value.ref ob1), .val (Value.ref ob20), .val (Value.int (4 : Int32)), .val (Value.int (4 : Int32)), .val (Value.int (0 : Int32)), .unset, .unset] [(Value.int (4 : Int32)), (Value.int (4 : Int32))]))
      refine own_Go.by (fun tq kq => XS.isub X91.here hx rfl (hb hby at_91) rfl kq) ?_
      show own_Go p.tables e below _ (T91.setTop (mkF m 92 #[.val (Value.int p1), .val (Value.int p2), .val (Value.int p3), .val (Value.int p4), .val (Value.ref ob1), .val (Value.ref ob20), .val (Value.int (4 : Int32)), .val (Value.int (4 : Int32)), .val (Value.int (0 : Int32)), .unset, .unset] [(Value.int (0 : Int32))]))
      refine own_Go.by (fun tq kq => XS.istore X91.here hx rfl (hb hby at_92) rfl (l' := #[.val (Value.int p1), .val (Value.int p2), .val (Value.int p3), .val (Value.int p4), .val (Value.ref ob1), .val (Value.ref ob20), .val (Value.int (4 : Int32)), .val (Value.int (4 : Int32)), .val (Value.int (0 : Int32)), .val (Value.int (0 : Int32)), .unset]) rfl kq) ?_
      show own_Go p.tables e below _ (T91.setTop (mkF m 94 #[.val (Value.int p1), .val (Value.int p2), .val (Value.int p3), .val (Value.int p4), .val (Value.ref ob1), .val (Value.ref ob20), .val (Value.int (4 : Int32)), .val (Value.int (4 : Int32)), .val (Value.int (0 : Int32)), .val (Value.int (0 : Int32)), .unset] []))
      refine own_Go.by (fun tq kq => XS.iload X91.here hx rfl (hb hby at_94) rfl kq) ?_
      show own_Go p.tables e below _ (T91.setTop (mkF m 96 #[.val (Value.int p1), .val (Value.int p2), .val (Value.int p3), .val (Value.int p4), .val (Value.ref ob1), .val (Value.ref ob20), .val (Value.int (4 : Int32)), .val (Value.int (4 : Int32)), .val (Value.int (0 : Int32)), .val (Value.int (0 : Int32)), .unset] [(Value.int (0 : Int32))]))
      refine own_Go.by (fun tq kq => XS.iconst X91.here hx rfl (hb hby at_96) kq) ?_
      show own_Go p.tables e below _ (T91.setTop (mkF m 97 #[.val (Value.int p1), .val (Value.int p2), .val (Value.int p3), .val (Value.int p4), .val (Value.ref ob1), .val (Value.ref ob20), .val (Value.int (4 : Int32)), .val (Value.int (4 : Int32)), .val (Value.int (0 : Int32)), .val (Value.int (0 : Int32)), .unset] [(Value.int (1 : Int32)), (Value.int (0 : Int32))]))
      refine own_Go.by (fun tq kq => XS.icmpYes X91.here hx rfl (pc0 := 97) (pc' := 120) rfl (hb hby at_97) rfl (feq (by decide : ¬ ((0 : Int32) = (1 : Int32)))).2 (by decide) (by decide) kq) ?_
      show own_Go p.tables e below _ (T91.setTop (mkF m 120 #[.val (Value.int p1), .val (Value.int p2), .val (Value.int p3), .val (Value.int p4), .val (Value.ref ob1), .val (Value.ref ob20), .val (Value.int (4 : Int32)), .val (Value.int (4 : Int32)), .val (Value.int (0 : Int32)), .val (Value.int (0 : Int32)), .unset] []))
      refine own_Go.by (fun tq kq => XS.iload X91.here hx rfl (hb hby at_120) rfl kq) ?_
      show own_Go p.tables e below _ (T91.setTop (mkF m 122 #[.val (Value.int p1), .val (Value.int p2), .val (Value.int p3), .val (Value.int p4), .val (Value.ref ob1), .val (Value.ref ob20), .val (Value.int (4 : Int32)), .val (Value.int (4 : Int32)), .val (Value.int (0 : Int32)), .val (Value.int (0 : Int32)), .unset] [(Value.int (0 : Int32))]))
      refine own_Go.by (fun tq kq => XS.iconst X91.here hx rfl (hb hby at_122) kq) ?_
      show own_Go p.tables e below _ (T91.setTop (mkF m 123 #[.val (Value.int p1), .val (Value.int p2), .val (Value.int p3), .val (Value.int p4), .val (Value.ref ob1), .val (Value.ref ob20), .val (Value.int (4 : Int32)), .val (Value.int (4 : Int32)), .val (Value.int (0 : Int32)), .val (Value.int (0 : Int32)), .unset] [(Value.int (2 : Int32)), (Value.int (0 : Int32))]))
      refine own_Go.by (fun tq kq => XS.icmpYes X91.here hx rfl (pc0 := 123) (pc' := 158) rfl (hb hby at_123) rfl (feq (by decide : ¬ ((0 : Int32) = (2 : Int32)))).2 (by decide) (by decide) kq) ?_
      show own_Go p.tables e below _ (T91.setTop (mkF m 158 #[.val (Value.int p1), .val (Value.int p2), .val (Value.int p3), .val (Value.int p4), .val (Value.ref ob1), .val (Value.ref ob20), .val (Value.int (4 : Int32)), .val (Value.int (4 : Int32)), .val (Value.int (0 : Int32)), .val (Value.int (0 : Int32)), .unset] []))
      refine own_Go.by (fun tq kq => XS.iconst X91.here hx rfl (hb hby at_158) kq) ?_
      show own_Go p.tables e below _ (T91.setTop (mkF m 159 #[.val (Value.int p1), .val (Value.int p2), .val (Value.int p3), .val (Value.int p4), .val (Value.ref ob1), .val (Value.ref ob20), .val (Value.int (4 : Int32)), .val (Value.int (4 : Int32)), .val (Value.int (0 : Int32)), .val (Value.int (0 : Int32)), .unset] [(Value.int (0 : Int32))]))
      refine own_Go.by (fun tq kq => XS.istore X91.here hx rfl (hb hby at_159) rfl (l' := #[.val (Value.int p1), .val (Value.int p2), .val (Value.int p3), .val (Value.int p4), .val (Value.ref ob1), .val (Value.ref ob20), .val (Value.int (4 : Int32)), .val (Value.int (4 : Int32)), .val (Value.int (0 : Int32)), .val (Value.int (0 : Int32)), .val (Value.int (0 : Int32))]) rfl kq) ?_
      show own_Go p.tables e below _ (T91.setTop (mkF m 161 #[.val (Value.int p1), .val (Value.int p2), .val (Value.int p3), .val (Value.int p4), .val (Value.ref ob1), .val (Value.ref ob20), .val (Value.int (4 : Int32)), .val (Value.int (4 : Int32)), .val (Value.int (0 : Int32)), .val (Value.int (0 : Int32)), .val (Value.int (0 : Int32))] []))
      refine own_Go.by (fun tq kq => XS.iload X91.here hx rfl (hb hby at_161) rfl kq) ?_
      show own_Go p.tables e below _ (T91.setTop (mkF m 163 #[.val (Value.int p1), .val (Value.int p2), .val (Value.int p3), .val (Value.int p4), .val (Value.ref ob1), .val (Value.ref ob20), .val (Value.int (4 : Int32)), .val (Value.int (4 : Int32)), .val (Value.int (0 : Int32)), .val (Value.int (0 : Int32)), .val (Value.int (0 : Int32))] [(Value.int (0 : Int32))]))
      refine own_Go.by (fun tq kq => XS.iload X91.here hx rfl (hb hby at_163) rfl kq) ?_
      show own_Go p.tables e below _ (T91.setTop (mkF m 165 #[.val (Value.int p1), .val (Value.int p2), .val (Value.int p3), .val (Value.int p4), .val (Value.ref ob1), .val (Value.ref ob20), .val (Value.int (4 : Int32)), .val (Value.int (4 : Int32)), .val (Value.int (0 : Int32)), .val (Value.int (0 : Int32)), .val (Value.int (0 : Int32))] [(Value.int (0 : Int32)), (Value.int (0 : Int32))]))
      refine own_Go.by (fun tq kq => XS.icmpNo X91.here hx rfl (hb hby at_165) rfl (teq (by decide : (0 : Int32) = (0 : Int32))).2 kq) ?_
      show own_Go p.tables e below _ (T91.setTop (mkF m 168 #[.val (Value.int p1), .val (Value.int p2), .val (Value.int p3), .val (Value.int p4), .val (Value.ref ob1), .val (Value.ref ob20), .val (Value.int (4 : Int32)), .val (Value.int (4 : Int32)), .val (Value.int (0 : Int32)), .val (Value.int (0 : Int32)), .val (Value.int (0 : Int32))] []))
      refine own_Go.by (fun tq kq => XS.iconst X91.here hx rfl (hb hby at_168) kq) ?_
      show own_Go p.tables e below _ (T91.setTop (mkF m 169 #[.val (Value.int p1), .val (Value.int p2), .val (Value.int p3), .val (Value.int p4), .val (Value.ref ob1), .val (Value.ref ob20), .val (Value.int (4 : Int32)), .val (Value.int (4 : Int32)), .val (Value.int (0 : Int32)), .val (Value.int (0 : Int32)), .val (Value.int (0 : Int32))] [(Value.int (1 : Int32))]))
      refine own_Go.by (fun tq kq => XS.goto X91.here hx rfl (pc0 := 169) (pc' := 173) rfl (hb hby at_169) (by decide) (by decide) kq) ?_
      show own_Go p.tables e below _ (T91.setTop (mkF m 173 #[.val (Value.int p1), .val (Value.int p2), .val (Value.int p3), .val (Value.int p4), .val (Value.ref ob1), .val (Value.ref ob20), .val (Value.int (4 : Int32)), .val (Value.int (4 : Int32)), .val (Value.int (0 : Int32)), .val (Value.int (0 : Int32)), .val (Value.int (0 : Int32))] [(Value.int (1 : Int32))]))
      obtain ⟨fs, hr, hrun, hended, hW, hsame⟩ := X91.leave (v := some (Value.int (nar .boolean (1 : Int32)))) (fun h => by rw [Bd.returns] at h; cases h)
      refine own_Go.fin (retN X91 hx (t := .boolean) Bd.returns (by simp) (hb hby at_173) hr) ⟨hrun, hended, _, _, rfl, ?_, ⟨_, rfl⟩, hW, hsame.mono (by decide) (by decide)⟩
      show Q0 Z p1 p2 p3 p4 zc vf h0 n0 _ T91.heap _
      rw [e91]
      exact ⟨rfl, N91, K25⟩

set_option maxRecDepth 65536 in
set_option maxHeartbeats 40000000 in
theorem comes_1 {Post : Tables → Env → Array Value → State → Outcome → State → Prop} (hpost : ∀ tb e args s v u, (limb_1_1.after args s (.returned v) u = true ∧ limb_1_2.after args s (.returned v) u = true ∧ True) → FrameEnd s (.returned v) u (Jvm.fieldLocs frame_1_writes args s ++ Jvm.arrayLocs frame_1_arrays args s ++ Jvm.staticLocs frame_1_statics s) 16 128 → Post tb e args s (.returned v) u) :
    ArmFor flags0 classFile x code maxLocals ret World_1 tables_1 room_1 Calls_1 rest_1 Pre_1 Post := by
  intro l hfl _ _ p e ha hc hk s m args below hf hA hF happ hP
  obtain ⟨hcalls, hrest, hpre⟩ := hP
  obtain ⟨-, -, -, hnamed, -, -, -, hat⟩ := (Spec.applies_iff hf).mp happ
  obtain ⟨hg, hn⟩ := and_e (Cond.before_iff.mp (show (Jvm.Cond.and given_1 narrow_1).before args s = true from hpre))
  obtain ⟨hcount, hg⟩ := and_e hg
  obtain ⟨hg0, hg⟩ := and_e hg
  obtain ⟨hg1, hg⟩ := and_e hg
  obtain ⟨hg2, hg⟩ := and_e hg
  have hg3 := hg
  obtain ⟨w0, w1, w2, w3, rfl⟩ : ∃ w0 w1 w2 w3 : Value, args = #[w0, w1, w2, w3] := by
    have hs : args.size = 4 := by simpa [Cond.value, given_1] using hcount
    obtain ⟨L⟩ := args
    match L, hs with
    | [w0, w1, w2, w3], _ => exact ⟨w0, w1, w2, w3, rfl⟩
  have hw := fun d (hd : d ∈ tables_1) => atoms_spec (ws := Jvm.Cond.code x code maxLocals ret :: tables_1) hat d (List.mem_cons_of_mem _ hd)
  have hfit : Fit s := fun {y c} hc i hi => by
    obtain ⟨ha, rfl⟩ := Array.getElem?_eq_some_iff.mp hc
    have q := List.all_eq_true.mp ((Array.all_eq_true_iff_forall_mem.mp hF) _ (Array.getElem_mem ha)) i (List.mem_range.mpr hi)
    simpa [Array.getElem?_eq_getElem hi] using q
  obtain ⟨i0, ei0⟩ := is_v hg0
  obtain rfl : w0 = (.int i0) := Option.some.inj ei0
  obtain ⟨i1, ei1⟩ := is_v hg1
  obtain rfl : w1 = (.int i1) := Option.some.inj ei1
  obtain ⟨i2, ei2⟩ := is_v hg2
  obtain rfl : w2 = (.int i2) := Option.some.inj ei2
  obtain ⟨i3, ei3⟩ := is_v hg3
  obtain rfl : w3 = (.int i3) := Option.some.inj ei3
  obtain ⟨hsets, hown0⟩ := atoms_of _ (rest_1_c_eq ▸ (show rest_1_c.before _ s = true from hrest))
  have hcs0 := not_v (Cond.before_iff.mp (hsets _ (List.mem_of_getElem? (i := 2) rfl)))
  obtain ⟨zc, ezc⟩ := is_v (Cond.before_iff.mp (hsets _ (List.mem_of_getElem? (i := 1) rfl)))
  have SC : Sta s s.heap "java/lang/String" "COMPACT_STRINGS" "Z" (.int zc) := Sta.start ezc (Or.inl (hsets _ (List.mem_of_getElem? (i := 0) rfl)))
  have hzc : ¬ (zc = (0 : Int32)) := gotF (Cond.eq_ints ezc (Term.int_eval (0))) hcs0
  obtain ⟨vf, evf, rvf⟩ := isR_v (Cond.before_iff.mp (hsets _ (List.mem_of_getElem? (i := 8) rfl)))
  have SF : Sta s s.heap "jdk/internal/util/Preconditions" "SIOOBE_FORMATTER" "Ljava/util/function/BiFunction;" vf := Sta.start evf (Or.inl (hsets _ (List.mem_of_getElem? (i := 7) rfl)))
  obtain ⟨n, o, h1, h2, h3, _, L, rfl, ⟨rfl, N, -⟩, hq⟩ := rm0 l s _ hw tables_1 i0 i1 i2 i3 zc vf s.heap s.heap.size (Old.start s) SC SF hzc rvf p e ha hc hk s m _ below hf ((Spec.applies_iff_loose hf).mp happ).1 ⟨rfl, State.Warmed39.refl s, rfl⟩ trivial
  refine ⟨n, _, h1, h2, h3, hpost _ _ _ _ _ _ ⟨Cond.after_iff.mpr rfl, Cond.after_iff.mpr (eq_i res_at (Term.int_eval (1)) rfl), trivial⟩ ⟨hq.1, hq.2.1, (hq.2.2.sift fun y hy => Or.inr (N y hy)).mono (by decide) (by decide)⟩⟩
theorem main_1_1 : Claimed_1_1 := comes_1 fun _ _ _ _ _ _ h hF => ⟨h.1, hF⟩
theorem main_1_2 : Claimed_1_2 := comes_1 fun _ _ _ _ _ _ h hF => ⟨h.2.1, hF⟩
end Jvm.Pilot.@@N@@
namespace Jvm.Pilot.@@N@@
open Jvm Jvm.ClassFile Sem Op Lib Jvm.Free Jvm.Stand Jvm.Pilot.@@N@@.Jvm.D
/-! MADE BY PROGRAM (witnessworld.py) out of the Statement's table words and the real class files: 20 classes; the members and pool entries that the words name. The judged class is class 1, her method 2. -/
namespace start1
open Jvm.ClassFile
def u (s : String) : CpInfo := .utf8 (stringToUtf16 s)
/-- a pool by its gaps: so many unusable entries, then the entry; so many at the end -/
def gap : Nat → List CpInfo → List CpInfo
  | 0, r => r
  | n + 1, r => .unusable :: gap n r
def poolList (es : List (Nat × CpInfo)) (last : Nat) : List CpInfo := es.foldr (fun e r => gap e.1 (e.2 :: r)) (gap last [])
def pool (es : List (Nat × CpInfo)) (last : Nat) : Array CpInfo := ⟨poolList es last⟩
def fileOf (pool : Array CpInfo) (this : Nat) (attrs : Array Attribute := #[]) (ms : Array MethodInfo := #[]) (fl : Nat := 33) (sup : Nat := 0) (ifs : Array Nat := #[]) (fds : Array FieldInfo := #[]) : ClassFile where
  minorVersion := 0
  majorVersion := 65
  constantPool := pool
  accessFlags := fl
  thisClass := this
  superClass := sup
  interfaces := ifs
  fields := fds
  methods := ms
  attributes := attrs
def plain (name : String) (sup : Option ClassId) : Class where
  name := name
  kind := .ordinary
  loader := none
  accessFlags := 33
  super := sup
  interfaces := #[]
  cf := none
  fields := #[]
  methods := #[]
  instanceTypes := #[]
  staticTypes := #[]
  resolved := #[]
  callSites := []
  init := .initialized
  statics := none
  mirror := none

def pool0 : Array CpInfo := pool [(5, u "<init>"), (0, u "()V"), (1, .class_ 10), (1, u "java/lang/Object")] 113

def k0c0 : Code := { maxStack := 0, maxLocals := 1, code := object_method_1_code, exceptionTable := #[], attributes := #[] }
def k0m0 : Method := { name := "<init>", desc := "()V", sig := { parameters := [], returnType := none }, accessFlags := 1, code := some k0c0 }
/-- java/lang/Object -/
def k0 : Class := { plain "java/lang/Object" none with
  accessFlags := 33
  interfaces := #[]
  cf := some (fileOf pool0 8 #[] #[{ accessFlags := 1, nameIndex := 5, descriptorIndex := 6, attributes := #[] }] 33 0 #[] #[])
  fields := #[]
  methods := #[k0m0]
  instanceTypes := #[]
  staticTypes := #[]
  resolved := Array.replicate 124 none
  statics := none }

def pool1 : Array CpInfo := pool [(2, .class_ 4), (1, u "java/lang/Object"), (0, u "<init>"), (0, u "()V"), (0, .methodref 8 9), (0, .class_ 10), (0, .nameAndType 11 12), (0, u "com/example/enlace/enlace/DotSegmentsIsDotSegmentPinLaw"), (0, u "pick"), (0, u "(I)C"), (0, .class_ 14), (0, u "java/lang/String"), (0, .methodref 13 16), (0, .nameAndType 5 17), (0, u "([C)V"), (0, .integer 2147483647), (0, .methodref 20 21), (0, .class_ 22), (0, .nameAndType 23 24), (0, u "com/example/enlace/enlace/DotSegments"), (0, u "isDotSegment"), (0, u "(Ljava/lang/String;II)Z"), (3, u "law"), (0, u "(IIII)Z")] 4

def k1m0 : Method := { name := "<init>", desc := "()V", sig := { parameters := [], returnType := none }, accessFlags := 1, code := none }
def k1c1 : Code := { maxStack := 2, maxLocals := 1, code := method_2_code, exceptionTable := #[], attributes := #[] }
def k1m1 : Method := { name := "pick", desc := "(I)C", sig := { parameters := [.int], returnType := some .char }, accessFlags := 10, code := some k1c1 }
def k1c2 : Code := { maxStack := 4, maxLocals := 11, code := code, exceptionTable := #[], attributes := #[] }
def k1m2 : Method := { name := "law", desc := "(IIII)Z", sig := { parameters := [.int, .int, .int, .int], returnType := some .boolean }, accessFlags := 9, code := some k1c2 }
/-- com/example/enlace/enlace/DotSegmentsIsDotSegmentPinLaw -/
def k1 : Class := { plain "com/example/enlace/enlace/DotSegmentsIsDotSegmentPinLaw" (some 0) with
  accessFlags := 49
  interfaces := #[]
  cf := some (fileOf pool1 8 #[] #[{ accessFlags := 1, nameIndex := 5, descriptorIndex := 6, attributes := #[] }, { accessFlags := 10, nameIndex := 11, descriptorIndex := 12, attributes := #[] }, { accessFlags := 9, nameIndex := 28, descriptorIndex := 29, attributes := #[] }] 49 2 #[] #[])
  fields := #[]
  methods := #[k1m0, k1m1, k1m2]
  instanceTypes := #[]
  staticTypes := #[]
  resolved := Array.replicate 34 none
  statics := none }

def pool2 : Array CpInfo := pool [(1, .class_ 2), (0, u "java/io/Serializable"), (0, .class_ 4), (0, u "java/lang/Object")] 2

/-- java/io/Serializable -/
def k2 : Class := { plain "java/io/Serializable" (some 0) with
  accessFlags := 1537
  interfaces := #[]
  cf := some (fileOf pool2 1 #[] #[] 1537 3 #[] #[])
  fields := #[]
  methods := #[]
  instanceTypes := #[]
  staticTypes := #[]
  resolved := Array.replicate 7 none
  statics := none }

def pool3 : Array CpInfo := pool [(1, .class_ 2), (0, u "java/lang/Comparable"), (0, .class_ 4), (0, u "java/lang/Object")] 7

/-- java/lang/Comparable -/
def k3 : Class := { plain "java/lang/Comparable" (some 0) with
  accessFlags := 1537
  interfaces := #[]
  cf := some (fileOf pool3 1 #[] #[] 1537 3 #[] #[])
  fields := #[]
  methods := #[]
  instanceTypes := #[]
  staticTypes := #[]
  resolved := Array.replicate 12 none
  statics := none }

def pool4 : Array CpInfo := pool [(2, .class_ 4), (1, u "java/lang/CharSequence"), (42, .class_ 48), (0, u "java/lang/CharSequence$1CodePointIterator"), (10, .class_ 60), (0, u "java/lang/CharSequence$1CharIterator"), (5, .class_ 67), (0, u "java/lang/Object")] 63

/-- java/lang/CharSequence -/
def k4 : Class := { plain "java/lang/CharSequence" (some 0) with
  accessFlags := 1537
  interfaces := #[]
  cf := some (fileOf pool4 2 #[.nestMembers #[47, 59]] #[] 1537 66 #[] #[])
  fields := #[]
  methods := #[]
  instanceTypes := #[]
  staticTypes := #[]
  resolved := Array.replicate 131 none
  statics := none }

def pool5 : Array CpInfo := pool [(1, .class_ 2), (0, u "java/lang/constant/Constable"), (0, .class_ 4), (0, u "java/lang/Object")] 6

/-- java/lang/constant/Constable -/
def k5 : Class := { plain "java/lang/constant/Constable" (some 0) with
  accessFlags := 1537
  interfaces := #[]
  cf := some (fileOf pool5 1 #[] #[] 1537 3 #[] #[])
  fields := #[]
  methods := #[]
  instanceTypes := #[]
  staticTypes := #[]
  resolved := Array.replicate 11 none
  statics := none }

def pool6 : Array CpInfo := pool [(1, .class_ 2), (0, u "java/lang/constant/ConstantDesc"), (0, .class_ 4), (0, u "java/lang/Object")] 32

/-- java/lang/constant/ConstantDesc -/
def k6 : Class := { plain "java/lang/constant/ConstantDesc" (some 0) with
  accessFlags := 1537
  interfaces := #[]
  cf := some (fileOf pool6 1 #[] #[] 1537 3 #[] #[])
  fields := #[]
  methods := #[]
  instanceTypes := #[]
  staticTypes := #[]
  resolved := Array.replicate 37 none
  statics := none }

def pool7 : Array CpInfo := pool [(1, .methodref 2 3), (0, .class_ 4), (0, .nameAndType 5 6), (0, u "java/lang/Object"), (0, u "<init>"), (0, u "()V"), (2, .fieldref 10 11), (0, .class_ 12), (0, .nameAndType 13 14), (0, u "java/lang/String"), (0, u "value"), (0, u "[B"), (0, .fieldref 10 16), (0, .nameAndType 17 18), (0, u "coder"), (0, u "B"), (2, u "hash"), (0, u "I"), (2, u "hashIsZero"), (0, u "Z"), (0, .methodref 10 28), (0, .nameAndType 5 29), (0, u "([CIILjava/lang/Void;)V"), (8, .fieldref 10 39), (0, .nameAndType 40 26), (0, u "COMPACT_STRINGS"), (1, .class_ 44), (1, u "java/lang/StringUTF16"), (0, u "compress"), (1, .methodref 42 48), (0, .nameAndType 49 50), (0, u "coderFromArrayLen"), (0, u "([BI)B"), (56, .class_ 109), (1, u "java/lang/StringLatin1"), (32, u "()Z"), (34, .methodref 42 178), (0, .nameAndType 45 179), (0, u "([CII)[B"), (183, u "([BI)C"), (27, u "(II)V"), (35, u "(I)C"), (64, .methodref 10 493), (0, .nameAndType 494 142), (0, u "isLatin1"), (0, .methodref 107 496), (0, .nameAndType 497 363), (0, u "charAt"), (3, u "checkIndex"), (73, .class_ 576), (0, u "java/lang/CharSequence"), (22, u "CASE_INSENSITIVE_ORDER"), (0, u "Ljava/util/Comparator;"), (409, u "([C)V"), (42, .fieldref 1054 1055), (0, .class_ 1056), (0, .nameAndType 1057 1058), (0, u "jdk/internal/util/Preconditions"), (0, u "SIOOBE_FORMATTER"), (0, u "Ljava/util/function/BiFunction;"), (0, .methodref 1054 1060), (0, .nameAndType 501 1061), (0, u "(IILjava/util/function/BiFunction;)I"), (39, u "serialPersistentFields"), (0, u "[Ljava/io/ObjectStreamField;"), (0, .class_ 1104), (0, u "java/lang/String$CaseInsensitiveComparator"), (1, .class_ 1107), (0, u "java/io/Serializable"), (0, .class_ 1109), (0, u "java/lang/Comparable"), (0, .class_ 1111), (0, u "java/lang/constant/Constable"), (0, .class_ 1113), (0, u "java/lang/constant/ConstantDesc"), (2, u "serialVersionUID"), (0, u "J"), (3, u "REPL"), (0, u "C"), (2, u "LATIN1"), (1, u "UTF16")] 323

def k7m0 : Method := { name := "<init>", desc := "()V", sig := { parameters := [], returnType := none }, accessFlags := 1, code := none }
def k7c1 : Code := { maxStack := 5, maxLocals := 2, code := jdk_42_method_3_code, exceptionTable := #[], attributes := #[] }
def k7m1 : Method := { name := "<init>", desc := "([C)V", sig := { parameters := [(.array .char)], returnType := none }, accessFlags := 1, code := some k7c1 }
def k7c2 : Code := { maxStack := 2, maxLocals := 2, code := jdk_42_method_56_code, exceptionTable := #[], attributes := #[] }
def k7m2 : Method := { name := "charAt", desc := "(I)C", sig := { parameters := [.int], returnType := some .char }, accessFlags := 1, code := some k7c2 }
def k7c3 : Code := { maxStack := 4, maxLocals := 6, code := jdk_42_method_149_code, exceptionTable := #[], attributes := #[] }
def k7m3 : Method := { name := "<init>", desc := "([CIILjava/lang/Void;)V", sig := { parameters := [(.array .char), .int, .int, (.object "java/lang/Void")], returnType := none }, accessFlags := 2, code := some k7c3 }
def k7c4 : Code := { maxStack := 1, maxLocals := 1, code := jdk_42_method_154_code, exceptionTable := #[], attributes := #[] }
def k7m4 : Method := { name := "isLatin1", desc := "()Z", sig := { parameters := [], returnType := some .boolean }, accessFlags := 0, code := some k7c4 }
def k7c5 : Code := { maxStack := 3, maxLocals := 2, code := jdk_42_method_155_code, exceptionTable := #[], attributes := #[] }
def k7m5 : Method := { name := "checkIndex", desc := "(II)V", sig := { parameters := [.int, .int], returnType := none }, accessFlags := 8, code := some k7c5 }
/-- java/lang/String -/
def k7 : Class := { plain "java/lang/String" (some 0) with
  accessFlags := 49
  interfaces := #[2, 3, 4, 5, 6]
  cf := some (fileOf pool7 10 #[.nestMembers #[1103]] #[{ accessFlags := 1, nameIndex := 5, descriptorIndex := 6, attributes := #[] }, { accessFlags := 1, nameIndex := 5, descriptorIndex := 1010, attributes := #[] }, { accessFlags := 1, nameIndex := 497, descriptorIndex := 427, attributes := #[] }, { accessFlags := 2, nameIndex := 5, descriptorIndex := 29, attributes := #[] }, { accessFlags := 0, nameIndex := 494, descriptorIndex := 142, attributes := #[] }, { accessFlags := 8, nameIndex := 501, descriptorIndex := 391, attributes := #[] }] 49 2 #[1106, 1108, 575, 1110, 1112] #[{ accessFlags := 18, nameIndex := 13, descriptorIndex := 14, attributes := #[] }, { accessFlags := 18, nameIndex := 17, descriptorIndex := 18, attributes := #[] }, { accessFlags := 2, nameIndex := 21, descriptorIndex := 22, attributes := #[] }, { accessFlags := 2, nameIndex := 25, descriptorIndex := 26, attributes := #[] }, { accessFlags := 26, nameIndex := 1116, descriptorIndex := 1117, attributes := #[] }, { accessFlags := 24, nameIndex := 40, descriptorIndex := 26, attributes := #[] }, { accessFlags := 26, nameIndex := 1101, descriptorIndex := 1102, attributes := #[] }, { accessFlags := 26, nameIndex := 1121, descriptorIndex := 1122, attributes := #[] }, { accessFlags := 25, nameIndex := 599, descriptorIndex := 600, attributes := #[] }, { accessFlags := 24, nameIndex := 1125, descriptorIndex := 18, attributes := #[] }, { accessFlags := 24, nameIndex := 1127, descriptorIndex := 18, attributes := #[] }])
  fields := #[{ name := "value", type := (.array .byte), accessFlags := 18, slot := 0, constantValue := 0 }, { name := "coder", type := .byte, accessFlags := 18, slot := 1, constantValue := 0 }, { name := "hash", type := .int, accessFlags := 2, slot := 2, constantValue := 0 }, { name := "hashIsZero", type := .boolean, accessFlags := 2, slot := 3, constantValue := 0 }, { name := "serialVersionUID", type := .long, accessFlags := 26, slot := 0, constantValue := 0 }, { name := "COMPACT_STRINGS", type := .boolean, accessFlags := 24, slot := 1, constantValue := 0 }, { name := "serialPersistentFields", type := (.array (.object "java/io/ObjectStreamField")), accessFlags := 26, slot := 2, constantValue := 0 }, { name := "REPL", type := .char, accessFlags := 26, slot := 3, constantValue := 0 }, { name := "CASE_INSENSITIVE_ORDER", type := (.object "java/util/Comparator"), accessFlags := 25, slot := 4, constantValue := 0 }, { name := "LATIN1", type := .byte, accessFlags := 24, slot := 5, constantValue := 0 }, { name := "UTF16", type := .byte, accessFlags := 24, slot := 6, constantValue := 0 }]
  methods := #[k7m0, k7m1, k7m2, k7m3, k7m4, k7m5]
  instanceTypes := #[(.array .byte), .byte, .int, .boolean]
  staticTypes := #[.long, .boolean, (.array (.object "java/io/ObjectStreamField")), .char, (.object "java/util/Comparator"), .byte, .byte]
  resolved := Array.replicate 1451 none
  statics := some 0 }

def pool8 : Array CpInfo := pool [(6, .class_ 8), (1, u "java/lang/Object"), (0, u "<init>"), (0, u "()V"), (1, .class_ 14), (1, u "java/lang/StringUTF16"), (31, u "$assertionsDisabled"), (0, u "Z"), (13, u "HI_BYTE_SHIFT"), (0, u "I"), (2, u "LO_BYTE_SHIFT"), (49, .methodref 12 116), (0, .nameAndType 117 118), (0, u "compress"), (0, u "([CI[BII)I"), (3, u "([CII)[B"), (138, u "coderFromArrayLen"), (0, u "([BI)B"), (106, .class_ 371), (1, u "java/lang/StringUTF16$LinesSpliterator"), (58, u "MAX_LENGTH"), (196, .class_ 628), (0, u "java/lang/StringUTF16$CodePointsSpliterator"), (0, .class_ 630), (0, u "java/lang/StringUTF16$CharsSpliterator")] 4

def k8m0 : Method := { name := "<init>", desc := "()V", sig := { parameters := [], returnType := none }, accessFlags := 0, code := none }
def k8c1 : Code := { maxStack := 2, maxLocals := 2, code := jdk_52_method_15_code, exceptionTable := #[], attributes := #[] }
def k8m1 : Method := { name := "coderFromArrayLen", desc := "([BI)B", sig := { parameters := [(.array .byte), .int], returnType := some .byte }, accessFlags := 8, code := some k8c1 }
def k8c2 : Code := { maxStack := 5, maxLocals := 6, code := jdk_52_method_16_code, exceptionTable := #[], attributes := #[] }
def k8m2 : Method := { name := "compress", desc := "([CII)[B", sig := { parameters := [(.array .char), .int, .int], returnType := some (.array .byte) }, accessFlags := 9, code := some k8c2 }
def k8c3 : Code := { maxStack := 3, maxLocals := 7, code := jdk_52_method_21_code, exceptionTable := #[], attributes := #[] }
def k8m3 : Method := { name := "compress", desc := "([CI[BII)I", sig := { parameters := [(.array .char), .int, (.array .byte), .int, .int], returnType := some .int }, accessFlags := 9, code := some k8c3 }
/-- java/lang/StringUTF16 -/
def k8 : Class := { plain "java/lang/StringUTF16" (some 0) with
  accessFlags := 48
  interfaces := #[]
  cf := some (fileOf pool8 12 #[.nestMembers #[627, 629, 369]] #[{ accessFlags := 0, nameIndex := 9, descriptorIndex := 10, attributes := #[] }, { accessFlags := 8, nameIndex := 261, descriptorIndex := 262, attributes := #[] }, { accessFlags := 9, nameIndex := 117, descriptorIndex := 122, attributes := #[] }, { accessFlags := 9, nameIndex := 117, descriptorIndex := 118, attributes := #[] }] 48 6 #[] #[{ accessFlags := 26, nameIndex := 61, descriptorIndex := 62, attributes := #[] }, { accessFlags := 26, nameIndex := 65, descriptorIndex := 62, attributes := #[] }, { accessFlags := 24, nameIndex := 430, descriptorIndex := 62, attributes := #[] }, { accessFlags := 4120, nameIndex := 46, descriptorIndex := 47, attributes := #[] }])
  fields := #[{ name := "HI_BYTE_SHIFT", type := .int, accessFlags := 26, slot := 0, constantValue := 0 }, { name := "LO_BYTE_SHIFT", type := .int, accessFlags := 26, slot := 1, constantValue := 0 }, { name := "MAX_LENGTH", type := .int, accessFlags := 24, slot := 2, constantValue := 0 }, { name := "$assertionsDisabled", type := .boolean, accessFlags := 4120, slot := 3, constantValue := 0 }]
  methods := #[k8m0, k8m1, k8m2, k8m3]
  instanceTypes := #[]
  staticTypes := #[.int, .int, .int, .boolean]
  resolved := Array.replicate 635 none
  statics := none }

def pool9 : Array CpInfo := pool [(2, .class_ 4), (1, u "java/lang/Object"), (0, u "<init>"), (0, u "()V"), (1, .class_ 10), (1, u "com/example/enlace/enlace/DotSegments"), (3, .class_ 16), (1, u "java/lang/String"), (10, .methodref 14 28), (0, .nameAndType 29 30), (0, u "charAt"), (0, u "(I)C"), (2, u "isDotSegment"), (0, u "(Ljava/lang/String;II)Z")] 33

def k9m0 : Method := { name := "<init>", desc := "()V", sig := { parameters := [], returnType := none }, accessFlags := 2, code := none }
def k9c1 : Code := { maxStack := 3, maxLocals := 4, code := prog_3_method_4_code, exceptionTable := #[], attributes := #[] }
def k9m1 : Method := { name := "isDotSegment", desc := "(Ljava/lang/String;II)Z", sig := { parameters := [(.object "java/lang/String"), .int, .int], returnType := some .boolean }, accessFlags := 8, code := some k9c1 }
/-- com/example/enlace/enlace/DotSegments -/
def k9 : Class := { plain "com/example/enlace/enlace/DotSegments" (some 0) with
  accessFlags := 48
  interfaces := #[]
  cf := some (fileOf pool9 8 #[] #[{ accessFlags := 2, nameIndex := 5, descriptorIndex := 6, attributes := #[] }, { accessFlags := 8, nameIndex := 33, descriptorIndex := 34, attributes := #[] }] 48 2 #[] #[])
  fields := #[]
  methods := #[k9m0, k9m1]
  instanceTypes := #[]
  staticTypes := #[]
  resolved := Array.replicate 68 none
  statics := none }

def pool10 : Array CpInfo := pool [(1, .class_ 2), (0, u "java/lang/String"), (1, .class_ 6), (1, u "java/lang/Object"), (0, u "<init>"), (0, u "()V"), (0, .methodref 1 10), (0, .nameAndType 11 12), (0, u "checkIndex"), (0, u "(II)V"), (1, .class_ 16), (1, u "java/lang/StringLatin1"), (36, u "([BI)C"), (67, u "$assertionsDisabled"), (0, u "Z"), (98, .class_ 223), (1, u "java/lang/StringLatin1$LinesSpliterator"), (28, u "charAt"), (137, .class_ 391), (0, u "java/lang/StringLatin1$CharsSpliterator")] 3

def k10m0 : Method := { name := "<init>", desc := "()V", sig := { parameters := [], returnType := none }, accessFlags := 0, code := none }
def k10c1 : Code := { maxStack := 2, maxLocals := 2, code := jdk_43_method_2_code, exceptionTable := #[], attributes := #[] }
def k10m1 : Method := { name := "charAt", desc := "([BI)C", sig := { parameters := [(.array .byte), .int], returnType := some .char }, accessFlags := 9, code := some k10c1 }
/-- java/lang/StringLatin1 -/
def k10 : Class := { plain "java/lang/StringLatin1" (some 0) with
  accessFlags := 48
  interfaces := #[]
  cf := some (fileOf pool10 14 #[.nestMembers #[390, 221]] #[{ accessFlags := 0, nameIndex := 7, descriptorIndex := 8, attributes := #[] }, { accessFlags := 9, nameIndex := 252, descriptorIndex := 53, attributes := #[] }] 48 4 #[] #[{ accessFlags := 4120, nameIndex := 121, descriptorIndex := 122, attributes := #[] }])
  fields := #[{ name := "$assertionsDisabled", type := .boolean, accessFlags := 4120, slot := 0, constantValue := 0 }]
  methods := #[k10m0, k10m1]
  instanceTypes := #[]
  staticTypes := #[.boolean]
  resolved := Array.replicate 395 none
  statics := none }

def pool11 : Array CpInfo := pool [(2, .class_ 4), (1, u "java/lang/Object"), (0, u "<init>"), (0, u "()V"), (17, .class_ 26), (1, u "jdk/internal/util/Preconditions"), (6, u "checkIndex"), (21, .class_ 56), (0, u "jdk/internal/util/Preconditions$4"), (57, .class_ 115), (0, u "jdk/internal/util/Preconditions$1"), (7, u "SIOOBE_FORMATTER"), (0, u "Ljava/util/function/BiFunction;"), (0, .class_ 126), (0, u "jdk/internal/util/Preconditions$2"), (3, u "AIOOBE_FORMATTER"), (0, .class_ 132), (0, u "jdk/internal/util/Preconditions$3"), (3, u "IOOBE_FORMATTER"), (41, u "(IILjava/util/function/BiFunction;)I")] 15

def k11m0 : Method := { name := "<init>", desc := "()V", sig := { parameters := [], returnType := none }, accessFlags := 1, code := none }
def k11c1 : Code := { maxStack := 3, maxLocals := 3, code := jdk_41_method_11_code, exceptionTable := #[], attributes := #[] }
def k11m1 : Method := { name := "checkIndex", desc := "(IILjava/util/function/BiFunction;)I", sig := { parameters := [.int, .int, (.object "java/util/function/BiFunction")], returnType := some .int }, accessFlags := 9, code := some k11c1 }
/-- jdk/internal/util/Preconditions -/
def k11 : Class := { plain "jdk/internal/util/Preconditions" (some 0) with
  accessFlags := 33
  interfaces := #[]
  cf := some (fileOf pool11 24 #[.nestMembers #[55, 131, 125, 114]] #[{ accessFlags := 1, nameIndex := 5, descriptorIndex := 6, attributes := #[] }, { accessFlags := 9, nameIndex := 33, descriptorIndex := 178, attributes := #[] }] 33 2 #[] #[{ accessFlags := 25, nameIndex := 123, descriptorIndex := 124, attributes := #[] }, { accessFlags := 25, nameIndex := 130, descriptorIndex := 124, attributes := #[] }, { accessFlags := 25, nameIndex := 136, descriptorIndex := 124, attributes := #[] }])
  fields := #[{ name := "SIOOBE_FORMATTER", type := (.object "java/util/function/BiFunction"), accessFlags := 25, slot := 0, constantValue := 0 }, { name := "AIOOBE_FORMATTER", type := (.object "java/util/function/BiFunction"), accessFlags := 25, slot := 1, constantValue := 0 }, { name := "IOOBE_FORMATTER", type := (.object "java/util/function/BiFunction"), accessFlags := 25, slot := 2, constantValue := 0 }]
  methods := #[k11m0, k11m1]
  instanceTypes := #[]
  staticTypes := #[(.object "java/util/function/BiFunction"), (.object "java/util/function/BiFunction"), (.object "java/util/function/BiFunction")]
  resolved := Array.replicate 194 none
  statics := some 1 }

def pool12 : Array CpInfo := pool [(9, u "<init>"), (6, .class_ 18), (1, u "java/lang/Object"), (0, u "()V"), (1, .class_ 23), (1, u "jdk/internal/util/ArraysSupport"), (0, u "LOG2_ARRAY_LONG_INDEX_SCALE"), (0, u "I"), (2, u "U"), (0, u "Ljdk/internal/misc/Unsafe;"), (8, u "BIG_ENDIAN"), (0, u "Z"), (8, u "LOG2_BYTE_BIT_SIZE"), (4, u "LOG2_ARRAY_INT_INDEX_SCALE"), (54, u "JLA"), (0, u "Ljdk/internal/access/JavaLangAccess;"), (11, u "LOG2_ARRAY_BOOLEAN_INDEX_SCALE"), (9, u "LOG2_ARRAY_BYTE_INDEX_SCALE"), (5, u "LOG2_ARRAY_CHAR_INDEX_SCALE"), (5, u "LOG2_ARRAY_SHORT_INDEX_SCALE"), (18, u "LOG2_ARRAY_FLOAT_INDEX_SCALE"), (24, u "LOG2_ARRAY_DOUBLE_INDEX_SCALE"), (89, u "T_BOOLEAN"), (2, u "T_CHAR"), (1, u "T_FLOAT"), (1, u "T_DOUBLE"), (1, u "T_BYTE"), (1, u "T_SHORT"), (1, u "T_INT"), (1, u "T_LONG"), (1, u "SOFT_MAX_ARRAY_LENGTH")] 83

def k12m0 : Method := { name := "<init>", desc := "()V", sig := { parameters := [], returnType := none }, accessFlags := 2, code := none }
/-- jdk/internal/util/ArraysSupport -/
def k12 : Class := { plain "jdk/internal/util/ArraysSupport" (some 0) with
  accessFlags := 33
  interfaces := #[]
  cf := some (fileOf pool12 21 #[] #[{ accessFlags := 2, nameIndex := 9, descriptorIndex := 19, attributes := #[] }] 33 16 #[] #[{ accessFlags := 24, nameIndex := 28, descriptorIndex := 29, attributes := #[] }, { accessFlags := 26, nameIndex := 38, descriptorIndex := 39, attributes := #[] }, { accessFlags := 25, nameIndex := 121, descriptorIndex := 25, attributes := #[] }, { accessFlags := 25, nameIndex := 131, descriptorIndex := 25, attributes := #[] }, { accessFlags := 25, nameIndex := 137, descriptorIndex := 25, attributes := #[] }, { accessFlags := 25, nameIndex := 143, descriptorIndex := 25, attributes := #[] }, { accessFlags := 25, nameIndex := 53, descriptorIndex := 25, attributes := #[] }, { accessFlags := 25, nameIndex := 24, descriptorIndex := 25, attributes := #[] }, { accessFlags := 25, nameIndex := 162, descriptorIndex := 25, attributes := #[] }, { accessFlags := 25, nameIndex := 187, descriptorIndex := 25, attributes := #[] }, { accessFlags := 26, nameIndex := 48, descriptorIndex := 25, attributes := #[] }, { accessFlags := 25, nameIndex := 277, descriptorIndex := 25, attributes := #[] }, { accessFlags := 25, nameIndex := 280, descriptorIndex := 25, attributes := #[] }, { accessFlags := 25, nameIndex := 282, descriptorIndex := 25, attributes := #[] }, { accessFlags := 25, nameIndex := 284, descriptorIndex := 25, attributes := #[] }, { accessFlags := 25, nameIndex := 286, descriptorIndex := 25, attributes := #[] }, { accessFlags := 25, nameIndex := 288, descriptorIndex := 25, attributes := #[] }, { accessFlags := 25, nameIndex := 290, descriptorIndex := 25, attributes := #[] }, { accessFlags := 25, nameIndex := 292, descriptorIndex := 25, attributes := #[] }, { accessFlags := 26, nameIndex := 108, descriptorIndex := 109, attributes := #[] }, { accessFlags := 25, nameIndex := 294, descriptorIndex := 25, attributes := #[] }])
  fields := #[{ name := "U", type := (.object "jdk/internal/misc/Unsafe"), accessFlags := 24, slot := 0, constantValue := 0 }, { name := "BIG_ENDIAN", type := .boolean, accessFlags := 26, slot := 1, constantValue := 0 }, { name := "LOG2_ARRAY_BOOLEAN_INDEX_SCALE", type := .int, accessFlags := 25, slot := 2, constantValue := 0 }, { name := "LOG2_ARRAY_BYTE_INDEX_SCALE", type := .int, accessFlags := 25, slot := 3, constantValue := 0 }, { name := "LOG2_ARRAY_CHAR_INDEX_SCALE", type := .int, accessFlags := 25, slot := 4, constantValue := 0 }, { name := "LOG2_ARRAY_SHORT_INDEX_SCALE", type := .int, accessFlags := 25, slot := 5, constantValue := 0 }, { name := "LOG2_ARRAY_INT_INDEX_SCALE", type := .int, accessFlags := 25, slot := 6, constantValue := 0 }, { name := "LOG2_ARRAY_LONG_INDEX_SCALE", type := .int, accessFlags := 25, slot := 7, constantValue := 0 }, { name := "LOG2_ARRAY_FLOAT_INDEX_SCALE", type := .int, accessFlags := 25, slot := 8, constantValue := 0 }, { name := "LOG2_ARRAY_DOUBLE_INDEX_SCALE", type := .int, accessFlags := 25, slot := 9, constantValue := 0 }, { name := "LOG2_BYTE_BIT_SIZE", type := .int, accessFlags := 26, slot := 10, constantValue := 0 }, { name := "T_BOOLEAN", type := .int, accessFlags := 25, slot := 11, constantValue := 0 }, { name := "T_CHAR", type := .int, accessFlags := 25, slot := 12, constantValue := 0 }, { name := "T_FLOAT", type := .int, accessFlags := 25, slot := 13, constantValue := 0 }, { name := "T_DOUBLE", type := .int, accessFlags := 25, slot := 14, constantValue := 0 }, { name := "T_BYTE", type := .int, accessFlags := 25, slot := 15, constantValue := 0 }, { name := "T_SHORT", type := .int, accessFlags := 25, slot := 16, constantValue := 0 }, { name := "T_INT", type := .int, accessFlags := 25, slot := 17, constantValue := 0 }, { name := "T_LONG", type := .int, accessFlags := 25, slot := 18, constantValue := 0 }, { name := "JLA", type := (.object "jdk/internal/access/JavaLangAccess"), accessFlags := 26, slot := 19, constantValue := 0 }, { name := "SOFT_MAX_ARRAY_LENGTH", type := .int, accessFlags := 25, slot := 20, constantValue := 0 }]
  methods := #[k12m0]
  instanceTypes := #[]
  staticTypes := #[(.object "jdk/internal/misc/Unsafe"), .boolean, .int, .int, .int, .int, .int, .int, .int, .int, .int, .int, .int, .int, .int, .int, .int, .int, .int, (.object "jdk/internal/access/JavaLangAccess"), .int]
  resolved := Array.replicate 378 none
  statics := none }

def pool13 : Array CpInfo := pool [(1, u "java/lang/Cloneable"), (0, .class_ 1), (0, u "java/lang/Object"), (0, .class_ 3)] 3

/-- java/lang/Cloneable -/
def k13 : Class := { plain "java/lang/Cloneable" (some 0) with
  accessFlags := 1537
  interfaces := #[]
  cf := some (fileOf pool13 2 #[] #[] 1537 4 #[] #[])
  fields := #[]
  methods := #[]
  instanceTypes := #[]
  staticTypes := #[]
  resolved := Array.replicate 8 none
  statics := none }

/-- the primitive byte -/
def k14 : Class := { plain "byte" none with kind := .primitive 'B', accessFlags := 0x411 }
/-- [B -/
def k15 : Class := { plain "[B" (some 0) with kind := .array 14 .byte, interfaces := #[13, 2], accessFlags := 1041 }

/-- the primitive char -/
def k16 : Class := { plain "char" none with kind := .primitive 'C', accessFlags := 0x411 }
/-- [C -/
def k17 : Class := { plain "[C" (some 0) with kind := .array 16 .char, interfaces := #[13, 2], accessFlags := 1041 }

/-- the primitive int -/
def k18 : Class := { plain "int" none with kind := .primitive 'I', accessFlags := 0x411 }
/-- [I -/
def k19 : Class := { plain "[I" (some 0) with kind := .array 18 .int, interfaces := #[13, 2], accessFlags := 1041 }

def heap : Heap := #[{ cls := 7, slots := #[.long 0, .int 1, .null, .int 0, .null, .int 0, .int 0], vm := .statics 7 },
  { cls := 11, slots := #[.null, .null, .null], vm := .statics 11 }]
def classes : Array Class := #[k0, k1, k2, k3, k4, k5, k6, k7, k8, k9, k10, k11, k12, k13, k14, k15, k16, k17, k18, k19]
def interned : List (Array UInt16 × Addr) := []
def slotsUsed : Nat := 10
def theMethod : MethodId := ⟨1, 2⟩
def args0 : Array Value := #[.int 5, .int 9, .int 3, .int 4]
def aboutOver (below : List Frame) : State where
  vm := { classes := classes, interned := interned.toArray }
  heap := heap
  slotsUsed := slotsUsed
  threads := #[{ frames := .invoking theMethod args0 :: below }]
def below0 : List Frame := [.native { method := ⟨0, 0⟩, args := #[] }]
def about1 : State := aboutOver below0
def p0 : Program := .bare "" "" ""
def e0 : Env := launch0.env 0 0 0
theorem w_frames : about1.frames = Frame.invoking theMethod args0 :: below0 := rfl
set_option maxRecDepth 65536 in
theorem w_args : argsFit about1.vm theMethod args0 = true := by decide +kernel
set_option maxRecDepth 65536 in
theorem w_heap : heapFits about1 = true := by decide +kernel
set_option maxRecDepth 65536 in
theorem w_runnable : about1.curStatus? = some .runnable := by decide +kernel
set_option maxRecDepth 65536 in
theorem w_alone : about1.alone = true := by decide +kernel
set_option maxRecDepth 65536 in
theorem w_named : about1.methodNamed? x = some theMethod := by decide +kernel
set_option maxRecDepth 65536 in
theorem w_hears : about1.hears theMethod below0 = true := by decide +kernel
set_option maxRecDepth 65536 in
theorem w_ripe : about1.ripe theMethod args0 below0 = true := by decide +kernel
theorem w_running : about1.status = .running := rfl
set_option maxRecDepth 65536 in
theorem w_room : about1.hasRoom e0.platform room_1 = true :=
  launch0.hasRoom_least _ room_1 (by decide +kernel) (by decide +kernel) (by decide +kernel) (by decide +kernel) (by decide +kernel) (by decide +kernel)
theorem allAtoms_all (ts : List Jvm.Cond) (a : Array Jvm.Value) (st : Jvm.State) : (allAtoms ts).before a st = ts.all (fun c => c.before a st) := by
  induction ts with
  | nil => rfl
  | cons c t ih =>
    show (Jvm.Cond.and c (allAtoms t)).before a st = _
    rw [Jvm.Cond.before_and, ih, List.all_cons]
def words1 : List Jvm.Cond := Jvm.Cond.code x code maxLocals ret :: tables_1
/-- a 'code' word, met by the world's own term for the bytes: nothing is compared byte by byte -/
theorem code_word {y : MethodName} {bytes : ByteArray} {mx : Nat} {rt : Option FieldType} {a : Array Value} {s : State} {m : MethodId} {meth : Method} {c : Code} (h1 : s.methodNamed? y = some m) (h2 : s.vm.method? m = some meth) (h3 : meth.code = some c) (h4 : c.code = bytes)
    (h5 : (c.maxLocals == mx && c.exceptionTable.isEmpty && decide (c.maxStack ≤ mostOperands) && decide (meth.sig.returnType = rt) && !meth.locks && decide (parseMethodDescriptor y.desc = some meth.sig)) = true) : (Jvm.Cond.code y bytes mx rt).before a s = true := by
  simp only [Bool.and_eq_true, beq_iff_eq, Bool.not_eq_true', decide_eq_true_eq] at h5
  obtain ⟨⟨⟨⟨⟨g1, g2⟩, g3⟩, g4⟩, g5⟩, g6⟩ := h5
  simp [Cond.before, Cond.holds, Cond.value, h1, h2, h3, h4, g1, g2, g3, g4, g5, g6]
def isCode : Jvm.Cond → Bool
  | .code _ _ _ _ => true
  | _ => false
theorem all_split {L : List Jvm.Cond} {P : Jvm.Cond → Bool} (h1 : L.all (fun c => isCode c || P c) = true) (h2 : ∀ c ∈ L.filter isCode, P c = true) : L.all P = true := by
  refine List.all_eq_true.mpr fun c hc => ?_
  have h := List.all_eq_true.mp h1 c hc
  rcases Bool.eq_false_or_eq_true (isCode c) with hi | hi
  · exact h2 c (List.mem_filter.mpr ⟨hc, hi⟩)
  · simpa [hi] using h
set_option maxRecDepth 65536 in
theorem w_c0 : (Jvm.Cond.code x code maxLocals ret).before args0 about1 = true := code_word (m := ⟨1, 2⟩) (meth := k1m2) (c := k1c2) (by decide +kernel) rfl rfl rfl (by decide +kernel)
set_option maxRecDepth 65536 in
theorem w_c1 : (Jvm.Cond.code ({ cls := "com/example/enlace/enlace/DotSegmentsIsDotSegmentPinLaw", name := "pick", desc := "(I)C" } : Jvm.MethodName) method_2_code (1 : Nat) (Option.some Jvm.ClassFile.FieldType.char)).before args0 about1 = true := code_word (m := ⟨1, 1⟩) (meth := k1m1) (c := k1c1) (by decide +kernel) rfl rfl rfl (by decide +kernel)
set_option maxRecDepth 65536 in
theorem w_c2 : (Jvm.Cond.code ({ cls := "java/lang/String", name := "<init>", desc := "([C)V" } : Jvm.MethodName) jdk_42_method_3_code (2 : Nat) (Option.none : Option Jvm.ClassFile.FieldType)).before args0 about1 = true := code_word (m := ⟨7, 1⟩) (meth := k7m1) (c := k7c1) (by decide +kernel) rfl rfl rfl (by decide +kernel)
set_option maxRecDepth 65536 in
theorem w_c3 : (Jvm.Cond.code ({ cls := "java/lang/String", name := "<init>", desc := "([CIILjava/lang/Void;)V" } : Jvm.MethodName) jdk_42_method_149_code (6 : Nat) (Option.none : Option Jvm.ClassFile.FieldType)).before args0 about1 = true := code_word (m := ⟨7, 3⟩) (meth := k7m3) (c := k7c3) (by decide +kernel) rfl rfl rfl (by decide +kernel)
set_option maxRecDepth 65536 in
theorem w_c4 : (Jvm.Cond.code ({ cls := "java/lang/Object", name := "<init>", desc := "()V" } : Jvm.MethodName) object_method_1_code (1 : Nat) (Option.none : Option Jvm.ClassFile.FieldType)).before args0 about1 = true := code_word (m := ⟨0, 0⟩) (meth := k0m0) (c := k0c0) (by decide +kernel) rfl rfl rfl (by decide +kernel)
set_option maxRecDepth 65536 in
theorem w_c5 : (Jvm.Cond.code ({ cls := "java/lang/StringUTF16", name := "compress", desc := "([CII)[B" } : Jvm.MethodName) jdk_52_method_16_code (6 : Nat) (Option.some (Jvm.ClassFile.FieldType.array Jvm.ClassFile.FieldType.byte))).before args0 about1 = true := code_word (m := ⟨8, 2⟩) (meth := k8m2) (c := k8c2) (by decide +kernel) rfl rfl rfl (by decide +kernel)
set_option maxRecDepth 65536 in
theorem w_c6 : (Jvm.Cond.code ({ cls := "java/lang/StringUTF16", name := "compress", desc := "([CI[BII)I" } : Jvm.MethodName) jdk_52_method_21_code (7 : Nat) (Option.some Jvm.ClassFile.FieldType.int)).before args0 about1 = true := code_word (m := ⟨8, 3⟩) (meth := k8m3) (c := k8c3) (by decide +kernel) rfl rfl rfl (by decide +kernel)
set_option maxRecDepth 65536 in
theorem w_c7 : (Jvm.Cond.code ({ cls := "java/lang/StringUTF16", name := "coderFromArrayLen", desc := "([BI)B" } : Jvm.MethodName) jdk_52_method_15_code (2 : Nat) (Option.some Jvm.ClassFile.FieldType.byte)).before args0 about1 = true := code_word (m := ⟨8, 1⟩) (meth := k8m1) (c := k8c1) (by decide +kernel) rfl rfl rfl (by decide +kernel)
set_option maxRecDepth 65536 in
theorem w_c8 : (Jvm.Cond.code ({ cls := "com/example/enlace/enlace/DotSegments", name := "isDotSegment", desc := "(Ljava/lang/String;II)Z" } : Jvm.MethodName) prog_3_method_4_code (4 : Nat) (Option.some Jvm.ClassFile.FieldType.boolean)).before args0 about1 = true := code_word (m := ⟨9, 1⟩) (meth := k9m1) (c := k9c1) (by decide +kernel) rfl rfl rfl (by decide +kernel)
set_option maxRecDepth 65536 in
theorem w_c9 : (Jvm.Cond.code ({ cls := "java/lang/String", name := "charAt", desc := "(I)C" } : Jvm.MethodName) jdk_42_method_56_code (2 : Nat) (Option.some Jvm.ClassFile.FieldType.char)).before args0 about1 = true := code_word (m := ⟨7, 2⟩) (meth := k7m2) (c := k7c2) (by decide +kernel) rfl rfl rfl (by decide +kernel)
set_option maxRecDepth 65536 in
theorem w_c10 : (Jvm.Cond.code ({ cls := "java/lang/String", name := "isLatin1", desc := "()Z" } : Jvm.MethodName) jdk_42_method_154_code (1 : Nat) (Option.some Jvm.ClassFile.FieldType.boolean)).before args0 about1 = true := code_word (m := ⟨7, 4⟩) (meth := k7m4) (c := k7c4) (by decide +kernel) rfl rfl rfl (by decide +kernel)
set_option maxRecDepth 65536 in
theorem w_c11 : (Jvm.Cond.code ({ cls := "java/lang/StringLatin1", name := "charAt", desc := "([BI)C" } : Jvm.MethodName) jdk_43_method_2_code (2 : Nat) (Option.some Jvm.ClassFile.FieldType.char)).before args0 about1 = true := code_word (m := ⟨10, 1⟩) (meth := k10m1) (c := k10c1) (by decide +kernel) rfl rfl rfl (by decide +kernel)
set_option maxRecDepth 65536 in
theorem w_c12 : (Jvm.Cond.code ({ cls := "java/lang/String", name := "checkIndex", desc := "(II)V" } : Jvm.MethodName) jdk_42_method_155_code (2 : Nat) (Option.none : Option Jvm.ClassFile.FieldType)).before args0 about1 = true := code_word (m := ⟨7, 5⟩) (meth := k7m5) (c := k7c5) (by decide +kernel) rfl rfl rfl (by decide +kernel)
set_option maxRecDepth 65536 in
theorem w_c13 : (Jvm.Cond.code ({ cls := "jdk/internal/util/Preconditions", name := "checkIndex", desc := "(IILjava/util/function/BiFunction;)I" } : Jvm.MethodName) jdk_41_method_11_code (3 : Nat) (Option.some Jvm.ClassFile.FieldType.int)).before args0 about1 = true := code_word (m := ⟨11, 1⟩) (meth := k11m1) (c := k11c1) (by decide +kernel) rfl rfl rfl (by decide +kernel)
def codes1 : List Jvm.Cond := [Jvm.Cond.code x code maxLocals ret, Jvm.Cond.code ({ cls := "com/example/enlace/enlace/DotSegmentsIsDotSegmentPinLaw", name := "pick", desc := "(I)C" } : Jvm.MethodName) method_2_code (1 : Nat) (Option.some Jvm.ClassFile.FieldType.char), Jvm.Cond.code ({ cls := "java/lang/String", name := "<init>", desc := "([C)V" } : Jvm.MethodName) jdk_42_method_3_code (2 : Nat) (Option.none : Option Jvm.ClassFile.FieldType), Jvm.Cond.code ({ cls := "java/lang/String", name := "<init>", desc := "([CIILjava/lang/Void;)V" } : Jvm.MethodName) jdk_42_method_149_code (6 : Nat) (Option.none : Option Jvm.ClassFile.FieldType), Jvm.Cond.code ({ cls := "java/lang/Object", name := "<init>", desc := "()V" } : Jvm.MethodName) object_method_1_code (1 : Nat) (Option.none : Option Jvm.ClassFile.FieldType), Jvm.Cond.code ({ cls := "java/lang/StringUTF16", name := "compress", desc := "([CII)[B" } : Jvm.MethodName) jdk_52_method_16_code (6 : Nat) (Option.some (Jvm.ClassFile.FieldType.array Jvm.ClassFile.FieldType.byte)), Jvm.Cond.code ({ cls := "java/lang/StringUTF16", name := "compress", desc := "([CI[BII)I" } : Jvm.MethodName) jdk_52_method_21_code (7 : Nat) (Option.some Jvm.ClassFile.FieldType.int), Jvm.Cond.code ({ cls := "java/lang/StringUTF16", name := "coderFromArrayLen", desc := "([BI)B" } : Jvm.MethodName) jdk_52_method_15_code (2 : Nat) (Option.some Jvm.ClassFile.FieldType.byte), Jvm.Cond.code ({ cls := "com/example/enlace/enlace/DotSegments", name := "isDotSegment", desc := "(Ljava/lang/String;II)Z" } : Jvm.MethodName) prog_3_method_4_code (4 : Nat) (Option.some Jvm.ClassFile.FieldType.boolean), Jvm.Cond.code ({ cls := "java/lang/String", name := "charAt", desc := "(I)C" } : Jvm.MethodName) jdk_42_method_56_code (2 : Nat) (Option.some Jvm.ClassFile.FieldType.char), Jvm.Cond.code ({ cls := "java/lang/String", name := "isLatin1", desc := "()Z" } : Jvm.MethodName) jdk_42_method_154_code (1 : Nat) (Option.some Jvm.ClassFile.FieldType.boolean), Jvm.Cond.code ({ cls := "java/lang/StringLatin1", name := "charAt", desc := "([BI)C" } : Jvm.MethodName) jdk_43_method_2_code (2 : Nat) (Option.some Jvm.ClassFile.FieldType.char), Jvm.Cond.code ({ cls := "java/lang/String", name := "checkIndex", desc := "(II)V" } : Jvm.MethodName) jdk_42_method_155_code (2 : Nat) (Option.none : Option Jvm.ClassFile.FieldType), Jvm.Cond.code ({ cls := "jdk/internal/util/Preconditions", name := "checkIndex", desc := "(IILjava/util/function/BiFunction;)I" } : Jvm.MethodName) jdk_41_method_11_code (3 : Nat) (Option.some Jvm.ClassFile.FieldType.int)]
set_option maxRecDepth 65536 in
theorem codes_eq : words1.filter isCode = codes1 := rfl
theorem w_codes : ∀ c ∈ words1.filter isCode, c.before args0 about1 = true := by
  rw [codes_eq]
  intro c hc
  simp only [codes1, List.mem_cons, List.not_mem_nil, or_false] at hc
  rcases hc with rfl | rfl | rfl | rfl | rfl | rfl | rfl | rfl | rfl | rfl | rfl | rfl | rfl | rfl
  · exact w_c0
  · exact w_c1
  · exact w_c2
  · exact w_c3
  · exact w_c4
  · exact w_c5
  · exact w_c6
  · exact w_c7
  · exact w_c8
  · exact w_c9
  · exact w_c10
  · exact w_c11
  · exact w_c12
  · exact w_c13
set_option maxRecDepth 65536 in
theorem w_t1 : (words1.take 24).all (fun c => isCode c || c.before args0 about1) = true := by decide +kernel
set_option maxRecDepth 65536 in
theorem w_t2 : ((words1.drop 24).take 24).all (fun c => isCode c || c.before args0 about1) = true := by decide +kernel
set_option maxRecDepth 65536 in
theorem w_t3 : ((words1.drop 24).drop 24).all (fun c => isCode c || c.before args0 about1) = true := by decide +kernel
theorem w_tables : (allAtoms (Jvm.Cond.code x code maxLocals ret :: tables_1)).before args0 about1 = true := by
  rw [allAtoms_all]
  show words1.all (fun c => c.before args0 about1) = true
  refine all_split ?_ w_codes
  rw [← List.take_append_drop 24 words1, List.all_append, w_t1, ← List.take_append_drop 24 (words1.drop 24), List.all_append, w_t2, w_t3]
  rfl
set_option maxRecDepth 65536 in
theorem w_rest : rest_1_c.before args0 about1 = true := by decide +kernel
set_option maxRecDepth 65536 in
theorem w_case : (Jvm.Cond.and given_1 narrow_1).before args0 about1 = true := by decide +kernel
theorem w_applies : (headSpec (Jvm.Cond.code x code maxLocals ret :: tables_1) room_1).applies x e0.platform about1 = true :=
  (Spec.applies_iff w_frames).mpr ⟨w_running, w_runnable, w_alone, w_named, w_hears, w_ripe, w_room, w_tables⟩
theorem atStart : AtStart classFile x code maxLocals ret World_1 tables_1 room_1 Calls_1 rest_1 Pre_1 launch0 p0 e0 about1 theMethod args0 below0 :=
  ⟨lists_1, trivial, launch0.admits_env _ _ _, launch0.least_env, fairChoices_fair.cas, fairChoices_fair.clock, w_frames, w_args, w_heap, w_applies, trivial, w_rest, w_case⟩
end start1
theorem witness_1 : WitnessClaimed_1 := ⟨start1.p0, start1.e0, start1.about1, start1.theMethod, start1.args0, start1.below0, start1.atStart⟩
end Jvm.Pilot.@@N@@
