import JvmDerived
import JvmDerived.Pilot.@@N@@Statement
import JvmDerived.Pilot.@@N@@Code
set_option linter.unusedVariables false
set_option linter.unusedSimpArgs false
namespace Jvm.RoadKit
open Sem ClassFile Op Lib Jvm.Stand Jvm.Free Jvm.LawKit
section New
variable {p : Program} {l : Launch} {e : Env} {R : Room} {s : State} {m : MethodId} {args : Array Value} {below : List Frame} {meth : Method} {c : Code} {T : State} {locs : List Loc} {cells slots : Nat}
theorem retI (X : Stand p l e R s m args below meth c T locs cells slots) (hx : p.tables.exec = Jvm.exec) {pc : Nat} {Ls : Array Slot} {z : Int32} {rest : List Value} (hret : meth.sig.returnType = some .int) (hd : decode c.code pc = .ok (.ireturn, 1)) {fs : List Frame}
    (hl : ∀ (f : JFrame) (acts : List Action), f.method = m → f.locked = none → f.entered = [] → (doReturn e (T.setTop f) acts (some (.int z))).1 = T.setFrames fs) : Steps p.tables e below (T.setTop (mkF m pc Ls (.int z :: rest))) (T.setFrames fs) := by
  have hm' : T.vm.method? m = some meth := X.method'
  have hn : narrow .int (.int z) = .int z := rfl
  show Steps p.tables e below (T.setTop { method := m, pc := pc, locals := Ls, stack := _ :: rest, locked := none }) _
  jvm_step X.here [X.here.top, hx, hd, hm', hret, hn]
  first | (intro acts; rw [hl _ acts rfl rfl rfl]) | rw [hl _ _ rfl rfl rfl]
  exact Steps.refl _
end New
end Jvm.RoadKit
/- laws to paste: Road.backV, Road.eqW, Road.codOf (cut by pick.py; bodies as the Statement names them) -/
namespace Jvm.Pilot.@@N@@
namespace StrChars
open Jvm Sem ClassFile Op Lib Jvm.Stand Jvm.Free.XT Jvm.Free.ALB Jvm.Free.JM Jvm.Free
open Jvm.Lib.Cold (StaticIs)
/-- a char array whose places are chars -/
def Ch (a : Addr) (A : Cell) (U : State) : Prop := Arr .char a A U ∧ Typed .char A
theorem Ch.mv {a : Addr} {A : Cell} {U U' : State} (h : Ch a A U) (hal : U.vm.Alike U'.vm) (hh : U'.heap = U.heap) : Ch a A U' := ⟨h.1.mv hal hh, h.2⟩
theorem Ch.keep {a : Addr} {A : Cell} {U U' : State} (h : Ch a A U) (hal : U.vm.Alike U'.vm) (hk : U'.heap[a]? = some A) : Ch a A U' := ⟨h.1.keep hal hk, h.2⟩
/-- what place i of a char[]'s cell holds -/
def cv (A : Cell) (i : Nat) : Int32 := match A.slots[i]? with | some (.int x) => x | _ => 0
theorem Ch.get {a : Addr} {A : Cell} {U : State} (h : Ch a A U) {i : Nat} (hi : i < A.slots.size) : A.slots[i]? = some (.int (cv A i)) := by
  have e := Array.getElem?_eq_getElem hi
  have f := h.2 i _ e
  unfold cv; rw [e]
  generalize A.slots[i] = v at f
  cases v <;> simp [fits] at f ⊢
/-- the byte that i2b leaves of a char -/
def lo8 (x : Int32) : Int32 := x.toInt8.toInt32
theorem fits_lo8 (y : Int32) : fits .byte (.int (lo8 y)) = true := by
  have h1 := y.toInt8.le_toInt
  have h2 := y.toInt8.toInt_lt
  simp only [lo8, fits, Bool.and_eq_true, decide_eq_true_eq, Int32.le_iff_toInt_le, Int8.toInt_toInt32, show (-128 : Int32).toInt = -128 from by decide, show (127 : Int32).toInt = 127 from by decide]
  omega
/-- A' is A but that each place j of lo .. hi - 1 holds f j -/
def Laid (A A' : Cell) (lo hi : Nat) (f : Nat → Value) : Prop := A'.cls = A.cls ∧ A'.vm = A.vm ∧ A'.slots.size = A.slots.size ∧ ∀ i, A'.slots[i]? = if lo ≤ i ∧ i < hi then some (f i) else A.slots[i]?
theorem Laid.zero (A : Cell) (lo : Nat) (f : Nat → Value) : Laid A A lo (lo + 0) f := ⟨rfl, rfl, rfl, fun i => by rw [if_neg (by omega)]⟩
theorem Laid.step {A Ak : Cell} {lo k : Nat} {f : Nat → Value} {v : Value} (h : Laid A Ak lo k f) (hlo : lo ≤ k) (hk : k < Ak.slots.size) (hv : v = f k) : Laid A (Ak.setSlot k v) lo (k + 1) f := by
  refine ⟨h.1, h.2.1, by simpa [Cell.setSlot] using h.2.2.1, fun i => ?_⟩
  by_cases e : k = i
  · subst e; rw [Cell.slots_setSlot_self v hk, if_pos (by omega), hv]
  · rw [Cell.slots_setSlot_ne v e, h.2.2.2 i]
    by_cases q : lo ≤ i ∧ i < k
    · rw [if_pos q, if_pos (by omega)]
    · rw [if_neg q, if_neg (by omega)]
def U16 : String := "java/lang/StringUTF16"
namespace Cmp5
def yN : MethodName := ⟨"java/lang/StringUTF16", "compress", "([CI[BII)I"⟩
abbrev yB : ByteArray := jdk_52_method_21_code
theorem d0 : decode yB 0 = .ok (.iconst 0, 1) := by decide +kernel
theorem d1 : decode yB 1 = .ok (.istore 5, 2) := by decide +kernel
theorem d3 : decode yB 3 = .ok (.iload 5, 2) := by decide +kernel
theorem d5 : decode yB 5 = .ok (.iload 4, 2) := by decide +kernel
theorem d7 : decode yB 7 = .ok (.if_icmp (.ge) 37, 3) := by decide +kernel
theorem d10 : decode yB 10 = .ok (.aload_n 0, 1) := by decide +kernel
theorem d11 : decode yB 11 = .ok (.iload_n 1, 1) := by decide +kernel
theorem d12 : decode yB 12 = .ok (.caload, 1) := by decide +kernel
theorem d13 : decode yB 13 = .ok (.istore 6, 2) := by decide +kernel
theorem d15 : decode yB 15 = .ok (.iload 6, 2) := by decide +kernel
theorem d17 : decode yB 17 = .ok (.sipush 255, 3) := by decide +kernel
theorem d20 : decode yB 20 = .ok (.if_icmp (.le) 6, 3) := by decide +kernel
theorem d26 : decode yB 26 = .ok (.aload_n 2, 1) := by decide +kernel
theorem d27 : decode yB 27 = .ok (.iload_n 3, 1) := by decide +kernel
theorem d28 : decode yB 28 = .ok (.iload 6, 2) := by decide +kernel
theorem d30 : decode yB 30 = .ok (.i2b, 1) := by decide +kernel
theorem d31 : decode yB 31 = .ok (.bastore, 1) := by decide +kernel
theorem d32 : decode yB 32 = .ok (.iinc 1 1, 3) := by decide +kernel
theorem d35 : decode yB 35 = .ok (.iinc 3 1, 3) := by decide +kernel
theorem d38 : decode yB 38 = .ok (.iinc 5 1, 3) := by decide +kernel
theorem d41 : decode yB 41 = .ok (.goto (-38), 3) := by decide +kernel
theorem d44 : decode yB 44 = .ok (.iload 4, 2) := by decide +kernel
theorem d46 : decode yB 46 = .ok (.ireturn, 1) := by decide +kernel
def site : List Cond := []
def tab : Cond := tabOf yN yB 7 (some .int) site
def P (b : Addr) (A : Cell) (d : Addr) (B : Cell) (o q len : Nat) (args : Array Value) (s : State) : Prop := args = #[.ref b, .int (Int32.ofNat o), .ref d, .int (Int32.ofNat q), .int (Int32.ofNat len)] ∧ Ch b A s ∧ Arr .byte d B s ∧ b ≠ d ∧ o + len ≤ A.slots.size ∧ q + len ≤ B.slots.size ∧ ∀ i, i < len → ¬ 255 < cv A (o + i)
def E (b : Addr) (A : Cell) (d : Addr) (B : Cell) (o q len : Nat) (r : Option Value) (s u : State) : Prop := r = some (.int (Int32.ofNat len)) ∧ ∃ B', Put d B' s u ∧ Laid B B' q (q + len) (fun j => Value.int (lo8 (cv A (o + (j - q)))))
/-- no char of the range above 255: len; the places written hold each char's low byte -/
theorem law (l : Launch) (b : Addr) (A : Cell) (d : Addr) (B : Cell) (o q len : Nat) : Law l yN 5 5 0 0 yB 7 (some .int) site (P b A d B o q len) (E b A d B o q len) (copyLocs d q len) 0 0 := by
  refine Law.of_walk (plainFor_of_name (by decide +kernel)) (by decide +kernel) (by decide +kernel) (by decide) (fun _ _ h => by rw [h.1]; rfl) (fun _ U U' hal hh h => ⟨h.1, h.2.1.mv hal hh, h.2.2.1.mv hal hh, h.2.2.2⟩) (fun r U U' V V' h1 hal h2 h => ⟨h.1, h.2.elim fun B' q => ⟨B', q.1.mv h1 h2, q.2⟩⟩) ?_
  intro p e s m args below meth c s₁ X0 hexec hbytes hml hret hlk hnm hown hh0 W hP
  obtain ⟨rfl, hA, hB, hne, l1, l2, hp⟩ := hP
  have c1 : Steps p.tables e below (s₁.setTop (entryFrame m #[.ref b, .int (Int32.ofNat o), .ref d, .int (Int32.ofNat q), .int (Int32.ofNat len)] 7)) (s₁.setTop (mkF m 0 #[.val (.ref b), .val (.int (Int32.ofNat o)), .val (.ref d), .val (.int (Int32.ofNat q)), .val (.int (Int32.ofNat len)), .unset, .unset] [])) := entry rfl
  have hA0 := hA.1.mv X0.warmed.alike hh0
  have hB0 := hB.mv X0.warmed.alike hh0
  have a31 := hA.1.2.2.2
  have c2 : Steps p.tables e below (s₁.setTop (entryFrame m #[.ref b, .int (Int32.ofNat o), .ref d, .int (Int32.ofNat q), .int (Int32.ofNat len)] 7)) (s₁.setTop (mkF m 3 #[.val (.ref b), .val (.int (Int32.ofNat o)), .val (.ref d), .val (.int (Int32.ofNat q)), .val (.int (Int32.ofNat len)), .val (.int 0), .unset] [])) := c1.trans (by
    refine iconstV X0.here hexec rfl 0 (hb hbytes d0) (by decide) ?_
    refine XS.istore X0.here hexec rfl (hb hbytes d1) rfl rfl ?_
    exact Steps.refl _)
  have loop : ∀ (r i : Nat), i + r = len → ∀ (z : Slot), (z = .unset ∨ ∃ w, z = .val w ∧ w.category = 1) → ∀ (Tl : State) (Bk : Cell), Stand p l e { frames := 0, locals := 0, cells := 0, slots := 0 } s m #[.ref b, .int (Int32.ofNat o), .ref d, .int (Int32.ofNat q), .int (Int32.ofNat len)] below meth c Tl ([] ++ copyLocs d q i) 0 0 → Put d Bk s₁ Tl → Laid B Bk q (q + i) (fun j => Value.int (lo8 (cv A (o + (j - q))))) →
      Steps p.tables e below (s₁.setTop (entryFrame m #[.ref b, .int (Int32.ofNat o), .ref d, .int (Int32.ofNat q), .int (Int32.ofNat len)] 7)) (Tl.setTop (mkF m 3 #[.val (.ref b), .val (.int (Int32.ofNat (o + i))), .val (.ref d), .val (.int (Int32.ofNat (q + i))), .val (.int (Int32.ofNat len)), .val (.int (Int32.ofNat i)), z] [])) → ∃ (T' : State) (B' : Cell) (z' : Slot), Stand p l e { frames := 0, locals := 0, cells := 0, slots := 0 } s m #[.ref b, .int (Int32.ofNat o), .ref d, .int (Int32.ofNat q), .int (Int32.ofNat len)] below meth c T' ([] ++ copyLocs d q len) 0 0 ∧ Put d B' s₁ T' ∧ Laid B B' q (q + len) (fun j => Value.int (lo8 (cv A (o + (j - q))))) ∧
      Steps p.tables e below (s₁.setTop (entryFrame m #[.ref b, .int (Int32.ofNat o), .ref d, .int (Int32.ofNat q), .int (Int32.ofNat len)] 7)) (T'.setTop (mkF m 3 #[.val (.ref b), .val (.int (Int32.ofNat (o + len))), .val (.ref d), .val (.int (Int32.ofNat (q + len))), .val (.int (Int32.ofNat len)), .val (.int (Int32.ofNat len)), z'] [])) := by
    intro r
    induction r with
    | zero =>
      intro i hi z hz Tl Bk Xl pl fl cl
      have hil : i = len := by omega
      rw [hil] at Xl fl cl
      exact ⟨Tl, Bk, z, Xl, pl, fl, cl⟩
    | succ r ih =>
      intro i hi z hz Tl Bk Xl pl fl cl
      have all := X0.warmed.alike.symm.trans Xl.warmed.alike
      have hAl := hA0.keep all (pl.other hne hA0.1)
      have hBk := hB0.like all pl.1 fl.1 fl.2.1 fl.2.2.1
      have hlt : q + i < Bk.slots.size := by rw [fl.2.2.1]; omega
      have c3 : Steps p.tables e below (s₁.setTop (entryFrame m #[.ref b, .int (Int32.ofNat o), .ref d, .int (Int32.ofNat q), .int (Int32.ofNat len)] 7)) (Tl.setTop (mkF m 12 #[.val (.ref b), .val (.int (Int32.ofNat (o + i))), .val (.ref d), .val (.int (Int32.ofNat (q + i))), .val (.int (Int32.ofNat len)), .val (.int (Int32.ofNat i)), z] [.int (Int32.ofNat (o + i)), .ref b])) := cl.trans (by
        refine XS.iload Xl.here hexec rfl (hb hbytes d3) rfl ?_
        refine XS.iload Xl.here hexec rfl (hb hbytes d5) rfl ?_
        refine XS.icmpNo Xl.here hexec rfl (hb hbytes d7) rfl (ii_ge_f (lt32 (by omega) (by omega))) ?_
        refine XS.aloadN Xl.here hexec rfl (hb hbytes d10) rfl rfl ?_
        refine XS.iloadN Xl.here hexec rfl (hb hbytes d11) rfl ?_
        exact Steps.refl _)
      have c4 : Steps p.tables e below (s₁.setTop (entryFrame m #[.ref b, .int (Int32.ofNat o), .ref d, .int (Int32.ofNat q), .int (Int32.ofNat len)] 7)) (Tl.setTop (mkF m 13 #[.val (.ref b), .val (.int (Int32.ofNat (o + i))), .val (.ref d), .val (.int (Int32.ofNat (q + i))), .val (.int (Int32.ofNat len)), .val (.int (Int32.ofNat i)), z] [.int (cv A (o + i))])) := c3.trans (by
        refine Xl.aget hexec hAl rfl (hA.get (i := o + i) (by omega)) rfl rfl (hb hbytes d12) ?_
        exact Steps.refl _)
      have c5 : Steps p.tables e below (s₁.setTop (entryFrame m #[.ref b, .int (Int32.ofNat o), .ref d, .int (Int32.ofNat q), .int (Int32.ofNat len)] 7)) (Tl.setTop (mkF m 15 #[.val (.ref b), .val (.int (Int32.ofNat (o + i))), .val (.ref d), .val (.int (Int32.ofNat (q + i))), .val (.int (Int32.ofNat len)), .val (.int (Int32.ofNat i)), .val (.int (cv A (o + i)))] [])) := c4.trans (by
        refine XS.istoreS Xl.here hexec rfl (hb hbytes d13) rfl rfl hz ?_
        exact Steps.refl _)
      have c6 : Steps p.tables e below (s₁.setTop (entryFrame m #[.ref b, .int (Int32.ofNat o), .ref d, .int (Int32.ofNat q), .int (Int32.ofNat len)] 7)) (Tl.setTop (mkF m 31 #[.val (.ref b), .val (.int (Int32.ofNat (o + i))), .val (.ref d), .val (.int (Int32.ofNat (q + i))), .val (.int (Int32.ofNat len)), .val (.int (Int32.ofNat i)), .val (.int (cv A (o + i)))] [.int (lo8 (cv A (o + i))), .int (Int32.ofNat (q + i)), .ref d])) := c5.trans (by
        refine XS.iload Xl.here hexec rfl (hb hbytes d15) rfl ?_
        refine sipushV Xl.here hexec rfl 255 (hb hbytes d17) (by decide) ?_
        refine XS.icmpYes Xl.here hexec rfl (pc0 := 20) rfl (hb hbytes d20) rfl (ii_le_t (hp i (by omega))) (by decide) rfl ?_
        refine XS.aloadN Xl.here hexec rfl (hb hbytes d26) rfl rfl ?_
        refine XS.iloadN Xl.here hexec rfl (hb hbytes d27) rfl ?_
        refine XS.iload Xl.here hexec rfl (hb hbytes d28) rfl ?_
        refine i2b Xl.here hexec rfl (hb hbytes d30) rfl ?_
        exact Steps.refl _)
      obtain ⟨T7, X7, p7, st7⟩ := Xl.aput hexec hBk rfl hlt rfl (fits_lo8 (cv A (o + i))) (g := (mkF m 31 #[.val (.ref b), .val (.int (Int32.ofNat (o + i))), .val (.ref d), .val (.int (Int32.ofNat (q + i))), .val (.int (Int32.ofNat len)), .val (.int (Int32.ofNat i)), .val (.int (cv A (o + i)))] [.int (lo8 (cv A (o + i))), .int (Int32.ofNat (q + i)), .ref d])) rfl (rest := []) rfl (hb hbytes d31)
      have c8 : Steps p.tables e below (s₁.setTop (entryFrame m #[.ref b, .int (Int32.ofNat o), .ref d, .int (Int32.ofNat q), .int (Int32.ofNat len)] 7)) (T7.setTop (mkF m 32 #[.val (.ref b), .val (.int (Int32.ofNat (o + i))), .val (.ref d), .val (.int (Int32.ofNat (q + i))), .val (.int (Int32.ofNat len)), .val (.int (Int32.ofNat i)), .val (.int (cv A (o + i)))] [])) := c6.trans (st7 _ (Steps.refl _))
      have c9 : Steps p.tables e below (s₁.setTop (entryFrame m #[.ref b, .int (Int32.ofNat o), .ref d, .int (Int32.ofNat q), .int (Int32.ofNat len)] 7)) (T7.setTop (mkF m 3 #[.val (.ref b), .val (.int (Int32.ofNat (o + i) + 1)), .val (.ref d), .val (.int (Int32.ofNat (q + i) + 1)), .val (.int (Int32.ofNat len)), .val (.int (Int32.ofNat i + 1)), .val (.int (cv A (o + i)))] [])) := c8.trans (by
        refine iincV X7.here hexec rfl 1 (hb hbytes d32) (by decide) rfl rfl ?_
        refine iincV X7.here hexec rfl 1 (hb hbytes d35) (by decide) rfl rfl ?_
        refine iincV X7.here hexec rfl 1 (hb hbytes d38) (by decide) rfl rfl ?_
        refine XS.goto X7.here hexec rfl (pc0 := 41) rfl (hb hbytes d41) (by decide) rfl ?_
        exact Steps.refl _)
      have c10 : Steps p.tables e below (s₁.setTop (entryFrame m #[.ref b, .int (Int32.ofNat o), .ref d, .int (Int32.ofNat q), .int (Int32.ofNat len)] 7)) (T7.setTop (mkF m 3 #[.val (.ref b), .val (.int (Int32.ofNat (o + (i + 1)))), .val (.ref d), .val (.int (Int32.ofNat (q + (i + 1)))), .val (.int (Int32.ofNat len)), .val (.int (Int32.ofNat (i + 1))), .val (.int (cv A (o + i)))] [])) := by
        have := c9
        rw [succ32, succ32, succ32] at this
        exact this
      exact ih (i + 1) (by omega) _ (Or.inr ⟨_, rfl, rfl⟩) T7 _ (by rw [copyLocs_step, ← List.append_assoc]; exact X7) (pl.trans p7) (fl.step (by omega) hlt (by simp)) c10
  obtain ⟨T9, B9, z9, X9, p9, f9, g9⟩ := loop len 0 (by omega) .unset (Or.inl rfl) s₁ B (by simpa [copyLocs] using X0) ⟨hB0.1, fun _ _ => rfl, rfl⟩ (Laid.zero _ _ _) c2
  have c11 : Steps p.tables e below (s₁.setTop (entryFrame m #[.ref b, .int (Int32.ofNat o), .ref d, .int (Int32.ofNat q), .int (Int32.ofNat len)] 7)) (T9.setTop (mkF m 46 #[.val (.ref b), .val (.int (Int32.ofNat (o + len))), .val (.ref d), .val (.int (Int32.ofNat (q + len))), .val (.int (Int32.ofNat len)), .val (.int (Int32.ofNat len)), z9] [.int (Int32.ofNat len)])) := g9.trans (by
    refine XS.iload X9.here hexec rfl (hb hbytes d3) rfl ?_
    refine XS.iload X9.here hexec rfl (hb hbytes d5) rfl ?_
    refine XS.icmpYes X9.here hexec rfl (pc0 := 7) rfl (hb hbytes d7) rfl (ii_ge_t (nlt32 (by omega) (Nat.le_refl _))) (by decide) rfl ?_
    refine XS.iload X9.here hexec rfl (hb hbytes d44) rfl ?_
    exact Steps.refl _)
  exact ⟨T9, some (.int (Int32.ofNat len)), _, _, _, X9, by simp, rfl, rfl, (fun h => by cases h), ⟨rfl, B9, p9.from hh0, f9⟩, fun fs hl => c11.trans (X9.ireturnOut hexec hret rfl (Or.inl rfl) (hb hbytes d46) hl)⟩
end Cmp5
namespace Cmp3
def yN : MethodName := ⟨"java/lang/StringUTF16", "compress", "([CII)[B"⟩
abbrev yB : ByteArray := jdk_52_method_16_code
theorem d0 : decode yB 0 = .ok (.iload_n 2, 1) := by decide +kernel
theorem d1 : decode yB 1 = .ok (.newarray .byte, 2) := by decide +kernel
theorem d3 : decode yB 3 = .ok (.astore_n 3, 1) := by decide +kernel
theorem d4 : decode yB 4 = .ok (.aload_n 0, 1) := by decide +kernel
theorem d5 : decode yB 5 = .ok (.iload_n 1, 1) := by decide +kernel
theorem d6 : decode yB 6 = .ok (.aload_n 3, 1) := by decide +kernel
theorem d7 : decode yB 7 = .ok (.iconst 0, 1) := by decide +kernel
theorem d8 : decode yB 8 = .ok (.iload_n 2, 1) := by decide +kernel
theorem d9 : decode yB 9 = .ok (.invokestatic 115, 3) := by decide +kernel
theorem d12 : decode yB 12 = .ok (.istore 4, 2) := by decide +kernel
theorem d14 : decode yB 14 = .ok (.iload 4, 2) := by decide +kernel
theorem d16 : decode yB 16 = .ok (.iload_n 2, 1) := by decide +kernel
theorem d17 : decode yB 17 = .ok (.if_icmp (.eq) 40, 3) := by decide +kernel
theorem d57 : decode yB 57 = .ok (.aload_n 3, 1) := by decide +kernel
theorem d58 : decode yB 58 = .ok (.areturn, 1) := by decide +kernel
def site : List Cond := [.arrayClass .byte, Cmp5.tab] ++ staticW U16 115 Cmp5.yN
def tab : Cond := tabOf yN yB 6 (some (.array .byte)) site
def P (b : Addr) (A : Cell) (o len : Nat) (args : Array Value) (s : State) : Prop := args = #[.ref b, .int (Int32.ofNat o), .int (Int32.ofNat len)] ∧ Ch b A s ∧ o + len ≤ A.slots.size ∧ len ≤ 536870912 ∧ ∀ i, i < len → ¬ 255 < cv A (o + i)
def E (b : Addr) (A : Cell) (o len : Nat) (r : Option Value) (s u : State) : Prop := NewArr .byte "[B" len (fun j => .int (lo8 (cv A (o + j)))) r s u ∧ u.heap.size = s.heap.size + 1
/-- no char of the range above 255: a new byte[] of their low bytes -/
theorem law (l : Launch) (b : Addr) (A : Cell) (o len : Nat) : Law l yN 3 3 1 18 yB 6 (some (.array .byte)) site (P b A o len) (E b A o len) [] 1 len := by
  refine Law.of_walk (plainFor_of_name (by decide +kernel)) (by decide +kernel) (by decide +kernel) (by decide) (fun _ _ h => by rw [h.1]; rfl) (fun _ U U' hal hh h => ⟨h.1, h.2.1.mv hal hh, h.2.2⟩) (fun r U U' V V' h1 hal h2 h => ⟨NewArr.mv r U U' V V' h1 hal h2 h.1, by rw [h1, h2]; exact h.2⟩) ?_
  intro p e s m args below meth c s₁ X0 hexec hbytes hml hret hlk hnm hown hh0 W hP
  obtain ⟨rfl, hA, l1, l2, hp⟩ := hP
  have a31 := hA.1.2.2.2
  have c1 : Steps p.tables e below (s₁.setTop (entryFrame m #[.ref b, .int (Int32.ofNat o), .int (Int32.ofNat len)] 6)) (s₁.setTop (mkF m 0 #[.val (.ref b), .val (.int (Int32.ofNat o)), .val (.int (Int32.ofNat len)), .unset, .unset, .unset] [])) := entry rfl
  have c2 : Steps p.tables e below (s₁.setTop (entryFrame m #[.ref b, .int (Int32.ofNat o), .int (Int32.ofNat len)] 6)) (s₁.setTop (mkF m 1 #[.val (.ref b), .val (.int (Int32.ofNat o)), .val (.int (Int32.ofNat len)), .unset, .unset, .unset] [.int (Int32.ofNat len)])) := c1.trans (by
    refine XS.iloadN X0.here hexec rfl (hb hbytes d0) rfl ?_
    exact Steps.refl _)
  obtain ⟨T3, B3, X3, ba3, bs3, bv3, bh3, bf3, st3⟩ := X0.anew hexec (atype := .byte) (wk W (.arrayClass .byte)) rfl (by show len * 1 ≤ _; omega) (by omega) (g := (mkF m 1 #[.val (.ref b), .val (.int (Int32.ofNat o)), .val (.int (Int32.ofNat len)), .unset, .unset, .unset] [.int (Int32.ofNat len)])) rfl (hb hbytes d1) (rest := []) rfl (Nat.le_refl _) (by show 0 + len ≤ len; omega)
  rw [hh0] at ba3 st3
  have kp3 : XT.Kept s T3 := (XT.Kept.of_eq hh0).push bh3
  have hA3 := hA.keep X3.warmed.alike (kp3 _ _ hA.1.1)
  have hne : b ≠ s.heap.size := hA.1.ne
  have c4 : Steps p.tables e below (s₁.setTop (entryFrame m #[.ref b, .int (Int32.ofNat o), .int (Int32.ofNat len)] 6)) (T3.setTop (mkF m 3 #[.val (.ref b), .val (.int (Int32.ofNat o)), .val (.int (Int32.ofNat len)), .unset, .unset, .unset] [.ref s.heap.size])) := c2.trans (st3 _ (Steps.refl _))
  have c5 : Steps p.tables e below (s₁.setTop (entryFrame m #[.ref b, .int (Int32.ofNat o), .int (Int32.ofNat len)] 6)) (T3.setTop (mkF m 9 #[.val (.ref b), .val (.int (Int32.ofNat o)), .val (.int (Int32.ofNat len)), .val (.ref s.heap.size), .unset, .unset] [.int (Int32.ofNat len), .int 0, .ref s.heap.size, .int (Int32.ofNat o), .ref b])) := c4.trans (by
    refine XS.astoreN X3.here hexec rfl (hb hbytes d3) rfl rfl rfl ?_
    refine XS.aloadN X3.here hexec rfl (hb hbytes d4) rfl rfl ?_
    refine XS.iloadN X3.here hexec rfl (hb hbytes d5) rfl ?_
    refine XS.aloadN X3.here hexec rfl (hb hbytes d6) rfl rfl ?_
    refine iconstV X3.here hexec rfl 0 (hb hbytes d7) (by decide) ?_
    refine XS.iloadN X3.here hexec rfl (hb hbytes d8) rfl ?_
    exact Steps.refl _)
  obtain ⟨v6, T6, X6, E6, g6⟩ := X3.callS hexec (Cmp5.law l b A s.heap.size B3 o 0 len) hown (wks W (staticW U16 115 Cmp5.yN)) (wk W Cmp5.tab) (W := 0) (Nat.le_of_ble_eq_true rfl) (Nat.le_of_ble_eq_true rfl) (Nat.le_refl _) (by show 0 + len + 0 ≤ len; omega) (g := (mkF m 9 #[.val (.ref b), .val (.int (Int32.ofNat o)), .val (.int (Int32.ofNat len)), .val (.ref s.heap.size), .unset, .unset] [.int (Int32.ofNat len), .int (Int32.ofNat 0), .ref s.heap.size, .int (Int32.ofNat o), .ref b])) rfl (by rw [hml]; rfl) c5 (argsL := [.ref b, .int (Int32.ofNat o), .ref s.heap.size, .int (Int32.ofNat 0), .int (Int32.ofNat len)]) (rest := []) rfl rfl (by show 2 * 0 + 0 ≤ _; decide) (hb hbytes d9) (⟨rfl, hA3, ba3, hne, l1, by rw [bs3]; simp, hp⟩)
  obtain ⟨rfl, B6, p6, f6⟩ := E6
  have c7 : Steps p.tables e below (s₁.setTop (entryFrame m #[.ref b, .int (Int32.ofNat o), .int (Int32.ofNat len)] 6)) (T6.setTop (mkF m 12 #[.val (.ref b), .val (.int (Int32.ofNat o)), .val (.int (Int32.ofNat len)), .val (.ref s.heap.size), .unset, .unset] [.int (Int32.ofNat len)])) := g6
  have c8 : Steps p.tables e below (s₁.setTop (entryFrame m #[.ref b, .int (Int32.ofNat o), .int (Int32.ofNat len)] 6)) (T6.setTop (mkF m 58 #[.val (.ref b), .val (.int (Int32.ofNat o)), .val (.int (Int32.ofNat len)), .val (.ref s.heap.size), .val (.int (Int32.ofNat len)), .unset] [.ref s.heap.size])) := c7.trans (by
    refine XS.istore X6.here hexec rfl (hb hbytes d12) rfl rfl ?_
    refine XS.iload X6.here hexec rfl (hb hbytes d14) rfl ?_
    refine XS.iloadN X6.here hexec rfl (hb hbytes d16) rfl ?_
    refine XS.icmpYes X6.here hexec rfl (pc0 := 17) rfl (hb hbytes d17) rfl (ii_eq_t rfl) (by decide) rfl ?_
    refine XS.aloadN X6.here hexec rfl (hb hbytes d57) rfl rfl ?_
    exact Steps.refl _)
  have X8 := X6.wide (L' := []) (cells' := 1) (slots' := len) (fun x hx hlt => by
    simp only [List.nil_append, copyLocs, List.mem_map, List.mem_range] at hx
    obtain ⟨i, -, rfl⟩ := hx
    exact absurd hlt (Nat.lt_irrefl _)) (Nat.le_refl _) (by omega)
  exact ⟨T6, some (.ref s.heap.size), _, _, _, X8, rfl, rfl, rfl, (fun h => by cases h), ⟨⟨rfl, B6, ba3.like (X3.warmed.alike.symm.trans X6.warmed.alike) p6.1 f6.1 f6.2.1 f6.2.2.1, f6.2.1.trans bv3, by rw [X6.warmed.alike.findClass, f6.1]; exact bf3, by rw [f6.2.2.1, bs3]; simp, fun j hj => by rw [f6.2.2.2 j, if_pos (by omega)]; rfl, kp3.put p6 (Nat.le_refl _)⟩, by rw [p6.2.2, bh3, hh0]; simp⟩, fun fs hl => c8.trans (X8.areturnOut hexec rfl hret rfl (hb hbytes d58) hl)⟩
end Cmp3
namespace CodL
def yN : MethodName := ⟨"java/lang/StringUTF16", "coderFromArrayLen", "([BI)B"⟩
abbrev yB : ByteArray := jdk_52_method_15_code
theorem d0 : decode yB 0 = .ok (.iload_n 1, 1) := by decide +kernel
theorem d1 : decode yB 1 = .ok (.aload_n 0, 1) := by decide +kernel
theorem d2 : decode yB 2 = .ok (.arraylength, 1) := by decide +kernel
theorem d3 : decode yB 3 = .ok (.isub, 1) := by decide +kernel
theorem d4 : decode yB 4 = .ok (.bipush 31, 2) := by decide +kernel
theorem d6 : decode yB 6 = .ok (.iushr, 1) := by decide +kernel
theorem d7 : decode yB 7 = .ok (.i2b, 1) := by decide +kernel
theorem d8 : decode yB 8 = .ok (.ireturn, 1) := by decide +kernel
def site : List Cond := []
def tab : Cond := tabOf yN yB 2 (some .byte) site
def P (d : Addr) (B : Cell) (args : Array Value) (s : State) : Prop := args = #[.ref d, .int (Int32.ofNat B.slots.size)] ∧ Arr .byte d B s
def E (r : Option Value) (s u : State) : Prop := XT.PureE (some (.int 0)) r s u
/-- an array as long as the number of chars: LATIN1 -/
theorem law (l : Launch) (d : Addr) (B : Cell) : Law l yN 2 2 0 0 yB 2 (some .byte) site (P d B) E [] 0 0 := by
  refine Law.of_walk (plainFor_of_name (by decide +kernel)) (by decide +kernel) (by decide +kernel) (by decide) (fun _ _ h => by rw [h.1]; rfl) (fun _ U U' hal hh h => ⟨h.1, h.2.mv hal hh⟩) (fun r U U' V V' h1 hal h2 h => XT.PureE.mv r U U' V V' h1 hal h2 h) ?_
  intro p e s m args below meth c s₁ X0 hexec hbytes hml hret hlk hnm hown hh0 W hP
  obtain ⟨rfl, hB⟩ := hP
  have hB0 := hB.mv X0.warmed.alike hh0
  have c1 : Steps p.tables e below (s₁.setTop (entryFrame m #[.ref d, .int (Int32.ofNat B.slots.size)] 2)) (s₁.setTop (mkF m 0 #[.val (.ref d), .val (.int (Int32.ofNat B.slots.size))] [])) := entry rfl
  have c2 : Steps p.tables e below (s₁.setTop (entryFrame m #[.ref d, .int (Int32.ofNat B.slots.size)] 2)) (s₁.setTop (mkF m 2 #[.val (.ref d), .val (.int (Int32.ofNat B.slots.size))] [.ref d, .int (Int32.ofNat B.slots.size)])) := c1.trans (by
    refine XS.iloadN X0.here hexec rfl (hb hbytes d0) rfl ?_
    refine XS.aloadN X0.here hexec rfl (hb hbytes d1) rfl rfl ?_
    exact Steps.refl _)
  have c3 : Steps p.tables e below (s₁.setTop (entryFrame m #[.ref d, .int (Int32.ofNat B.slots.size)] 2)) (s₁.setTop (mkF m 8 #[.val (.ref d), .val (.int (Int32.ofNat B.slots.size))] [.int (lo8 (ushr (Int32.ofNat B.slots.size - Int32.ofNat B.slots.size) 31))])) := c2.trans (by
    refine X0.alen hexec hB0 rfl rfl (hb hbytes d2) ?_
    refine XS.isub X0.here hexec rfl (hb hbytes d3) rfl ?_
    refine bipushV X0.here hexec rfl 31 (hb hbytes d4) (by decide) ?_
    refine iushr X0.here hexec rfl (hb hbytes d6) rfl ?_
    refine i2b X0.here hexec rfl (hb hbytes d7) rfl ?_
    exact Steps.refl _)
  have e0 : lo8 (ushr (Int32.ofNat B.slots.size - Int32.ofNat B.slots.size) 31) = 0 := by rw [Int32.sub_self]; decide
  rw [e0] at c3
  exact ⟨s₁, some (.int 0), _, _, _, X0, rfl, rfl, rfl, (fun h => by cases h), ⟨rfl, hh0⟩, fun fs hl => c3.trans (X0.ireturnOut hexec hret rfl (Or.inr (Or.inr (Or.inl rfl))) (hb hbytes d8) hl)⟩
end CodL
/-- the String at a is Latin-1 over a new byte[] (the heap's one new cell): the low bytes of the len chars of A from o on; every cell but a is kept -/
def Got (a : Addr) (D : Cell) (fV fC : Field) (A : Cell) (o len : Nat) (r : Option Value) (s u : State) : Prop := r = none ∧ ∃ D' V : Cell, Blank "java/lang/String" a D' u ∧ Same D D' [fV.slot, fC.slot] ∧ D'.slots[fV.slot]? = some (.ref s.heap.size) ∧ D'.slots[fC.slot]? = some (.int 0) ∧ Arr .byte s.heap.size V u ∧ V.vm = .none ∧ u.vm.findClass "[B" = some V.cls ∧ V.slots.size = len ∧ (∀ j, j < len → V.slots[j]? = some (.int (lo8 (cv A (o + j))))) ∧ (∀ (y : Addr) (c : Cell), y ≠ a → s.heap[y]? = some c → u.heap[y]? = some c) ∧ u.heap.size = s.heap.size + 1
theorem Got.mv {a : Addr} {D A : Cell} {fV fC : Field} {o len : Nat} : ∀ r (U U' V V' : State), U'.heap = U.heap → V.vm.Alike V'.vm → V'.heap = V.heap → Got a D fV fC A o len r U V → Got a D fV fC A o len r U' V' :=
  fun r U U' V V' h1 hal h2 ⟨e0, D', X, a1, a2, a3, a4, a5, a6, a7, a8, a9, a10, a11⟩ => ⟨e0, D', X, a1.mv hal h2, a2, by rw [h1]; exact a3, a4, by rw [h1]; exact a5.mv hal h2, a6, by rw [hal.findClass]; exact a7, a8, a9, by rw [h1, h2]; exact a10, by rw [h1, h2]; exact a11⟩
namespace New4
def yN : MethodName := ⟨"java/lang/String", "<init>", "([CIILjava/lang/Void;)V"⟩
abbrev yB : ByteArray := jdk_42_method_149_code
theorem d0 : decode yB 0 = .ok (.aload_n 0, 1) := by decide +kernel
theorem d1 : decode yB 1 = .ok (.invokespecial 1, 3) := by decide +kernel
theorem d4 : decode yB 4 = .ok (.iload_n 3, 1) := by decide +kernel
theorem d5 : decode yB 5 = .ok (.ifCond (.ne) 22, 3) := by decide +kernel
theorem d27 : decode yB 27 = .ok (.getstatic 38, 3) := by decide +kernel
theorem d30 : decode yB 30 = .ok (.ifCond (.eq) 28, 3) := by decide +kernel
theorem d33 : decode yB 33 = .ok (.aload_n 1, 1) := by decide +kernel
theorem d34 : decode yB 34 = .ok (.iload_n 2, 1) := by decide +kernel
theorem d35 : decode yB 35 = .ok (.iload_n 3, 1) := by decide +kernel
theorem d36 : decode yB 36 = .ok (.invokestatic 177, 3) := by decide +kernel
theorem d39 : decode yB 39 = .ok (.astore 5, 2) := by decide +kernel
theorem d41 : decode yB 41 = .ok (.aload_n 0, 1) := by decide +kernel
theorem d42 : decode yB 42 = .ok (.aload 5, 2) := by decide +kernel
theorem d44 : decode yB 44 = .ok (.iload_n 3, 1) := by decide +kernel
theorem d45 : decode yB 45 = .ok (.invokestatic 47, 3) := by decide +kernel
theorem d48 : decode yB 48 = .ok (.putfield 15, 3) := by decide +kernel
theorem d51 : decode yB 51 = .ok (.aload_n 0, 1) := by decide +kernel
theorem d52 : decode yB 52 = .ok (.aload 5, 2) := by decide +kernel
theorem d54 : decode yB 54 = .ok (.putfield 9, 3) := by decide +kernel
theorem d57 : decode yB 57 = .ok (.return_, 1) := by decide +kernel
def site : List Cond := [.fieldLink "java/lang/String" 38 "java/lang/String" "COMPACT_STRINGS" "Z", Cmp3.tab, CodL.tab, .laysFinal "java/lang/String" "java/lang/String" "value" "[B", .fieldLink "java/lang/String" 9 "java/lang/String" "value" "[B", .laysFinal "java/lang/String" "java/lang/String" "coder" "B", .fieldLink "java/lang/String" 15 "java/lang/String" "coder" "B"] ++ objW "java/lang/String" 1 ++ staticW "java/lang/String" 177 Cmp3.yN ++ staticW "java/lang/String" 47 CodL.yN
def tab : Cond := tabOf yN yB 6 none site
def P (a : Addr) (D : Cell) (fV fC : Field) (b : Addr) (A : Cell) (z : Int32) (o len : Nat) (args : Array Value) (s : State) : Prop := args = #[.ref a, .ref b, .int (Int32.ofNat o), .int (Int32.ofNat len), .null] ∧ Blank "java/lang/String" a D s ∧ Found "java/lang/String" "value" "[B" fV s ∧ Found "java/lang/String" "coder" "B" fC s ∧ Ch b A s ∧ StaticIs s "java/lang/String" "COMPACT_STRINGS" "Z" (.int z) ∧ ¬ z = 0 ∧ 0 < len ∧ o + len ≤ A.slots.size ∧ len ≤ 536870912 ∧ ∀ i, i < len → ¬ 255 < cv A (o + i)
def E (a : Addr) (D : Cell) (fV fC : Field) (A : Cell) (o len : Nat) (r : Option Value) (s u : State) : Prop := Got a D fV fC A o len r s u
/-- len > 0, no char of the range above 255: a Latin-1 String of their low bytes -/
theorem law (l : Launch) (a : Addr) (D : Cell) (fV fC : Field) (b : Addr) (A : Cell) (z : Int32) (o len : Nat) : Law l yN 5 4 2 35 yB 6 none site (P a D fV fC b A z o len) (E a D fV fC A o len) [⟨a, fC.slot⟩, ⟨a, fV.slot⟩] 1 len := by
  refine Law.of_walk (plainFor_of_name (by decide +kernel)) (by decide +kernel) (by decide +kernel) (by decide) (fun _ _ h => by rw [h.1]; rfl) (fun _ U U' hal hh h => ⟨h.1, h.2.1.mv hal hh, h.2.2.1.al hal, h.2.2.2.1.al hal, h.2.2.2.2.1.mv hal hh, h.2.2.2.2.2.1.there hal hh, h.2.2.2.2.2.2⟩) (fun r U U' V V' h1 hal h2 h => Got.mv r U U' V V' h1 hal h2 h) ?_
  intro p e s m args below meth c s₁ X0 hexec hbytes hml hret hlk hnm hown hh0 W hP
  obtain ⟨rfl, hB, f1, f2, hA, s1, hz, l0, l1, l2, hp⟩ := hP
  have a31 := hA.1.2.2.2
  have c1 : Steps p.tables e below (s₁.setTop (entryFrame m #[.ref a, .ref b, .int (Int32.ofNat o), .int (Int32.ofNat len), .null] 6)) (s₁.setTop (mkF m 0 #[.val (.ref a), .val (.ref b), .val (.int (Int32.ofNat o)), .val (.int (Int32.ofNat len)), .val .null, .unset] [])) := entry rfl
  have c2 : Steps p.tables e below (s₁.setTop (entryFrame m #[.ref a, .ref b, .int (Int32.ofNat o), .int (Int32.ofNat len), .null] 6)) (s₁.setTop (mkF m 1 #[.val (.ref a), .val (.ref b), .val (.int (Int32.ofNat o)), .val (.int (Int32.ofNat len)), .val .null, .unset] [.ref a])) := c1.trans (by
    refine XS.aloadN X0.here hexec rfl (hb hbytes d0) rfl rfl ?_
    exact Steps.refl _)
  obtain ⟨T3, X3, q3, st3⟩ := X0.oinit hexec hown (wks W (objW "java/lang/String" 1)) (g := (mkF m 1 #[.val (.ref a), .val (.ref b), .val (.int (Int32.ofNat o)), .val (.int (Int32.ofNat len)), .val .null, .unset] [.ref a])) rfl (by rw [hml]; rfl) (rest := []) rfl (hb hbytes d1) (W := 0) (by show 2 * 0 + 0 ≤ _; decide) (Nat.le_of_ble_eq_true rfl) (Nat.le_of_ble_eq_true rfl)
  have hh3 := q3.trans hh0
  have c4 : Steps p.tables e below (s₁.setTop (entryFrame m #[.ref a, .ref b, .int (Int32.ofNat o), .int (Int32.ofNat len), .null] 6)) (T3.setTop (mkF m 27 #[.val (.ref a), .val (.ref b), .val (.int (Int32.ofNat o)), .val (.int (Int32.ofNat len)), .val .null, .unset] [])) := (c2.trans (st3 _ (Steps.refl _))).trans (by
    refine XS.iloadN X3.here hexec rfl (hb hbytes d4) rfl ?_
    refine XS.ifYes X3.here hexec rfl (pc0 := 5) rfl (hb hbytes d5) rfl (i0_ne_t (nz32 (by omega) l0)) (by decide) rfl ?_
    exact Steps.refl _)
  obtain ⟨T5, X5, q5, st5⟩ := X3.sget hexec hown (wk W (.fieldLink "java/lang/String" 38 "java/lang/String" "COMPACT_STRINGS" "Z")) s1 (fun _ _ h => by rw [hh3]; exact h) (g := (mkF m 27 #[.val (.ref a), .val (.ref b), .val (.int (Int32.ofNat o)), .val (.int (Int32.ofNat len)), .val .null, .unset] [])) rfl (hb hbytes d27)
  have hh5 := q5.trans hh3
  have c6 : Steps p.tables e below (s₁.setTop (entryFrame m #[.ref a, .ref b, .int (Int32.ofNat o), .int (Int32.ofNat len), .null] 6)) (T5.setTop (mkF m 30 #[.val (.ref a), .val (.ref b), .val (.int (Int32.ofNat o)), .val (.int (Int32.ofNat len)), .val .null, .unset] [.int z])) := c4.trans (st5 _ (Steps.refl _))
  have c7 : Steps p.tables e below (s₁.setTop (entryFrame m #[.ref a, .ref b, .int (Int32.ofNat o), .int (Int32.ofNat len), .null] 6)) (T5.setTop (mkF m 36 #[.val (.ref a), .val (.ref b), .val (.int (Int32.ofNat o)), .val (.int (Int32.ofNat len)), .val .null, .unset] [.int (Int32.ofNat len), .int (Int32.ofNat o), .ref b])) := c6.trans (by
    refine XS.ifNo X5.here hexec rfl (hb hbytes d30) rfl (i0_eq_f hz) ?_
    refine XS.aloadN X5.here hexec rfl (hb hbytes d33) rfl rfl ?_
    refine XS.iloadN X5.here hexec rfl (hb hbytes d34) rfl ?_
    refine XS.iloadN X5.here hexec rfl (hb hbytes d35) rfl ?_
    exact Steps.refl _)
  obtain ⟨v8, T8, X8, E8, g8⟩ := X5.callS hexec (Cmp3.law l b A o len) hown (wks W (staticW "java/lang/String" 177 Cmp3.yN)) (wk W Cmp3.tab) (W := 0) (Nat.le_of_ble_eq_true rfl) (Nat.le_of_ble_eq_true rfl) (Nat.le_refl _) (by show 0 + len ≤ len; omega) (g := (mkF m 36 #[.val (.ref a), .val (.ref b), .val (.int (Int32.ofNat o)), .val (.int (Int32.ofNat len)), .val .null, .unset] [.int (Int32.ofNat len), .int (Int32.ofNat o), .ref b])) rfl (by rw [hml]; rfl) c7 (argsL := [.ref b, .int (Int32.ofNat o), .int (Int32.ofNat len)]) (rest := []) rfl rfl (by show 2 * 0 + 0 ≤ _; decide) (hb hbytes d36) (⟨rfl, hA.mv X5.warmed.alike hh5, l1, l2, hp⟩)
  obtain ⟨e8, z8⟩ := E8
  obtain ⟨rfl, N, n1, n2, n3, n4, n5, n6⟩ := NewArr.mv _ T5 s _ _ hh5.symm (Vm.Alike.refl _) rfl e8
  rw [hh5] at z8
  have hB1 := hB.keep X8.warmed.alike (n6 _ _ hB.1)
  have hne : s.heap.size ≠ a := (Nat.ne_of_lt (Array.getElem?_eq_some_iff.mp hB.1).1).symm
  have c9 : Steps p.tables e below (s₁.setTop (entryFrame m #[.ref a, .ref b, .int (Int32.ofNat o), .int (Int32.ofNat len), .null] 6)) (T8.setTop (mkF m 39 #[.val (.ref a), .val (.ref b), .val (.int (Int32.ofNat o)), .val (.int (Int32.ofNat len)), .val .null, .unset] [.ref s.heap.size])) := g8
  have c10 : Steps p.tables e below (s₁.setTop (entryFrame m #[.ref a, .ref b, .int (Int32.ofNat o), .int (Int32.ofNat len), .null] 6)) (T8.setTop (mkF m 45 #[.val (.ref a), .val (.ref b), .val (.int (Int32.ofNat o)), .val (.int (Int32.ofNat len)), .val .null, .val (.ref s.heap.size)] [.int (Int32.ofNat N.slots.size), .ref s.heap.size, .ref a])) := by
    have hc : Steps p.tables e below (s₁.setTop (entryFrame m #[.ref a, .ref b, .int (Int32.ofNat o), .int (Int32.ofNat len), .null] 6)) (T8.setTop (mkF m 45 #[.val (.ref a), .val (.ref b), .val (.int (Int32.ofNat o)), .val (.int (Int32.ofNat len)), .val .null, .val (.ref s.heap.size)] [.int (Int32.ofNat len), .ref s.heap.size, .ref a])) := c9.trans (by
      refine XS.astore X8.here hexec rfl (hb hbytes d39) rfl rfl rfl ?_
      refine XS.aloadN X8.here hexec rfl (hb hbytes d41) rfl rfl ?_
      refine XS.aload X8.here hexec rfl (hb hbytes d42) rfl rfl ?_
      refine XS.iloadN X8.here hexec rfl (hb hbytes d44) rfl ?_
      exact Steps.refl _)
    rw [n4]; exact hc
  obtain ⟨v11, T11, X11, E11, g11⟩ := X8.callS hexec (CodL.law l s.heap.size N) hown (wks W (staticW "java/lang/String" 47 CodL.yN)) (wk W CodL.tab) (W := 1) (Nat.le_of_ble_eq_true rfl) (Nat.le_of_ble_eq_true rfl) (Nat.le_refl _) (by show 0 + len + 0 ≤ len; omega) (g := (mkF m 45 #[.val (.ref a), .val (.ref b), .val (.int (Int32.ofNat o)), .val (.int (Int32.ofNat len)), .val .null, .val (.ref s.heap.size)] [.int (Int32.ofNat N.slots.size), .ref s.heap.size, .ref a])) rfl (by rw [hml]; rfl) c10 (argsL := [.ref s.heap.size, .int (Int32.ofNat N.slots.size)]) (rest := [.ref a]) rfl rfl (by show 2 * 0 + (1 + 0) ≤ _; decide) (hb hbytes d45) (⟨rfl, n1⟩)
  obtain ⟨rfl, q11⟩ := E11
  have hB11 := hB1.mv (X8.warmed.alike.symm.trans X11.warmed.alike) q11
  have c12 : Steps p.tables e below (s₁.setTop (entryFrame m #[.ref a, .ref b, .int (Int32.ofNat o), .int (Int32.ofNat len), .null] 6)) (T11.setTop (mkF m 48 #[.val (.ref a), .val (.ref b), .val (.int (Int32.ofNat o)), .val (.int (Int32.ofNat len)), .val .null, .val (.ref s.heap.size)] [.int 0, .ref a])) := g11
  obtain ⟨T13, X13, p13, bl13, sl13, st13⟩ := X11.finit hexec hown (wk W (.fieldLink "java/lang/String" 15 "java/lang/String" "coder" "B")) (Or.inr ⟨_, (wk W (.laysFinal "java/lang/String" "java/lang/String" "coder" "B"))⟩) (Or.inl ⟨rfl, hnm⟩) f2 (Or.inl rfl) hB11 (t := .byte) (by decide +kernel) rfl (g := (mkF m 48 #[.val (.ref a), .val (.ref b), .val (.int (Int32.ofNat o)), .val (.int (Int32.ofNat len)), .val .null, .val (.ref s.heap.size)] [.int 0, .ref a])) rfl (rest := []) rfl (hb hbytes d48)
  have c14 : Steps p.tables e below (s₁.setTop (entryFrame m #[.ref a, .ref b, .int (Int32.ofNat o), .int (Int32.ofNat len), .null] 6)) (T13.setTop (mkF m 54 #[.val (.ref a), .val (.ref b), .val (.int (Int32.ofNat o)), .val (.int (Int32.ofNat len)), .val .null, .val (.ref s.heap.size)] [.ref s.heap.size, .ref a])) := (c12.trans (st13 _ (Steps.refl _))).trans (by
    refine XS.aloadN X13.here hexec rfl (hb hbytes d51) rfl rfl ?_
    refine XS.aload X13.here hexec rfl (hb hbytes d52) rfl rfl ?_
    exact Steps.refl _)
  obtain ⟨T15, X15, p15, bl15, sl15, st15⟩ := X13.finit hexec hown (wk W (.fieldLink "java/lang/String" 9 "java/lang/String" "value" "[B")) (Or.inr ⟨_, (wk W (.laysFinal "java/lang/String" "java/lang/String" "value" "[B"))⟩) (Or.inl ⟨rfl, hnm⟩) f1 (Or.inl rfl) bl13 (t := (.array .byte)) (by decide +kernel) rfl (g := (mkF m 54 #[.val (.ref a), .val (.ref b), .val (.int (Int32.ofNat o)), .val (.int (Int32.ofNat len)), .val .null, .val (.ref s.heap.size)] [.ref s.heap.size, .ref a])) rfl (rest := []) rfl (hb hbytes d54)
  have c16 : Steps p.tables e below (s₁.setTop (entryFrame m #[.ref a, .ref b, .int (Int32.ofNat o), .int (Int32.ofNat len), .null] 6)) (T15.setTop (mkF m 57 #[.val (.ref a), .val (.ref b), .val (.int (Int32.ofNat o)), .val (.int (Int32.ofNat len)), .val .null, .val (.ref s.heap.size)] [])) := c14.trans (st15 _ (Steps.refl _))
  have ap := apart (Or.inr ⟨_, (wk W (.laysFinal "java/lang/String" "java/lang/String" "value" "[B"))⟩) (Or.inr ⟨_, (wk W (.laysFinal "java/lang/String" "java/lang/String" "coder" "B"))⟩) f1 f2 (t₁ := .array .byte) (t₂ := .byte) (by decide +kernel) (by decide +kernel) (by decide)
  have al := X8.warmed.alike.symm.trans X15.warmed.alike
  have n7 : T11.heap[s.heap.size]? = some N := by rw [q11]; exact n1.1
  exact ⟨T15, none, _, _, _, X15, by simp, rfl, by omega, (fun _ => rfl), ⟨rfl, _, N, bl15, ((Same.refl D _).set _ (by simp)).set _ (by simp), sl15, (Cell.slots_setSlot_ne _ ap).trans sl13, n1.keep al (p15.other hne (p13.other hne n7)), n2, by rw [al.findClass]; exact n3, n4, n5, fun y c h1 h2 => p15.other h1 (p13.other h1 (by rw [q11]; exact n6 y c h2)), by rw [p15.2.2, p13.2.2, q11]; exact z8⟩, fun fs hl => c16.trans (X15.returnOut hexec hret (hb hbytes d57) hl)⟩
end New4
namespace New1
def yN : MethodName := ⟨"java/lang/String", "<init>", "([C)V"⟩
abbrev yB : ByteArray := jdk_42_method_3_code
theorem d0 : decode yB 0 = .ok (.aload_n 0, 1) := by decide +kernel
theorem d1 : decode yB 1 = .ok (.aload_n 1, 1) := by decide +kernel
theorem d2 : decode yB 2 = .ok (.iconst 0, 1) := by decide +kernel
theorem d3 : decode yB 3 = .ok (.aload_n 1, 1) := by decide +kernel
theorem d4 : decode yB 4 = .ok (.arraylength, 1) := by decide +kernel
theorem d5 : decode yB 5 = .ok (.aconst_null, 1) := by decide +kernel
theorem d6 : decode yB 6 = .ok (.invokespecial 27, 3) := by decide +kernel
theorem d9 : decode yB 9 = .ok (.return_, 1) := by decide +kernel
def site : List Cond := [New4.tab] ++ initW "java/lang/String" 27 New4.yN
def tab : Cond := tabOf yN yB 2 none site
def P (a : Addr) (D : Cell) (fV fC : Field) (b : Addr) (A : Cell) (z : Int32) (args : Array Value) (s : State) : Prop := args = #[.ref a, .ref b] ∧ Blank "java/lang/String" a D s ∧ Found "java/lang/String" "value" "[B" fV s ∧ Found "java/lang/String" "coder" "B" fC s ∧ Ch b A s ∧ StaticIs s "java/lang/String" "COMPACT_STRINGS" "Z" (.int z) ∧ ¬ z = 0 ∧ 0 < A.slots.size ∧ A.slots.size ≤ 536870912 ∧ ∀ i, i < A.slots.size → ¬ 255 < cv A i
def E (a : Addr) (D : Cell) (fV fC : Field) (A : Cell) (r : Option Value) (s u : State) : Prop := Got a D fV fC A 0 A.slots.size r s u
/-- new String(chars), not empty, no char above 255: a Latin-1 String of their low bytes -/
theorem law (l : Launch) (a : Addr) (D : Cell) (fV fC : Field) (b : Addr) (A : Cell) (z : Int32) : Law l yN 2 1 3 52 yB 2 none site (P a D fV fC b A z) (E a D fV fC A) [⟨a, fC.slot⟩, ⟨a, fV.slot⟩] 1 A.slots.size := by
  refine Law.of_walk (plainFor_of_name (by decide +kernel)) (by decide +kernel) (by decide +kernel) (by decide) (fun _ _ h => by rw [h.1]; rfl) (fun _ U U' hal hh h => ⟨h.1, h.2.1.mv hal hh, h.2.2.1.al hal, h.2.2.2.1.al hal, h.2.2.2.2.1.mv hal hh, h.2.2.2.2.2.1.there hal hh, h.2.2.2.2.2.2⟩) (fun r U U' V V' h1 hal h2 h => Got.mv r U U' V V' h1 hal h2 h) ?_
  intro p e s m args below meth c s₁ X0 hexec hbytes hml hret hlk hnm hown hh0 W hP
  obtain ⟨rfl, hB, f1, f2, hA, s1, hz, l0, l2, hp⟩ := hP
  have c1 : Steps p.tables e below (s₁.setTop (entryFrame m #[.ref a, .ref b] 2)) (s₁.setTop (mkF m 0 #[.val (.ref a), .val (.ref b)] [])) := entry rfl
  have c2 : Steps p.tables e below (s₁.setTop (entryFrame m #[.ref a, .ref b] 2)) (s₁.setTop (mkF m 6 #[.val (.ref a), .val (.ref b)] [.null, .int (Int32.ofNat A.slots.size), .int 0, .ref b, .ref a])) := c1.trans (by
    refine XS.aloadN X0.here hexec rfl (hb hbytes d0) rfl rfl ?_
    refine XS.aloadN X0.here hexec rfl (hb hbytes d1) rfl rfl ?_
    refine iconstV X0.here hexec rfl 0 (hb hbytes d2) (by decide) ?_
    refine XS.aloadN X0.here hexec rfl (hb hbytes d3) rfl rfl ?_
    refine X0.alen hexec (hA.1.mv X0.warmed.alike hh0) rfl rfl (hb hbytes d4) ?_
    refine XS.aconstNull X0.here hexec rfl (hb hbytes d5) ?_
    exact Steps.refl _)
  obtain ⟨v3, T3, X3, E3, g3⟩ := X0.callN hexec (New4.law l a D fV fC b A z 0 A.slots.size) rfl hown (wks W (initW "java/lang/String" 27 New4.yN)) (W New4.tab (by simp only [site, List.mem_cons, List.mem_append, true_or, or_true])) (W := 0) (Nat.le_of_ble_eq_true rfl) (Nat.le_of_ble_eq_true rfl) (Nat.le_refl _) (by show 0 + A.slots.size ≤ A.slots.size; omega) (g := (mkF m 6 #[.val (.ref a), .val (.ref b)] [.null, .int (Int32.ofNat A.slots.size), .int (Int32.ofNat 0), .ref b, .ref a])) rfl (by rw [hml]; rfl) c2 (argsL := [.ref b, .int (Int32.ofNat 0), .int (Int32.ofNat A.slots.size), .null]) (rest := []) rfl rfl (by show 2 * 0 + 0 ≤ _; decide) (hb hbytes d6) (⟨rfl, hB.mv X0.warmed.alike hh0, f1.al X0.warmed.alike, f2.al X0.warmed.alike, hA.mv X0.warmed.alike hh0, s1.there X0.warmed.alike hh0, hz, l0, by omega, l2, fun i hi => by rw [Nat.zero_add]; exact hp i hi⟩)
  have e0 := Got.mv _ s₁ s _ _ hh0.symm (Vm.Alike.refl _) rfl E3
  obtain rfl := e0.1
  have c4 : Steps p.tables e below (s₁.setTop (entryFrame m #[.ref a, .ref b] 2)) (T3.setTop (mkF m 9 #[.val (.ref a), .val (.ref b)] [])) := g3
  exact ⟨T3, none, _, _, _, X3, by simp, rfl, by omega, (fun _ => rfl), e0, fun fs hl => c4.trans (X3.returnOut hexec hret (hb hbytes d9) hl)⟩
theorem pays {l : Launch} {R : Room} {p : Program} {e : Env} {below : List Frame} {s : State} {sargs : Array Value} {len W : Nat} (a : Addr) (D : Cell) (fV fC : Field) (b : Addr) (A : Cell) (z : Int32) (htab : tab.before sargs s = true) (hfr : 4 ≤ R.frames) (hlo : W + 65 ≤ R.locals) :
    Back l R p e below s sargs yN len W (fun A₁ a₁ => A₁.cells + 1 ≤ R.cells ∧ A₁.slots + A.slots.size ≤ R.slots ∧ P a D fV fC b A z a₁ A₁.U) (fun A₁ _ v₁ B₁ => E a D fV fC A v₁ A₁.U B₁.U ∧ B₁.locs = A₁.locs ++ [⟨a, fC.slot⟩, ⟨a, fV.slot⟩] ∧ B₁.cells = A₁.cells + 1 ∧ B₁.slots = A₁.slots + A.slots.size) :=
  (law l a D fV fC b A z).pays htab hfr (by omega)
end New1
/-- the byte, read back as charAt reads it, is the char -/
theorem lo8_mask {x : Int32} (h0 : ¬ x < 0) (h1 : ¬ 255 < x) : lo8 x &&& 255 = x := by
  have t : ∀ k : Fin 256, lo8 (Int32.ofNat k.val) &&& 255 = Int32.ofNat k.val := by decide +kernel
  rw [Int32.lt_iff_toInt_lt] at h0 h1
  have e0 : (0 : Int32).toInt = 0 := rfl
  have e1 : (255 : Int32).toInt = 255 := rfl
  obtain ⟨k, hk⟩ : ∃ k : Nat, x.toInt = k := ⟨x.toInt.toNat, by omega⟩
  have hx : x = Int32.ofNat k := Int32.toInt_inj.mp (by rw [hk, Int32.toInt_ofNat_small (by omega)])
  rw [hx]
  exact t ⟨k, by omega⟩
end StrChars
namespace StrChars.Road
open Jvm Sem ClassFile Op Lib Jvm.Stand Jvm.Free Jvm.Free.XT
open Jvm.Lib.Cold (StaticIs)
abbrev ST : String := "java/lang/String"
/-- every table word that New1's law asks, flat -/
abbrev words : List Jvm.Cond := [.code New1.yN New1.yB 2 none, .initialized ST, .methodLink ST 27 New4.yN, .instanceMethod New4.yN,
  .code New4.yN New4.yB 6 none, .fieldLink ST 38 ST "COMPACT_STRINGS" "Z", .laysFinal ST ST "value" "[B", .fieldLink ST 9 ST "value" "[B", .laysFinal ST ST "coder" "B", .fieldLink ST 15 ST "coder" "B",
  .methodLink ST 1 Lib.objectInit, .instanceMethod Lib.objectInit, .code Lib.objectInit ⟨#[0xb1]⟩ 1 none, .methodLink ST 177 Cmp3.yN, .static Cmp3.yN, .methodLink ST 47 CodL.yN, .static CodL.yN,
  .code Cmp3.yN Cmp3.yB 6 (some (.array .byte)), .initialized U16, .arrayClass .byte, .methodLink U16 115 Cmp5.yN, .static Cmp5.yN, .code Cmp5.yN Cmp5.yB 7 (some .int), .code CodL.yN CodL.yB 2 (some .byte)]
theorem tab_of {a : Array Value} {s : State} (h : ∀ w ∈ words, w.before a s = true) : New1.tab.before a s = true := by
  have h5 : Cmp5.tab.before a s = true := unparts (wk h (.code Cmp5.yN Cmp5.yB 7 (some .int))) (wks h (.initialized Cmp5.yN.cls :: Cmp5.site))
  have hc : CodL.tab.before a s = true := unparts (wk h (.code CodL.yN CodL.yB 2 (some .byte))) (wks h (.initialized CodL.yN.cls :: CodL.site))
  have q5 : ∀ w ∈ Cmp5.tab :: words, w.before a s = true := fun w hw => (List.mem_cons.mp hw).elim (fun e => e ▸ h5) (h w)
  have h3 : Cmp3.tab.before a s = true := unparts (wk q5 (.code Cmp3.yN Cmp3.yB 6 (some (.array .byte)))) (wks q5 (.initialized Cmp3.yN.cls :: Cmp3.site))
  have q3 : ∀ w ∈ Cmp3.tab :: CodL.tab :: words, w.before a s = true := fun w hw => (List.mem_cons.mp hw).elim (fun e => e ▸ h3) fun hw => (List.mem_cons.mp hw).elim (fun e => e ▸ hc) (h w)
  have h4 : New4.tab.before a s = true := unparts (wk q3 (.code New4.yN New4.yB 6 none)) (wks q3 (.initialized New4.yN.cls :: New4.site))
  have q4 : ∀ w ∈ New4.tab :: words, w.before a s = true := fun w hw => (List.mem_cons.mp hw).elim (fun e => e ▸ h4) (h w)
  exact unparts (wk q4 (.code New1.yN New1.yB 2 none)) (wks q4 (.initialized New1.yN.cls :: New1.site))
/-- the words ride from the start Z to the walk's own state -/
theorem moved {Z s : State} {a0 args : Array Value} (hZ : Z.Warmed39 s.vm) (hw : ∀ d ∈ words, d.before a0 Z = true) : ∀ d ∈ words, d.before args s = true := fun d hd => by
  have q := hw d hd
  have t : ∀ d ∈ words, d = .arrayClass .byte ∨ (d.onTables && d.keepsFace) = true := by decide +kernel
  rcases t d hd with rfl | t
  · exact RoadKit.mvA hZ q
  · exact RoadKit.mv hZ q t
/-- WHAT COMES BACK, over the tables of the start Z: h the heap at the call, h' behind it -/
def Q (Z : State) (x : Addr) (A : Cell) (h : Heap) (v : Option Value) (h' : Heap) (L : List Loc) : Prop := v = none ∧ (∀ y ∈ L, y.base = x) ∧ RoadKit.Keep h h' [x] ∧ h'.size = h.size + 1 ∧ RoadKit.Exa Z h' x ST ∧ RoadKit.Fld Z h' x ST "value" "[B" (.ref h.size) ∧ RoadKit.Fld Z h' x ST "coder" "B" (.int 0) ∧
  (∃ V : Cell, RoadKit.Arr Z h' h.size V .byte ∧ V.vm = .none ∧ Z.vm.findClass "[B" = some V.cls ∧ V.slots.size = A.slots.size ∧ ∀ j, j < A.slots.size → V.slots[j]? = some (.int (lo8 (cv A j)))) ∧
  ∀ (O n d : String) (w : Value), RoadKit.Fld Z h x O n d w → RoadKit.slotOf Z O n d ≠ RoadKit.slotOf Z ST "value" "[B" → RoadKit.slotOf Z O n d ≠ RoadKit.slotOf Z ST "coder" "B" → RoadKit.Fld Z h' x O n d w
/-- **new String(chars) AT A CALL, IN THE ROAD'S FORM**: for specialBack behind newO: x the fresh String, b the char[] with the cell A -/
theorem back {p : Program} {l : Launch} {e : Env} {R : Room} {s : State} {args : Array Value} {below : List Frame} {len W : Nat} {Z : State} {a0 : Array Value} {h : Heap} (hZ : Z.Warmed39 s.vm) (hw : ∀ d ∈ words, d.before a0 Z = true) {kI : Nat} (wi : (Jvm.Cond.instantiable ST kI).before a0 Z = true)
    {x b : Addr} {A : Cell} {z : Int32} {v0 c0 : Value} (E : RoadKit.Exa Z h x ST) (V : RoadKit.Fld Z h x ST "value" "[B" v0) (C : RoadKit.Fld Z h x ST "coder" "B" c0) (K : RoadKit.Arr Z h b A .char) (hty : Typed .char A) (S : RoadKit.Sta Z h ST "COMPACT_STRINGS" "Z" (.int z)) (hz : ¬ z = 0)
    (l0 : 0 < A.slots.size) (l2 : A.slots.size ≤ 536870912) (hp : ∀ i, i < A.slots.size → ¬ 255 < cv A i) (hfr : 4 ≤ R.frames) (hlo : W + 65 ≤ R.locals) :
    Back l R p e below s args New1.yN len W (fun P a => a = #[.ref x, .ref b] ∧ P.U.heap = h ∧ P.cells + 1 ≤ R.cells ∧ P.slots + A.slots.size ≤ R.slots)
      (fun P _ v B => ∃ L, Q Z x A h v B.U.heap L ∧ B.locs = P.locs ++ L ∧ B.cells = P.cells + 1 ∧ B.slots = P.slots + A.slots.size) := by
  intro m meth c P g ig mk a X hg hsize hdg hW hn hp'
  obtain ⟨rfl, rfl, r1, r2⟩ := hp'
  have al : Z.vm.Alike P.U.vm := hZ.alike.trans X.warmed.alike
  obtain ⟨D, cfV, kV, iV, fV, hD, gV, stV, knV, obV, asV, slV⟩ := id V
  obtain ⟨D', cfC, kC, iC, fC, hD', gC, stC, -, -, asC, slC⟩ := id C
  cases hD.symm.trans hD'
  obtain ⟨D2, kD, e1, e2, e3, e4, e5⟩ := id E
  cases hD.symm.trans e1
  obtain ⟨c2, k2, i1, i2, i3, -⟩ := Cond.instantiable_spec wi
  cases e2.symm.trans i1
  cases e3.symm.trans i2
  obtain ⟨kU, u1, u2⟩ := al.2.2 _ _ e3
  have hB : Blank ST x D P.U := ⟨hD, ⟨knV, fun q hq => by rw [hq] at obV; cases obV⟩, by rw [al.findClass]; exact e2, kU, u1, by rw [u2]; exact i3, by rw [u2]; exact e5 i3⟩
  have F1 : Found ST "value" "[B" fV P.U := ⟨SBG.found_only al ⟨cfV, kV, iV, gV⟩, stV⟩
  have F2 : Found ST "coder" "B" fC P.U := ⟨SBG.found_only al ⟨cfC, kC, iC, gC⟩, stC⟩
  have hA : Ch b A P.U := ⟨⟨K.1, State.isArrayOf_alike al K.2.1, K.2.2, by omega⟩, hty⟩
  have hS : StaticIs P.U ST "COMPACT_STRINGS" "Z" (.int z) := by
    obtain ⟨cfS, iS, kS, fS, st, cS, t1, t2, t3, t4, t5, t6, t7⟩ := S
    exact StaticIs.there (s := { Z with heap := P.U.heap }) ⟨cfS, iS, kS, fS, st, cS, t1, t2, t3, t4, t5, (fun q => by rw [q] at t6; cases t6), t7⟩ al rfl
  obtain ⟨v, B, X', ⟨⟨hv, E', V', q1, q2, q3, q4, q5, q6, q7, q8, q9, q10, q11⟩, hl, hc, hs⟩, st⟩ := New1.pays x D fV fC b A z (tab_of (moved hZ hw)) hfr hlo m meth c P g ig mk _ X hg hsize hdg hW hn ⟨r1, r2, rfl, hB, F1, F2, hA, hS, hz, l0, l2, hp⟩
  have al' : Z.vm.Alike B.U.vm := hZ.alike.trans X'.warmed.alike
  have hsz : E'.slots.size = D.slots.size := by
    obtain ⟨-, -, -, kB, w1, w2, w3⟩ := q1
    obtain ⟨kB', y1, y2⟩ := al'.2.2 _ _ e3
    rw [q2.2.1] at w1
    cases w1.symm.trans y1
    rw [w3, e5 i3, y2]
  refine ⟨v, B, X', ⟨_, ⟨hv, ?_, ⟨by omega, fun y cy hy hn' => q10 y cy (by simpa using hn') hy, fun y cy hy => ?_⟩, q11, ⟨E', _, q1.1, by rw [q2.2.1]; exact e2, by rw [q2.2.1]; exact e3, by rw [q2.1]; exact obV, fun _ => by rw [hsz]; exact e5 i3⟩,
    ⟨E', cfV, kV, iV, fV, q1.1, gV, stV, by rw [q2.1]; exact knV, by rw [q2.1]; exact obV, by rw [q2.2.1]; exact asV, q3⟩, ⟨E', cfC, kC, iC, fC, q1.1, gC, stC, by rw [q2.1]; exact knV, by rw [q2.1]; exact obV, by rw [q2.2.1]; exact asC, q4⟩,
    ⟨V', ⟨q5.1, State.isArrayOf_alike al'.symm q5.2.1, q5.2.2.1⟩, q6, by rw [← al'.findClass]; exact q7, q8, fun j hj => by have := q9 j hj; rwa [Nat.zero_add] at this⟩, fun O n d w F n1 n2 => ?_⟩, hl, hc, hs⟩, st⟩
  · intro y hy
    simp only [List.mem_cons, List.not_mem_nil, or_false] at hy
    rcases hy with rfl | rfl <;> rfl
  · by_cases q : y = x
    · subst q
      cases hD.symm.trans hy
      exact ⟨E', q1.1, q2.2.1, q2.1, hsz⟩
    · exact ⟨cy, q10 y cy q hy, rfl, rfl, rfl⟩
  · obtain ⟨D3, cf, k, i, f, g1, g2, g3, g4, g5, g6, g7⟩ := F
    cases hD.symm.trans g1
    simp only [RoadKit.slotOf, g2, gV, gC, Option.map_some, Option.getD_some] at n1 n2
    exact ⟨E', cf, k, i, f, q1.1, g2, g3, by rw [q2.1]; exact g4, by rw [q2.1]; exact g5, by rw [q2.2.1]; exact g6, by rw [q2.2.2 f.slot (by simp [n1, n2])]; exact g7⟩
end StrChars.Road
namespace StrChars.Road
open Jvm Sem ClassFile Op Lib Jvm.Stand Jvm.Free Jvm.Free.XT
/-- WHAT COMES BACK, the byte[] as a list of values -/
def QA (Z : State) (x : Addr) (zn : Int32) (cs : List Int32) (h : Heap) (v : Option Value) (h' : Heap) (L : List Loc) : Prop := v = none ∧ (∀ y ∈ L, y.base = x) ∧ RoadKit.Keep h h' [x] ∧ h'.size = h.size + 1 ∧ RoadKit.Exa Z h' x ST ∧ RoadKit.Fld Z h' x ST "value" "[B" (.ref h.size) ∧ RoadKit.Fld Z h' x ST "coder" "B" (.int 0) ∧
  (∃ kb, Z.vm.findClass "[B" = some kb ∧ RoadKit.Arv Z h' h.size kb .byte zn (cs.map fun c => .int (lo8 c)) (.int 0)) ∧
  ∀ (O n d : String) (w : Value), RoadKit.Fld Z h x O n d w → RoadKit.slotOf Z O n d ≠ RoadKit.slotOf Z ST "value" "[B" → RoadKit.slotOf Z O n d ≠ RoadKit.slotOf Z ST "coder" "B" → RoadKit.Fld Z h' x O n d w
/-- **new String(chars) AT A CALL, THE ARRAYS AS LISTS**: the char[] at b holds cs, not empty, no char above 255 -/
theorem backArv {p : Program} {l : Launch} {e : Env} {R : Room} {s : State} {args : Array Value} {below : List Frame} {len W : Nat} {Z : State} {a0 : Array Value} {h : Heap} (hZ : Z.Warmed39 s.vm) (hw : ∀ d ∈ words, d.before a0 Z = true) {kI : Nat} (wi : (Jvm.Cond.instantiable ST kI).before a0 Z = true)
    {x b : Addr} {k : ClassId} {zn z : Int32} {cs : List Int32} {dv v0 c0 : Value} (E : RoadKit.Exa Z h x ST) (V : RoadKit.Fld Z h x ST "value" "[B" v0) (C : RoadKit.Fld Z h x ST "coder" "B" c0) (K : RoadKit.Arv Z h b k .char zn (cs.map Value.int) dv) (S : RoadKit.Sta Z h ST "COMPACT_STRINGS" "Z" (.int z)) (hz : ¬ z = 0)
    (hlen : zn.toNatClampNeg = cs.length) (h0 : 0 < cs.length) (hbig : cs.length ≤ 536870912) (hall : ∀ c ∈ cs, ¬ 255 < c) (hfr : 4 ≤ R.frames) (hlo : W + 65 ≤ R.locals) :
    Back l R p e below s args New1.yN len W (fun P a => a = #[.ref x, .ref b] ∧ P.U.heap = h ∧ P.cells + 1 ≤ R.cells ∧ P.slots + cs.length ≤ R.slots)
      (fun P _ v B => ∃ L, QA Z x zn cs h v B.U.heap L ∧ B.locs = P.locs ++ L ∧ B.cells = P.cells + 1 ∧ B.slots = P.slots + cs.length) := by
  obtain ⟨A, K1, K2, K3, K4, K5, K6⟩ := K
  have e : A.slots.size = cs.length := K3.trans hlen
  have hat : ∀ (i : Nat) (hi : i < cs.length), A.slots[i]? = some (.int cs[i]) := fun i hi => by rw [K5 i (by omega)]; simp [List.getD_eq_getElem?_getD, hi]
  have hcv : ∀ (i : Nat) (hi : i < cs.length), cv A i = cs[i] := fun i hi => by unfold cv; rw [hat i hi]
  have hty : Typed .char A := fun i v hv => by
    have hi : i < A.slots.size := (Array.getElem?_eq_some_iff.mp hv).1
    have q := K5 i hi
    rw [hv] at q
    rw [Option.some.inj q]
    exact K6 i hi
  refine Back.mono (back hZ hw wi E V C K1 hty S hz (by omega) (by omega) (fun i hi => by rw [hcv i (by omega)]; exact hall _ (List.getElem_mem _)) hfr hlo) (fun P a hp => ⟨hp.1, hp.2.1, hp.2.2.1, by rw [e]; exact hp.2.2.2⟩) (fun P a v B hp hq => ?_)
  obtain ⟨L, ⟨q1, q2, q3, q4, q5, q6, q7, ⟨V', v1, v2, v3, v4, v5⟩, q9⟩, hl, hc, hs⟩ := hq
  refine ⟨L, ⟨q1, q2, q3, q4, q5, q6, q7, ⟨V'.cls, v3, V', v1, rfl, by rw [v4, e, hlen], K4, fun i hi => ?_, fun i hi => ?_⟩, q9⟩, hl, hc, by rw [hs, e]⟩
  · have hi' : i < cs.length := by omega
    rw [v5 i (by omega), hcv i hi']; simp [List.getD_eq_getElem?_getD, hi']
  · have hi' : i < cs.length := by omega
    simp only [List.getD_eq_getElem?_getD, List.getElem?_map, List.getElem?_eq_getElem hi', Option.map_some, Option.getD_some]
    exact fits_lo8 _
end StrChars.Road
namespace StrChars.Road
open Jvm Sem ClassFile Op Lib Jvm.Stand Jvm.Free Jvm.Free.XT
/-- WHAT COMES BACK, in the writer's own shape -/
def QV (Z : State) (x : Addr) (N : Int32) (bs : List Int32) (h : Heap) (n0 : Nat) (v : Option Value) (h' : Heap) (L : List Loc) : Prop := v = none ∧ RoadKit.Fr n0 L ∧ RoadKit.Keep h h' [x] ∧ RoadKit.Exa Z h' x ST ∧ RoadKit.Fld Z h' x ST "coder" "B" (.int 0) ∧
  ∃ (t : Addr) (kb : ClassId), n0 ≤ t ∧ h.size ≤ t ∧ ¬ t = x ∧ RoadKit.Fld Z h' x ST "value" "[B" (.ref t) ∧ RoadKit.Arv Z h' t kb .byte N (bs.map Value.int) (.int 0)
/-- **new String(chars) AT A CALL, FOR THE WRITER**: a char[] of n known ints, each 0 to 255 -/
theorem backV {p : Program} {l : Launch} {e : Env} {R : Room} {s : State} {args : Array Value} {below : List Frame} {len W : Nat} {Z : State} {a0 : Array Value} {h : Heap} (hZ : Z.Warmed39 s.vm) (hw : ∀ d ∈ words, d.before a0 Z = true) {kI : Nat} (wi : (Jvm.Cond.instantiable ST kI).before a0 Z = true)
    {x b : Addr} {kC : ClassId} {cs bs : List Int32} {d v0 c0 : Value} {z N : Int32} {n n0 : Nat} (hx0 : n0 ≤ x) (hh0 : n0 ≤ h.size) (E : RoadKit.Exa Z h x ST) (V : RoadKit.Fld Z h x ST "value" "[B" v0) (C : RoadKit.Fld Z h x ST "coder" "B" c0) (K : RoadKit.Arv Z h b kC .char N (cs.map Value.int) d) (S : RoadKit.Sta Z h ST "COMPACT_STRINGS" "Z" (.int z)) (hz : ¬ z = 0)
    (hn : cs.length = n) (hN : N = Int32.ofNat n) (l0 : 0 < n) (l2 : n ≤ 4000) (hp : ∀ c ∈ cs, ¬ c < 0 ∧ ¬ (255 : Int32) < c) (hb : bs = cs.map (fun c => c.toInt8.toInt32)) (hfr : 4 ≤ R.frames) (hlo : W + 65 ≤ R.locals) :
    Back l R p e below s args (⟨"java/lang/String", "<init>", "([C)V"⟩ : MethodName) len W (fun P a => a = #[.ref x, .ref b] ∧ P.U.heap = h ∧ P.cells + 1 ≤ R.cells ∧ P.slots + n ≤ R.slots)
      (fun P _ v B => ∃ L, QV Z x N bs h n0 v B.U.heap L ∧ B.locs = P.locs ++ L ∧ B.cells = P.cells + 1 ∧ B.slots = P.slots + n) := by
  subst hn hN hb
  refine Back.mono (backArv hZ hw wi E V C K S hz (n32 (by omega)) l0 (by omega) (fun c hc => (hp c hc).2) hfr hlo) (fun P a hp => hp) (fun P a v B hp hq => ?_)
  obtain ⟨L, ⟨q1, q2, q3, q4, q5, q6, q7, ⟨kb, v1, v2⟩, q9⟩, hl, hc, hs⟩ := hq
  exact ⟨L, ⟨q1, fun y hy => by rw [q2 y hy]; exact hx0, q3, q5, q7, h.size, kb, hh0, Nat.le_refl _, Nat.ne_of_gt E.lt, q6, by rw [List.map_map]; exact v2⟩, hl, hc, hs⟩
end StrChars.Road
namespace StrChars
open Jvm Sem ClassFile Op Lib Jvm.Stand Jvm.Free.XT Jvm.Free.ALB Jvm.Free.JM Jvm.Free
open Jvm.Lib.Cold (StaticIs)
def hi8 (x : Int32) : Int32 := lo8 (x >>> ((8 : Int32) &&& 31))
/-- what StringUTF16.getChar makes of two bytes -/
def pairCh (u v : Int32) : Int32 := (((u &&& 255) <<< ((0 : Int32) &&& 31)) ||| ((v &&& 255) <<< ((8 : Int32) &&& 31))).toUInt32.toUInt16.toUInt32.toInt32
theorem lo8_and (x : Int32) : (lo8 x &&& 255).toBitVec.toNat = x.toBitVec.toNat % 256 := by
  have h : (lo8 x).toBitVec = (x.toBitVec.signExtend 8).signExtend 32 := by rw [lo8, Int8.toBitVec_toInt32, Int32.toBitVec_toInt8]
  rw [Int32.toBitVec_and, BitVec.toNat_and, h]
  have e : ((x.toBitVec.signExtend 8).signExtend 32).toNat % 256 = x.toBitVec.toNat % 256 := by
    rw [BitVec.toNat_signExtend]
    have hlt := x.toBitVec.isLt
    simp only [BitVec.toNat_setWidth, BitVec.toNat_signExtend]
    split <;> split <;> omega
  rw [← e]
  exact Nat.and_two_pow_sub_one_eq_mod _ 8
theorem pair_says {c : Int32} (h0 : ¬ c < 0) (h1 : ¬ 65535 < c) : pairCh (lo8 c) (hi8 c) = c := by
  rw [Int32.lt_iff_toInt_lt] at h0 h1
  have e0 : (0 : Int32).toInt = 0 := rfl
  have e1 : (65535 : Int32).toInt = 65535 := rfl
  have hc : c.toInt = c.toBitVec.toNat := by
    have := c.toBitVec.isLt
    have e : c.toInt = c.toBitVec.toInt := rfl
    rw [e] at h0 h1
    rw [e]
    rw [BitVec.toInt_eq_toNat_cond] at h0 h1 ⊢
    split at h0 <;> split <;> omega
  have hn : c.toBitVec.toNat < 65536 := by omega
  have a1 := lo8_and c
  have a2 : (hi8 c &&& 255).toBitVec.toNat = c.toBitVec.toNat / 256 := by
    rw [hi8, lo8_and]
    have e : ((8 : Int32) &&& 31) = 8 := by decide
    rw [e, Int32.toBitVec_shiftRight]
    have e2 : ((8 : Int32).toBitVec.smod 32) = 8#32 := by decide
    rw [e2, BitVec.sshiftRight_eq', BitVec.toNat_sshiftRight_of_msb_false (by rw [BitVec.msb_eq_false_iff_two_mul_lt]; omega)]
    show c.toBitVec.toNat >>> 8 % 256 = _
    rw [Nat.shiftRight_eq_div_pow]
    omega
  unfold pairCh
  apply Int32.toBitVec_inj.mp
  apply BitVec.eq_of_toNat_eq
  have f0 : ((0 : Int32) &&& 31) = 0 := by decide
  have f8 : ((8 : Int32) &&& 31) = 8 := by decide
  rw [f0, f8]
  have g : (((lo8 c &&& 255) <<< (0 : Int32)) ||| ((hi8 c &&& 255) <<< (8 : Int32))).toBitVec.toNat = c.toBitVec.toNat := by
    rw [Int32.toBitVec_or, Int32.toBitVec_shiftLeft, Int32.toBitVec_shiftLeft]
    have s0 : ((0 : Int32).toBitVec.smod 32) = 0#32 := by decide
    have s8 : ((8 : Int32).toBitVec.smod 32) = 8#32 := by decide
    rw [s0, s8, BitVec.toNat_or]
    simp only [BitVec.shiftLeft_eq', BitVec.toNat_shiftLeft, a1, a2]
    show (c.toBitVec.toNat % 256) <<< 0 % 2 ^ 32 ||| (c.toBitVec.toNat / 256) <<< 8 % 2 ^ 32 = _
    rw [Nat.shiftLeft_zero, Nat.mod_eq_of_lt (show c.toBitVec.toNat % 256 < 2 ^ 32 by omega), Nat.mod_eq_of_lt (show (c.toBitVec.toNat / 256) <<< 8 < 2 ^ 32 by rw [Nat.shiftLeft_eq]; omega), Nat.or_comm, ← Nat.shiftLeft_add_eq_or_of_lt (by omega), Nat.shiftLeft_eq]
    omega
  show BitVec.toNat (((((lo8 c &&& 255) <<< (0 : Int32)) ||| ((hi8 c &&& 255) <<< (8 : Int32))).toBitVec.setWidth 16).setWidth 32) = _
  rw [BitVec.toNat_setWidth, BitVec.toNat_setWidth, g]
  omega
end StrChars
namespace StrChars
open Jvm Sem ClassFile Op Lib Jvm.Stand Jvm.Free.XT Jvm.Free.ALB Jvm.Free.JM Jvm.Free
open Jvm.Lib.Cold (StaticIs)
/-- the array's cell V codes the n chars f 0 .. f (n - 1) by the coder cd, as the JDK does: coder 1 just where some char is above 255 -/
def Cod (cd : Int32) (n : Nat) (f : Nat → Int32) (V : Cell) : Prop := (cd = 0 ∧ V.slots.size = n ∧ ∀ j, j < n → V.slots[j]? = some (.int (lo8 (f j))) ∧ ¬ 255 < f j) ∨ (cd = 1 ∧ V.slots.size = 2 * n ∧ (∀ j, j < n → V.slots[2 * j]? = some (.int (lo8 (f j))) ∧ V.slots[2 * j + 1]? = some (.int (hi8 (f j)))) ∧ ∃ j, j < n ∧ 255 < f j)
/-- **x is a String of the n chars f 0 .. f (n - 1)**, Latin-1 or UTF-16; its array at t has the cell V -/
def Txt (x t : Addr) (V : Cell) (cd : Int32) (n : Nat) (f : Nat → Int32) (U : State) : Prop := Exact "java/lang/String" x U ∧ Has x "java/lang/String" "value" "[B" (.ref t) U ∧ Has x "java/lang/String" "coder" "B" (.int cd) U ∧ XT.Arr .byte t V U ∧ Cod cd n f V ∧ ∀ j, j < n → ¬ f j < 0 ∧ ¬ 65535 < f j
theorem Txt.mv {x t : Addr} {V : Cell} {cd : Int32} {n : Nat} {f : Nat → Int32} {U U' : State} (h : Txt x t V cd n f U) (hal : U.vm.Alike U'.vm) (hh : U'.heap = U.heap) : Txt x t V cd n f U' := ⟨h.1.mv hal hh, h.2.1.mv hal hh, h.2.2.1.mv hal hh, h.2.2.2.1.mv hal hh, h.2.2.2.2⟩
end StrChars
namespace StrChars.Road
open Jvm Sem ClassFile Op Lib Jvm.Stand Jvm.Free Jvm.Free.XT
open Jvm.Lib.Cold (StaticIs)
theorem consq {a : Array Value} {s : State} {c : Jvm.Cond} {L : List Jvm.Cond} (h0 : c.before a s = true) (h : ∀ w ∈ L, w.before a s = true) : ∀ w ∈ c :: L, w.before a s = true := fun w hw => (List.mem_cons.mp hw).elim (fun e => e ▸ h0) (h w)
/-- the bytes of the chars cs, low before high -/
def wideBytes : List Int32 → List Value
  | [] => []
  | c :: cs => .int (lo8 c) :: .int (hi8 c) :: wideBytes cs
theorem wide_lo (d : Value) : ∀ (cs : List Int32) (j : Nat), j < cs.length → (wideBytes cs).getD (2 * j) d = .int (lo8 (cs.getD j 0))
  | [], j, h => absurd h (Nat.not_lt_zero j)
  | c :: cs, 0, _ => rfl
  | c :: cs, j + 1, h => by
    have q := wide_lo d cs j (by simpa using h)
    rw [show 2 * (j + 1) = 2 * j + 1 + 1 from by omega]
    simpa [wideBytes] using q
theorem wide_hi (d : Value) : ∀ (cs : List Int32) (j : Nat), j < cs.length → (wideBytes cs).getD (2 * j + 1) d = .int (hi8 (cs.getD j 0))
  | [], j, h => absurd h (Nat.not_lt_zero j)
  | c :: cs, 0, _ => rfl
  | c :: cs, j + 1, h => by
    have q := wide_hi d cs j (by simpa using h)
    rw [show 2 * (j + 1) + 1 = 2 * j + 1 + 1 + 1 from by omega]
    simpa [wideBytes] using q
theorem low_at (d : Value) (cs : List Int32) (j : Nat) (h : j < cs.length) : (cs.map fun c => Value.int (lo8 c)).getD j d = .int (lo8 (cs.getD j 0)) := by
  simp [List.getD_eq_getElem?_getD, h]
/-- an array of N2 bytes vs codes the chars cs by the coder cd -/
def CodA (cs : List Int32) (cd N2 : Int32) (vs : List Value) : Prop := (cd = 0 ∧ N2 = Int32.ofNat cs.length ∧ vs = (cs.map fun c => Value.int (lo8 c)) ∧ ∀ c ∈ cs, ¬ 255 < c) ∨ (cd = 1 ∧ N2 = Int32.ofNat (2 * cs.length) ∧ vs = wideBytes cs ∧ ∃ c ∈ cs, 255 < c)
theorem CodA.cod {cs : List Int32} {cd N2 : Int32} {vs : List Value} {V : Cell} (h : CodA cs cd N2 vs) (hn : 2 * cs.length < 2 ^ 31) (hs : V.slots.size = N2.toNatClampNeg) (hv : RoadKit.Has V vs (.int 0)) : Cod cd cs.length (fun j => cs.getD j 0) V := by
  rcases h with ⟨rfl, rfl, rfl, h⟩ | ⟨rfl, rfl, rfl, c, hc, hw⟩
  · rw [n32 (by omega)] at hs
    exact Or.inl ⟨rfl, hs, fun j hj => ⟨by rw [hv j (by omega), low_at _ _ _ hj], by
      have e : cs.getD j 0 = cs[j] := by simp [List.getD_eq_getElem?_getD, hj]
      show ¬ 255 < cs.getD j 0
      rw [e]; exact h _ (List.getElem_mem _)⟩⟩
  · rw [n32 (by omega)] at hs
    obtain ⟨j, hj, rfl⟩ := List.getElem_of_mem hc
    exact Or.inr ⟨rfl, hs, fun j hj => ⟨by rw [hv _ (by omega), wide_lo _ _ _ hj], by rw [hv _ (by omega), wide_hi _ _ _ hj]⟩, j, hj, by
      have e : cs.getD j 0 = cs[j] := by simp [List.getD_eq_getElem?_getD, hj]
      show 255 < cs.getD j 0
      rw [e]; exact hw⟩
/-- an object of exactly java/lang/String, its two fields found: as the laws ask it -/
theorem strObj {Z U : State} {a0 : Array Value} {kI : Nat} (wi : (Jvm.Cond.instantiable ST kI).before a0 Z = true) (al : Z.vm.Alike U.vm) {x : Addr} {v0 c0 : Value} (E : RoadKit.Exa Z U.heap x ST) (V : RoadKit.Fld Z U.heap x ST "value" "[B" v0) (C : RoadKit.Fld Z U.heap x ST "coder" "B" c0) :
    ∃ (D : Cell) (fV fC : Field), Blank ST x D U ∧ Found ST "value" "[B" fV U ∧ Found ST "coder" "B" fC U ∧ D.slots[fV.slot]? = some v0 ∧ D.slots[fC.slot]? = some c0 ∧ RoadKit.slotOf Z ST "value" "[B" = fV.slot ∧ RoadKit.slotOf Z ST "coder" "B" = fC.slot := by
  obtain ⟨D, cfV, kV, iV, fV, hD, gV, stV, knV, obV, asV, slV⟩ := V
  obtain ⟨D', cfC, kC, iC, fC, hD', gC, stC, -, -, asC, slC⟩ := C
  cases hD.symm.trans hD'
  obtain ⟨D2, kD, e1, e2, e3, e4, e5⟩ := E
  cases hD.symm.trans e1
  obtain ⟨c2, k2, i1, i2, i3, -⟩ := Cond.instantiable_spec wi
  cases e2.symm.trans i1
  cases e3.symm.trans i2
  obtain ⟨kU, u1, u2⟩ := al.2.2 _ _ e3
  exact ⟨D, fV, fC, ⟨hD, ⟨knV, fun q hq => by rw [hq] at obV; cases obV⟩, by rw [al.findClass]; exact e2, kU, u1, by rw [u2]; exact i3, by rw [u2]; exact e5 i3⟩, ⟨SBG.found_only al ⟨cfV, kV, iV, gV⟩, stV⟩, ⟨SBG.found_only al ⟨cfC, kC, iC, gC⟩, stC⟩, slV, slC, by simp [RoadKit.slotOf, gV], by simp [RoadKit.slotOf, gC]⟩
theorem sta_is {Z U : State} (al : Z.vm.Alike U.vm) {C n d : String} {v : Value} (S : RoadKit.Sta Z U.heap C n d v) : StaticIs U C n d v := by
  obtain ⟨cfS, iS, kS, fS, st, cS, t1, t2, t3, t4, t5, t6, t7⟩ := S
  exact StaticIs.there (s := { Z with heap := U.heap }) ⟨cfS, iS, kS, fS, st, cS, t1, t2, t3, t4, t5, (fun q => by rw [q] at t6; cases t6), t7⟩ al rfl
end StrChars.Road
namespace StrChars
open Jvm Sem ClassFile Op Lib Jvm.Stand Jvm.Free.XT Jvm.Free.ALB Jvm.Free.JM Jvm.Free
open Jvm.Lib.Cold (StaticIs)
/-- what place i of a byte[]'s cell holds -/
def yv (A : Cell) (i : Nat) : Int32 := match A.slots[i]? with | some (.int x) => x | _ => 0
theorem yv_get {a : Addr} {A : Cell} {U : State} (h : XT.Arr .byte a A U) (ht : Typed .byte A) {i : Nat} (hi : i < A.slots.size) : A.slots[i]? = some (.int (yv A i)) := by
  have e := Array.getElem?_eq_getElem hi
  have f := ht i _ e
  unfold yv; rw [e]
  generalize A.slots[i] = v at f
  cases v <;> simp [fits] at f ⊢
/-- the two arrays are equal, place for place -/
def EqC (A B : Cell) : Prop := A.slots.size = B.slots.size ∧ ∀ i, i < A.slots.size → yv A i = yv B i
/-- a boolean that says whether p -/
def Says01 (q : Prop) (r : Option Value) (s u : State) : Prop := ∃ v : Int32, r = some (.int v) ∧ u.heap = s.heap ∧ ((v = 1 ∧ q) ∨ (v = 0 ∧ ¬ q))
theorem Says01.mv {q : Prop} : ∀ r (U U' V V' : State), U'.heap = U.heap → V.vm.Alike V'.vm → V'.heap = V.heap → Says01 q r U V → Says01 q r U' V' :=
  fun r U U' V V' h1 _ h2 ⟨v, a, b, c⟩ => ⟨v, a, by rw [h1, h2]; exact b, c⟩
namespace LEq
def yN : MethodName := ⟨"java/lang/StringLatin1", "equals", "([B[B)Z"⟩
abbrev yB : ByteArray := jdk_43_method_13_code
theorem d0 : decode yB 0 = .ok (.aload_n 0, 1) := by decide +kernel
theorem d1 : decode yB 1 = .ok (.arraylength, 1) := by decide +kernel
theorem d2 : decode yB 2 = .ok (.aload_n 1, 1) := by decide +kernel
theorem d3 : decode yB 3 = .ok (.arraylength, 1) := by decide +kernel
theorem d4 : decode yB 4 = .ok (.if_icmp (.ne) 30, 3) := by decide +kernel
theorem d7 : decode yB 7 = .ok (.iconst 0, 1) := by decide +kernel
theorem d8 : decode yB 8 = .ok (.istore_n 2, 1) := by decide +kernel
theorem d9 : decode yB 9 = .ok (.iload_n 2, 1) := by decide +kernel
theorem d10 : decode yB 10 = .ok (.aload_n 0, 1) := by decide +kernel
theorem d11 : decode yB 11 = .ok (.arraylength, 1) := by decide +kernel
theorem d12 : decode yB 12 = .ok (.if_icmp (.ge) 20, 3) := by decide +kernel
theorem d15 : decode yB 15 = .ok (.aload_n 0, 1) := by decide +kernel
theorem d16 : decode yB 16 = .ok (.iload_n 2, 1) := by decide +kernel
theorem d17 : decode yB 17 = .ok (.baload, 1) := by decide +kernel
theorem d18 : decode yB 18 = .ok (.aload_n 1, 1) := by decide +kernel
theorem d19 : decode yB 19 = .ok (.iload_n 2, 1) := by decide +kernel
theorem d20 : decode yB 20 = .ok (.baload, 1) := by decide +kernel
theorem d21 : decode yB 21 = .ok (.if_icmp (.eq) 5, 3) := by decide +kernel
theorem d24 : decode yB 24 = .ok (.iconst 0, 1) := by decide +kernel
theorem d25 : decode yB 25 = .ok (.ireturn, 1) := by decide +kernel
theorem d26 : decode yB 26 = .ok (.iinc 2 1, 3) := by decide +kernel
theorem d29 : decode yB 29 = .ok (.goto (-20), 3) := by decide +kernel
theorem d32 : decode yB 32 = .ok (.iconst 1, 1) := by decide +kernel
theorem d33 : decode yB 33 = .ok (.ireturn, 1) := by decide +kernel
theorem d34 : decode yB 34 = .ok (.iconst 0, 1) := by decide +kernel
theorem d35 : decode yB 35 = .ok (.ireturn, 1) := by decide +kernel
def site : List Cond := []
def tab : Cond := tabOf yN yB 3 (some .boolean) site
def P (a : Addr) (A : Cell) (b : Addr) (B : Cell) (args : Array Value) (s : State) : Prop := args = #[.ref a, .ref b] ∧ XT.Arr .byte a A s ∧ Typed .byte A ∧ XT.Arr .byte b B s ∧ Typed .byte B
/-- whether two byte[] are equal, place for place -/
theorem law (l : Launch) (a : Addr) (A : Cell) (b : Addr) (B : Cell) : Law l yN 2 2 0 0 yB 3 (some .boolean) site (P a A b B) (Says01 (EqC A B)) [] 0 0 := by
  refine Law.of_walk (plainFor_of_name (by decide +kernel)) (by decide +kernel) (by decide +kernel) (by decide) (fun _ _ h => by rw [h.1]; rfl) (fun _ U U' hal hh h => ⟨h.1, h.2.1.mv hal hh, h.2.2.1, h.2.2.2.1.mv hal hh, h.2.2.2.2⟩) (fun r U U' V V' h1 hal h2 h => Says01.mv r U U' V V' h1 hal h2 h) ?_
  intro p e s m args below meth c s₁ X0 hexec hbytes hml hret hlk hnm hown hh0 W hP
  obtain ⟨rfl, hA, tA, hB, tB⟩ := hP
  have a31 := hA.2.2.2
  have b31 := hB.2.2.2
  have hA0 := hA.mv X0.warmed.alike hh0
  have hB0 := hB.mv X0.warmed.alike hh0
  have c1 : Steps p.tables e below (s₁.setTop (entryFrame m #[.ref a, .ref b] 3)) (s₁.setTop (mkF m 0 #[.val (.ref a), .val (.ref b), .unset] [])) := entry rfl
  have c2 : Steps p.tables e below (s₁.setTop (entryFrame m #[.ref a, .ref b] 3)) (s₁.setTop (mkF m 4 #[.val (.ref a), .val (.ref b), .unset] [.int (Int32.ofNat B.slots.size), .int (Int32.ofNat A.slots.size)])) := c1.trans (by
    refine XS.aloadN X0.here hexec rfl (hb hbytes d0) rfl rfl ?_
    refine X0.alen hexec hA0 rfl rfl (hb hbytes d1) ?_
    refine XS.aloadN X0.here hexec rfl (hb hbytes d2) rfl rfl ?_
    refine X0.alen hexec hB0 rfl rfl (hb hbytes d3) ?_
    exact Steps.refl _)
  by_cases hs : A.slots.size = B.slots.size
  · have c3 : Steps p.tables e below (s₁.setTop (entryFrame m #[.ref a, .ref b] 3)) (s₁.setTop (mkF m 9 #[.val (.ref a), .val (.ref b), .val (.int 0)] [])) := c2.trans (by
      refine XS.icmpNo X0.here hexec rfl (hb hbytes d4) rfl (ii_ne_f (by rw [hs])) ?_
      refine iconstV X0.here hexec rfl 0 (hb hbytes d7) (by decide) ?_
      refine XS.istoreN X0.here hexec rfl (hb hbytes d8) rfl rfl ?_
      exact Steps.refl _)
    have loop : ∀ (r i : Nat), i + r = A.slots.size → (∀ j, j < i → yv A j = yv B j) → Steps p.tables e below (s₁.setTop (entryFrame m #[.ref a, .ref b] 3)) (s₁.setTop (mkF m 9 #[.val (.ref a), .val (.ref b), .val (.int (Int32.ofNat i))] [])) → ∃ (pc : Nat) (Ls : Array Slot) (v : Int32), (pc = 25 ∨ pc = 33) ∧ ((v = 1 ∧ EqC A B) ∨ (v = 0 ∧ ¬ EqC A B)) ∧ Steps p.tables e below (s₁.setTop (entryFrame m #[.ref a, .ref b] 3)) (s₁.setTop (mkF m pc Ls [.int v])) := by
      intro r
      induction r with
      | zero =>
        intro i hi he cl
        exact ⟨33, _, 1, Or.inr rfl, Or.inl ⟨rfl, hs, fun j hj => he j (by omega)⟩, cl.trans (by
          refine XS.iloadN X0.here hexec rfl (hb hbytes d9) rfl ?_
          refine XS.aloadN X0.here hexec rfl (hb hbytes d10) rfl rfl ?_
          refine X0.alen hexec hA0 rfl rfl (hb hbytes d11) ?_
          refine XS.icmpYes X0.here hexec rfl (pc0 := 12) rfl (hb hbytes d12) rfl (ii_ge_t (nlt32 (by omega) (by omega))) (by decide) rfl ?_
          refine iconstV X0.here hexec rfl 1 (hb hbytes d32) (by decide) ?_
          exact Steps.refl _)⟩
      | succ r ih =>
        intro i hi he cl
        have c4 : Steps p.tables e below (s₁.setTop (entryFrame m #[.ref a, .ref b] 3)) (s₁.setTop (mkF m 21 #[.val (.ref a), .val (.ref b), .val (.int (Int32.ofNat i))] [.int (yv B i), .int (yv A i)])) := cl.trans (by
          refine XS.iloadN X0.here hexec rfl (hb hbytes d9) rfl ?_
          refine XS.aloadN X0.here hexec rfl (hb hbytes d10) rfl rfl ?_
          refine X0.alen hexec hA0 rfl rfl (hb hbytes d11) ?_
          refine XS.icmpNo X0.here hexec rfl (hb hbytes d12) rfl (ii_ge_f (lt32 (by omega) (by omega))) ?_
          refine XS.aloadN X0.here hexec rfl (hb hbytes d15) rfl rfl ?_
          refine XS.iloadN X0.here hexec rfl (hb hbytes d16) rfl ?_
          refine X0.aget hexec hA0 rfl (yv_get hA tA (i := i) (by omega)) rfl rfl (hb hbytes d17) ?_
          refine XS.aloadN X0.here hexec rfl (hb hbytes d18) rfl rfl ?_
          refine XS.iloadN X0.here hexec rfl (hb hbytes d19) rfl ?_
          refine X0.aget hexec hB0 rfl (yv_get hB tB (i := i) (by omega)) rfl rfl (hb hbytes d20) ?_
          exact Steps.refl _)
        by_cases hv : yv A i = yv B i
        · have c5 : Steps p.tables e below (s₁.setTop (entryFrame m #[.ref a, .ref b] 3)) (s₁.setTop (mkF m 9 #[.val (.ref a), .val (.ref b), .val (.int (Int32.ofNat i + 1))] [])) := c4.trans (by
            refine XS.icmpYes X0.here hexec rfl (pc0 := 21) rfl (hb hbytes d21) rfl (ii_eq_t hv) (by decide) rfl ?_
            refine iincV X0.here hexec rfl 1 (hb hbytes d26) (by decide) rfl rfl ?_
            refine XS.goto X0.here hexec rfl (pc0 := 29) rfl (hb hbytes d29) (by decide) rfl ?_
            exact Steps.refl _)
          rw [succ32] at c5
          exact ih (i + 1) (by omega) (fun j hj => by
            by_cases e : j = i
            · rw [e]; exact hv
            · exact he j (by omega)) c5
        · exact ⟨25, _, 0, Or.inl rfl, Or.inr ⟨rfl, fun q => hv (q.2 i (by omega))⟩, c4.trans (by
            refine XS.icmpNo X0.here hexec rfl (hb hbytes d21) rfl (ii_eq_f hv) ?_
            refine iconstV X0.here hexec rfl 0 (hb hbytes d24) (by decide) ?_
            exact Steps.refl _)⟩
    obtain ⟨pc, Ls, v, hpc, hv, cz⟩ := loop A.slots.size 0 (by omega) (fun j hj => absurd hj (Nat.not_lt_zero j)) c3
    have nv : narrow .boolean (.int v) = .int v := by rcases hv with ⟨rfl, -⟩ | ⟨rfl, -⟩ <;> rfl
    rcases hpc with rfl | rfl
    · exact ⟨s₁, some (.int v), _, _, _, X0, rfl, rfl, rfl, (fun h => by cases h), ⟨v, rfl, hh0, hv⟩, fun fs hl => cz.trans (X0.ireturnOut hexec hret nv (Or.inr (Or.inl rfl)) (hb hbytes d25) hl)⟩
    · exact ⟨s₁, some (.int v), _, _, _, X0, rfl, rfl, rfl, (fun h => by cases h), ⟨v, rfl, hh0, hv⟩, fun fs hl => cz.trans (X0.ireturnOut hexec hret nv (Or.inr (Or.inl rfl)) (hb hbytes d33) hl)⟩
  · have c3 : Steps p.tables e below (s₁.setTop (entryFrame m #[.ref a, .ref b] 3)) (s₁.setTop (mkF m 35 #[.val (.ref a), .val (.ref b), .unset] [.int 0])) := c2.trans (by
      refine XS.icmpYes X0.here hexec rfl (pc0 := 4) rfl (hb hbytes d4) rfl (ii_ne_t (ne32 a31 b31 hs)) (by decide) rfl ?_
      refine iconstV X0.here hexec rfl 0 (hb hbytes d34) (by decide) ?_
      exact Steps.refl _)
    exact ⟨s₁, some (.int 0), _, _, _, X0, rfl, rfl, rfl, (fun h => by cases h), ⟨0, rfl, hh0, Or.inr ⟨rfl, fun q => hs q.1⟩⟩, fun fs hl => c3.trans (X0.ireturnOut hexec hret rfl (Or.inr (Or.inl rfl)) (hb hbytes d35) hl)⟩
end LEq
theorem Cod.ty {cd : Int32} {n : Nat} {f : Nat → Int32} {V : Cell} (h : Cod cd n f V) : Typed .byte V := fun i v hv => by
  have hi : i < V.slots.size := (Array.getElem?_eq_some_iff.mp hv).1
  rcases h with ⟨-, k1, k2⟩ | ⟨-, k1, k2, -⟩
  · rw [(k2 i (by omega)).1] at hv; cases hv; exact fits_lo8 _
  · rcases Nat.mod_two_eq_zero_or_one i with e | e
    · obtain ⟨j, rfl⟩ : ∃ j, i = 2 * j := ⟨i / 2, by omega⟩
      rw [(k2 j (by omega)).1] at hv; cases hv; exact fits_lo8 _
    · obtain ⟨j, rfl⟩ : ∃ j, i = 2 * j + 1 := ⟨i / 2, by omega⟩
      rw [(k2 j (by omega)).2] at hv; cases hv; exact fits_lo8 _
/-- the same text -/
def SameT (n : Nat) (f : Nat → Int32) (k : Nat) (g : Nat → Int32) : Prop := n = k ∧ ∀ j, j < n → f j = g j
theorem lo8_inj {x y : Int32} (h0 : ¬ x < 0) (h1 : ¬ 255 < x) (k0 : ¬ y < 0) (k1 : ¬ 255 < y) (h : lo8 x = lo8 y) : x = y := by
  rw [← lo8_mask h0 h1, ← lo8_mask k0 k1, h]
/-- arrays coded by one coder are equal just where the texts are -/
theorem Cod.eqv {cd : Int32} {n k : Nat} {f g : Nat → Int32} {V V' : Cell} (h : Cod cd n f V) (h' : Cod cd k g V') (hf : ∀ j, j < n → ¬ f j < 0 ∧ ¬ 65535 < f j) (hg : ∀ j, j < k → ¬ g j < 0 ∧ ¬ 65535 < g j) : EqC V V' ↔ SameT n f k g := by
  have yvv : ∀ {W : Cell} {i : Nat} {x : Int32}, W.slots[i]? = some (.int x) → yv W i = x := fun q => by unfold yv; rw [q]
  rcases h with ⟨rfl, k1, k2⟩ | ⟨rfl, k1, k2, -⟩
  · rcases h' with ⟨-, m1, m2⟩ | ⟨e, -⟩
    · constructor
      · rintro ⟨e1, e2⟩
        refine ⟨by omega, fun j hj => ?_⟩
        have q := e2 j (by omega)
        rw [yvv (k2 j hj).1, yvv (m2 j (by omega)).1] at q
        exact lo8_inj (hf j hj).1 (k2 j hj).2 (hg j (by omega)).1 (m2 j (by omega)).2 q
      · rintro ⟨rfl, e2⟩
        refine ⟨by omega, fun j hj => ?_⟩
        rw [yvv (k2 j (by omega)).1, yvv (m2 j (by omega)).1, e2 j (by omega)]
    · exact absurd e (by decide)
  · rcases h' with ⟨e, -⟩ | ⟨-, m1, m2, -⟩
    · exact absurd e (by decide)
    · constructor
      · rintro ⟨e1, e2⟩
        refine ⟨by omega, fun j hj => ?_⟩
        have q1 := e2 (2 * j) (by omega)
        have q2 := e2 (2 * j + 1) (by omega)
        rw [yvv (k2 j hj).1, yvv (m2 j (by omega)).1] at q1
        rw [yvv (k2 j hj).2, yvv (m2 j (by omega)).2] at q2
        rw [← pair_says (hf j hj).1 (hf j hj).2, ← pair_says (hg j (by omega)).1 (hg j (by omega)).2, q1, q2]
      · rintro ⟨rfl, e2⟩
        refine ⟨by omega, fun i hi => ?_⟩
        rcases Nat.mod_two_eq_zero_or_one i with e | e
        · obtain ⟨j, rfl⟩ : ∃ j, i = 2 * j := ⟨i / 2, by omega⟩
          rw [yvv (k2 j (by omega)).1, yvv (m2 j (by omega)).1, e2 j (by omega)]
        · obtain ⟨j, rfl⟩ : ∃ j, i = 2 * j + 1 := ⟨i / 2, by omega⟩
          rw [yvv (k2 j (by omega)).2, yvv (m2 j (by omega)).2, e2 j (by omega)]
/-- two codings differ: so do the texts -/
theorem Cod.dif {cd cd' : Int32} {n k : Nat} {f g : Nat → Int32} {V V' : Cell} (h : Cod cd n f V) (h' : Cod cd' k g V') (hne : ¬ cd = cd') : ¬ SameT n f k g := by
  rintro ⟨rfl, e⟩
  rcases h with ⟨rfl, -, k2⟩ | ⟨rfl, -, -, j, hj, hw⟩
  · rcases h' with ⟨rfl, -⟩ | ⟨-, -, -, j, hj, hw⟩
    · exact hne rfl
    · exact (k2 j hj).2 (by rw [e j hj]; exact hw)
  · rcases h' with ⟨-, -, m2⟩ | ⟨rfl, -⟩
    · exact (m2 j hj).2 (by rw [← e j hj]; exact hw)
    · exact hne rfl
/-- an object of exactly C is an instance of C -/
theorem cinst {p : Program} {l : Launch} {e : Env} {R : Room} {s : State} {m : MethodId} {args : Array Value} {below : List Frame} {meth : Method} {c : Code} {T : State} {locs : List Loc} {cells slots : Nat} (X : Stand p l e R s m args below meth c T locs cells slots) (hexec : p.tables.exec = Jvm.exec) {own C : String} {index : Nat} (hown : s.vm.findClass own = some m.cls) (hlink : (Cond.classLink own index C).before args s = true) {a : Addr} (hE : Exact C a T)
    {g : JFrame} (hg : g.method = m) {rest : List Value} (hstack : g.stack = .ref a :: rest) (hdg : decode c.code g.pc = .ok (.instanceof index, 3)) :
    ∃ T', Stand p l e R s m args below meth c T' locs cells slots ∧ T'.heap = T.heap ∧ ∀ target, Steps p.tables e below (T'.setTop { g with pc := g.pc + 3, stack := .int 1 :: rest }) target → Steps p.tables e below (T.setTop g) target := by
  obtain ⟨cB, h1, D, h2, h3, h4⟩ := hE
  have h1' : s.vm.findClass C = some cB := by rw [← X.warmed.alike.findClass]; exact h1
  obtain ⟨vm', X', st⟩ := X.instanceofYes hexec hown hlink h2 h4 h1' (by rw [h3]; exact Jvm.Free.SB.assignable_self _ _) hg hstack hdg
  exact ⟨_, X', rfl, st⟩
theorem cself {p : Program} {l : Launch} {e : Env} {R : Room} {s : State} {m : MethodId} {args : Array Value} {below : List Frame} {meth : Method} {c : Code} {T : State} {locs : List Loc} {cells slots : Nat} (X : Stand p l e R s m args below meth c T locs cells slots) (hexec : p.tables.exec = Jvm.exec) {own C : String} {index : Nat} (hown : s.vm.findClass own = some m.cls) (hlink : (Cond.classLink own index C).before args s = true) {a : Addr} (hE : Exact C a T)
    {g : JFrame} (hg : g.method = m) {rest : List Value} (hstack : g.stack = .ref a :: rest) (hdg : decode c.code g.pc = .ok (.checkcast index, 3)) :
    ∃ T', Stand p l e R s m args below meth c T' locs cells slots ∧ T'.heap = T.heap ∧ ∀ target, Steps p.tables e below (T'.setTop { g with pc := g.pc + 3, stack := .ref a :: rest }) target → Steps p.tables e below (T.setTop g) target := by
  obtain ⟨cB, h1, D, h2, h3, h4⟩ := hE
  have h1' : s.vm.findClass C = some cB := by rw [← X.warmed.alike.findClass]; exact h1
  obtain ⟨vm', X', st⟩ := X.checkcastYes hexec hown hlink h2 h4 h1' (by rw [h3]; exact Jvm.Free.SB.assignable_self _ _) hg hstack hdg
  exact ⟨_, X', rfl, fun t h => st t (by rw [← hstack] at h; exact h)⟩
namespace SEq
def yN : MethodName := ⟨"java/lang/String", "equals", "(Ljava/lang/Object;)Z"⟩
abbrev yB : ByteArray := jdk_42_method_66_code
theorem d0 : decode yB 0 = .ok (.aload_n 0, 1) := by decide +kernel
theorem d1 : decode yB 1 = .ok (.aload_n 1, 1) := by decide +kernel
theorem d2 : decode yB 2 = .ok (.if_acmp (.ne) 5, 3) := by decide +kernel
theorem d5 : decode yB 5 = .ok (.iconst 1, 1) := by decide +kernel
theorem d6 : decode yB 6 = .ok (.ireturn, 1) := by decide +kernel
theorem d7 : decode yB 7 = .ok (.aload_n 1, 1) := by decide +kernel
theorem d8 : decode yB 8 = .ok (.instanceof 10, 3) := by decide +kernel
theorem d11 : decode yB 11 = .ok (.ifCond (.eq) 43, 3) := by decide +kernel
theorem d14 : decode yB 14 = .ok (.aload_n 1, 1) := by decide +kernel
theorem d15 : decode yB 15 = .ok (.checkcast 10, 3) := by decide +kernel
theorem d18 : decode yB 18 = .ok (.astore_n 2, 1) := by decide +kernel
theorem d19 : decode yB 19 = .ok (.getstatic 38, 3) := by decide +kernel
theorem d22 : decode yB 22 = .ok (.ifCond (.eq) 14, 3) := by decide +kernel
theorem d25 : decode yB 25 = .ok (.aload_n 0, 1) := by decide +kernel
theorem d26 : decode yB 26 = .ok (.getfield 15, 3) := by decide +kernel
theorem d29 : decode yB 29 = .ok (.aload_n 2, 1) := by decide +kernel
theorem d30 : decode yB 30 = .ok (.getfield 15, 3) := by decide +kernel
theorem d33 : decode yB 33 = .ok (.if_icmp (.ne) 21, 3) := by decide +kernel
theorem d36 : decode yB 36 = .ok (.aload_n 0, 1) := by decide +kernel
theorem d37 : decode yB 37 = .ok (.getfield 9, 3) := by decide +kernel
theorem d40 : decode yB 40 = .ok (.aload_n 2, 1) := by decide +kernel
theorem d41 : decode yB 41 = .ok (.getfield 9, 3) := by decide +kernel
theorem d44 : decode yB 44 = .ok (.invokestatic 541, 3) := by decide +kernel
theorem d47 : decode yB 47 = .ok (.ifCond (.eq) 7, 3) := by decide +kernel
theorem d50 : decode yB 50 = .ok (.iconst 1, 1) := by decide +kernel
theorem d51 : decode yB 51 = .ok (.goto 4, 3) := by decide +kernel
theorem d54 : decode yB 54 = .ok (.iconst 0, 1) := by decide +kernel
theorem d55 : decode yB 55 = .ok (.ireturn, 1) := by decide +kernel
def site : List Cond := [.classLink "java/lang/String" 10 "java/lang/String", .fieldLink "java/lang/String" 38 "java/lang/String" "COMPACT_STRINGS" "Z", .fieldLink "java/lang/String" 15 "java/lang/String" "coder" "B", .fieldLink "java/lang/String" 9 "java/lang/String" "value" "[B", LEq.tab] ++ staticW "java/lang/String" 541 LEq.yN
def tab : Cond := tabOf yN yB 3 (some .boolean) site
def P (x t : Addr) (V : Cell) (cd : Int32) (n : Nat) (f : Nat → Int32) (y t' : Addr) (V' : Cell) (cd' : Int32) (k : Nat) (g : Nat → Int32) (z : Int32) (args : Array Value) (s : State) : Prop := args = #[.ref x, .ref y] ∧ Txt x t V cd n f s ∧ Txt y t' V' cd' k g s ∧ StaticIs s "java/lang/String" "COMPACT_STRINGS" "Z" (.int z) ∧ ¬ z = 0
/-- equals(Object) of two Strings: whether the texts are the same -/
theorem law (l : Launch) (x t : Addr) (V : Cell) (cd : Int32) (n : Nat) (f : Nat → Int32) (y t' : Addr) (V' : Cell) (cd' : Int32) (k : Nat) (g : Nat → Int32) (z : Int32) : Law l yN 2 1 1 14 yB 3 (some .boolean) site (P x t V cd n f y t' V' cd' k g z) (Says01 (SameT n f k g)) [] 0 0 := by
  refine Law.of_walk (plainFor_of_name (by decide +kernel)) (by decide +kernel) (by decide +kernel) (by decide) (fun _ _ h => by rw [h.1]; rfl) (fun _ U U' hal hh h => ⟨h.1, h.2.1.mv hal hh, h.2.2.1.mv hal hh, h.2.2.2.1.there hal hh, h.2.2.2.2⟩) (fun r U U' V V' h1 hal h2 h => Says01.mv r U U' V V' h1 hal h2 h) ?_
  intro p e s m args below meth c s₁ X0 hexec hbytes hml hret hlk hnm hown hh0 W hP
  obtain ⟨rfl, hx, hy, s1, hz⟩ := hP
  have c1 : Steps p.tables e below (s₁.setTop (entryFrame m #[.ref x, .ref y] 3)) (s₁.setTop (mkF m 2 #[.val (.ref x), .val (.ref y), .unset] [.ref y, .ref x])) := Steps.trans (entry rfl) (by
    show Steps p.tables e below (s₁.setTop (mkF m 0 #[.val (.ref x), .val (.ref y), .unset] [])) _
    refine XS.aloadN X0.here hexec rfl (hb hbytes d0) rfl rfl ?_
    refine XS.aloadN X0.here hexec rfl (hb hbytes d1) rfl rfl ?_
    exact Steps.refl _)
  by_cases hxy : x = y
  · have c2 : Steps p.tables e below (s₁.setTop (entryFrame m #[.ref x, .ref y] 3)) (s₁.setTop (mkF m 6 #[.val (.ref x), .val (.ref y), .unset] [.int 1])) := c1.trans (by
      refine acmpNo X0.here hexec rfl (hb hbytes d2) rfl rfl rfl (by simp [acmp, hxy]) ?_
      refine iconstV X0.here hexec rfl 1 (hb hbytes d5) (by decide) ?_
      exact Steps.refl _)
    subst hxy
    have ec : cd = cd' := by
      obtain ⟨D, fd, a1, a2, a3⟩ := hx.2.2.1
      obtain ⟨D', fd', b1, b2, b3⟩ := hy.2.2.1
      cases a1.symm.trans b1
      obtain ⟨q1, q2, q3, q4⟩ := a2.1
      obtain ⟨r1, r2, r3, r4⟩ := b2.1
      cases q4.symm.trans r4
      cases a3.symm.trans b3; rfl
    have et : t = t' := by
      obtain ⟨D, fd, a1, a2, a3⟩ := hx.2.1
      obtain ⟨D', fd', b1, b2, b3⟩ := hy.2.1
      cases a1.symm.trans b1
      obtain ⟨q1, q2, q3, q4⟩ := a2.1
      obtain ⟨r1, r2, r3, r4⟩ := b2.1
      cases q4.symm.trans r4
      cases a3.symm.trans b3; rfl
    subst ec et
    have ev : V = V' := by cases hx.2.2.2.1.1.symm.trans hy.2.2.2.1.1; rfl
    subst ev
    have hs : SameT n f k g := (Cod.eqv hx.2.2.2.2.1 hy.2.2.2.2.1 hx.2.2.2.2.2 hy.2.2.2.2.2).mp ⟨rfl, fun _ _ => rfl⟩
    exact ⟨s₁, some (.int 1), _, _, _, X0, rfl, rfl, rfl, (fun h => by cases h), ⟨1, rfl, hh0, Or.inl ⟨rfl, hs⟩⟩, fun fs hl => c2.trans (X0.ireturnOut hexec hret rfl (Or.inr (Or.inl rfl)) (hb hbytes d6) hl)⟩
  · have c2 : Steps p.tables e below (s₁.setTop (entryFrame m #[.ref x, .ref y] 3)) (s₁.setTop (mkF m 8 #[.val (.ref x), .val (.ref y), .unset] [.ref y])) := c1.trans (by
      refine acmpYes X0.here hexec rfl (pc0 := 2) rfl (hb hbytes d2) rfl rfl rfl (by simp [acmp, hxy]) (by decide) rfl ?_
      refine XS.aloadN X0.here hexec rfl (hb hbytes d7) rfl rfl ?_
      exact Steps.refl _)
    obtain ⟨T3, X3, q3, st3⟩ := cinst X0 hexec hown (wk W (.classLink "java/lang/String" 10 "java/lang/String")) (hy.mv X0.warmed.alike hh0).1 (g := (mkF m 8 #[.val (.ref x), .val (.ref y), .unset] [.ref y])) rfl (rest := []) rfl (hb hbytes d8)
    have hh3 := q3.trans hh0
    have c4 : Steps p.tables e below (s₁.setTop (entryFrame m #[.ref x, .ref y] 3)) (T3.setTop (mkF m 15 #[.val (.ref x), .val (.ref y), .unset] [.ref y])) := (c2.trans (st3 _ (Steps.refl _))).trans (by
      refine XS.ifNo X3.here hexec rfl (hb hbytes d11) rfl (i0_eq_f (by decide)) ?_
      refine XS.aloadN X3.here hexec rfl (hb hbytes d14) rfl rfl ?_
      exact Steps.refl _)
    obtain ⟨T5, X5, q5, st5⟩ := cself X3 hexec hown (wk W (.classLink "java/lang/String" 10 "java/lang/String")) (hy.mv X3.warmed.alike hh3).1 (g := (mkF m 15 #[.val (.ref x), .val (.ref y), .unset] [.ref y])) rfl (rest := []) rfl (hb hbytes d15)
    have hh5 := q5.trans hh3
    have c6 : Steps p.tables e below (s₁.setTop (entryFrame m #[.ref x, .ref y] 3)) (T5.setTop (mkF m 19 #[.val (.ref x), .val (.ref y), .val (.ref y)] [])) := (c4.trans (st5 _ (Steps.refl _))).trans (by
      refine XS.astoreN X5.here hexec rfl (hb hbytes d18) rfl rfl rfl ?_
      exact Steps.refl _)
    obtain ⟨T7, X7, q7, st7⟩ := X5.sget hexec hown (wk W (.fieldLink "java/lang/String" 38 "java/lang/String" "COMPACT_STRINGS" "Z")) s1 (fun _ _ h => by rw [hh5]; exact h) (g := (mkF m 19 #[.val (.ref x), .val (.ref y), .val (.ref y)] [])) rfl (hb hbytes d19)
    have hh7 := q7.trans hh5
    have c8 : Steps p.tables e below (s₁.setTop (entryFrame m #[.ref x, .ref y] 3)) (T7.setTop (mkF m 26 #[.val (.ref x), .val (.ref y), .val (.ref y)] [.ref x])) := (c6.trans (st7 _ (Steps.refl _))).trans (by
      refine XS.ifNo X7.here hexec rfl (hb hbytes d22) rfl (i0_eq_f hz) ?_
      refine XS.aloadN X7.here hexec rfl (hb hbytes d25) rfl rfl ?_
      exact Steps.refl _)
    obtain ⟨T9, X9, q9, st9⟩ := X7.hget hexec hown (wk W (.fieldLink "java/lang/String" 15 "java/lang/String" "coder" "B")) (hx.mv X7.warmed.alike hh7).2.2.1 (g := (mkF m 26 #[.val (.ref x), .val (.ref y), .val (.ref y)] [.ref x])) rfl (rest := []) rfl (hb hbytes d26)
    have hh9 := q9.trans hh7
    have c10 : Steps p.tables e below (s₁.setTop (entryFrame m #[.ref x, .ref y] 3)) (T9.setTop (mkF m 30 #[.val (.ref x), .val (.ref y), .val (.ref y)] [.ref y, .int cd])) := (c8.trans (st9 _ (Steps.refl _))).trans (by
      refine XS.aloadN X9.here hexec rfl (hb hbytes d29) rfl rfl ?_
      exact Steps.refl _)
    obtain ⟨T11, X11, q11, st11⟩ := X9.hget hexec hown (wk W (.fieldLink "java/lang/String" 15 "java/lang/String" "coder" "B")) (hy.mv X9.warmed.alike hh9).2.2.1 (g := (mkF m 30 #[.val (.ref x), .val (.ref y), .val (.ref y)] [.ref y, .int cd])) rfl (rest := [.int cd]) rfl (hb hbytes d30)
    have hh11 := q11.trans hh9
    have c12 : Steps p.tables e below (s₁.setTop (entryFrame m #[.ref x, .ref y] 3)) (T11.setTop (mkF m 33 #[.val (.ref x), .val (.ref y), .val (.ref y)] [.int cd', .int cd])) := c10.trans (st11 _ (Steps.refl _))
    by_cases hcd : cd = cd'
    · subst hcd
      have c13 : Steps p.tables e below (s₁.setTop (entryFrame m #[.ref x, .ref y] 3)) (T11.setTop (mkF m 37 #[.val (.ref x), .val (.ref y), .val (.ref y)] [.ref x])) := c12.trans (by
        refine XS.icmpNo X11.here hexec rfl (hb hbytes d33) rfl (ii_ne_f rfl) ?_
        refine XS.aloadN X11.here hexec rfl (hb hbytes d36) rfl rfl ?_
        exact Steps.refl _)
      obtain ⟨T14, X14, q14, st14⟩ := X11.hget hexec hown (wk W (.fieldLink "java/lang/String" 9 "java/lang/String" "value" "[B")) (hx.mv X11.warmed.alike hh11).2.1 (g := (mkF m 37 #[.val (.ref x), .val (.ref y), .val (.ref y)] [.ref x])) rfl (rest := []) rfl (hb hbytes d37)
      have hh14 := q14.trans hh11
      have c15 : Steps p.tables e below (s₁.setTop (entryFrame m #[.ref x, .ref y] 3)) (T14.setTop (mkF m 41 #[.val (.ref x), .val (.ref y), .val (.ref y)] [.ref y, .ref t])) := (c13.trans (st14 _ (Steps.refl _))).trans (by
        refine XS.aloadN X14.here hexec rfl (hb hbytes d40) rfl rfl ?_
        exact Steps.refl _)
      obtain ⟨T16, X16, q16, st16⟩ := X14.hget hexec hown (wk W (.fieldLink "java/lang/String" 9 "java/lang/String" "value" "[B")) (hy.mv X14.warmed.alike hh14).2.1 (g := (mkF m 41 #[.val (.ref x), .val (.ref y), .val (.ref y)] [.ref y, .ref t])) rfl (rest := [.ref t]) rfl (hb hbytes d41)
      have hh16 := q16.trans hh14
      have c17 : Steps p.tables e below (s₁.setTop (entryFrame m #[.ref x, .ref y] 3)) (T16.setTop (mkF m 44 #[.val (.ref x), .val (.ref y), .val (.ref y)] [.ref t', .ref t])) := c15.trans (st16 _ (Steps.refl _))
      obtain ⟨v18, T18, X18, E18, g18⟩ := X16.callS hexec (LEq.law l t V t' V') hown (wks W (staticW "java/lang/String" 541 LEq.yN)) (wk W LEq.tab) (W := 0) (Nat.le_of_ble_eq_true rfl) (Nat.le_of_ble_eq_true rfl) (Nat.le_refl _) (Nat.le_refl _) (g := (mkF m 44 #[.val (.ref x), .val (.ref y), .val (.ref y)] [.ref t', .ref t])) rfl (by rw [hml]; rfl) c17 (argsL := [.ref t, .ref t']) (rest := []) rfl rfl (by show 2 * 0 + 0 ≤ _; decide) (hb hbytes d44) (⟨rfl, hx.2.2.2.1.mv X16.warmed.alike hh16, hx.2.2.2.2.1.ty, hy.2.2.2.1.mv X16.warmed.alike hh16, hy.2.2.2.2.1.ty⟩)
      obtain ⟨v, rfl, q18, hv⟩ := E18
      have iff := Cod.eqv hx.2.2.2.2.1 hy.2.2.2.2.1 hx.2.2.2.2.2 hy.2.2.2.2.2
      rcases hv with ⟨rfl, he⟩ | ⟨rfl, he⟩
      · have c19 : Steps p.tables e below (s₁.setTop (entryFrame m #[.ref x, .ref y] 3)) (T18.setTop (mkF m 55 #[.val (.ref x), .val (.ref y), .val (.ref y)] [.int 1])) := Steps.trans g18 (by
          refine XS.ifNo X18.here hexec rfl (hb hbytes d47) rfl (i0_eq_f (by decide)) ?_
          refine iconstV X18.here hexec rfl 1 (hb hbytes d50) (by decide) ?_
          refine XS.goto X18.here hexec rfl (pc0 := 51) rfl (hb hbytes d51) (by decide) rfl ?_
          exact Steps.refl _)
        exact ⟨T18, some (.int 1), _, _, _, X18, rfl, rfl, rfl, (fun h => by cases h), ⟨1, rfl, q18.trans hh16, Or.inl ⟨rfl, iff.mp he⟩⟩, fun fs hl => c19.trans (X18.ireturnOut hexec hret rfl (Or.inr (Or.inl rfl)) (hb hbytes d55) hl)⟩
      · have c19 : Steps p.tables e below (s₁.setTop (entryFrame m #[.ref x, .ref y] 3)) (T18.setTop (mkF m 55 #[.val (.ref x), .val (.ref y), .val (.ref y)] [.int 0])) := Steps.trans g18 (by
          refine XS.ifYes X18.here hexec rfl (pc0 := 47) rfl (hb hbytes d47) rfl (i0_eq_t rfl) (by decide) rfl ?_
          refine iconstV X18.here hexec rfl 0 (hb hbytes d54) (by decide) ?_
          exact Steps.refl _)
        exact ⟨T18, some (.int 0), _, _, _, X18, rfl, rfl, rfl, (fun h => by cases h), ⟨0, rfl, q18.trans hh16, Or.inr ⟨rfl, fun q => he (iff.mpr q)⟩⟩, fun fs hl => c19.trans (X18.ireturnOut hexec hret rfl (Or.inr (Or.inl rfl)) (hb hbytes d55) hl)⟩
    · have c13 : Steps p.tables e below (s₁.setTop (entryFrame m #[.ref x, .ref y] 3)) (T11.setTop (mkF m 55 #[.val (.ref x), .val (.ref y), .val (.ref y)] [.int 0])) := c12.trans (by
        refine XS.icmpYes X11.here hexec rfl (pc0 := 33) rfl (hb hbytes d33) rfl (ii_ne_t hcd) (by decide) rfl ?_
        refine iconstV X11.here hexec rfl 0 (hb hbytes d54) (by decide) ?_
        exact Steps.refl _)
      exact ⟨T11, some (.int 0), _, _, _, X11, rfl, rfl, rfl, (fun h => by cases h), ⟨0, rfl, hh11, Or.inr ⟨rfl, Cod.dif hx.2.2.2.2.1 hy.2.2.2.2.1 hcd⟩⟩, fun fs hl => c13.trans (X11.ireturnOut hexec hret rfl (Or.inr (Or.inl rfl)) (hb hbytes d55) hl)⟩
theorem pays {l : Launch} {R : Room} {p : Program} {e : Env} {below : List Frame} {s : State} {sargs : Array Value} {len W : Nat} (x t : Addr) (V : Cell) (cd : Int32) (n : Nat) (f : Nat → Int32) (y t' : Addr) (V' : Cell) (cd' : Int32) (k : Nat) (g : Nat → Int32) (z : Int32) (htab : tab.before sargs s = true) (hfr : 2 ≤ R.frames) (hlo : W + 28 ≤ R.locals) :
    Back l R p e below s sargs yN len W (fun A₁ a₁ => A₁.cells + 0 ≤ R.cells ∧ A₁.slots + 0 ≤ R.slots ∧ P x t V cd n f y t' V' cd' k g z a₁ A₁.U) (fun A₁ _ v₁ B₁ => Says01 (SameT n f k g) v₁ A₁.U B₁.U ∧ B₁.locs = A₁.locs ++ [] ∧ B₁.cells = A₁.cells + 0 ∧ B₁.slots = A₁.slots + 0) :=
  (law l x t V cd n f y t' V' cd' k g z).pays htab hfr (by omega)
end SEq
end StrChars
namespace StrChars.Road
open Jvm Sem ClassFile Op Lib Jvm.Stand Jvm.Free Jvm.Free.XT
open Jvm.Lib.Cold (StaticIs)
/-- the words of String.equals(Object) -/
abbrev wordsEq : List Jvm.Cond := [.code SEq.yN SEq.yB 3 (some .boolean), .initialized ST, .classLink ST 10 ST, .fieldLink ST 38 ST "COMPACT_STRINGS" "Z", .fieldLink ST 15 ST "coder" "B", .fieldLink ST 9 ST "value" "[B", .methodLink ST 541 LEq.yN, .static LEq.yN, .code LEq.yN LEq.yB 3 (some .boolean), .initialized "java/lang/StringLatin1"]
theorem tabEq_of {a : Array Value} {s : State} (h : ∀ w ∈ wordsEq, w.before a s = true) : SEq.tab.before a s = true := by
  have hl : LEq.tab.before a s = true := unparts (wk h (.code LEq.yN LEq.yB 3 (some .boolean))) (wks h (.initialized LEq.yN.cls :: LEq.site))
  have q := consq hl h
  exact unparts (wk q (.code SEq.yN SEq.yB 3 (some .boolean))) (wks q (.initialized SEq.yN.cls :: SEq.site))
theorem movedEq {Z s : State} {a0 args : Array Value} (hZ : Z.Warmed39 s.vm) (hw : ∀ d ∈ wordsEq, d.before a0 Z = true) : ∀ d ∈ wordsEq, d.before args s = true := fun d hd => by
  have t : ∀ d ∈ wordsEq, (d.onTables && d.keepsFace) = true := by decide +kernel
  exact RoadKit.mv hZ (hw d hd) (t d hd)
/-- the road's facts of a String, as the laws ask it -/
theorem txt_of {Z U : State} {a0 : Array Value} {kI : Nat} (wi : (Jvm.Cond.instantiable ST kI).before a0 Z = true) (al : Z.vm.Alike U.vm) {x t : Addr} {kb : ClassId} {cs : List Int32} {cd N2 : Int32} {vs : List Value} (E : RoadKit.Exa Z U.heap x ST) (V : RoadKit.Fld Z U.heap x ST "value" "[B" (.ref t)) (C : RoadKit.Fld Z U.heap x ST "coder" "B" (.int cd)) (K : RoadKit.Arv Z U.heap t kb .byte N2 vs (.int 0)) (hc : CodA cs cd N2 vs) (hb : ∀ c ∈ cs, ¬ c < 0 ∧ ¬ (65535 : Int32) < c) (l2 : cs.length ≤ 4000) :
    ∃ A, Txt x t A cd cs.length (fun j => cs.getD j 0) U := by
  obtain ⟨A, K1, K2, K3, K4, K5, K6⟩ := K
  have hcod := hc.cod (by omega) K3 K5
  obtain ⟨D, fV, fC, hB, F1, F2, g1, g2, -, -⟩ := strObj wi al E V C
  exact ⟨A, ⟨_, hB.2.2.1, D, hB.1, rfl, by cases q : D.vm <;> first | rfl | exact absurd q (hB.2.1.2 _)⟩, Has.of hB F1 g1, Has.of hB F2 g2, ⟨K1.1, State.isArrayOf_alike al K1.2.1, K1.2.2, by rcases hcod with ⟨-, q, -⟩ | ⟨-, q, -⟩ <;> omega⟩, hcod, fun j hj => by
    have e : cs.getD j 0 = cs[j] := by simp [List.getD_eq_getElem?_getD, hj]
    show ¬ cs.getD j 0 < 0 ∧ ¬ 65535 < cs.getD j 0
    rw [e]; exact hb _ (List.getElem_mem _)⟩
theorem same_list (cs ds : List Int32) : SameT cs.length (fun j => cs.getD j 0) ds.length (fun j => ds.getD j 0) ↔ cs = ds := by
  constructor
  · rintro ⟨e, q⟩
    refine List.ext_getElem e fun j h1 h2 => ?_
    have := q j h1
    simpa [List.getD_eq_getElem?_getD, h1, h2] using this
  · rintro rfl
    exact ⟨rfl, fun _ _ => rfl⟩
/-- **equals(Object) OF TWO SUCH STRINGS**: 1 just where the chars are the same -/
theorem eqW {p : Program} {l : Launch} {e : Env} {R : Room} {s : State} {args : Array Value} {below : List Frame} {len W : Nat} {Z : State} {a0 : Array Value} {h : Heap} (hZ : Z.Warmed39 s.vm) (hw : ∀ d ∈ wordsEq, d.before a0 Z = true) {kI : Nat} (wi : (Jvm.Cond.instantiable ST kI).before a0 Z = true)
    {x t : Addr} {kb : ClassId} {cs : List Int32} {cd N2 : Int32} {vs : List Value} (E : RoadKit.Exa Z h x ST) (V : RoadKit.Fld Z h x ST "value" "[B" (.ref t)) (C : RoadKit.Fld Z h x ST "coder" "B" (.int cd)) (K : RoadKit.Arv Z h t kb .byte N2 vs (.int 0)) (hc : CodA cs cd N2 vs) (hb : ∀ c ∈ cs, ¬ c < 0 ∧ ¬ (65535 : Int32) < c) (l2 : cs.length ≤ 4000)
    {y t' : Addr} {kb' : ClassId} {ds : List Int32} {cd' N2' : Int32} {vs' : List Value} (E' : RoadKit.Exa Z h y ST) (V' : RoadKit.Fld Z h y ST "value" "[B" (.ref t')) (C' : RoadKit.Fld Z h y ST "coder" "B" (.int cd')) (K' : RoadKit.Arv Z h t' kb' .byte N2' vs' (.int 0)) (hc' : CodA ds cd' N2' vs') (hb' : ∀ c ∈ ds, ¬ c < 0 ∧ ¬ (65535 : Int32) < c) (l2' : ds.length ≤ 4000)
    {z : Int32} (S : RoadKit.Sta Z h ST "COMPACT_STRINGS" "Z" (.int z)) (hz : ¬ z = 0) (hfr : 2 ≤ R.frames) (hlo : W + 28 ≤ R.locals) :
    Back l R p e below s args (⟨"java/lang/String", "equals", "(Ljava/lang/Object;)Z"⟩ : MethodName) len W (fun P a => a = #[.ref x, .ref y] ∧ P.U.heap = h ∧ P.cells + 0 ≤ R.cells ∧ P.slots + 0 ≤ R.slots)
      (fun P _ v B => ∃ L, (((v = some (.int 1) ∧ cs = ds) ∨ (v = some (.int 0) ∧ ¬ cs = ds)) ∧ L = [] ∧ B.U.heap = h) ∧ B.locs = P.locs ++ L ∧ B.cells = P.cells + 0 ∧ B.slots = P.slots + 0) := by
  intro m meth c P g ig mk a X hg hsize hdg hW hn hp'
  obtain ⟨rfl, rfl, r1, r2⟩ := hp'
  have al : Z.vm.Alike P.U.vm := hZ.alike.trans X.warmed.alike
  obtain ⟨A, hx⟩ := txt_of wi al E V C K hc hb l2
  obtain ⟨A', hy⟩ := txt_of wi al E' V' C' K' hc' hb' l2'
  obtain ⟨v, B, X', ⟨⟨w, hv, hh, hq⟩, hl, hk, hs⟩, st⟩ := SEq.pays x t A cd cs.length (fun j => cs.getD j 0) y t' A' cd' ds.length (fun j => ds.getD j 0) z (tabEq_of (movedEq hZ hw)) hfr hlo m meth c P g ig mk _ X hg hsize hdg hW hn ⟨r1, r2, rfl, hx, hy, sta_is al S, hz⟩
  refine ⟨v, B, X', ⟨[], ⟨?_, rfl, hh⟩, hl, hk, hs⟩, st⟩
  rcases hq with ⟨rfl, q⟩ | ⟨rfl, q⟩
  · exact Or.inl ⟨hv, (same_list cs ds).mp q⟩
  · exact Or.inr ⟨hv, fun e => q ((same_list cs ds).mpr e)⟩
end StrChars.Road
namespace StrChars.Road
open Jvm Sem ClassFile Op Lib Jvm.Stand Jvm.Free Jvm.Free.XT
open Jvm.Lib.Cold (StaticIs)
/-- what backV says of its String, as the contracts of this text ask it: cs's low bytes, coder 0 -/
theorem codOf {cs : List Int32} {n : Nat} (hn : cs.length = n) (hb : ∀ c ∈ cs, ¬ 255 < c) : CodA cs 0 (Int32.ofNat n) ((cs.map lo8).map Value.int) := Or.inl ⟨rfl, by rw [hn], by simp [List.map_map, Function.comp_def], hb⟩
end StrChars.Road
end Jvm.Pilot.@@N@@

namespace Jvm.Pilot.@@N@@
open Jvm Jvm.ClassFile Sem Op Lib Jvm.Free Jvm.Stand Jvm.LawKit Jvm.RoadKit Bundle Jvm.Pilot.@@N@@.Jvm.D
def own_Go (tb : Tables) (e : Env) (below : List Frame) (K : State → Outcome → Prop) (S : State) : Prop := ∃ t o, Steps tb e below S t ∧ K t o
theorem own_Go.by {tb : Tables} {e : Env} {below : List Frame} {K : State → Outcome → Prop} {S S' : State} (h : ∀ t, Steps tb e below S' t → Steps tb e below S t) (g : own_Go tb e below K S') : own_Go tb e below K S := by
  obtain ⟨t, o, a, b⟩ := g
  exact ⟨t, o, h t a, b⟩
theorem own_Go.fin {tb : Tables} {e : Env} {below : List Frame} {K : State → Outcome → Prop} {S t : State} {o : Outcome} (h : Steps tb e below S t) (k : K t o) : own_Go tb e below K S := ⟨t, o, h, k⟩
theorem own_merge {α : Type} {P : α → Prop} {F : α → State} {tb : Tables} {e : Env} {below : List Frame} {K : State → Outcome → Prop} {S : State} (g : ∀ v, P v → own_Go tb e below K (F v)) (h : (∀ v, P v → own_Go tb e below K (F v)) → own_Go tb e below K S) : own_Go tb e below K S := h g
theorem own_old_le {Z : State} {n0 : Nat} {h : Heap} (O : Old Z n0 h) : n0 ≤ h.size := O.1 ▸ O.2.1
theorem own_rew {s t : State} {o : Outcome} {L : List Loc} {k n k' n' : Nat} (h : ReturnedEndW s o t L k n) (hk : k ≤ k') (hn : n ≤ n') : ReturnedEndW s o t L k' n' := ⟨h.1, h.2.1, h.2.2.1, h.2.2.2.mono hk hn⟩
theorem own_privsel {s : State} {a1 a2 args : Array Value} {y : MethodName} {n : Nat} (wi : (Jvm.Cond.instantiable y.cls n).before a1 s = true) (wp : (Jvm.Cond.privateMethod y).before a2 s = true) (wm : (Jvm.Cond.instanceMethod y).before args s = true) (hy : y.cls ≠ "java/lang/invoke/MethodHandle" ∧ y.cls ≠ "java/lang/invoke/VarHandle") : (Jvm.Cond.selects y.cls y y).before args s = true := by
  obtain ⟨c, k, h1, h2, -, h4, -⟩ := Cond.instantiable_spec wi
  simp only [Bool.or_eq_false_iff] at h4
  exact selects_self_of_private h1 h2 h4.1 (Cond.privateMethod_at wp) wm hy
theorem own_arr_keep {Z : State} {h h' : Heap} {a : Addr} {c : Cell} {ty : FieldType} {ws : List Addr} (A : Arr Z h a c ty) (K : Keep h h' ws) (q : a ∉ ws) : Arr Z h' a c ty := ⟨K.2.1 a c A.1 q, A.2⟩
abbrev sI (x : Int32) : Slot := .val (.int x)
abbrev sR (x : Addr) : Slot := .val (.ref x)
abbrev sJ (x : Int64) : Slot := .val (.long x)

theorem own_hws : ∀ d ∈ StrChars.Road.words, d ∈ tables_1 := by decide +kernel
theorem own_hEL {Z : State} {a0 : Array Value} (hw : ∀ d ∈ tables_1, d.before a0 Z = true) : EW Z a0 consts_1 := (EW.cons (hw _ (List.mem_of_getElem? (i := 77) rfl)) (by decide) (EW.cons (hw _ (List.mem_of_getElem? (i := 50) rfl)) (by decide) (EW.cons (hw _ (List.mem_of_getElem? (i := 51) rfl)) (by decide) (EW.cons (hw _ (List.mem_of_getElem? (i := 52) rfl)) (by decide) (EW.cons (hw _ (List.mem_of_getElem? (i := 53) rfl)) (by decide) (EW.cons (hw _ (List.mem_of_getElem? (i := 54) rfl)) (by decide) (EW.cons (hw _ (List.mem_of_getElem? (i := 55) rfl)) (by decide) (EW.cons (hw _ (List.mem_of_getElem? (i := 56) rfl)) (by decide) (EW.cons (hw _ (List.mem_of_getElem? (i := 19) rfl)) (by decide) EW.nil)))))))))
theorem own_wS : ∀ d ∈ Bundle.stringAtoms, d ∈ tables_1 := by decide +kernel
theorem own_safeNull {Z : State} {EL : List (String × Nat)} {vm : Vm} {h : Heap} {x : Addr} (hal : Z.vm.Alike vm) (E : Exa Z h x "java/lang/String") (F : Fld Z h x "java/lang/String" "value" "[B" .null) : Safe Z EL vm h x := fun B => by
  obtain ⟨cell, k, e1, e2, e3, -, -⟩ := E
  obtain ⟨p, -, u, a, -, q, -, G, rfl | rfl⟩ := B
  · cases (show h[q.sa]? = some q.sC from G.ha).symm.trans e1
    obtain ⟨cS, ⟨⟨-, -, -, ⟨c1, k1, i1, f1, -⟩, -, -, -, v1, -⟩, -⟩, -⟩ := G
    obtain ⟨cell2, d0, k2, i2, sl2, g1, g2, g3, g4, g5, g6, g7⟩ := F
    cases (show h[q.sa]? = some q.sC from e1).symm.trans g1
    obtain ⟨k3, z4⟩ := ff_back (U := Wst Z vm h) hal f1
    have e4 := z4.symm.trans g2
    simp only [Option.some.injEq, Prod.mk.injEq] at e4
    rw [e4.2.2.2] at v1
    rw [v1] at g7
    cases g7
  · cases (show h[q.sd]? = some q.SA from G.hd).symm.trans e1
    obtain ⟨cS, -, -, f, -⟩ := G
    have f : vm.findClass "[B" = some q.SA.cls := f
    rw [hal.findClass] at f
    obtain ⟨k1, q1, q2⟩ := Vm.findClass_spec f
    obtain ⟨k2, q3, q4⟩ := Vm.findClass_spec e2
    cases q1.symm.trans q3
    have := q2.symm.trans q4
    revert this
    decide
theorem own_fitc {x : Int32} (h : nar .char x = x) : fits .char (.int x) = true := h ▸ fits_nar_char x
theorem own_fitC {x : Int32} (h : nar .char x = x) : fits .char (.int x) = true := h ▸ fits_nar_char x
theorem own_b255 {x c : Int32} (h : (x &&& (255 : Int32)).toUInt32.toUInt16.toUInt32.toInt32 = c) : (¬ c < 0 ∧ ¬ (255 : Int32) < c) ∧ nar .char c = c := by
  have e : x &&& 255 = c := (i2c_mask x).symm.trans h
  subst e
  have q := c_and x 255 (by decide)
  have e2 : (255 : Int32).toInt = 255 := rfl
  have e0 : (0 : Int32).toInt = 0 := rfl
  refine ⟨⟨fun r => ?_, fun r => ?_⟩, ?_⟩
  · rw [Int32.lt_iff_toInt_lt] at r; omega
  · rw [Int32.lt_iff_toInt_lt] at r; omega
  · exact i2c_mask x
theorem own_up (cs : List Int32) (h : ∀ c ∈ cs, ¬ c < 0 ∧ ¬ (255 : Int32) < c) : ∀ c ∈ cs, ¬ c < 0 ∧ ¬ (65535 : Int32) < c := fun c hc => ⟨(h c hc).1, fun q => (h c hc).2 (by rw [Int32.lt_iff_toInt_lt] at q ⊢; have e1 : (65535 : Int32).toInt = 65535 := rfl; have e2 : (255 : Int32).toInt = 255 := rfl; omega)⟩
theorem own_heq : ∀ d ∈ StrChars.Road.wordsEq, d ∈ tables_1 := by decide +kernel
theorem own_eqv {P : Prop} {v : Option Value} (h : (v = some (.int 1) ∧ P) ∨ (v = some (.int 0) ∧ ¬ P)) : ∃ q : Int32, v = some (.int q) ∧ ((q = (0 : Int32) ∧ ¬ P) ∨ (q = (1 : Int32) ∧ P)) := by
  rcases h with ⟨a, b⟩ | ⟨a, b⟩
  · exact ⟨1, a, Or.inr ⟨rfl, b⟩⟩
  · exact ⟨0, a, Or.inl ⟨rfl, b⟩⟩
theorem own_eqF {P : Prop} {q : Int32} (h : (q = (0 : Int32) ∧ ¬ P) ∨ (q = (1 : Int32) ∧ P)) (z : q = (0 : Int32)) : ¬ P := by
  rcases h with ⟨_, b⟩ | ⟨a, _⟩
  · exact b
  · rw [a] at z; exact absurd z (by decide)
theorem own_eqT {P : Prop} {q : Int32} (h : (q = (0 : Int32) ∧ ¬ P) ∨ (q = (1 : Int32) ∧ P)) (z : ¬ q = (0 : Int32)) : P := by
  rcases h with ⟨a, _⟩ | ⟨_, b⟩
  · exact absurd a z
  · exact b
theorem own_noInst {Z : State} {a0 : Array Value} {C O K : String} {n : Nat} (w : (Jvm.Cond.superclass C O).before a0 Z = true) (wo : (Jvm.Cond.noSuperclass O).before a0 Z = true) (wi : (Jvm.Cond.instantiable K n).before a0 Z = true) (h1 : C ≠ K) (h2 : O ≠ K) : ∃ c t, Z.vm.findClass C = some c ∧ Z.vm.findClass K = some t ∧ Z.vm.assignable c t = false := by
  obtain ⟨t, kt, t1, t2, t3, t4, -⟩ := Cond.instantiable_spec wi
  simp only [Bool.or_eq_false_iff] at t4
  obtain ⟨o, ko, o1, o2, o3, -, -⟩ := Cond.noSuperclass_spec wo
  have neO := ids_ne o1 t1 h2
  have nO : NS Z O K := ⟨o, t, o1, t1, fun fuel => by
    cases fuel with
    | zero => rfl
    | succ f => simp [Vm.isSubclassAux, neO, o2, o3]⟩
  obtain ⟨c, t', c1, c2, c3⟩ := NS.step w nO h1
  cases t1.symm.trans c2
  obtain ⟨p, k, kp, q1, q2, q3, q4, q5, -, q7⟩ := Cond.superclass_spec c1 w
  have ne := ids_ne c1 t1 h1
  refine ⟨c, t, c1, t1, ?_⟩
  show Z.vm.assignableAux (255 + 1) c t = false
  simp [Vm.assignableAux, ne, q2, t2, q5, t3, t4.1, Vm.isSubclass, c3]

theorem own_narc {c : Int32} (h : ¬ c < 0 ∧ ¬ (255 : Int32) < c) : nar .char c = c := by
  have h1 := h.1
  have h2 := h.2
  rw [Int32.lt_iff_toInt_lt] at h1 h2
  have e2 : (255 : Int32).toInt = 255 := rfl
  have e0 : (0 : Int32).toInt = 0 := rfl
  have q := c_i2c c
  exact Int32.toInt_inj.mp (show (c.toUInt32.toUInt16.toUInt32.toInt32).toInt = c.toInt by omega)
def own_r3 (z : Int32) : Prop := z = (0 : Int32) ∨ z = (1 : Int32) ∨ z = (2 : Int32)
theorem own_r3p {x z : Int32} (h : ((x &&& (65535 : Int32)) % (3 : Int32)) = z) : own_r3 z := by
  have q := c_and x (65535 : Int32) (by decide)
  have r := (c_irem (x &&& (65535 : Int32)) (3 : Int32) 3 rfl).1 q.1
  rw [h] at r
  have e0 : (0 : Int32).toInt = 0 := rfl
  have e1 : (1 : Int32).toInt = 1 := rfl
  have e2 : (2 : Int32).toInt = 2 := rfl
  have w : z.toInt = 0 ∨ z.toInt = 1 ∨ z.toInt = 2 := by omega
  rcases w with w | w | w
  · exact Or.inl (Int32.toInt_inj.mp w)
  · exact Or.inr (Or.inl (Int32.toInt_inj.mp w))
  · exact Or.inr (Or.inr (Int32.toInt_inj.mp w))
def own_text (n x y : Int32) : List Int32 := if n = (0 : Int32) then [] else if n = (1 : Int32) then [x] else [x, y]
def own_cod (cs : List Int32) (N2 : Int32) (vs2 : List Value) : Prop := StrChars.Road.CodA cs (0 : Int32) N2 vs2 ∧ (∀ c ∈ cs, ¬ c < 0 ∧ ¬ (255 : Int32) < c) ∧ cs.length ≤ 4000
theorem own_text0 {n x y : Int32} (h : n = (0 : Int32)) : own_text n x y = [] := if_pos h
theorem own_text1 {n x y : Int32} (g : ¬ n = (0 : Int32)) (h : n = (1 : Int32)) : own_text n x y = [x] := (if_neg g).trans (if_pos h)
theorem own_text2 {n x y : Int32} (g : ¬ n = (0 : Int32)) (h : ¬ n = (1 : Int32)) : own_text n x y = [x, y] := (if_neg g).trans (if_neg h)
theorem own_exp {la lb c0 c1 d0 d1 : Int32} (ha : own_r3 la) (hb : own_r3 lb) : own_text la c0 c1 = own_text lb d0 d1 ↔ la = lb ∧ (la < (1 : Int32) ∨ c0 = d0) ∧ (la < (2 : Int32) ∨ c1 = d1) := by
  rcases ha with rfl | rfl | rfl <;> rcases hb with rfl | rfl | rfl <;> simp [own_text]
theorem own_same {P Q : Prop} {r x : Int32} (h : (r = (0 : Int32) ∧ ¬ P) ∨ (r = (1 : Int32) ∧ P)) (g : (x = (1 : Int32) ∧ Q) ∨ (x = (0 : Int32) ∧ ¬ Q)) (e : P ↔ Q) : r = x := by
  rcases h with ⟨a, b⟩ | ⟨a, b⟩ <;> rcases g with ⟨a', b'⟩ | ⟨a', b'⟩
  · exact absurd (e.mpr b') b
  · rw [a, a']
  · rw [a, a']
  · exact absurd (e.mp b) b'
theorem own_self {P : Prop} {r : Int32} (h : (r = (0 : Int32) ∧ ¬ P) ∨ (r = (1 : Int32) ∧ P)) (p : P) : ¬ r = (0 : Int32) := by
  rcases h with ⟨a, b⟩ | ⟨a, b⟩
  · exact absurd p b
  · rw [a]; decide

theorem d3_0 : decode jdk_42_method_149_code 0 = .ok (.aload_n 0, 1) := by decide +kernel
theorem d3_1 : decode jdk_42_method_149_code 1 = .ok (.invokespecial 1, 3) := by decide +kernel
theorem d3_4 : decode jdk_42_method_149_code 4 = .ok (.iload_n 3, 1) := by decide +kernel
theorem d3_5 : decode jdk_42_method_149_code 5 = .ok (.ifCond .ne 22, 3) := by decide +kernel
theorem d3_8 : decode jdk_42_method_149_code 8 = .ok (.aload_n 0, 1) := by decide +kernel
theorem d3_9 : decode jdk_42_method_149_code 9 = .ok (.ldc 7, 2) := by decide +kernel
theorem d3_11 : decode jdk_42_method_149_code 11 = .ok (.getfield 9, 3) := by decide +kernel
theorem d3_14 : decode jdk_42_method_149_code 14 = .ok (.putfield 9, 3) := by decide +kernel
theorem d3_17 : decode jdk_42_method_149_code 17 = .ok (.aload_n 0, 1) := by decide +kernel
theorem d3_18 : decode jdk_42_method_149_code 18 = .ok (.ldc 7, 2) := by decide +kernel
theorem d3_20 : decode jdk_42_method_149_code 20 = .ok (.getfield 15, 3) := by decide +kernel
theorem d3_23 : decode jdk_42_method_149_code 23 = .ok (.putfield 15, 3) := by decide +kernel
theorem d3_26 : decode jdk_42_method_149_code 26 = .ok (.return_, 1) := by decide +kernel
theorem own_pn_java_lang_String : plainName "java/lang/String" = true := by first | (simp [plainName, overriddenIn]; done) | decide +kernel
theorem own_ef_3 (m : MethodId) (a1 : Addr) (a2 : Addr) : entryFrame m #[(Value.ref a1), (Value.ref a2), (Value.int (0 : Int32)), (Value.int (0 : Int32)), .null] 6 = mkF m 0 #[sR a1, sR a2, sI (0 : Int32), sI (0 : Int32), .val .null, .unset] [] := by first | (simp [entryFrame, mkF, argsToLocals, Value.category]; done) | rfl
def Q3 (Z : State) (a1 : Addr) (a2 : Addr) (h0 : Heap) (n0 : Nat) (v : Option Value) (h : Heap) (L : List Loc) : Prop := ∃ (b : Addr), ∃ (k2 : ClassId), v = none ∧ Fr n0 L ∧ Keep h0 h [a1] ∧ (Exa Z h a1 "java/lang/String") ∧ (Fld Z h a1 "java/lang/String" "coder" "B" (Value.int (0 : Int32))) ∧ (Fld Z h a1 "java/lang/String" "value" "[B" (Value.ref b)) ∧ (Arv Z h b k2 .byte (0 : Int32) [] (Value.int (0 : Int32)))
set_option maxRecDepth 65536 in
set_option maxHeartbeats 40000000 in
theorem rm3 (l : Launch) (Z : State) (a0 : Array Value) (hw : ∀ d ∈ tables_1, d.before a0 Z = true) (ws : List Jvm.Cond) (a1 : Addr) (a2 : Addr) (h0 : Heap) (n0 : Nat) (O0 : Old Z n0 h0) (H0 : Exa Z h0 a1 "java/lang/String") (H1 : Fld Z h0 a1 "java/lang/String" "value" "[B" .null) (H2 : Fld Z h0 a1 "java/lang/String" "coder" "B" (Value.int (0 : Int32))) (H3 : n0 ≤ a1) :
    MetFree l (⟨"java/lang/String", "<init>", "([CIILjava/lang/Void;)V"⟩ : MethodName) (head1 (Jvm.Cond.code (⟨"java/lang/String", "<init>", "([CIILjava/lang/Void;)V"⟩ : MethodName) jdk_42_method_149_code 6 none :: ws) ({ frames := 1, cells := 4, slots := 8, locals := 12 } : Room)) (fun a U => a = #[(Value.ref a1), (Value.ref a2), (Value.int (0 : Int32)), (Value.int (0 : Int32)), .null] ∧ Z.Warmed39 U.vm ∧ U.heap = h0 ∧ CHv Z consts_1 U.vm h0) (fun _ _ _ _ _ => True) (fun _ U o U' => ∃ v L, o = .returned v ∧ Q3 Z a1 a2 h0 n0 v U'.heap L ∧ CHr Z consts_1 U.vm U.heap U'.vm U'.heap ∧ ReturnedEndW U o U' L ({ frames := 1, cells := 4, slots := 8, locals := 12 } : Room).cells ({ frames := 1, cells := 4, slots := 8, locals := 12 } : Room).slots) := by
  refine MetFree.of_bodySF (plainFor_of_name own_pn_java_lang_String) hisR ?_
  intro p e s m args below meth c s₁ Bd hml0 hP hK
  obtain ⟨rfl, hZ, hh, CH0⟩ := hP
  have hx := Bd.exec
  have hby := Bd.bytes
  have hml : c.maxLocals = 6 := hml0
  have hown : s.vm.findClass "java/lang/String" = some m.cls := findClass_of_methodNamed Bd.named
  have hnm := (name_of_methodNamed Bd.named Bd.method).1
  have hEL := own_hEL hw
  have X0 : Stand p l e ({ frames := 1, cells := 4, slots := 8, locals := 12 } : Room) s m #[(Value.ref a1), (Value.ref a2), (Value.int (0 : Int32)), (Value.int (0 : Int32)), .null] below meth c s₁ [] 0 0 := Stand.of_body Bd
  have e0 : s₁.heap = h0 := by rw [← hh, Bd.state]; rfl
  have hS0 : s.Since s.vm 0 := (State.WarmedH.refl s).since 0
  have N0 := Fr.nil n0
  have K0 := Keep.refl h0 [a1]
  show own_Go _ _ _ _ (s₁.setTop (entryFrame m #[(Value.ref a1), (Value.ref a2), (Value.int (0 : Int32)), (Value.int (0 : Int32)), .null] 6))
  refine own_Go.by (fun tq kq => castTop (own_ef_3 m a1 a2) kq) ?_
  have Sf0 := own_safeNull (EL := consts_1) hZ.alike H0 H1
  show own_Go _ _ _ _ (s₁.setTop (mkF m 0 #[sR a1, sR a2, sI (0 : Int32), sI (0 : Int32), .val .null, .unset] []))
  refine own_Go.by (fun tq kq => XS.aloadN X0.here hx rfl (hb hby d3_0) rfl rfl kq) ?_
  show own_Go _ _ _ _ (s₁.setTop (mkF m 1 #[sR a1, sR a2, sI (0 : Int32), sI (0 : Int32), .val .null, .unset] [(Value.ref a1)]))
  obtain ⟨T1, X1, e1, st1⟩ := initO X0 hx hZ hown (hw _ (List.mem_of_getElem? (i := 16) rfl)) (hw _ (List.mem_of_getElem? (i := 17) rfl)) (hw _ (List.mem_of_getElem? (i := 18) rfl)) e0 (g := (mkF m 1 #[sR a1, sR a2, sI (0 : Int32), sI (0 : Int32), .val .null, .unset] [(Value.ref a1)])) rfl (by rw [hml]; rfl) rfl (hb hby d3_1) (by decide) (W := 0) (by show 2 * 0 + _ ≤ _; exact Nat.le_of_eq rfl) (by decide)
  refine own_Go.by st1 ?_
  refine own_Go.by (fun tq kq => XS.iloadN X1.here hx rfl (hb hby d3_4) rfl kq) ?_
  show own_Go _ _ _ _ (T1.setTop (mkF m 5 #[sR a1, sR a2, sI (0 : Int32), sI (0 : Int32), .val .null, .unset] [(Value.int (0 : Int32))]))
  refine own_Go.by (fun tq kq => XS.ifNo X1.here hx rfl (hb hby d3_5) rfl ((if0 _ _).trans (teq (by decide : (0 : Int32) = (0 : Int32))).2) kq) ?_
  refine own_Go.by (fun tq kq => XS.aloadN X1.here hx rfl (hb hby d3_8) rfl rfl kq) ?_
  show own_Go _ _ _ _ (T1.setTop (mkF m 9 #[sR a1, sR a2, sI (0 : Int32), sI (0 : Int32), .val .null, .unset] [(Value.ref a1)]))
  obtain ⟨sa2, T2, h2, k2, sb2, kk2, X2, e2, E2, hS2, hk2, hZ2, hown2, Ea2, Fc2, Fv2, Va2, -, -, R2, -, hne2, st2⟩ := ldcCH (s := s) (vm0 := s.vm) (EL := consts_1) X1 hx hZ hown (hw _ (List.mem_of_getElem? (i := 19) rfl)) (fun d hd => hw d (own_wS d hd)) e1 hS0 (Nat.zero_le _) hEL (List.mem_of_getElem? (i := 8) rfl) CH0 (vs := []) (z := (0 : Int32)) ⟨by decide, by decide +kernel⟩ (by decide) rfl (g := (mkF m 9 #[sR a1, sR a2, sI (0 : Int32), sI (0 : Int32), .val .null, .unset] [(Value.ref a1)])) rfl (hb hby d3_9) (n := 0) (by decide) (by decide) (by decide) (by decide)
  refine own_Go.by st2 ?_
  have O3 := O0.ext E2
  have K3 := K0.ext E2
  show own_Go _ _ _ _ (T2.setTop (mkF m 11 #[sR a1, sR a2, sI (0 : Int32), sI (0 : Int32), .val .null, .unset] [(Value.ref sa2), (Value.ref a1)]))
  obtain ⟨T4, X4, e4, st4⟩ := getF X2 hx hZ2 hown2 (host := "") (Or.inl (hw _ (List.mem_of_getElem? (i := 25) rfl))) Via.refl e2 Fv2 (g := (mkF m 11 #[sR a1, sR a2, sI (0 : Int32), sI (0 : Int32), .val .null, .unset] [(Value.ref sa2), (Value.ref a1)])) rfl rfl (hb hby d3_11)
  refine own_Go.by st4 ?_
  show own_Go _ _ _ _ (T4.setTop (mkF m 14 #[sR a1, sR a2, sI (0 : Int32), sI (0 : Int32), .val .null, .unset] [(Value.ref sb2), (Value.ref a1)]))
  have c5 := (H1.ext E2)
  have c6 := (H0.ext E2)
  obtain ⟨T7, h7, X7, e7, W7, st7⟩ := putF X4 hx hZ2 hown2 (host := "") (Or.inl (hw _ (List.mem_of_getElem? (i := 25) rfl))) Via.refl e4 c5 c6 (Or.inr ⟨(hw _ (List.mem_of_getElem? (i := 21) rfl)), rfl, hnm⟩) (hw _ (List.mem_of_getElem? (i := 6) rfl)) (ty := (.array .byte)) (by decide) rfl rfl (g := (mkF m 14 #[sR a1, sR a2, sI (0 : Int32), sI (0 : Int32), .val .null, .unset] [(Value.ref sb2), (Value.ref a1)])) rfl rfl (hb hby d3_14)
  refine own_Go.by st7 ?_
  have N7 := Fr.snoc X7 N0 H3
  have O8 := O3.wr W7 H3
  have K8 := K3.wr W7 (Or.inl (List.mem_of_getElem? (i := 0) rfl))
  have hk_8 := Nat.le_trans hk2 (Keep.of_wr W7).1
  have F7 := c5.same W7
  refine own_Go.by (fun tq kq => XS.aloadN X7.here hx rfl (hb hby d3_17) rfl rfl kq) ?_
  show own_Go _ _ _ _ (T7.setTop (mkF m 18 #[sR a1, sR a2, sI (0 : Int32), sI (0 : Int32), .val .null, .unset] [(Value.ref a1)]))
  have R10 := CHr.wr W7 (R2.safe H0.lt Sf0) R2.1
  obtain ⟨sa9, T9, h9, k9, sb9, kk9, X9, e9, E9, hS9, hk9, hZ9, hown9, Ea9, Fc9, Fv9, Va9, -, -, R9, -, hne9, st9⟩ := ldcCH (s := s) (vm0 := T2.vm) (EL := consts_1) X7 hx hZ2 hown2 (hw _ (List.mem_of_getElem? (i := 19) rfl)) (fun d hd => hw d (own_wS d hd)) e7 hS2 hk_8 hEL (List.mem_of_getElem? (i := 8) rfl) R10.1 (vs := []) (z := (0 : Int32)) ⟨by decide, by decide +kernel⟩ (by decide) rfl (g := (mkF m 18 #[sR a1, sR a2, sI (0 : Int32), sI (0 : Int32), .val .null, .unset] [(Value.ref a1)])) rfl (hb hby d3_18) (n := 0) (by decide) (by decide) (by decide) (by decide)
  refine own_Go.by st9 ?_
  have O11 := O8.ext E9
  have K11 := K8.ext E9
  show own_Go _ _ _ _ (T9.setTop (mkF m 20 #[sR a1, sR a2, sI (0 : Int32), sI (0 : Int32), .val .null, .unset] [(Value.ref sa9), (Value.ref a1)]))
  obtain ⟨T12, X12, e12, st12⟩ := getF X9 hx hZ9 hown9 (host := "") (Or.inl (hw _ (List.mem_of_getElem? (i := 26) rfl))) Via.refl e9 Fc9 (g := (mkF m 20 #[sR a1, sR a2, sI (0 : Int32), sI (0 : Int32), .val .null, .unset] [(Value.ref sa9), (Value.ref a1)])) rfl rfl (hb hby d3_20)
  refine own_Go.by st12 ?_
  show own_Go _ _ _ _ (T12.setTop (mkF m 23 #[sR a1, sR a2, sI (0 : Int32), sI (0 : Int32), .val .null, .unset] [(Value.int (0 : Int32)), (Value.ref a1)]))
  have c13 := (((H2.ext E2).other W7 (Or.inr (slot_ne (Or.inr (hw _ (List.mem_of_getElem? (i := 22) rfl))) (Or.inr (hw _ (List.mem_of_getElem? (i := 21) rfl))) (by decide) (t := .byte) (t' := (.array .byte)) (by decide) (by decide)))).ext E9)
  have c14 := ((c6.wr W7).ext E9)
  obtain ⟨T15, h15, X15, e15, W15, st15⟩ := putFN X12 hx hZ9 hown9 (hw _ (List.mem_of_getElem? (i := 26) rfl)) Via.refl e12 c13 c14 (Or.inr ⟨(hw _ (List.mem_of_getElem? (i := 22) rfl)), rfl, hnm⟩) (hw _ (List.mem_of_getElem? (i := 6) rfl)) (ty := .byte) (v' := (Value.int (0 : Int32))) (by decide) rfl rfl (g := (mkF m 23 #[sR a1, sR a2, sI (0 : Int32), sI (0 : Int32), .val .null, .unset] [(Value.int (0 : Int32)), (Value.ref a1)])) rfl rfl (hb hby d3_23)
  refine own_Go.by st15 ?_
  have N15 := Fr.snoc X15 N7 H3
  have O16 := O11.wr W15 H3
  have K16 := K11.wr W15 (Or.inl (List.mem_of_getElem? (i := 0) rfl))
  have hk_16 := Nat.le_trans hk9 (Keep.of_wr W15).1
  have F15 := c13.same W15
  show own_Go _ _ _ _ (T15.setTop (mkF m 26 #[sR a1, sR a2, sI (0 : Int32), sI (0 : Int32), .val .null, .unset] []))
  have c17 := (c14.wr W15)
  have c18 := ((F7.ext E9).other W15 (Or.inr (slot_ne (Or.inr (hw _ (List.mem_of_getElem? (i := 21) rfl))) (Or.inr (hw _ (List.mem_of_getElem? (i := 22) rfl))) (by decide) (t := (.array .byte)) (t' := .byte) (by decide) (by decide))))
  have c19 := (((Va2.other W7 (Ne.symm (hne2 _ (R2.safe H0.lt Sf0)).2)).ext E9).other W15 (Ne.symm (hne2 _ (R2.safe H0.lt Sf0)).2))
  obtain ⟨fs, hr, hrun, hended, hRE⟩ := Stand.leaveW (s := s) (vm₁ := T9.vm) X15 hS9 (by rw [e15]; exact hk_16) (v := none) (fun _ => rfl)
  have R20 := CHr.wr W15 (((R2.trans R10).trans R9).safe H0.lt Sf0) R9.1
  have hCR := (((R2.trans R10).trans R9).trans R20)
  have hCZ : CHr Z consts_1 s.vm s.heap T15.vm T15.heap := by
    rw [hh, e15]
    exact hCR.trans (CHv.at (s := s) (vm0 := T9.vm) X15 hZ9 hEL hCR.1)
  refine own_Go.fin (X15.returnOut hx Bd.returns (hb hby d3_26) hr) ⟨hrun, hended, _, _, rfl, ?_, hCZ, own_rew hRE (by decide) (by decide)⟩
  show Q3 Z a1 a2 h0 n0 _ T15.heap _
  rw [e15]
  exact ⟨sb2, kk2, rfl, N15, K16, c17, F15, c18, c19⟩

theorem own_pd0 : parseMethodDescriptor "([CIILjava/lang/Void;)V" = some ⟨[(.array .char), .int, .int, (.object "java/lang/Void")], none⟩ := by decide +kernel
theorem d2_0 : decode jdk_42_method_3_code 0 = .ok (.aload_n 0, 1) := by decide +kernel
theorem d2_1 : decode jdk_42_method_3_code 1 = .ok (.aload_n 1, 1) := by decide +kernel
theorem d2_2 : decode jdk_42_method_3_code 2 = .ok (.iconst 0, 1) := by decide +kernel
theorem d2_3 : decode jdk_42_method_3_code 3 = .ok (.aload_n 1, 1) := by decide +kernel
theorem d2_4 : decode jdk_42_method_3_code 4 = .ok (.arraylength, 1) := by decide +kernel
theorem d2_5 : decode jdk_42_method_3_code 5 = .ok (.aconst_null, 1) := by decide +kernel
theorem d2_6 : decode jdk_42_method_3_code 6 = .ok (.invokespecial 27, 3) := by decide +kernel
theorem d2_9 : decode jdk_42_method_3_code 9 = .ok (.return_, 1) := by decide +kernel
theorem own_ef_2 (m : MethodId) (a1 : Addr) (a2 : Addr) : entryFrame m #[(Value.ref a1), (Value.ref a2)] 2 = mkF m 0 #[sR a1, sR a2] [] := by first | (simp [entryFrame, mkF, argsToLocals, Value.category]; done) | rfl
def Q2 (Z : State) (a1 : Addr) (a2 : Addr) (kB : ClassId) (h0 : Heap) (n0 : Nat) (v : Option Value) (h : Heap) (L : List Loc) : Prop := ∃ (b : Addr), ∃ (k2 : ClassId), v = none ∧ Fr n0 L ∧ Keep h0 h [a1] ∧ (Exa Z h a1 "java/lang/String") ∧ (Fld Z h a1 "java/lang/String" "coder" "B" (Value.int (0 : Int32))) ∧ (Fld Z h a1 "java/lang/String" "value" "[B" (Value.ref b)) ∧ (Arv Z h b k2 .byte (0 : Int32) [] (Value.int (0 : Int32)))
set_option maxRecDepth 65536 in
set_option maxHeartbeats 40000000 in
theorem rm2 (l : Launch) (Z : State) (a0 : Array Value) (hw : ∀ d ∈ tables_1, d.before a0 Z = true) (ws : List Jvm.Cond) (a1 : Addr) (a2 : Addr) (kB : ClassId) (h0 : Heap) (n0 : Nat) (O0 : Old Z n0 h0) (H0 : Exa Z h0 a1 "java/lang/String") (H1 : Fld Z h0 a1 "java/lang/String" "value" "[B" .null) (H2 : Fld Z h0 a1 "java/lang/String" "coder" "B" (Value.int (0 : Int32))) (H3 : n0 ≤ a1) (H4 : Arv Z h0 a2 kB .char (0 : Int32) [] (Value.int (0 : Int32))) :
    MetFree l (⟨"java/lang/String", "<init>", "([C)V"⟩ : MethodName) (head1 (Jvm.Cond.code (⟨"java/lang/String", "<init>", "([C)V"⟩ : MethodName) jdk_42_method_3_code 2 none :: ws) ({ frames := 2, cells := 4, slots := 8, locals := 29 } : Room)) (fun a U => a = #[(Value.ref a1), (Value.ref a2)] ∧ Z.Warmed39 U.vm ∧ U.heap = h0 ∧ CHv Z consts_1 U.vm h0) (fun _ _ _ _ _ => True) (fun _ U o U' => ∃ v L, o = .returned v ∧ Q2 Z a1 a2 kB h0 n0 v U'.heap L ∧ CHr Z consts_1 U.vm U.heap U'.vm U'.heap ∧ ReturnedEndW U o U' L ({ frames := 2, cells := 4, slots := 8, locals := 29 } : Room).cells ({ frames := 2, cells := 4, slots := 8, locals := 29 } : Room).slots) := by
  refine MetFree.of_bodySF (plainFor_of_name own_pn_java_lang_String) hisR ?_
  intro p e s m args below meth c s₁ Bd hml0 hP hK
  obtain ⟨rfl, hZ, hh, CH0⟩ := hP
  have hx := Bd.exec
  have hby := Bd.bytes
  have hml : c.maxLocals = 2 := hml0
  have hown : s.vm.findClass "java/lang/String" = some m.cls := findClass_of_methodNamed Bd.named
  have hnm := (name_of_methodNamed Bd.named Bd.method).1
  have hEL := own_hEL hw
  have X0 : Stand p l e ({ frames := 2, cells := 4, slots := 8, locals := 29 } : Room) s m #[(Value.ref a1), (Value.ref a2)] below meth c s₁ [] 0 0 := Stand.of_body Bd
  have e0 : s₁.heap = h0 := by rw [← hh, Bd.state]; rfl
  have hS0 : s.Since s.vm 0 := (State.WarmedH.refl s).since 0
  have N0 := Fr.nil n0
  have K0 := Keep.refl h0 [a1]
  show own_Go _ _ _ _ (s₁.setTop (entryFrame m #[(Value.ref a1), (Value.ref a2)] 2))
  refine own_Go.by (fun tq kq => castTop (own_ef_2 m a1 a2) kq) ?_
  have Sf0 := own_safeNull (EL := consts_1) hZ.alike H0 H1
  show own_Go _ _ _ _ (s₁.setTop (mkF m 0 #[sR a1, sR a2] []))
  refine own_Go.by (fun tq kq => XS.aloadN X0.here hx rfl (hb hby d2_0) rfl rfl kq) ?_
  refine own_Go.by (fun tq kq => XS.aloadN X0.here hx rfl (hb hby d2_1) rfl rfl kq) ?_
  refine own_Go.by (fun tq kq => XS.iconst X0.here hx rfl (hb hby d2_2) kq) ?_
  refine own_Go.by (fun tq kq => XS.aloadN X0.here hx rfl (hb hby d2_3) rfl rfl kq) ?_
  show own_Go _ _ _ _ (s₁.setTop (mkF m 4 #[sR a1, sR a2] [(Value.ref a2), (Value.int (0 : Int32)), (Value.ref a2), (Value.ref a1)]))
  obtain ⟨cl1, Ar1, q1, S1, M1, Hh1, G1⟩ := id H4
  refine own_Go.by (fun tq kq => X0.arraylength hx (by rw [e0]; exact Ar1.1) (State.isArrayOf_alike hZ.alike Ar1.2.1) (g := (mkF m 4 #[sR a1, sR a2] [(Value.ref a2), (Value.int (0 : Int32)), (Value.ref a2), (Value.ref a1)])) rfl rfl (hb hby d2_4) _ kq) ?_
  rw [len_of S1 M1]
  refine own_Go.by (fun tq kq => XS.aconstNull X0.here hx rfl (hb hby d2_5) kq) ?_
  show own_Go _ _ _ _ (s₁.setTop (mkF m 6 #[sR a1, sR a2] [.null, (Value.int (0 : Int32)), (Value.int (0 : Int32)), (Value.ref a2), (Value.ref a1)]))
  obtain ⟨_, _, ⟨T2, L2, k2, n2⟩, -, X2, hs2, hg2, ⟨Lc2, hQ2, l2, y2, z2, R2⟩, st2⟩ := X0.specialBackS hx (y := (⟨"java/lang/String", "<init>", "([CIILjava/lang/Void;)V"⟩ : MethodName)) rfl hown (mvT hZ (hw _ (List.mem_of_getElem? (i := 12) rfl))) (mvT hZ (hw _ (List.mem_of_getElem? (i := 13) rfl))) (mvT hZ (hw _ (List.mem_of_getElem? (i := 15) rfl))) (by decide) (backOfSH (W := 0) (rm3 l Z a0 hw [] a1 a2 h0 n0 O0 H0 H1 H2 H3) hZ (hw _ (List.mem_of_getElem? (i := 15) rfl)) (hw _ (List.mem_of_getElem? (i := 7) rfl)) (by decide) (by decide) hEL CH0) (g := (mkF m 6 #[sR a1, sR a2] [.null, (Value.int (0 : Int32)), (Value.int (0 : Int32)), (Value.ref a2), (Value.ref a1)])) rfl (by rw [hml]; rfl) (Steps.refl _) (a := a1) (argsL := [(Value.ref a2), (Value.int (0 : Int32)), (Value.int (0 : Int32)), .null]) (rest := []) (lenOf own_pd0 rfl) rfl (by show 2 * 0 + _ ≤ _; exact Nat.le_of_eq rfl) (hb hby d2_6) (fun _ _ => ⟨rfl, e0, (by decide : 0 + 4 ≤ _), (by decide : 0 + 8 ≤ _)⟩)
  dsimp only [Pt.U, Pt.locs, Pt.cells, Pt.slots] at X2 l2 y2 z2 st2 hQ2 hs2 hg2 R2
  subst l2 y2 z2
  obtain ⟨X2, hS2, hZ2, hown2⟩ := rebS (s := s) (vm0 := s.vm) hS0 (Nat.zero_le _) X2 hs2 hg2 hZ hown
  refine own_Go.by (fun tq kq => st2.trans kq) ?_
  obtain ⟨b_2, k2_2, rfl, N2q, K2q, p2_0, p2_1, p2_2, p2_3⟩ := hQ2
  have N2 := Fr.app N0 N2q
  have O3 := O0.keep K2q (allS H3 all0)
  have K3 := K0.trans K2q (allS (Or.inl (List.mem_of_getElem? (i := 0) rfl)) all0)
  show own_Go _ _ _ _ (T2.setTop (mkF m 9 #[sR a1, sR a2] []))
  obtain ⟨fs, hr, hrun, hended, hRE⟩ := Stand.leaveW (s := s) (vm₁ := T2.vm) X2 hS2 (Nat.le_refl _) (v := none) (fun _ => rfl)
  have hCR := R2
  have hCZ : CHr Z consts_1 s.vm s.heap T2.vm T2.heap := by
    rw [hh]
    exact hCR.trans (CHv.at (s := s) (vm0 := T2.vm) X2 hZ2 hEL hCR.1)
  refine own_Go.fin (X2.returnOut hx Bd.returns (hb hby d2_9) hr) ⟨hrun, hended, _, _, rfl, ?_, hCZ, own_rew hRE (by decide) (by decide)⟩
  show Q2 Z a1 a2 kB h0 n0 _ T2.heap _
  exact ⟨b_2, k2_2, rfl, N2, K3, p2_0, p2_1, p2_2, p2_3⟩

theorem own_pd1 : parseMethodDescriptor "([C)V" = some ⟨[(.array .char)], none⟩ := by decide +kernel
theorem d1_0 : decode method_2_code 0 = .ok (.iload_n 0, 1) := by decide +kernel
theorem d1_1 : decode method_2_code 1 = .ok (.ifCond .ne 14, 3) := by decide +kernel
theorem d1_4 : decode method_2_code 4 = .ok (.new 7, 3) := by decide +kernel
theorem d1_7 : decode method_2_code 7 = .ok (.dup, 1) := by decide +kernel
theorem d1_8 : decode method_2_code 8 = .ok (.iconst 0, 1) := by decide +kernel
theorem d1_9 : decode method_2_code 9 = .ok (.newarray .char, 2) := by decide +kernel
theorem d1_11 : decode method_2_code 11 = .ok (.invokespecial 9, 3) := by decide +kernel
theorem d1_14 : decode method_2_code 14 = .ok (.areturn, 1) := by decide +kernel
theorem d1_15 : decode method_2_code 15 = .ok (.iload_n 0, 1) := by decide +kernel
theorem d1_16 : decode method_2_code 16 = .ok (.iconst 1, 1) := by decide +kernel
theorem d1_17 : decode method_2_code 17 = .ok (.if_icmp .ne 18, 3) := by decide +kernel
theorem d1_20 : decode method_2_code 20 = .ok (.new 7, 3) := by decide +kernel
theorem d1_23 : decode method_2_code 23 = .ok (.dup, 1) := by decide +kernel
theorem d1_24 : decode method_2_code 24 = .ok (.iconst 1, 1) := by decide +kernel
theorem d1_25 : decode method_2_code 25 = .ok (.newarray .char, 2) := by decide +kernel
theorem d1_27 : decode method_2_code 27 = .ok (.dup, 1) := by decide +kernel
theorem d1_28 : decode method_2_code 28 = .ok (.iconst 0, 1) := by decide +kernel
theorem d1_29 : decode method_2_code 29 = .ok (.iload_n 1, 1) := by decide +kernel
theorem d1_30 : decode method_2_code 30 = .ok (.castore, 1) := by decide +kernel
theorem d1_31 : decode method_2_code 31 = .ok (.invokespecial 9, 3) := by decide +kernel
theorem d1_34 : decode method_2_code 34 = .ok (.areturn, 1) := by decide +kernel
theorem d1_35 : decode method_2_code 35 = .ok (.new 7, 3) := by decide +kernel
theorem d1_38 : decode method_2_code 38 = .ok (.dup, 1) := by decide +kernel
theorem d1_39 : decode method_2_code 39 = .ok (.iconst 2, 1) := by decide +kernel
theorem d1_40 : decode method_2_code 40 = .ok (.newarray .char, 2) := by decide +kernel
theorem d1_42 : decode method_2_code 42 = .ok (.dup, 1) := by decide +kernel
theorem d1_43 : decode method_2_code 43 = .ok (.iconst 0, 1) := by decide +kernel
theorem d1_44 : decode method_2_code 44 = .ok (.iload_n 1, 1) := by decide +kernel
theorem d1_45 : decode method_2_code 45 = .ok (.castore, 1) := by decide +kernel
theorem d1_46 : decode method_2_code 46 = .ok (.dup, 1) := by decide +kernel
theorem d1_47 : decode method_2_code 47 = .ok (.iconst 1, 1) := by decide +kernel
theorem d1_48 : decode method_2_code 48 = .ok (.iload_n 2, 1) := by decide +kernel
theorem d1_49 : decode method_2_code 49 = .ok (.castore, 1) := by decide +kernel
theorem d1_50 : decode method_2_code 50 = .ok (.invokespecial 9, 3) := by decide +kernel
theorem d1_53 : decode method_2_code 53 = .ok (.areturn, 1) := by decide +kernel
theorem own_pn_com_example_enlace_enlace_UriReferenceEqualsPinLaw : plainName "com/example/enlace/enlace/UriReferenceEqualsPinLaw" = true := by first | (simp [plainName, overriddenIn]; done) | decide +kernel
theorem own_ef_1 (m : MethodId) (nn : Int32) (x1 : Int32) (y1 : Int32) : entryFrame m #[(Value.int nn), (Value.int x1), (Value.int y1)] 3 = mkF m 0 #[sI nn, sI x1, sI y1] [] := by first | (simp [entryFrame, mkF, argsToLocals, Value.category]; done) | rfl
def Q1 (Z : State) (nn : Int32) (x1 : Int32) (y1 : Int32) (zc : Int32) (h0 : Heap) (n0 : Nat) (v : Option Value) (h : Heap) (L : List Loc) : Prop := ∃ (x : Addr), ∃ (t : Addr), ∃ (kb : ClassId), ∃ (N2 : Int32), ∃ (vs2 : List Value), v = some (Value.ref x) ∧ Fr n0 L ∧ Keep h0 h [] ∧ (h0.size ≤ x) ∧ (Exa Z h x "java/lang/String") ∧ (Fld Z h x "java/lang/String" "coder" "B" (Value.int (0 : Int32))) ∧ (Fld Z h x "java/lang/String" "value" "[B" (Value.ref t)) ∧ (Arv Z h t kb .byte N2 vs2 (Value.int (0 : Int32))) ∧ (own_cod (own_text nn x1 y1) N2 vs2)
set_option maxRecDepth 65536 in
set_option maxHeartbeats 40000000 in
theorem rm1 (l : Launch) (Z : State) (a0 : Array Value) (hw : ∀ d ∈ tables_1, d.before a0 Z = true) (ws : List Jvm.Cond) (nn : Int32) (x1 : Int32) (y1 : Int32) (zc : Int32) (h0 : Heap) (n0 : Nat) (O0 : Old Z n0 h0) (hbx : (¬ x1 < 0 ∧ ¬ (255 : Int32) < x1)) (hby1 : (¬ y1 < 0 ∧ ¬ (255 : Int32) < y1)) (H2 : Sta Z Z.heap "java/lang/String" "COMPACT_STRINGS" "Z" (Value.int zc)) (hzc : ¬ (zc = (0 : Int32))) :
    MetFree l (⟨"com/example/enlace/enlace/UriReferenceEqualsPinLaw", "text", "(ICC)Ljava/lang/String;"⟩ : MethodName) (head1 (Jvm.Cond.code (⟨"com/example/enlace/enlace/UriReferenceEqualsPinLaw", "text", "(ICC)Ljava/lang/String;"⟩ : MethodName) method_2_code 3 (some (.object "java/lang/String")) :: ws) ({ frames := 4, cells := 6, slots := 12, locals := 66 } : Room)) (fun a U => a = #[(Value.int nn), (Value.int x1), (Value.int y1)] ∧ Z.Warmed39 U.vm ∧ U.heap = h0 ∧ CHv Z consts_1 U.vm h0) (fun _ _ _ _ _ => True) (fun _ U o U' => ∃ v L, o = .returned v ∧ Q1 Z nn x1 y1 zc h0 n0 v U'.heap L ∧ CHr Z consts_1 U.vm U.heap U'.vm U'.heap ∧ ReturnedEndW U o U' L ({ frames := 4, cells := 6, slots := 12, locals := 66 } : Room).cells ({ frames := 4, cells := 6, slots := 12, locals := 66 } : Room).slots) := by
  refine MetFree.of_bodySF (plainFor_of_name own_pn_com_example_enlace_enlace_UriReferenceEqualsPinLaw) hisR ?_
  intro p e s m args below meth c s₁ Bd hml0 hP hK
  obtain ⟨rfl, hZ, hh, CH0⟩ := hP
  have hx := Bd.exec
  have hby := Bd.bytes
  have hml : c.maxLocals = 3 := hml0
  have hown : s.vm.findClass "com/example/enlace/enlace/UriReferenceEqualsPinLaw" = some m.cls := findClass_of_methodNamed Bd.named
  have hnm := (name_of_methodNamed Bd.named Bd.method).1
  have hEL := own_hEL hw
  have X0 : Stand p l e ({ frames := 4, cells := 6, slots := 12, locals := 66 } : Room) s m #[(Value.int nn), (Value.int x1), (Value.int y1)] below meth c s₁ [] 0 0 := Stand.of_body Bd
  have e0 : s₁.heap = h0 := by rw [← hh, Bd.state]; rfl
  have hS0 : s.Since s.vm 0 := (State.WarmedH.refl s).since 0
  have N0 := Fr.nil n0
  have K0 : Keep h0 h0 [] := Keep.refl h0 []
  show own_Go _ _ _ _ (s₁.setTop (entryFrame m #[(Value.int nn), (Value.int x1), (Value.int y1)] 3))
  refine own_Go.by (fun tq kq => castTop (own_ef_1 m nn x1 y1) kq) ?_
  show own_Go _ _ _ _ (s₁.setTop (mkF m 0 #[sI nn, sI x1, sI y1] []))
  refine own_Go.by (fun tq kq => XS.iloadN X0.here hx rfl (hb hby d1_0) rfl kq) ?_
  show own_Go _ _ _ _ (s₁.setTop (mkF m 1 #[sI nn, sI x1, sI y1] [(Value.int nn)]))
  by_cases hc1_1 : nn = (0 : Int32)
  ·
    refine own_Go.by (fun tq kq => XS.ifNo X0.here hx rfl (hb hby d1_1) rfl ((if0 _ _).trans (teq hc1_1).2) kq) ?_
    show own_Go _ _ _ _ (s₁.setTop (mkF m 4 #[sI nn, sI x1, sI y1] []))
    obtain ⟨T2, h2, X2, e2, E2, A2, D2, -, st2⟩ := newO X0 hx hZ hown (hw _ (List.mem_of_getElem? (i := 5) rfl)) (hw _ (List.mem_of_getElem? (i := 6) rfl)) (hw _ (List.mem_of_getElem? (i := 7) rfl)) e0 (g := (mkF m 4 #[sI nn, sI x1, sI y1] [])) rfl (hb hby d1_4) (by decide) (by decide)
    obtain ⟨ob2, y2⟩ : ∃ z, z = h0.size := ⟨_, rfl⟩
    rw [← y2] at A2 D2 st2
    refine own_Go.by st2 ?_
    have O3 := O0.ext E2
    have K3 := K0.ext E2
    have g4 : n0 ≤ ob2 := Nat.le_trans (own_old_le O0) (Nat.le_of_eq y2.symm)
    have z4 : h0.size ≤ ob2 := Nat.le_trans K0.1 (Nat.le_of_eq y2.symm)
    have F2_value : Fld Z h2 ob2 "java/lang/String" "value" "[B" .null := D2 (Or.inr (hw _ (List.mem_of_getElem? (i := 21) rfl))) (ty := (.array .byte)) (by decide)
    have F2_coder : Fld Z h2 ob2 "java/lang/String" "coder" "B" (Value.int (0 : Int32)) := D2 (Or.inr (hw _ (List.mem_of_getElem? (i := 22) rfl))) (ty := .byte) (by decide)
    refine own_Go.by (fun tq kq => XS.dup X2.here hx rfl (hb hby d1_7) rfl rfl kq) ?_
    refine own_Go.by (fun tq kq => XS.iconst X2.here hx rfl (hb hby d1_8) kq) ?_
    show own_Go _ _ _ _ (T2.setTop (mkF m 9 #[sI nn, sI x1, sI y1] [(Value.int (0 : Int32)), (Value.ref ob2), (Value.ref ob2)]))
    obtain ⟨T5, h5, k5, X5, e5, E5, A5, Ea5, st5⟩ := newPE X2 hx hZ (hw _ (List.mem_of_getElem? (i := 8) rfl)) e2 (g := (mkF m 9 #[sI nn, sI x1, sI y1] [(Value.int (0 : Int32)), (Value.ref ob2), (Value.ref ob2)])) rfl (hb hby d1_9) rfl (by decide : ¬ ((0 : Int32) < (0 : Int32))) (cap := 0) (by decide : (0 : Int32).toNatClampNeg ≤ 0) (by decide) (by decide) (by decide) (ad := "[C") rfl
    obtain ⟨ob5, y5⟩ : ∃ z, z = h2.size := ⟨_, rfl⟩
    rw [← y5] at A5 Ea5 st5
    refine own_Go.by st5 ?_
    have O6 := O3.ext E5
    have K6 := K3.ext E5
    have g7 : n0 ≤ ob5 := Nat.le_trans (own_old_le O3) (Nat.le_of_eq y5.symm)
    have z7 : h0.size ≤ ob5 := Nat.le_trans K3.1 (Nat.le_of_eq y5.symm)
    have V5 : Arv Z h5 ob5 k5 .char (0 : Int32) [] (Value.int (0 : Int32)) := Arv.new A5 (by decide : ¬ ((0 : Int32) < (0 : Int32)))
    show own_Go _ _ _ _ (T5.setTop (mkF m 11 #[sI nn, sI x1, sI y1] [(Value.ref ob5), (Value.ref ob2), (Value.ref ob2)]))
    have c9 := (A2.ext E5)
    have c10 := (F2_value.ext E5)
    have c11 := (F2_coder.ext E5)
    have R12 := CHr.ext E2 CH0
    have R13 := CHr.ext E5 R12.1
    obtain ⟨_, _, ⟨T8, L8, k8, n8⟩, -, X8, hs8, hg8, ⟨Lc8, hQ8, l8, y8, z8, R8⟩, st8⟩ := X5.specialBackS hx (y := (⟨"java/lang/String", "<init>", "([C)V"⟩ : MethodName)) rfl hown (mvT hZ (hw _ (List.mem_of_getElem? (i := 9) rfl))) (mvT hZ (hw _ (List.mem_of_getElem? (i := 10) rfl))) (mvT hZ (hw _ (List.mem_of_getElem? (i := 11) rfl))) (by decide) (backOfSH (W := 1) (rm2 l Z a0 hw [] ob2 ob5 k5 h5 n0 O6 c9 c10 c11 g4 V5) hZ (hw _ (List.mem_of_getElem? (i := 11) rfl)) (hw _ (List.mem_of_getElem? (i := 7) rfl)) (by decide) (by decide) hEL R13.1) (g := (mkF m 11 #[sI nn, sI x1, sI y1] [(Value.ref ob5), (Value.ref ob2), (Value.ref ob2)])) rfl (by rw [hml]; rfl) (Steps.refl _) (a := ob2) (argsL := [(Value.ref ob5)]) (rest := [(Value.ref ob2)]) (lenOf own_pd1 rfl) rfl (by show 2 * 0 + _ ≤ _; exact Nat.le_of_eq rfl) (hb hby d1_11) (fun _ _ => ⟨rfl, e5, (by decide : 2 + 4 ≤ _), (by decide : 4 + 8 ≤ _)⟩)
    dsimp only [Pt.U, Pt.locs, Pt.cells, Pt.slots] at X8 l8 y8 z8 st8 hQ8 hs8 hg8 R8
    subst l8 y8 z8
    obtain ⟨X8, hS8, hZ8, hown8⟩ := rebS (s := s) (vm0 := s.vm) hS0 (Nat.zero_le _) X8 hs8 hg8 hZ hown
    refine own_Go.by (fun tq kq => st8.trans kq) ?_
    obtain ⟨b_8, k2_8, rfl, N8q, K8q, p8_0, p8_1, p8_2, p8_3⟩ := hQ8
    have N8 := Fr.app N0 N8q
    have O14 := O6.keep K8q (allS g4 all0)
    have K14 := K6.trans K8q (allS (Or.inr z4) all0)
    show own_Go _ _ _ _ (T8.setTop (mkF m 14 #[sI nn, sI x1, sI y1] [(Value.ref ob2)]))
    obtain ⟨fs, hr, hrun, hended, hRE⟩ := Stand.leaveW (s := s) (vm₁ := T8.vm) X8 hS8 (Nat.le_refl _) (v := some (Value.ref ob2)) (fun h => by rw [Bd.returns] at h; cases h)
    have hCR := ((R12.trans R13).trans R8)
    have hCZ : CHr Z consts_1 s.vm s.heap T8.vm T8.heap := by
      rw [hh]
      exact hCR.trans (CHv.at (s := s) (vm0 := T8.vm) X8 hZ8 hEL hCR.1)
    refine own_Go.fin (retOut X8 hx Bd.returns rfl (Or.inr (Or.inr (Or.inr (Or.inr ⟨rfl, rfl, rfl⟩)))) (hb hby d1_14) hr) ⟨hrun, hended, _, _, rfl, ?_, hCZ, own_rew hRE (by decide) (by decide)⟩
    show Q1 Z nn x1 y1 zc h0 n0 _ T8.heap _
    exact ⟨ob2, b_8, k2_8, (0 : Int32), [], rfl, N8, K14, z4, p8_0, p8_1, p8_2, p8_3, ((own_text0 (x := x1) (y := y1) hc1_1).symm ▸ (⟨StrChars.Road.codOf (n := 0) rfl (fun x hx => nomatch hx), (fun x hx => nomatch hx), Nat.zero_le _⟩ : own_cod [] _ _))⟩
  ·
    refine own_Go.by (fun tq kq => XS.ifYes X0.here hx rfl (pc0 := 1) (pc' := 15) rfl (hb hby d1_1) rfl ((if0 _ _).trans (feq hc1_1).2) (by decide) (by decide) kq) ?_
    refine own_Go.by (fun tq kq => XS.iloadN X0.here hx rfl (hb hby d1_15) rfl kq) ?_
    refine own_Go.by (fun tq kq => XS.iconst X0.here hx rfl (hb hby d1_16) kq) ?_
    show own_Go _ _ _ _ (s₁.setTop (mkF m 17 #[sI nn, sI x1, sI y1] [(Value.int (1 : Int32)), (Value.int nn)]))
    by_cases hc17_15 : nn = (1 : Int32)
    ·
      refine own_Go.by (fun tq kq => XS.icmpNo X0.here hx rfl (hb hby d1_17) rfl (teq hc17_15).2 kq) ?_
      show own_Go _ _ _ _ (s₁.setTop (mkF m 20 #[sI nn, sI x1, sI y1] []))
      obtain ⟨T16, h16, X16, e16, E16, A16, D16, -, st16⟩ := newO X0 hx hZ hown (hw _ (List.mem_of_getElem? (i := 5) rfl)) (hw _ (List.mem_of_getElem? (i := 6) rfl)) (hw _ (List.mem_of_getElem? (i := 7) rfl)) e0 (g := (mkF m 20 #[sI nn, sI x1, sI y1] [])) rfl (hb hby d1_20) (by decide) (by decide)
      obtain ⟨ob16, y16⟩ : ∃ z, z = h0.size := ⟨_, rfl⟩
      rw [← y16] at A16 D16 st16
      refine own_Go.by st16 ?_
      have O17 := O0.ext E16
      have K17 := K0.ext E16
      have g18 : n0 ≤ ob16 := Nat.le_trans (own_old_le O0) (Nat.le_of_eq y16.symm)
      have z18 : h0.size ≤ ob16 := Nat.le_trans K0.1 (Nat.le_of_eq y16.symm)
      have F16_value : Fld Z h16 ob16 "java/lang/String" "value" "[B" .null := D16 (Or.inr (hw _ (List.mem_of_getElem? (i := 21) rfl))) (ty := (.array .byte)) (by decide)
      have F16_coder : Fld Z h16 ob16 "java/lang/String" "coder" "B" (Value.int (0 : Int32)) := D16 (Or.inr (hw _ (List.mem_of_getElem? (i := 22) rfl))) (ty := .byte) (by decide)
      refine own_Go.by (fun tq kq => XS.dup X16.here hx rfl (hb hby d1_23) rfl rfl kq) ?_
      refine own_Go.by (fun tq kq => XS.iconst X16.here hx rfl (hb hby d1_24) kq) ?_
      show own_Go _ _ _ _ (T16.setTop (mkF m 25 #[sI nn, sI x1, sI y1] [(Value.int (1 : Int32)), (Value.ref ob16), (Value.ref ob16)]))
      obtain ⟨T19, h19, k19, X19, e19, E19, A19, Ea19, st19⟩ := newPE X16 hx hZ (hw _ (List.mem_of_getElem? (i := 8) rfl)) e16 (g := (mkF m 25 #[sI nn, sI x1, sI y1] [(Value.int (1 : Int32)), (Value.ref ob16), (Value.ref ob16)])) rfl (hb hby d1_25) rfl (by decide : ¬ ((1 : Int32) < (0 : Int32))) (cap := 1) (by decide : (1 : Int32).toNatClampNeg ≤ 1) (by decide) (by decide) (by decide) (ad := "[C") rfl
      obtain ⟨ob19, y19⟩ : ∃ z, z = h16.size := ⟨_, rfl⟩
      rw [← y19] at A19 Ea19 st19
      refine own_Go.by st19 ?_
      have O20 := O17.ext E19
      have K20 := K17.ext E19
      have g21 : n0 ≤ ob19 := Nat.le_trans (own_old_le O17) (Nat.le_of_eq y19.symm)
      have z21 : h0.size ≤ ob19 := Nat.le_trans K17.1 (Nat.le_of_eq y19.symm)
      have V19 : Arv Z h19 ob19 k19 .char (1 : Int32) [(Value.int (0 : Int32))] (Value.int (0 : Int32)) := (Arv.new A19 (by decide : ¬ ((1 : Int32) < (0 : Int32)))).pad (pad_rep [] (Value.int (0 : Int32)) 1)
      refine own_Go.by (fun tq kq => XS.dup X19.here hx rfl (hb hby d1_27) rfl rfl kq) ?_
      refine own_Go.by (fun tq kq => XS.iconst X19.here hx rfl (hb hby d1_28) kq) ?_
      refine own_Go.by (fun tq kq => XS.iloadN X19.here hx rfl (hb hby d1_29) rfl kq) ?_
      show own_Go _ _ _ _ (T19.setTop (mkF m 30 #[sI nn, sI x1, sI y1] [(Value.int x1), (Value.int (0 : Int32)), (Value.ref ob19), (Value.ref ob19), (Value.ref ob16), (Value.ref ob16)]))
      obtain ⟨cl22, Ar22, q22, S22, M22, Hh22, G22⟩ := id V19
      obtain ⟨T23, h23, X23, e23, W23, st23⟩ := stC X19 hx hZ e19 Ar22 (j := (0 : Int32)) (inb_of S22 ⟨(by decide : ¬ ((0 : Int32) < (0 : Int32))), (by decide : (0 : Int32) < (1 : Int32))⟩) (g := (mkF m 30 #[sI nn, sI x1, sI y1] [(Value.int x1), (Value.int (0 : Int32)), (Value.ref ob19), (Value.ref ob19), (Value.ref ob16), (Value.ref ob16)])) rfl rfl (hb hby d1_30)
      refine own_Go.by st23 ?_
      have N23 := Fr.snoc X23 N0 g21
      have O24 := O20.wr W23 g21
      have K24 := K20.wr W23 (Or.inr z21)
      rw [show nar .char x1 = x1 from own_narc hbx] at W23
      have V23 : Arv Z h23 ob19 k19 .char (1 : Int32) [(Value.int x1)] (Value.int (0 : Int32)) := Arv.set Ar22 q22 S22 M22 Hh22 G22 (own_fitC (own_narc hbx)) W23 0 rfl (Nat.le_of_ble_eq_true rfl)
      show own_Go _ _ _ _ (T23.setTop (mkF m 31 #[sI nn, sI x1, sI y1] [(Value.ref ob19), (Value.ref ob16), (Value.ref ob16)]))
      have c26 := ((A16.ext E19).wr W23)
      have c27 := ((F16_value.ext E19).other W23 (Or.inl (Nat.ne_of_lt (Nat.lt_of_lt_of_le A16.lt (Nat.le_of_eq y19.symm)))))
      have c28 := ((F16_coder.ext E19).other W23 (Or.inl (Nat.ne_of_lt (Nat.lt_of_lt_of_le A16.lt (Nat.le_of_eq y19.symm)))))
      have hp25 : ∀ c ∈ ([x1] : List Int32), ¬ c < 0 ∧ ¬ (255 : Int32) < c := by intro c hc; simp only [List.mem_cons, List.not_mem_nil, or_false] at hc; subst hc; assumption
      obtain ⟨_, _, ⟨T25, L25, k25, n25⟩, -, X25, ⟨Lc25, hQ25, l25, y25, z25⟩, st25⟩ := X23.specialBack hx (y := (⟨"java/lang/String", "<init>", "([C)V"⟩ : MethodName)) rfl hown (mvT hZ (hw _ (List.mem_of_getElem? (i := 9) rfl))) (mvT hZ (hw _ (List.mem_of_getElem? (i := 10) rfl))) (mvT hZ (hw _ (List.mem_of_getElem? (i := 11) rfl))) (by decide) (StrChars.Road.backV (W := 1) hZ (fun d hd => hw d (own_hws d hd)) (kI := 4) (hw _ (List.mem_of_getElem? (i := 6) rfl)) (cs := ([x1] : List Int32)) (bs := (([x1] : List Int32).map (fun c => c.toInt8.toInt32))) (n := 1) g18 (own_old_le O24) c26 c27 c28 V23 (H2.ext O24.2) hzc rfl rfl (by decide) (by decide) hp25 rfl (by decide) (by decide)) (g := (mkF m 31 #[sI nn, sI x1, sI y1] [(Value.ref ob19), (Value.ref ob16), (Value.ref ob16)])) rfl (by rw [hml]; rfl) (Steps.refl _) (a := ob16) (argsL := [(Value.ref ob19)]) (rest := [(Value.ref ob16)]) (lenOf own_pd1 rfl) rfl (by show 2 * 0 + _ ≤ _; exact Nat.le_of_eq rfl) (hb hby d1_31) (fun _ _ => ⟨rfl, e23, (by decide : 2 + 1 ≤ _), (by decide : 5 + 1 ≤ _)⟩)
      dsimp only [Pt.U, Pt.locs, Pt.cells, Pt.slots] at X25 l25 y25 z25 st25 hQ25
      subst l25 y25 z25
      refine own_Go.by (fun tq kq => st25.trans kq) ?_
      obtain ⟨rfl, N25q, K25q, E25q, C25q, t25, kb25, u25, v25, w25, V25q, A25q⟩ := hQ25
      have N25 := Fr.app N23 N25q
      have O29 := O24.keep K25q (allS g18 all0)
      have K29 := K24.trans K25q (allS (Or.inr z18) all0)
      have g30 : n0 ≤ t25 := Nat.le_trans (own_old_le O24) v25
      have z30 : h0.size ≤ t25 := Nat.le_trans K24.1 v25
      show own_Go _ _ _ _ (T25.setTop (mkF m 34 #[sI nn, sI x1, sI y1] [(Value.ref ob16)]))
      obtain ⟨fs, hr, hrun, hended, hRE⟩ := Stand.leaveW (s := s) (vm₁ := s.vm) X25 hS0 (Nat.zero_le _) (v := some (Value.ref ob16)) (fun h => by rw [Bd.returns] at h; cases h)
      have R31 := CHr.ext E16 CH0
      have R32 := CHr.ext E19 R31.1
      have Sf33 := Safe.ext E19 R31.1 (Safe.new (Nat.le_of_eq y19.symm))
      have R34 := CHr.wr W23 Sf33 R32.1
      have Sf35 := Safe.ext E16 CH0 (Safe.new (Nat.le_of_eq y16.symm))
      have R36 := CHr.keep K25q (allS ((R32.trans R34).safe A16.lt Sf35) all0) R34.1
      have hCR := (((R31.trans R32).trans R34).trans R36)
      have hCZ : CHr Z consts_1 s.vm s.heap T25.vm T25.heap := by
        rw [hh]
        exact hCR.trans (CHv.at (s := s) (vm0 := s.vm) X25 hZ hEL hCR.1)
      refine own_Go.fin (retOut X25 hx Bd.returns rfl (Or.inr (Or.inr (Or.inr (Or.inr ⟨rfl, rfl, rfl⟩)))) (hb hby d1_34) hr) ⟨hrun, hended, _, _, rfl, ?_, hCZ, own_rew hRE (by decide) (by decide)⟩
      show Q1 Z nn x1 y1 zc h0 n0 _ T25.heap _
      exact ⟨ob16, t25, kb25, (1 : Int32), ((([x1] : List Int32).map (fun c => c.toInt8.toInt32)).map Value.int), rfl, N25, K29, z18, E25q, C25q, V25q, A25q, ((own_text1 (x := x1) (y := y1) hc1_1 hc17_15).symm ▸ (⟨StrChars.Road.codOf (n := 1) rfl (fun x hx => (hp25 x hx).2), hp25, Nat.le_of_ble_eq_true rfl⟩ : own_cod ([x1] : List Int32) _ _))⟩
    ·
      refine own_Go.by (fun tq kq => XS.icmpYes X0.here hx rfl (pc0 := 17) (pc' := 35) rfl (hb hby d1_17) rfl (feq hc17_15).2 (by decide) (by decide) kq) ?_
      show own_Go _ _ _ _ (s₁.setTop (mkF m 35 #[sI nn, sI x1, sI y1] []))
      obtain ⟨T37, h37, X37, e37, E37, A37, D37, -, st37⟩ := newO X0 hx hZ hown (hw _ (List.mem_of_getElem? (i := 5) rfl)) (hw _ (List.mem_of_getElem? (i := 6) rfl)) (hw _ (List.mem_of_getElem? (i := 7) rfl)) e0 (g := (mkF m 35 #[sI nn, sI x1, sI y1] [])) rfl (hb hby d1_35) (by decide) (by decide)
      obtain ⟨ob37, y37⟩ : ∃ z, z = h0.size := ⟨_, rfl⟩
      rw [← y37] at A37 D37 st37
      refine own_Go.by st37 ?_
      have O38 := O0.ext E37
      have K38 := K0.ext E37
      have g39 : n0 ≤ ob37 := Nat.le_trans (own_old_le O0) (Nat.le_of_eq y37.symm)
      have z39 : h0.size ≤ ob37 := Nat.le_trans K0.1 (Nat.le_of_eq y37.symm)
      have F37_value : Fld Z h37 ob37 "java/lang/String" "value" "[B" .null := D37 (Or.inr (hw _ (List.mem_of_getElem? (i := 21) rfl))) (ty := (.array .byte)) (by decide)
      have F37_coder : Fld Z h37 ob37 "java/lang/String" "coder" "B" (Value.int (0 : Int32)) := D37 (Or.inr (hw _ (List.mem_of_getElem? (i := 22) rfl))) (ty := .byte) (by decide)
      refine own_Go.by (fun tq kq => XS.dup X37.here hx rfl (hb hby d1_38) rfl rfl kq) ?_
      refine own_Go.by (fun tq kq => XS.iconst X37.here hx rfl (hb hby d1_39) kq) ?_
      show own_Go _ _ _ _ (T37.setTop (mkF m 40 #[sI nn, sI x1, sI y1] [(Value.int (2 : Int32)), (Value.ref ob37), (Value.ref ob37)]))
      obtain ⟨T40, h40, k40, X40, e40, E40, A40, Ea40, st40⟩ := newPE X37 hx hZ (hw _ (List.mem_of_getElem? (i := 8) rfl)) e37 (g := (mkF m 40 #[sI nn, sI x1, sI y1] [(Value.int (2 : Int32)), (Value.ref ob37), (Value.ref ob37)])) rfl (hb hby d1_40) rfl (by decide : ¬ ((2 : Int32) < (0 : Int32))) (cap := 2) (by decide : (2 : Int32).toNatClampNeg ≤ 2) (by decide) (by decide) (by decide) (ad := "[C") rfl
      obtain ⟨ob40, y40⟩ : ∃ z, z = h37.size := ⟨_, rfl⟩
      rw [← y40] at A40 Ea40 st40
      refine own_Go.by st40 ?_
      have O41 := O38.ext E40
      have K41 := K38.ext E40
      have g42 : n0 ≤ ob40 := Nat.le_trans (own_old_le O38) (Nat.le_of_eq y40.symm)
      have z42 : h0.size ≤ ob40 := Nat.le_trans K38.1 (Nat.le_of_eq y40.symm)
      have V40 : Arv Z h40 ob40 k40 .char (2 : Int32) [(Value.int (0 : Int32)), (Value.int (0 : Int32))] (Value.int (0 : Int32)) := (Arv.new A40 (by decide : ¬ ((2 : Int32) < (0 : Int32)))).pad (pad_rep [] (Value.int (0 : Int32)) 2)
      refine own_Go.by (fun tq kq => XS.dup X40.here hx rfl (hb hby d1_42) rfl rfl kq) ?_
      refine own_Go.by (fun tq kq => XS.iconst X40.here hx rfl (hb hby d1_43) kq) ?_
      refine own_Go.by (fun tq kq => XS.iloadN X40.here hx rfl (hb hby d1_44) rfl kq) ?_
      show own_Go _ _ _ _ (T40.setTop (mkF m 45 #[sI nn, sI x1, sI y1] [(Value.int x1), (Value.int (0 : Int32)), (Value.ref ob40), (Value.ref ob40), (Value.ref ob37), (Value.ref ob37)]))
      obtain ⟨cl43, Ar43, q43, S43, M43, Hh43, G43⟩ := id V40
      obtain ⟨T44, h44, X44, e44, W44, st44⟩ := stC X40 hx hZ e40 Ar43 (j := (0 : Int32)) (inb_of S43 ⟨(by decide : ¬ ((0 : Int32) < (0 : Int32))), (by decide : (0 : Int32) < (2 : Int32))⟩) (g := (mkF m 45 #[sI nn, sI x1, sI y1] [(Value.int x1), (Value.int (0 : Int32)), (Value.ref ob40), (Value.ref ob40), (Value.ref ob37), (Value.ref ob37)])) rfl rfl (hb hby d1_45)
      refine own_Go.by st44 ?_
      have N44 := Fr.snoc X44 N0 g42
      have O45 := O41.wr W44 g42
      have K45 := K41.wr W44 (Or.inr z42)
      rw [show nar .char x1 = x1 from own_narc hbx] at W44
      have V44 : Arv Z h44 ob40 k40 .char (2 : Int32) [(Value.int x1), (Value.int (0 : Int32))] (Value.int (0 : Int32)) := Arv.set Ar43 q43 S43 M43 Hh43 G43 (own_fitC (own_narc hbx)) W44 0 rfl (Nat.le_of_ble_eq_true rfl)
      refine own_Go.by (fun tq kq => XS.dup X44.here hx rfl (hb hby d1_46) rfl rfl kq) ?_
      refine own_Go.by (fun tq kq => XS.iconst X44.here hx rfl (hb hby d1_47) kq) ?_
      refine own_Go.by (fun tq kq => XS.iloadN X44.here hx rfl (hb hby d1_48) rfl kq) ?_
      show own_Go _ _ _ _ (T44.setTop (mkF m 49 #[sI nn, sI x1, sI y1] [(Value.int y1), (Value.int (1 : Int32)), (Value.ref ob40), (Value.ref ob40), (Value.ref ob37), (Value.ref ob37)]))
      obtain ⟨cl46, Ar46, q46, S46, M46, Hh46, G46⟩ := id V44
      obtain ⟨T47, h47, X47, e47, W47, st47⟩ := stC X44 hx hZ e44 Ar46 (j := (1 : Int32)) (inb_of S46 ⟨(by decide : ¬ ((1 : Int32) < (0 : Int32))), (by decide : (1 : Int32) < (2 : Int32))⟩) (g := (mkF m 49 #[sI nn, sI x1, sI y1] [(Value.int y1), (Value.int (1 : Int32)), (Value.ref ob40), (Value.ref ob40), (Value.ref ob37), (Value.ref ob37)])) rfl rfl (hb hby d1_49)
      refine own_Go.by st47 ?_
      have N47 := Fr.snoc X47 N44 g42
      have O48 := O45.wr W47 g42
      have K48 := K45.wr W47 (Or.inr z42)
      rw [show nar .char y1 = y1 from own_narc hby1] at W47
      have V47 : Arv Z h47 ob40 k40 .char (2 : Int32) [(Value.int x1), (Value.int y1)] (Value.int (0 : Int32)) := Arv.set Ar46 q46 S46 M46 Hh46 G46 (own_fitC (own_narc hby1)) W47 1 rfl (Nat.le_of_ble_eq_true rfl)
      show own_Go _ _ _ _ (T47.setTop (mkF m 50 #[sI nn, sI x1, sI y1] [(Value.ref ob40), (Value.ref ob37), (Value.ref ob37)]))
      have c50 := (((A37.ext E40).wr W44).wr W47)
      have c51 := (((F37_value.ext E40).other W44 (Or.inl (Nat.ne_of_lt (Nat.lt_of_lt_of_le A37.lt (Nat.le_of_eq y40.symm))))).other W47 (Or.inl (Nat.ne_of_lt (Nat.lt_of_lt_of_le A37.lt (Nat.le_of_eq y40.symm)))))
      have c52 := (((F37_coder.ext E40).other W44 (Or.inl (Nat.ne_of_lt (Nat.lt_of_lt_of_le A37.lt (Nat.le_of_eq y40.symm))))).other W47 (Or.inl (Nat.ne_of_lt (Nat.lt_of_lt_of_le A37.lt (Nat.le_of_eq y40.symm)))))
      have hp49 : ∀ c ∈ ([x1, y1] : List Int32), ¬ c < 0 ∧ ¬ (255 : Int32) < c := by intro c hc; simp only [List.mem_cons, List.not_mem_nil, or_false] at hc; rcases hc with rfl | rfl <;> assumption
      obtain ⟨_, _, ⟨T49, L49, k49, n49⟩, -, X49, ⟨Lc49, hQ49, l49, y49, z49⟩, st49⟩ := X47.specialBack hx (y := (⟨"java/lang/String", "<init>", "([C)V"⟩ : MethodName)) rfl hown (mvT hZ (hw _ (List.mem_of_getElem? (i := 9) rfl))) (mvT hZ (hw _ (List.mem_of_getElem? (i := 10) rfl))) (mvT hZ (hw _ (List.mem_of_getElem? (i := 11) rfl))) (by decide) (StrChars.Road.backV (W := 1) hZ (fun d hd => hw d (own_hws d hd)) (kI := 4) (hw _ (List.mem_of_getElem? (i := 6) rfl)) (cs := ([x1, y1] : List Int32)) (bs := (([x1, y1] : List Int32).map (fun c => c.toInt8.toInt32))) (n := 2) g39 (own_old_le O48) c50 c51 c52 V47 (H2.ext O48.2) hzc rfl rfl (by decide) (by decide) hp49 rfl (by decide) (by decide)) (g := (mkF m 50 #[sI nn, sI x1, sI y1] [(Value.ref ob40), (Value.ref ob37), (Value.ref ob37)])) rfl (by rw [hml]; rfl) (Steps.refl _) (a := ob37) (argsL := [(Value.ref ob40)]) (rest := [(Value.ref ob37)]) (lenOf own_pd1 rfl) rfl (by show 2 * 0 + _ ≤ _; exact Nat.le_of_eq rfl) (hb hby d1_50) (fun _ _ => ⟨rfl, e47, (by decide : 2 + 1 ≤ _), (by decide : 6 + 2 ≤ _)⟩)
      dsimp only [Pt.U, Pt.locs, Pt.cells, Pt.slots] at X49 l49 y49 z49 st49 hQ49
      subst l49 y49 z49
      refine own_Go.by (fun tq kq => st49.trans kq) ?_
      obtain ⟨rfl, N49q, K49q, E49q, C49q, t49, kb49, u49, v49, w49, V49q, A49q⟩ := hQ49
      have N49 := Fr.app N47 N49q
      have O53 := O48.keep K49q (allS g39 all0)
      have K53 := K48.trans K49q (allS (Or.inr z39) all0)
      have g54 : n0 ≤ t49 := Nat.le_trans (own_old_le O48) v49
      have z54 : h0.size ≤ t49 := Nat.le_trans K48.1 v49
      show own_Go _ _ _ _ (T49.setTop (mkF m 53 #[sI nn, sI x1, sI y1] [(Value.ref ob37)]))
      obtain ⟨fs, hr, hrun, hended, hRE⟩ := Stand.leaveW (s := s) (vm₁ := s.vm) X49 hS0 (Nat.zero_le _) (v := some (Value.ref ob37)) (fun h => by rw [Bd.returns] at h; cases h)
      have R55 := CHr.ext E37 CH0
      have R56 := CHr.ext E40 R55.1
      have Sf57 := Safe.ext E40 R55.1 (Safe.new (Nat.le_of_eq y40.symm))
      have R58 := CHr.wr W44 Sf57 R56.1
      have R59 := CHr.wr W47 (R58.safe A40.lt Sf57) R58.1
      have Sf60 := Safe.ext E37 CH0 (Safe.new (Nat.le_of_eq y37.symm))
      have R61 := CHr.keep K49q (allS (((R56.trans R58).trans R59).safe A37.lt Sf60) all0) R59.1
      have hCR := ((((R55.trans R56).trans R58).trans R59).trans R61)
      have hCZ : CHr Z consts_1 s.vm s.heap T49.vm T49.heap := by
        rw [hh]
        exact hCR.trans (CHv.at (s := s) (vm0 := s.vm) X49 hZ hEL hCR.1)
      refine own_Go.fin (retOut X49 hx Bd.returns rfl (Or.inr (Or.inr (Or.inr (Or.inr ⟨rfl, rfl, rfl⟩)))) (hb hby d1_53) hr) ⟨hrun, hended, _, _, rfl, ?_, hCZ, own_rew hRE (by decide) (by decide)⟩
      show Q1 Z nn x1 y1 zc h0 n0 _ T49.heap _
      exact ⟨ob37, t49, kb49, (2 : Int32), ((([x1, y1] : List Int32).map (fun c => c.toInt8.toInt32)).map Value.int), rfl, N49, K53, z39, E49q, C49q, V49q, A49q, ((own_text2 (x := x1) (y := y1) hc1_1 hc17_15).symm ▸ (⟨StrChars.Road.codOf (n := 2) rfl (fun x hx => (hp49 x hx).2), hp49, Nat.le_of_ble_eq_true rfl⟩ : own_cod ([x1, y1] : List Int32) _ _))⟩

theorem d5_0 : decode prog_18_method_1_code 0 = .ok (.aload_n 0, 1) := by decide +kernel
theorem d5_1 : decode prog_18_method_1_code 1 = .ok (.invokespecial 1, 3) := by decide +kernel
theorem d5_4 : decode prog_18_method_1_code 4 = .ok (.aload_n 0, 1) := by decide +kernel
theorem d5_5 : decode prog_18_method_1_code 5 = .ok (.aload_n 1, 1) := by decide +kernel
theorem d5_6 : decode prog_18_method_1_code 6 = .ok (.putfield 7, 3) := by decide +kernel
theorem d5_9 : decode prog_18_method_1_code 9 = .ok (.aload_n 0, 1) := by decide +kernel
theorem d5_10 : decode prog_18_method_1_code 10 = .ok (.aload_n 2, 1) := by decide +kernel
theorem d5_11 : decode prog_18_method_1_code 11 = .ok (.putfield 13, 3) := by decide +kernel
theorem d5_14 : decode prog_18_method_1_code 14 = .ok (.aload_n 0, 1) := by decide +kernel
theorem d5_15 : decode prog_18_method_1_code 15 = .ok (.aload_n 3, 1) := by decide +kernel
theorem d5_16 : decode prog_18_method_1_code 16 = .ok (.putfield 16, 3) := by decide +kernel
theorem d5_19 : decode prog_18_method_1_code 19 = .ok (.aload_n 0, 1) := by decide +kernel
theorem d5_20 : decode prog_18_method_1_code 20 = .ok (.aload 4, 2) := by decide +kernel
theorem d5_22 : decode prog_18_method_1_code 22 = .ok (.putfield 19, 3) := by decide +kernel
theorem d5_25 : decode prog_18_method_1_code 25 = .ok (.aload_n 0, 1) := by decide +kernel
theorem d5_26 : decode prog_18_method_1_code 26 = .ok (.aload 5, 2) := by decide +kernel
theorem d5_28 : decode prog_18_method_1_code 28 = .ok (.putfield 22, 3) := by decide +kernel
theorem d5_31 : decode prog_18_method_1_code 31 = .ok (.aload_n 0, 1) := by decide +kernel
theorem d5_32 : decode prog_18_method_1_code 32 = .ok (.aload 6, 2) := by decide +kernel
theorem d5_34 : decode prog_18_method_1_code 34 = .ok (.putfield 25, 3) := by decide +kernel
theorem d5_37 : decode prog_18_method_1_code 37 = .ok (.aload_n 0, 1) := by decide +kernel
theorem d5_38 : decode prog_18_method_1_code 38 = .ok (.aload 7, 2) := by decide +kernel
theorem d5_40 : decode prog_18_method_1_code 40 = .ok (.putfield 28, 3) := by decide +kernel
theorem d5_43 : decode prog_18_method_1_code 43 = .ok (.aload_n 0, 1) := by decide +kernel
theorem d5_44 : decode prog_18_method_1_code 44 = .ok (.aload 8, 2) := by decide +kernel
theorem d5_46 : decode prog_18_method_1_code 46 = .ok (.putfield 31, 3) := by decide +kernel
theorem d5_49 : decode prog_18_method_1_code 49 = .ok (.return_, 1) := by decide +kernel
theorem own_pn_com_example_enlace_enlace_UriReference : plainName "com/example/enlace/enlace/UriReference" = true := by first | (simp [plainName, overriddenIn]; done) | decide +kernel
theorem own_ef_5_rrnnnrnn (m : MethodId) (a1 : Addr) (r0 : Addr) (r1 : Addr) (r5 : Addr) : entryFrame m #[(Value.ref a1), (Value.ref r0), (Value.ref r1), .null, .null, .null, (Value.ref r5), .null, .null] 9 = mkF m 0 #[sR a1, sR r0, sR r1, .val .null, .val .null, .val .null, sR r5, .val .null, .val .null] [] := by first | (simp [entryFrame, mkF, argsToLocals, Value.category]; done) | rfl
def Q5_rrnnnrnn (Z : State) (a1 : Addr) (r0 : Addr) (r1 : Addr) (r5 : Addr) (h0 : Heap) (n0 : Nat) (v : Option Value) (h : Heap) (L : List Loc) : Prop := v = none ∧ Fr n0 L ∧ Keep h0 h [a1] ∧ (Exa Z h a1 "com/example/enlace/enlace/UriReference") ∧ (Fld Z h a1 "com/example/enlace/enlace/UriReference" "text" "Ljava/lang/String;" (Value.ref r0))
set_option maxRecDepth 65536 in
set_option maxHeartbeats 40000000 in
theorem rm5_rrnnnrnn (l : Launch) (Z : State) (a0 : Array Value) (hw : ∀ d ∈ tables_1, d.before a0 Z = true) (ws : List Jvm.Cond) (a1 : Addr) (r0 : Addr) (r1 : Addr) (r5 : Addr) (h0 : Heap) (n0 : Nat) (O0 : Old Z n0 h0) (H0 : Exa Z h0 a1 "com/example/enlace/enlace/UriReference") (H1 : n0 ≤ a1) (H2 : Fld Z h0 a1 "com/example/enlace/enlace/UriReference" "text" "Ljava/lang/String;" .null) (H3 : Fld Z h0 a1 "com/example/enlace/enlace/UriReference" "scheme" "Ljava/lang/String;" .null) (H4 : Fld Z h0 a1 "com/example/enlace/enlace/UriReference" "userinfo" "Ljava/lang/String;" .null) (H5 : Fld Z h0 a1 "com/example/enlace/enlace/UriReference" "host" "Ljava/lang/String;" .null) (H6 : Fld Z h0 a1 "com/example/enlace/enlace/UriReference" "port" "Ljava/lang/String;" .null) (H7 : Fld Z h0 a1 "com/example/enlace/enlace/UriReference" "path" "Ljava/lang/String;" .null) (H8 : Fld Z h0 a1 "com/example/enlace/enlace/UriReference" "query" "Ljava/lang/String;" .null) (H9 : Fld Z h0 a1 "com/example/enlace/enlace/UriReference" "fragment" "Ljava/lang/String;" .null) :
    MetFree l (⟨"com/example/enlace/enlace/UriReference", "<init>", "(Ljava/lang/String;Ljava/lang/String;Ljava/lang/String;Ljava/lang/String;Ljava/lang/String;Ljava/lang/String;Ljava/lang/String;Ljava/lang/String;)V"⟩ : MethodName) (head1 (Jvm.Cond.code (⟨"com/example/enlace/enlace/UriReference", "<init>", "(Ljava/lang/String;Ljava/lang/String;Ljava/lang/String;Ljava/lang/String;Ljava/lang/String;Ljava/lang/String;Ljava/lang/String;Ljava/lang/String;)V"⟩ : MethodName) prog_18_method_1_code 9 none :: ws) ({ frames := 1, cells := 0, slots := 0, locals := 12 } : Room)) (fun a U => a = #[(Value.ref a1), (Value.ref r0), (Value.ref r1), .null, .null, .null, (Value.ref r5), .null, .null] ∧ Z.Warmed39 U.vm ∧ U.heap = h0) (fun _ _ _ _ _ => True) (fun _ U o U' => ∃ v L, o = .returned v ∧ Q5_rrnnnrnn Z a1 r0 r1 r5 h0 n0 v U'.heap L ∧ FrameEnd U o U' L ({ frames := 1, cells := 0, slots := 0, locals := 12 } : Room).cells ({ frames := 1, cells := 0, slots := 0, locals := 12 } : Room).slots) := by
  refine MetFree.of_bodySF (plainFor_of_name own_pn_com_example_enlace_enlace_UriReference) hisR ?_
  intro p e s m args below meth c s₁ Bd hml0 hP hK
  obtain ⟨rfl, hZ, hh⟩ := hP
  have hx := Bd.exec
  have hby := Bd.bytes
  have hml : c.maxLocals = 9 := hml0
  have hown : s.vm.findClass "com/example/enlace/enlace/UriReference" = some m.cls := findClass_of_methodNamed Bd.named
  have hnm := (name_of_methodNamed Bd.named Bd.method).1
  have X0 : Stand p l e ({ frames := 1, cells := 0, slots := 0, locals := 12 } : Room) s m #[(Value.ref a1), (Value.ref r0), (Value.ref r1), .null, .null, .null, (Value.ref r5), .null, .null] below meth c s₁ [] 0 0 := Stand.of_body Bd
  have e0 : s₁.heap = h0 := by rw [← hh, Bd.state]; rfl
  have N0 := Fr.nil n0
  have K0 := Keep.refl h0 [a1]
  show own_Go _ _ _ _ (s₁.setTop (entryFrame m #[(Value.ref a1), (Value.ref r0), (Value.ref r1), .null, .null, .null, (Value.ref r5), .null, .null] 9))
  refine own_Go.by (fun tq kq => castTop (own_ef_5_rrnnnrnn m a1 r0 r1 r5) kq) ?_
  show own_Go _ _ _ _ (s₁.setTop (mkF m 0 #[sR a1, sR r0, sR r1, .val .null, .val .null, .val .null, sR r5, .val .null, .val .null] []))
  refine own_Go.by (fun tq kq => XS.aloadN X0.here hx rfl (hb hby d5_0) rfl rfl kq) ?_
  show own_Go _ _ _ _ (s₁.setTop (mkF m 1 #[sR a1, sR r0, sR r1, .val .null, .val .null, .val .null, sR r5, .val .null, .val .null] [(Value.ref a1)]))
  obtain ⟨T1, X1, e1, st1⟩ := initO X0 hx hZ hown (hw _ (List.mem_of_getElem? (i := 33) rfl)) (hw _ (List.mem_of_getElem? (i := 17) rfl)) (hw _ (List.mem_of_getElem? (i := 18) rfl)) e0 (g := (mkF m 1 #[sR a1, sR r0, sR r1, .val .null, .val .null, .val .null, sR r5, .val .null, .val .null] [(Value.ref a1)])) rfl (by rw [hml]; rfl) rfl (hb hby d5_1) (by decide) (W := 0) (by show 2 * 0 + _ ≤ _; exact Nat.le_of_eq rfl) (by decide)
  refine own_Go.by st1 ?_
  refine own_Go.by (fun tq kq => XS.aloadN X1.here hx rfl (hb hby d5_4) rfl rfl kq) ?_
  refine own_Go.by (fun tq kq => XS.aloadN X1.here hx rfl (hb hby d5_5) rfl rfl kq) ?_
  show own_Go _ _ _ _ (T1.setTop (mkF m 6 #[sR a1, sR r0, sR r1, .val .null, .val .null, .val .null, sR r5, .val .null, .val .null] [(Value.ref r0), (Value.ref a1)]))
  obtain ⟨T2, h2, X2, e2, W2, st2⟩ := putF X1 hx hZ hown (host := "") (Or.inl (hw _ (List.mem_of_getElem? (i := 34) rfl))) Via.refl e1 H2 H0 (Or.inr ⟨(hw _ (List.mem_of_getElem? (i := 35) rfl)), rfl, hnm⟩) (hw _ (List.mem_of_getElem? (i := 28) rfl)) (ty := (.object "java/lang/String")) (by decide) rfl rfl (g := (mkF m 6 #[sR a1, sR r0, sR r1, .val .null, .val .null, .val .null, sR r5, .val .null, .val .null] [(Value.ref r0), (Value.ref a1)])) rfl rfl (hb hby d5_6)
  refine own_Go.by st2 ?_
  have N2 := Fr.snoc X2 N0 H1
  have O3 := O0.wr W2 H1
  have K3 := K0.wr W2 (Or.inl (List.mem_of_getElem? (i := 0) rfl))
  have F2 := H2.same W2
  refine own_Go.by (fun tq kq => XS.aloadN X2.here hx rfl (hb hby d5_9) rfl rfl kq) ?_
  refine own_Go.by (fun tq kq => XS.aloadN X2.here hx rfl (hb hby d5_10) rfl rfl kq) ?_
  show own_Go _ _ _ _ (T2.setTop (mkF m 11 #[sR a1, sR r0, sR r1, .val .null, .val .null, .val .null, sR r5, .val .null, .val .null] [(Value.ref r1), (Value.ref a1)]))
  have c4 := (H3.other W2 (Or.inr (slot_ne (Or.inr (hw _ (List.mem_of_getElem? (i := 37) rfl))) (Or.inr (hw _ (List.mem_of_getElem? (i := 35) rfl))) (by decide) (t := (.object "java/lang/String")) (t' := (.object "java/lang/String")) (by decide) (by decide))))
  have c5 := (H0.wr W2)
  obtain ⟨T6, h6, X6, e6, W6, st6⟩ := putF X2 hx hZ hown (host := "") (Or.inl (hw _ (List.mem_of_getElem? (i := 36) rfl))) Via.refl e2 c4 c5 (Or.inr ⟨(hw _ (List.mem_of_getElem? (i := 37) rfl)), rfl, hnm⟩) (hw _ (List.mem_of_getElem? (i := 28) rfl)) (ty := (.object "java/lang/String")) (by decide) rfl rfl (g := (mkF m 11 #[sR a1, sR r0, sR r1, .val .null, .val .null, .val .null, sR r5, .val .null, .val .null] [(Value.ref r1), (Value.ref a1)])) rfl rfl (hb hby d5_11)
  refine own_Go.by st6 ?_
  have N6 := Fr.snoc X6 N2 H1
  have O7 := O3.wr W6 H1
  have K7 := K3.wr W6 (Or.inl (List.mem_of_getElem? (i := 0) rfl))
  have F6 := c4.same W6
  refine own_Go.by (fun tq kq => XS.aloadN X6.here hx rfl (hb hby d5_14) rfl rfl kq) ?_
  refine own_Go.by (fun tq kq => XS.aloadN X6.here hx rfl (hb hby d5_15) rfl rfl kq) ?_
  show own_Go _ _ _ _ (T6.setTop (mkF m 16 #[sR a1, sR r0, sR r1, .val .null, .val .null, .val .null, sR r5, .val .null, .val .null] [.null, (Value.ref a1)]))
  have c8 := ((H4.other W2 (Or.inr (slot_ne (Or.inr (hw _ (List.mem_of_getElem? (i := 39) rfl))) (Or.inr (hw _ (List.mem_of_getElem? (i := 35) rfl))) (by decide) (t := (.object "java/lang/String")) (t' := (.object "java/lang/String")) (by decide) (by decide)))).other W6 (Or.inr (slot_ne (Or.inr (hw _ (List.mem_of_getElem? (i := 39) rfl))) (Or.inr (hw _ (List.mem_of_getElem? (i := 37) rfl))) (by decide) (t := (.object "java/lang/String")) (t' := (.object "java/lang/String")) (by decide) (by decide))))
  have c9 := (c5.wr W6)
  obtain ⟨T10, h10, X10, e10, W10, st10⟩ := putF X6 hx hZ hown (host := "") (Or.inl (hw _ (List.mem_of_getElem? (i := 38) rfl))) Via.refl e6 c8 c9 (Or.inr ⟨(hw _ (List.mem_of_getElem? (i := 39) rfl)), rfl, hnm⟩) (hw _ (List.mem_of_getElem? (i := 28) rfl)) (ty := (.object "java/lang/String")) (by decide) rfl rfl (g := (mkF m 16 #[sR a1, sR r0, sR r1, .val .null, .val .null, .val .null, sR r5, .val .null, .val .null] [.null, (Value.ref a1)])) rfl rfl (hb hby d5_16)
  refine own_Go.by st10 ?_
  have N10 := Fr.snoc X10 N6 H1
  have O11 := O7.wr W10 H1
  have K11 := K7.wr W10 (Or.inl (List.mem_of_getElem? (i := 0) rfl))
  have F10 := c8.same W10
  refine own_Go.by (fun tq kq => XS.aloadN X10.here hx rfl (hb hby d5_19) rfl rfl kq) ?_
  refine own_Go.by (fun tq kq => XS.aload X10.here hx rfl (hb hby d5_20) rfl rfl kq) ?_
  show own_Go _ _ _ _ (T10.setTop (mkF m 22 #[sR a1, sR r0, sR r1, .val .null, .val .null, .val .null, sR r5, .val .null, .val .null] [.null, (Value.ref a1)]))
  have c12 := (((H5.other W2 (Or.inr (slot_ne (Or.inr (hw _ (List.mem_of_getElem? (i := 41) rfl))) (Or.inr (hw _ (List.mem_of_getElem? (i := 35) rfl))) (by decide) (t := (.object "java/lang/String")) (t' := (.object "java/lang/String")) (by decide) (by decide)))).other W6 (Or.inr (slot_ne (Or.inr (hw _ (List.mem_of_getElem? (i := 41) rfl))) (Or.inr (hw _ (List.mem_of_getElem? (i := 37) rfl))) (by decide) (t := (.object "java/lang/String")) (t' := (.object "java/lang/String")) (by decide) (by decide)))).other W10 (Or.inr (slot_ne (Or.inr (hw _ (List.mem_of_getElem? (i := 41) rfl))) (Or.inr (hw _ (List.mem_of_getElem? (i := 39) rfl))) (by decide) (t := (.object "java/lang/String")) (t' := (.object "java/lang/String")) (by decide) (by decide))))
  have c13 := (c9.wr W10)
  obtain ⟨T14, h14, X14, e14, W14, st14⟩ := putF X10 hx hZ hown (host := "") (Or.inl (hw _ (List.mem_of_getElem? (i := 40) rfl))) Via.refl e10 c12 c13 (Or.inr ⟨(hw _ (List.mem_of_getElem? (i := 41) rfl)), rfl, hnm⟩) (hw _ (List.mem_of_getElem? (i := 28) rfl)) (ty := (.object "java/lang/String")) (by decide) rfl rfl (g := (mkF m 22 #[sR a1, sR r0, sR r1, .val .null, .val .null, .val .null, sR r5, .val .null, .val .null] [.null, (Value.ref a1)])) rfl rfl (hb hby d5_22)
  refine own_Go.by st14 ?_
  have N14 := Fr.snoc X14 N10 H1
  have O15 := O11.wr W14 H1
  have K15 := K11.wr W14 (Or.inl (List.mem_of_getElem? (i := 0) rfl))
  have F14 := c12.same W14
  refine own_Go.by (fun tq kq => XS.aloadN X14.here hx rfl (hb hby d5_25) rfl rfl kq) ?_
  refine own_Go.by (fun tq kq => XS.aload X14.here hx rfl (hb hby d5_26) rfl rfl kq) ?_
  show own_Go _ _ _ _ (T14.setTop (mkF m 28 #[sR a1, sR r0, sR r1, .val .null, .val .null, .val .null, sR r5, .val .null, .val .null] [.null, (Value.ref a1)]))
  have c16 := ((((H6.other W2 (Or.inr (slot_ne (Or.inr (hw _ (List.mem_of_getElem? (i := 43) rfl))) (Or.inr (hw _ (List.mem_of_getElem? (i := 35) rfl))) (by decide) (t := (.object "java/lang/String")) (t' := (.object "java/lang/String")) (by decide) (by decide)))).other W6 (Or.inr (slot_ne (Or.inr (hw _ (List.mem_of_getElem? (i := 43) rfl))) (Or.inr (hw _ (List.mem_of_getElem? (i := 37) rfl))) (by decide) (t := (.object "java/lang/String")) (t' := (.object "java/lang/String")) (by decide) (by decide)))).other W10 (Or.inr (slot_ne (Or.inr (hw _ (List.mem_of_getElem? (i := 43) rfl))) (Or.inr (hw _ (List.mem_of_getElem? (i := 39) rfl))) (by decide) (t := (.object "java/lang/String")) (t' := (.object "java/lang/String")) (by decide) (by decide)))).other W14 (Or.inr (slot_ne (Or.inr (hw _ (List.mem_of_getElem? (i := 43) rfl))) (Or.inr (hw _ (List.mem_of_getElem? (i := 41) rfl))) (by decide) (t := (.object "java/lang/String")) (t' := (.object "java/lang/String")) (by decide) (by decide))))
  have c17 := (c13.wr W14)
  obtain ⟨T18, h18, X18, e18, W18, st18⟩ := putF X14 hx hZ hown (host := "") (Or.inl (hw _ (List.mem_of_getElem? (i := 42) rfl))) Via.refl e14 c16 c17 (Or.inr ⟨(hw _ (List.mem_of_getElem? (i := 43) rfl)), rfl, hnm⟩) (hw _ (List.mem_of_getElem? (i := 28) rfl)) (ty := (.object "java/lang/String")) (by decide) rfl rfl (g := (mkF m 28 #[sR a1, sR r0, sR r1, .val .null, .val .null, .val .null, sR r5, .val .null, .val .null] [.null, (Value.ref a1)])) rfl rfl (hb hby d5_28)
  refine own_Go.by st18 ?_
  have N18 := Fr.snoc X18 N14 H1
  have O19 := O15.wr W18 H1
  have K19 := K15.wr W18 (Or.inl (List.mem_of_getElem? (i := 0) rfl))
  have F18 := c16.same W18
  refine own_Go.by (fun tq kq => XS.aloadN X18.here hx rfl (hb hby d5_31) rfl rfl kq) ?_
  refine own_Go.by (fun tq kq => XS.aload X18.here hx rfl (hb hby d5_32) rfl rfl kq) ?_
  show own_Go _ _ _ _ (T18.setTop (mkF m 34 #[sR a1, sR r0, sR r1, .val .null, .val .null, .val .null, sR r5, .val .null, .val .null] [(Value.ref r5), (Value.ref a1)]))
  have c20 := (((((H7.other W2 (Or.inr (slot_ne (Or.inr (hw _ (List.mem_of_getElem? (i := 45) rfl))) (Or.inr (hw _ (List.mem_of_getElem? (i := 35) rfl))) (by decide) (t := (.object "java/lang/String")) (t' := (.object "java/lang/String")) (by decide) (by decide)))).other W6 (Or.inr (slot_ne (Or.inr (hw _ (List.mem_of_getElem? (i := 45) rfl))) (Or.inr (hw _ (List.mem_of_getElem? (i := 37) rfl))) (by decide) (t := (.object "java/lang/String")) (t' := (.object "java/lang/String")) (by decide) (by decide)))).other W10 (Or.inr (slot_ne (Or.inr (hw _ (List.mem_of_getElem? (i := 45) rfl))) (Or.inr (hw _ (List.mem_of_getElem? (i := 39) rfl))) (by decide) (t := (.object "java/lang/String")) (t' := (.object "java/lang/String")) (by decide) (by decide)))).other W14 (Or.inr (slot_ne (Or.inr (hw _ (List.mem_of_getElem? (i := 45) rfl))) (Or.inr (hw _ (List.mem_of_getElem? (i := 41) rfl))) (by decide) (t := (.object "java/lang/String")) (t' := (.object "java/lang/String")) (by decide) (by decide)))).other W18 (Or.inr (slot_ne (Or.inr (hw _ (List.mem_of_getElem? (i := 45) rfl))) (Or.inr (hw _ (List.mem_of_getElem? (i := 43) rfl))) (by decide) (t := (.object "java/lang/String")) (t' := (.object "java/lang/String")) (by decide) (by decide))))
  have c21 := (c17.wr W18)
  obtain ⟨T22, h22, X22, e22, W22, st22⟩ := putF X18 hx hZ hown (host := "") (Or.inl (hw _ (List.mem_of_getElem? (i := 44) rfl))) Via.refl e18 c20 c21 (Or.inr ⟨(hw _ (List.mem_of_getElem? (i := 45) rfl)), rfl, hnm⟩) (hw _ (List.mem_of_getElem? (i := 28) rfl)) (ty := (.object "java/lang/String")) (by decide) rfl rfl (g := (mkF m 34 #[sR a1, sR r0, sR r1, .val .null, .val .null, .val .null, sR r5, .val .null, .val .null] [(Value.ref r5), (Value.ref a1)])) rfl rfl (hb hby d5_34)
  refine own_Go.by st22 ?_
  have N22 := Fr.snoc X22 N18 H1
  have O23 := O19.wr W22 H1
  have K23 := K19.wr W22 (Or.inl (List.mem_of_getElem? (i := 0) rfl))
  have F22 := c20.same W22
  refine own_Go.by (fun tq kq => XS.aloadN X22.here hx rfl (hb hby d5_37) rfl rfl kq) ?_
  refine own_Go.by (fun tq kq => XS.aload X22.here hx rfl (hb hby d5_38) rfl rfl kq) ?_
  show own_Go _ _ _ _ (T22.setTop (mkF m 40 #[sR a1, sR r0, sR r1, .val .null, .val .null, .val .null, sR r5, .val .null, .val .null] [.null, (Value.ref a1)]))
  have c24 := ((((((H8.other W2 (Or.inr (slot_ne (Or.inr (hw _ (List.mem_of_getElem? (i := 47) rfl))) (Or.inr (hw _ (List.mem_of_getElem? (i := 35) rfl))) (by decide) (t := (.object "java/lang/String")) (t' := (.object "java/lang/String")) (by decide) (by decide)))).other W6 (Or.inr (slot_ne (Or.inr (hw _ (List.mem_of_getElem? (i := 47) rfl))) (Or.inr (hw _ (List.mem_of_getElem? (i := 37) rfl))) (by decide) (t := (.object "java/lang/String")) (t' := (.object "java/lang/String")) (by decide) (by decide)))).other W10 (Or.inr (slot_ne (Or.inr (hw _ (List.mem_of_getElem? (i := 47) rfl))) (Or.inr (hw _ (List.mem_of_getElem? (i := 39) rfl))) (by decide) (t := (.object "java/lang/String")) (t' := (.object "java/lang/String")) (by decide) (by decide)))).other W14 (Or.inr (slot_ne (Or.inr (hw _ (List.mem_of_getElem? (i := 47) rfl))) (Or.inr (hw _ (List.mem_of_getElem? (i := 41) rfl))) (by decide) (t := (.object "java/lang/String")) (t' := (.object "java/lang/String")) (by decide) (by decide)))).other W18 (Or.inr (slot_ne (Or.inr (hw _ (List.mem_of_getElem? (i := 47) rfl))) (Or.inr (hw _ (List.mem_of_getElem? (i := 43) rfl))) (by decide) (t := (.object "java/lang/String")) (t' := (.object "java/lang/String")) (by decide) (by decide)))).other W22 (Or.inr (slot_ne (Or.inr (hw _ (List.mem_of_getElem? (i := 47) rfl))) (Or.inr (hw _ (List.mem_of_getElem? (i := 45) rfl))) (by decide) (t := (.object "java/lang/String")) (t' := (.object "java/lang/String")) (by decide) (by decide))))
  have c25 := (c21.wr W22)
  obtain ⟨T26, h26, X26, e26, W26, st26⟩ := putF X22 hx hZ hown (host := "") (Or.inl (hw _ (List.mem_of_getElem? (i := 46) rfl))) Via.refl e22 c24 c25 (Or.inr ⟨(hw _ (List.mem_of_getElem? (i := 47) rfl)), rfl, hnm⟩) (hw _ (List.mem_of_getElem? (i := 28) rfl)) (ty := (.object "java/lang/String")) (by decide) rfl rfl (g := (mkF m 40 #[sR a1, sR r0, sR r1, .val .null, .val .null, .val .null, sR r5, .val .null, .val .null] [.null, (Value.ref a1)])) rfl rfl (hb hby d5_40)
  refine own_Go.by st26 ?_
  have N26 := Fr.snoc X26 N22 H1
  have O27 := O23.wr W26 H1
  have K27 := K23.wr W26 (Or.inl (List.mem_of_getElem? (i := 0) rfl))
  have F26 := c24.same W26
  refine own_Go.by (fun tq kq => XS.aloadN X26.here hx rfl (hb hby d5_43) rfl rfl kq) ?_
  refine own_Go.by (fun tq kq => XS.aload X26.here hx rfl (hb hby d5_44) rfl rfl kq) ?_
  show own_Go _ _ _ _ (T26.setTop (mkF m 46 #[sR a1, sR r0, sR r1, .val .null, .val .null, .val .null, sR r5, .val .null, .val .null] [.null, (Value.ref a1)]))
  have c28 := (((((((H9.other W2 (Or.inr (slot_ne (Or.inr (hw _ (List.mem_of_getElem? (i := 49) rfl))) (Or.inr (hw _ (List.mem_of_getElem? (i := 35) rfl))) (by decide) (t := (.object "java/lang/String")) (t' := (.object "java/lang/String")) (by decide) (by decide)))).other W6 (Or.inr (slot_ne (Or.inr (hw _ (List.mem_of_getElem? (i := 49) rfl))) (Or.inr (hw _ (List.mem_of_getElem? (i := 37) rfl))) (by decide) (t := (.object "java/lang/String")) (t' := (.object "java/lang/String")) (by decide) (by decide)))).other W10 (Or.inr (slot_ne (Or.inr (hw _ (List.mem_of_getElem? (i := 49) rfl))) (Or.inr (hw _ (List.mem_of_getElem? (i := 39) rfl))) (by decide) (t := (.object "java/lang/String")) (t' := (.object "java/lang/String")) (by decide) (by decide)))).other W14 (Or.inr (slot_ne (Or.inr (hw _ (List.mem_of_getElem? (i := 49) rfl))) (Or.inr (hw _ (List.mem_of_getElem? (i := 41) rfl))) (by decide) (t := (.object "java/lang/String")) (t' := (.object "java/lang/String")) (by decide) (by decide)))).other W18 (Or.inr (slot_ne (Or.inr (hw _ (List.mem_of_getElem? (i := 49) rfl))) (Or.inr (hw _ (List.mem_of_getElem? (i := 43) rfl))) (by decide) (t := (.object "java/lang/String")) (t' := (.object "java/lang/String")) (by decide) (by decide)))).other W22 (Or.inr (slot_ne (Or.inr (hw _ (List.mem_of_getElem? (i := 49) rfl))) (Or.inr (hw _ (List.mem_of_getElem? (i := 45) rfl))) (by decide) (t := (.object "java/lang/String")) (t' := (.object "java/lang/String")) (by decide) (by decide)))).other W26 (Or.inr (slot_ne (Or.inr (hw _ (List.mem_of_getElem? (i := 49) rfl))) (Or.inr (hw _ (List.mem_of_getElem? (i := 47) rfl))) (by decide) (t := (.object "java/lang/String")) (t' := (.object "java/lang/String")) (by decide) (by decide))))
  have c29 := (c25.wr W26)
  obtain ⟨T30, h30, X30, e30, W30, st30⟩ := putF X26 hx hZ hown (host := "") (Or.inl (hw _ (List.mem_of_getElem? (i := 48) rfl))) Via.refl e26 c28 c29 (Or.inr ⟨(hw _ (List.mem_of_getElem? (i := 49) rfl)), rfl, hnm⟩) (hw _ (List.mem_of_getElem? (i := 28) rfl)) (ty := (.object "java/lang/String")) (by decide) rfl rfl (g := (mkF m 46 #[sR a1, sR r0, sR r1, .val .null, .val .null, .val .null, sR r5, .val .null, .val .null] [.null, (Value.ref a1)])) rfl rfl (hb hby d5_46)
  refine own_Go.by st30 ?_
  have N30 := Fr.snoc X30 N26 H1
  have O31 := O27.wr W30 H1
  have K31 := K27.wr W30 (Or.inl (List.mem_of_getElem? (i := 0) rfl))
  have F30 := c28.same W30
  show own_Go _ _ _ _ (T30.setTop (mkF m 49 #[sR a1, sR r0, sR r1, .val .null, .val .null, .val .null, sR r5, .val .null, .val .null] []))
  have c32 := (c29.wr W30)
  have c33 := (((((((F2.other W6 (Or.inr (slot_ne (Or.inr (hw _ (List.mem_of_getElem? (i := 35) rfl))) (Or.inr (hw _ (List.mem_of_getElem? (i := 37) rfl))) (by decide) (t := (.object "java/lang/String")) (t' := (.object "java/lang/String")) (by decide) (by decide)))).other W10 (Or.inr (slot_ne (Or.inr (hw _ (List.mem_of_getElem? (i := 35) rfl))) (Or.inr (hw _ (List.mem_of_getElem? (i := 39) rfl))) (by decide) (t := (.object "java/lang/String")) (t' := (.object "java/lang/String")) (by decide) (by decide)))).other W14 (Or.inr (slot_ne (Or.inr (hw _ (List.mem_of_getElem? (i := 35) rfl))) (Or.inr (hw _ (List.mem_of_getElem? (i := 41) rfl))) (by decide) (t := (.object "java/lang/String")) (t' := (.object "java/lang/String")) (by decide) (by decide)))).other W18 (Or.inr (slot_ne (Or.inr (hw _ (List.mem_of_getElem? (i := 35) rfl))) (Or.inr (hw _ (List.mem_of_getElem? (i := 43) rfl))) (by decide) (t := (.object "java/lang/String")) (t' := (.object "java/lang/String")) (by decide) (by decide)))).other W22 (Or.inr (slot_ne (Or.inr (hw _ (List.mem_of_getElem? (i := 35) rfl))) (Or.inr (hw _ (List.mem_of_getElem? (i := 45) rfl))) (by decide) (t := (.object "java/lang/String")) (t' := (.object "java/lang/String")) (by decide) (by decide)))).other W26 (Or.inr (slot_ne (Or.inr (hw _ (List.mem_of_getElem? (i := 35) rfl))) (Or.inr (hw _ (List.mem_of_getElem? (i := 47) rfl))) (by decide) (t := (.object "java/lang/String")) (t' := (.object "java/lang/String")) (by decide) (by decide)))).other W30 (Or.inr (slot_ne (Or.inr (hw _ (List.mem_of_getElem? (i := 35) rfl))) (Or.inr (hw _ (List.mem_of_getElem? (i := 49) rfl))) (by decide) (t := (.object "java/lang/String")) (t' := (.object "java/lang/String")) (by decide) (by decide))))
  obtain ⟨fs, hr, hrun, hended, hW, hsame⟩ := X30.leave (v := none) (fun _ => rfl)
  refine own_Go.fin (X30.returnOut hx Bd.returns (hb hby d5_49) hr) ⟨hrun, hended, _, _, rfl, ?_, ⟨_, rfl⟩, hW, hsame.mono (by decide) (by decide)⟩
  show Q5_rrnnnrnn Z a1 r0 r1 r5 h0 n0 _ T30.heap _
  rw [e30]
  exact ⟨rfl, N30, K31, c32, c33⟩

theorem own_ef_5_rnnnnrnn (m : MethodId) (a1 : Addr) (r0 : Addr) (r5 : Addr) : entryFrame m #[(Value.ref a1), (Value.ref r0), .null, .null, .null, .null, (Value.ref r5), .null, .null] 9 = mkF m 0 #[sR a1, sR r0, .val .null, .val .null, .val .null, .val .null, sR r5, .val .null, .val .null] [] := by first | (simp [entryFrame, mkF, argsToLocals, Value.category]; done) | rfl
def Q5_rnnnnrnn (Z : State) (a1 : Addr) (r0 : Addr) (r5 : Addr) (h0 : Heap) (n0 : Nat) (v : Option Value) (h : Heap) (L : List Loc) : Prop := v = none ∧ Fr n0 L ∧ Keep h0 h [a1] ∧ (Exa Z h a1 "com/example/enlace/enlace/UriReference") ∧ (Fld Z h a1 "com/example/enlace/enlace/UriReference" "text" "Ljava/lang/String;" (Value.ref r0))
set_option maxRecDepth 65536 in
set_option maxHeartbeats 40000000 in
theorem rm5_rnnnnrnn (l : Launch) (Z : State) (a0 : Array Value) (hw : ∀ d ∈ tables_1, d.before a0 Z = true) (ws : List Jvm.Cond) (a1 : Addr) (r0 : Addr) (r5 : Addr) (h0 : Heap) (n0 : Nat) (O0 : Old Z n0 h0) (H0 : Exa Z h0 a1 "com/example/enlace/enlace/UriReference") (H1 : n0 ≤ a1) (H2 : Fld Z h0 a1 "com/example/enlace/enlace/UriReference" "text" "Ljava/lang/String;" .null) (H3 : Fld Z h0 a1 "com/example/enlace/enlace/UriReference" "scheme" "Ljava/lang/String;" .null) (H4 : Fld Z h0 a1 "com/example/enlace/enlace/UriReference" "userinfo" "Ljava/lang/String;" .null) (H5 : Fld Z h0 a1 "com/example/enlace/enlace/UriReference" "host" "Ljava/lang/String;" .null) (H6 : Fld Z h0 a1 "com/example/enlace/enlace/UriReference" "port" "Ljava/lang/String;" .null) (H7 : Fld Z h0 a1 "com/example/enlace/enlace/UriReference" "path" "Ljava/lang/String;" .null) (H8 : Fld Z h0 a1 "com/example/enlace/enlace/UriReference" "query" "Ljava/lang/String;" .null) (H9 : Fld Z h0 a1 "com/example/enlace/enlace/UriReference" "fragment" "Ljava/lang/String;" .null) :
    MetFree l (⟨"com/example/enlace/enlace/UriReference", "<init>", "(Ljava/lang/String;Ljava/lang/String;Ljava/lang/String;Ljava/lang/String;Ljava/lang/String;Ljava/lang/String;Ljava/lang/String;Ljava/lang/String;)V"⟩ : MethodName) (head1 (Jvm.Cond.code (⟨"com/example/enlace/enlace/UriReference", "<init>", "(Ljava/lang/String;Ljava/lang/String;Ljava/lang/String;Ljava/lang/String;Ljava/lang/String;Ljava/lang/String;Ljava/lang/String;Ljava/lang/String;)V"⟩ : MethodName) prog_18_method_1_code 9 none :: ws) ({ frames := 1, cells := 0, slots := 0, locals := 12 } : Room)) (fun a U => a = #[(Value.ref a1), (Value.ref r0), .null, .null, .null, .null, (Value.ref r5), .null, .null] ∧ Z.Warmed39 U.vm ∧ U.heap = h0) (fun _ _ _ _ _ => True) (fun _ U o U' => ∃ v L, o = .returned v ∧ Q5_rnnnnrnn Z a1 r0 r5 h0 n0 v U'.heap L ∧ FrameEnd U o U' L ({ frames := 1, cells := 0, slots := 0, locals := 12 } : Room).cells ({ frames := 1, cells := 0, slots := 0, locals := 12 } : Room).slots) := by
  refine MetFree.of_bodySF (plainFor_of_name own_pn_com_example_enlace_enlace_UriReference) hisR ?_
  intro p e s m args below meth c s₁ Bd hml0 hP hK
  obtain ⟨rfl, hZ, hh⟩ := hP
  have hx := Bd.exec
  have hby := Bd.bytes
  have hml : c.maxLocals = 9 := hml0
  have hown : s.vm.findClass "com/example/enlace/enlace/UriReference" = some m.cls := findClass_of_methodNamed Bd.named
  have hnm := (name_of_methodNamed Bd.named Bd.method).1
  have X0 : Stand p l e ({ frames := 1, cells := 0, slots := 0, locals := 12 } : Room) s m #[(Value.ref a1), (Value.ref r0), .null, .null, .null, .null, (Value.ref r5), .null, .null] below meth c s₁ [] 0 0 := Stand.of_body Bd
  have e0 : s₁.heap = h0 := by rw [← hh, Bd.state]; rfl
  have N0 := Fr.nil n0
  have K0 := Keep.refl h0 [a1]
  show own_Go _ _ _ _ (s₁.setTop (entryFrame m #[(Value.ref a1), (Value.ref r0), .null, .null, .null, .null, (Value.ref r5), .null, .null] 9))
  refine own_Go.by (fun tq kq => castTop (own_ef_5_rnnnnrnn m a1 r0 r5) kq) ?_
  show own_Go _ _ _ _ (s₁.setTop (mkF m 0 #[sR a1, sR r0, .val .null, .val .null, .val .null, .val .null, sR r5, .val .null, .val .null] []))
  refine own_Go.by (fun tq kq => XS.aloadN X0.here hx rfl (hb hby d5_0) rfl rfl kq) ?_
  show own_Go _ _ _ _ (s₁.setTop (mkF m 1 #[sR a1, sR r0, .val .null, .val .null, .val .null, .val .null, sR r5, .val .null, .val .null] [(Value.ref a1)]))
  obtain ⟨T1, X1, e1, st1⟩ := initO X0 hx hZ hown (hw _ (List.mem_of_getElem? (i := 33) rfl)) (hw _ (List.mem_of_getElem? (i := 17) rfl)) (hw _ (List.mem_of_getElem? (i := 18) rfl)) e0 (g := (mkF m 1 #[sR a1, sR r0, .val .null, .val .null, .val .null, .val .null, sR r5, .val .null, .val .null] [(Value.ref a1)])) rfl (by rw [hml]; rfl) rfl (hb hby d5_1) (by decide) (W := 0) (by show 2 * 0 + _ ≤ _; exact Nat.le_of_eq rfl) (by decide)
  refine own_Go.by st1 ?_
  refine own_Go.by (fun tq kq => XS.aloadN X1.here hx rfl (hb hby d5_4) rfl rfl kq) ?_
  refine own_Go.by (fun tq kq => XS.aloadN X1.here hx rfl (hb hby d5_5) rfl rfl kq) ?_
  show own_Go _ _ _ _ (T1.setTop (mkF m 6 #[sR a1, sR r0, .val .null, .val .null, .val .null, .val .null, sR r5, .val .null, .val .null] [(Value.ref r0), (Value.ref a1)]))
  obtain ⟨T2, h2, X2, e2, W2, st2⟩ := putF X1 hx hZ hown (host := "") (Or.inl (hw _ (List.mem_of_getElem? (i := 34) rfl))) Via.refl e1 H2 H0 (Or.inr ⟨(hw _ (List.mem_of_getElem? (i := 35) rfl)), rfl, hnm⟩) (hw _ (List.mem_of_getElem? (i := 28) rfl)) (ty := (.object "java/lang/String")) (by decide) rfl rfl (g := (mkF m 6 #[sR a1, sR r0, .val .null, .val .null, .val .null, .val .null, sR r5, .val .null, .val .null] [(Value.ref r0), (Value.ref a1)])) rfl rfl (hb hby d5_6)
  refine own_Go.by st2 ?_
  have N2 := Fr.snoc X2 N0 H1
  have O3 := O0.wr W2 H1
  have K3 := K0.wr W2 (Or.inl (List.mem_of_getElem? (i := 0) rfl))
  have F2 := H2.same W2
  refine own_Go.by (fun tq kq => XS.aloadN X2.here hx rfl (hb hby d5_9) rfl rfl kq) ?_
  refine own_Go.by (fun tq kq => XS.aloadN X2.here hx rfl (hb hby d5_10) rfl rfl kq) ?_
  show own_Go _ _ _ _ (T2.setTop (mkF m 11 #[sR a1, sR r0, .val .null, .val .null, .val .null, .val .null, sR r5, .val .null, .val .null] [.null, (Value.ref a1)]))
  have c4 := (H3.other W2 (Or.inr (slot_ne (Or.inr (hw _ (List.mem_of_getElem? (i := 37) rfl))) (Or.inr (hw _ (List.mem_of_getElem? (i := 35) rfl))) (by decide) (t := (.object "java/lang/String")) (t' := (.object "java/lang/String")) (by decide) (by decide))))
  have c5 := (H0.wr W2)
  obtain ⟨T6, h6, X6, e6, W6, st6⟩ := putF X2 hx hZ hown (host := "") (Or.inl (hw _ (List.mem_of_getElem? (i := 36) rfl))) Via.refl e2 c4 c5 (Or.inr ⟨(hw _ (List.mem_of_getElem? (i := 37) rfl)), rfl, hnm⟩) (hw _ (List.mem_of_getElem? (i := 28) rfl)) (ty := (.object "java/lang/String")) (by decide) rfl rfl (g := (mkF m 11 #[sR a1, sR r0, .val .null, .val .null, .val .null, .val .null, sR r5, .val .null, .val .null] [.null, (Value.ref a1)])) rfl rfl (hb hby d5_11)
  refine own_Go.by st6 ?_
  have N6 := Fr.snoc X6 N2 H1
  have O7 := O3.wr W6 H1
  have K7 := K3.wr W6 (Or.inl (List.mem_of_getElem? (i := 0) rfl))
  have F6 := c4.same W6
  refine own_Go.by (fun tq kq => XS.aloadN X6.here hx rfl (hb hby d5_14) rfl rfl kq) ?_
  refine own_Go.by (fun tq kq => XS.aloadN X6.here hx rfl (hb hby d5_15) rfl rfl kq) ?_
  show own_Go _ _ _ _ (T6.setTop (mkF m 16 #[sR a1, sR r0, .val .null, .val .null, .val .null, .val .null, sR r5, .val .null, .val .null] [.null, (Value.ref a1)]))
  have c8 := ((H4.other W2 (Or.inr (slot_ne (Or.inr (hw _ (List.mem_of_getElem? (i := 39) rfl))) (Or.inr (hw _ (List.mem_of_getElem? (i := 35) rfl))) (by decide) (t := (.object "java/lang/String")) (t' := (.object "java/lang/String")) (by decide) (by decide)))).other W6 (Or.inr (slot_ne (Or.inr (hw _ (List.mem_of_getElem? (i := 39) rfl))) (Or.inr (hw _ (List.mem_of_getElem? (i := 37) rfl))) (by decide) (t := (.object "java/lang/String")) (t' := (.object "java/lang/String")) (by decide) (by decide))))
  have c9 := (c5.wr W6)
  obtain ⟨T10, h10, X10, e10, W10, st10⟩ := putF X6 hx hZ hown (host := "") (Or.inl (hw _ (List.mem_of_getElem? (i := 38) rfl))) Via.refl e6 c8 c9 (Or.inr ⟨(hw _ (List.mem_of_getElem? (i := 39) rfl)), rfl, hnm⟩) (hw _ (List.mem_of_getElem? (i := 28) rfl)) (ty := (.object "java/lang/String")) (by decide) rfl rfl (g := (mkF m 16 #[sR a1, sR r0, .val .null, .val .null, .val .null, .val .null, sR r5, .val .null, .val .null] [.null, (Value.ref a1)])) rfl rfl (hb hby d5_16)
  refine own_Go.by st10 ?_
  have N10 := Fr.snoc X10 N6 H1
  have O11 := O7.wr W10 H1
  have K11 := K7.wr W10 (Or.inl (List.mem_of_getElem? (i := 0) rfl))
  have F10 := c8.same W10
  refine own_Go.by (fun tq kq => XS.aloadN X10.here hx rfl (hb hby d5_19) rfl rfl kq) ?_
  refine own_Go.by (fun tq kq => XS.aload X10.here hx rfl (hb hby d5_20) rfl rfl kq) ?_
  show own_Go _ _ _ _ (T10.setTop (mkF m 22 #[sR a1, sR r0, .val .null, .val .null, .val .null, .val .null, sR r5, .val .null, .val .null] [.null, (Value.ref a1)]))
  have c12 := (((H5.other W2 (Or.inr (slot_ne (Or.inr (hw _ (List.mem_of_getElem? (i := 41) rfl))) (Or.inr (hw _ (List.mem_of_getElem? (i := 35) rfl))) (by decide) (t := (.object "java/lang/String")) (t' := (.object "java/lang/String")) (by decide) (by decide)))).other W6 (Or.inr (slot_ne (Or.inr (hw _ (List.mem_of_getElem? (i := 41) rfl))) (Or.inr (hw _ (List.mem_of_getElem? (i := 37) rfl))) (by decide) (t := (.object "java/lang/String")) (t' := (.object "java/lang/String")) (by decide) (by decide)))).other W10 (Or.inr (slot_ne (Or.inr (hw _ (List.mem_of_getElem? (i := 41) rfl))) (Or.inr (hw _ (List.mem_of_getElem? (i := 39) rfl))) (by decide) (t := (.object "java/lang/String")) (t' := (.object "java/lang/String")) (by decide) (by decide))))
  have c13 := (c9.wr W10)
  obtain ⟨T14, h14, X14, e14, W14, st14⟩ := putF X10 hx hZ hown (host := "") (Or.inl (hw _ (List.mem_of_getElem? (i := 40) rfl))) Via.refl e10 c12 c13 (Or.inr ⟨(hw _ (List.mem_of_getElem? (i := 41) rfl)), rfl, hnm⟩) (hw _ (List.mem_of_getElem? (i := 28) rfl)) (ty := (.object "java/lang/String")) (by decide) rfl rfl (g := (mkF m 22 #[sR a1, sR r0, .val .null, .val .null, .val .null, .val .null, sR r5, .val .null, .val .null] [.null, (Value.ref a1)])) rfl rfl (hb hby d5_22)
  refine own_Go.by st14 ?_
  have N14 := Fr.snoc X14 N10 H1
  have O15 := O11.wr W14 H1
  have K15 := K11.wr W14 (Or.inl (List.mem_of_getElem? (i := 0) rfl))
  have F14 := c12.same W14
  refine own_Go.by (fun tq kq => XS.aloadN X14.here hx rfl (hb hby d5_25) rfl rfl kq) ?_
  refine own_Go.by (fun tq kq => XS.aload X14.here hx rfl (hb hby d5_26) rfl rfl kq) ?_
  show own_Go _ _ _ _ (T14.setTop (mkF m 28 #[sR a1, sR r0, .val .null, .val .null, .val .null, .val .null, sR r5, .val .null, .val .null] [.null, (Value.ref a1)]))
  have c16 := ((((H6.other W2 (Or.inr (slot_ne (Or.inr (hw _ (List.mem_of_getElem? (i := 43) rfl))) (Or.inr (hw _ (List.mem_of_getElem? (i := 35) rfl))) (by decide) (t := (.object "java/lang/String")) (t' := (.object "java/lang/String")) (by decide) (by decide)))).other W6 (Or.inr (slot_ne (Or.inr (hw _ (List.mem_of_getElem? (i := 43) rfl))) (Or.inr (hw _ (List.mem_of_getElem? (i := 37) rfl))) (by decide) (t := (.object "java/lang/String")) (t' := (.object "java/lang/String")) (by decide) (by decide)))).other W10 (Or.inr (slot_ne (Or.inr (hw _ (List.mem_of_getElem? (i := 43) rfl))) (Or.inr (hw _ (List.mem_of_getElem? (i := 39) rfl))) (by decide) (t := (.object "java/lang/String")) (t' := (.object "java/lang/String")) (by decide) (by decide)))).other W14 (Or.inr (slot_ne (Or.inr (hw _ (List.mem_of_getElem? (i := 43) rfl))) (Or.inr (hw _ (List.mem_of_getElem? (i := 41) rfl))) (by decide) (t := (.object "java/lang/String")) (t' := (.object "java/lang/String")) (by decide) (by decide))))
  have c17 := (c13.wr W14)
  obtain ⟨T18, h18, X18, e18, W18, st18⟩ := putF X14 hx hZ hown (host := "") (Or.inl (hw _ (List.mem_of_getElem? (i := 42) rfl))) Via.refl e14 c16 c17 (Or.inr ⟨(hw _ (List.mem_of_getElem? (i := 43) rfl)), rfl, hnm⟩) (hw _ (List.mem_of_getElem? (i := 28) rfl)) (ty := (.object "java/lang/String")) (by decide) rfl rfl (g := (mkF m 28 #[sR a1, sR r0, .val .null, .val .null, .val .null, .val .null, sR r5, .val .null, .val .null] [.null, (Value.ref a1)])) rfl rfl (hb hby d5_28)
  refine own_Go.by st18 ?_
  have N18 := Fr.snoc X18 N14 H1
  have O19 := O15.wr W18 H1
  have K19 := K15.wr W18 (Or.inl (List.mem_of_getElem? (i := 0) rfl))
  have F18 := c16.same W18
  refine own_Go.by (fun tq kq => XS.aloadN X18.here hx rfl (hb hby d5_31) rfl rfl kq) ?_
  refine own_Go.by (fun tq kq => XS.aload X18.here hx rfl (hb hby d5_32) rfl rfl kq) ?_
  show own_Go _ _ _ _ (T18.setTop (mkF m 34 #[sR a1, sR r0, .val .null, .val .null, .val .null, .val .null, sR r5, .val .null, .val .null] [(Value.ref r5), (Value.ref a1)]))
  have c20 := (((((H7.other W2 (Or.inr (slot_ne (Or.inr (hw _ (List.mem_of_getElem? (i := 45) rfl))) (Or.inr (hw _ (List.mem_of_getElem? (i := 35) rfl))) (by decide) (t := (.object "java/lang/String")) (t' := (.object "java/lang/String")) (by decide) (by decide)))).other W6 (Or.inr (slot_ne (Or.inr (hw _ (List.mem_of_getElem? (i := 45) rfl))) (Or.inr (hw _ (List.mem_of_getElem? (i := 37) rfl))) (by decide) (t := (.object "java/lang/String")) (t' := (.object "java/lang/String")) (by decide) (by decide)))).other W10 (Or.inr (slot_ne (Or.inr (hw _ (List.mem_of_getElem? (i := 45) rfl))) (Or.inr (hw _ (List.mem_of_getElem? (i := 39) rfl))) (by decide) (t := (.object "java/lang/String")) (t' := (.object "java/lang/String")) (by decide) (by decide)))).other W14 (Or.inr (slot_ne (Or.inr (hw _ (List.mem_of_getElem? (i := 45) rfl))) (Or.inr (hw _ (List.mem_of_getElem? (i := 41) rfl))) (by decide) (t := (.object "java/lang/String")) (t' := (.object "java/lang/String")) (by decide) (by decide)))).other W18 (Or.inr (slot_ne (Or.inr (hw _ (List.mem_of_getElem? (i := 45) rfl))) (Or.inr (hw _ (List.mem_of_getElem? (i := 43) rfl))) (by decide) (t := (.object "java/lang/String")) (t' := (.object "java/lang/String")) (by decide) (by decide))))
  have c21 := (c17.wr W18)
  obtain ⟨T22, h22, X22, e22, W22, st22⟩ := putF X18 hx hZ hown (host := "") (Or.inl (hw _ (List.mem_of_getElem? (i := 44) rfl))) Via.refl e18 c20 c21 (Or.inr ⟨(hw _ (List.mem_of_getElem? (i := 45) rfl)), rfl, hnm⟩) (hw _ (List.mem_of_getElem? (i := 28) rfl)) (ty := (.object "java/lang/String")) (by decide) rfl rfl (g := (mkF m 34 #[sR a1, sR r0, .val .null, .val .null, .val .null, .val .null, sR r5, .val .null, .val .null] [(Value.ref r5), (Value.ref a1)])) rfl rfl (hb hby d5_34)
  refine own_Go.by st22 ?_
  have N22 := Fr.snoc X22 N18 H1
  have O23 := O19.wr W22 H1
  have K23 := K19.wr W22 (Or.inl (List.mem_of_getElem? (i := 0) rfl))
  have F22 := c20.same W22
  refine own_Go.by (fun tq kq => XS.aloadN X22.here hx rfl (hb hby d5_37) rfl rfl kq) ?_
  refine own_Go.by (fun tq kq => XS.aload X22.here hx rfl (hb hby d5_38) rfl rfl kq) ?_
  show own_Go _ _ _ _ (T22.setTop (mkF m 40 #[sR a1, sR r0, .val .null, .val .null, .val .null, .val .null, sR r5, .val .null, .val .null] [.null, (Value.ref a1)]))
  have c24 := ((((((H8.other W2 (Or.inr (slot_ne (Or.inr (hw _ (List.mem_of_getElem? (i := 47) rfl))) (Or.inr (hw _ (List.mem_of_getElem? (i := 35) rfl))) (by decide) (t := (.object "java/lang/String")) (t' := (.object "java/lang/String")) (by decide) (by decide)))).other W6 (Or.inr (slot_ne (Or.inr (hw _ (List.mem_of_getElem? (i := 47) rfl))) (Or.inr (hw _ (List.mem_of_getElem? (i := 37) rfl))) (by decide) (t := (.object "java/lang/String")) (t' := (.object "java/lang/String")) (by decide) (by decide)))).other W10 (Or.inr (slot_ne (Or.inr (hw _ (List.mem_of_getElem? (i := 47) rfl))) (Or.inr (hw _ (List.mem_of_getElem? (i := 39) rfl))) (by decide) (t := (.object "java/lang/String")) (t' := (.object "java/lang/String")) (by decide) (by decide)))).other W14 (Or.inr (slot_ne (Or.inr (hw _ (List.mem_of_getElem? (i := 47) rfl))) (Or.inr (hw _ (List.mem_of_getElem? (i := 41) rfl))) (by decide) (t := (.object "java/lang/String")) (t' := (.object "java/lang/String")) (by decide) (by decide)))).other W18 (Or.inr (slot_ne (Or.inr (hw _ (List.mem_of_getElem? (i := 47) rfl))) (Or.inr (hw _ (List.mem_of_getElem? (i := 43) rfl))) (by decide) (t := (.object "java/lang/String")) (t' := (.object "java/lang/String")) (by decide) (by decide)))).other W22 (Or.inr (slot_ne (Or.inr (hw _ (List.mem_of_getElem? (i := 47) rfl))) (Or.inr (hw _ (List.mem_of_getElem? (i := 45) rfl))) (by decide) (t := (.object "java/lang/String")) (t' := (.object "java/lang/String")) (by decide) (by decide))))
  have c25 := (c21.wr W22)
  obtain ⟨T26, h26, X26, e26, W26, st26⟩ := putF X22 hx hZ hown (host := "") (Or.inl (hw _ (List.mem_of_getElem? (i := 46) rfl))) Via.refl e22 c24 c25 (Or.inr ⟨(hw _ (List.mem_of_getElem? (i := 47) rfl)), rfl, hnm⟩) (hw _ (List.mem_of_getElem? (i := 28) rfl)) (ty := (.object "java/lang/String")) (by decide) rfl rfl (g := (mkF m 40 #[sR a1, sR r0, .val .null, .val .null, .val .null, .val .null, sR r5, .val .null, .val .null] [.null, (Value.ref a1)])) rfl rfl (hb hby d5_40)
  refine own_Go.by st26 ?_
  have N26 := Fr.snoc X26 N22 H1
  have O27 := O23.wr W26 H1
  have K27 := K23.wr W26 (Or.inl (List.mem_of_getElem? (i := 0) rfl))
  have F26 := c24.same W26
  refine own_Go.by (fun tq kq => XS.aloadN X26.here hx rfl (hb hby d5_43) rfl rfl kq) ?_
  refine own_Go.by (fun tq kq => XS.aload X26.here hx rfl (hb hby d5_44) rfl rfl kq) ?_
  show own_Go _ _ _ _ (T26.setTop (mkF m 46 #[sR a1, sR r0, .val .null, .val .null, .val .null, .val .null, sR r5, .val .null, .val .null] [.null, (Value.ref a1)]))
  have c28 := (((((((H9.other W2 (Or.inr (slot_ne (Or.inr (hw _ (List.mem_of_getElem? (i := 49) rfl))) (Or.inr (hw _ (List.mem_of_getElem? (i := 35) rfl))) (by decide) (t := (.object "java/lang/String")) (t' := (.object "java/lang/String")) (by decide) (by decide)))).other W6 (Or.inr (slot_ne (Or.inr (hw _ (List.mem_of_getElem? (i := 49) rfl))) (Or.inr (hw _ (List.mem_of_getElem? (i := 37) rfl))) (by decide) (t := (.object "java/lang/String")) (t' := (.object "java/lang/String")) (by decide) (by decide)))).other W10 (Or.inr (slot_ne (Or.inr (hw _ (List.mem_of_getElem? (i := 49) rfl))) (Or.inr (hw _ (List.mem_of_getElem? (i := 39) rfl))) (by decide) (t := (.object "java/lang/String")) (t' := (.object "java/lang/String")) (by decide) (by decide)))).other W14 (Or.inr (slot_ne (Or.inr (hw _ (List.mem_of_getElem? (i := 49) rfl))) (Or.inr (hw _ (List.mem_of_getElem? (i := 41) rfl))) (by decide) (t := (.object "java/lang/String")) (t' := (.object "java/lang/String")) (by decide) (by decide)))).other W18 (Or.inr (slot_ne (Or.inr (hw _ (List.mem_of_getElem? (i := 49) rfl))) (Or.inr (hw _ (List.mem_of_getElem? (i := 43) rfl))) (by decide) (t := (.object "java/lang/String")) (t' := (.object "java/lang/String")) (by decide) (by decide)))).other W22 (Or.inr (slot_ne (Or.inr (hw _ (List.mem_of_getElem? (i := 49) rfl))) (Or.inr (hw _ (List.mem_of_getElem? (i := 45) rfl))) (by decide) (t := (.object "java/lang/String")) (t' := (.object "java/lang/String")) (by decide) (by decide)))).other W26 (Or.inr (slot_ne (Or.inr (hw _ (List.mem_of_getElem? (i := 49) rfl))) (Or.inr (hw _ (List.mem_of_getElem? (i := 47) rfl))) (by decide) (t := (.object "java/lang/String")) (t' := (.object "java/lang/String")) (by decide) (by decide))))
  have c29 := (c25.wr W26)
  obtain ⟨T30, h30, X30, e30, W30, st30⟩ := putF X26 hx hZ hown (host := "") (Or.inl (hw _ (List.mem_of_getElem? (i := 48) rfl))) Via.refl e26 c28 c29 (Or.inr ⟨(hw _ (List.mem_of_getElem? (i := 49) rfl)), rfl, hnm⟩) (hw _ (List.mem_of_getElem? (i := 28) rfl)) (ty := (.object "java/lang/String")) (by decide) rfl rfl (g := (mkF m 46 #[sR a1, sR r0, .val .null, .val .null, .val .null, .val .null, sR r5, .val .null, .val .null] [.null, (Value.ref a1)])) rfl rfl (hb hby d5_46)
  refine own_Go.by st30 ?_
  have N30 := Fr.snoc X30 N26 H1
  have O31 := O27.wr W30 H1
  have K31 := K27.wr W30 (Or.inl (List.mem_of_getElem? (i := 0) rfl))
  have F30 := c28.same W30
  show own_Go _ _ _ _ (T30.setTop (mkF m 49 #[sR a1, sR r0, .val .null, .val .null, .val .null, .val .null, sR r5, .val .null, .val .null] []))
  have c32 := (c29.wr W30)
  have c33 := (((((((F2.other W6 (Or.inr (slot_ne (Or.inr (hw _ (List.mem_of_getElem? (i := 35) rfl))) (Or.inr (hw _ (List.mem_of_getElem? (i := 37) rfl))) (by decide) (t := (.object "java/lang/String")) (t' := (.object "java/lang/String")) (by decide) (by decide)))).other W10 (Or.inr (slot_ne (Or.inr (hw _ (List.mem_of_getElem? (i := 35) rfl))) (Or.inr (hw _ (List.mem_of_getElem? (i := 39) rfl))) (by decide) (t := (.object "java/lang/String")) (t' := (.object "java/lang/String")) (by decide) (by decide)))).other W14 (Or.inr (slot_ne (Or.inr (hw _ (List.mem_of_getElem? (i := 35) rfl))) (Or.inr (hw _ (List.mem_of_getElem? (i := 41) rfl))) (by decide) (t := (.object "java/lang/String")) (t' := (.object "java/lang/String")) (by decide) (by decide)))).other W18 (Or.inr (slot_ne (Or.inr (hw _ (List.mem_of_getElem? (i := 35) rfl))) (Or.inr (hw _ (List.mem_of_getElem? (i := 43) rfl))) (by decide) (t := (.object "java/lang/String")) (t' := (.object "java/lang/String")) (by decide) (by decide)))).other W22 (Or.inr (slot_ne (Or.inr (hw _ (List.mem_of_getElem? (i := 35) rfl))) (Or.inr (hw _ (List.mem_of_getElem? (i := 45) rfl))) (by decide) (t := (.object "java/lang/String")) (t' := (.object "java/lang/String")) (by decide) (by decide)))).other W26 (Or.inr (slot_ne (Or.inr (hw _ (List.mem_of_getElem? (i := 35) rfl))) (Or.inr (hw _ (List.mem_of_getElem? (i := 47) rfl))) (by decide) (t := (.object "java/lang/String")) (t' := (.object "java/lang/String")) (by decide) (by decide)))).other W30 (Or.inr (slot_ne (Or.inr (hw _ (List.mem_of_getElem? (i := 35) rfl))) (Or.inr (hw _ (List.mem_of_getElem? (i := 49) rfl))) (by decide) (t := (.object "java/lang/String")) (t' := (.object "java/lang/String")) (by decide) (by decide))))
  obtain ⟨fs, hr, hrun, hended, hW, hsame⟩ := X30.leave (v := none) (fun _ => rfl)
  refine own_Go.fin (X30.returnOut hx Bd.returns (hb hby d5_49) hr) ⟨hrun, hended, _, _, rfl, ?_, ⟨_, rfl⟩, hW, hsame.mono (by decide) (by decide)⟩
  show Q5_rnnnnrnn Z a1 r0 r5 h0 n0 _ T30.heap _
  rw [e30]
  exact ⟨rfl, N30, K31, c32, c33⟩

theorem own_ef_5_rrrrrrrr (m : MethodId) (a1 : Addr) (r0 : Addr) (r1 : Addr) (r2 : Addr) (r3 : Addr) (r4 : Addr) (r5 : Addr) (r6 : Addr) (r7 : Addr) : entryFrame m #[(Value.ref a1), (Value.ref r0), (Value.ref r1), (Value.ref r2), (Value.ref r3), (Value.ref r4), (Value.ref r5), (Value.ref r6), (Value.ref r7)] 9 = mkF m 0 #[sR a1, sR r0, sR r1, sR r2, sR r3, sR r4, sR r5, sR r6, sR r7] [] := by first | (simp [entryFrame, mkF, argsToLocals, Value.category]; done) | rfl
def Q5_rrrrrrrr (Z : State) (a1 : Addr) (r0 : Addr) (r1 : Addr) (r2 : Addr) (r3 : Addr) (r4 : Addr) (r5 : Addr) (r6 : Addr) (r7 : Addr) (h0 : Heap) (n0 : Nat) (v : Option Value) (h : Heap) (L : List Loc) : Prop := v = none ∧ Fr n0 L ∧ Keep h0 h [a1] ∧ (Exa Z h a1 "com/example/enlace/enlace/UriReference") ∧ (Fld Z h a1 "com/example/enlace/enlace/UriReference" "text" "Ljava/lang/String;" (Value.ref r0))
set_option maxRecDepth 65536 in
set_option maxHeartbeats 40000000 in
theorem rm5_rrrrrrrr (l : Launch) (Z : State) (a0 : Array Value) (hw : ∀ d ∈ tables_1, d.before a0 Z = true) (ws : List Jvm.Cond) (a1 : Addr) (r0 : Addr) (r1 : Addr) (r2 : Addr) (r3 : Addr) (r4 : Addr) (r5 : Addr) (r6 : Addr) (r7 : Addr) (h0 : Heap) (n0 : Nat) (O0 : Old Z n0 h0) (H0 : Exa Z h0 a1 "com/example/enlace/enlace/UriReference") (H1 : n0 ≤ a1) (H2 : Fld Z h0 a1 "com/example/enlace/enlace/UriReference" "text" "Ljava/lang/String;" .null) (H3 : Fld Z h0 a1 "com/example/enlace/enlace/UriReference" "scheme" "Ljava/lang/String;" .null) (H4 : Fld Z h0 a1 "com/example/enlace/enlace/UriReference" "userinfo" "Ljava/lang/String;" .null) (H5 : Fld Z h0 a1 "com/example/enlace/enlace/UriReference" "host" "Ljava/lang/String;" .null) (H6 : Fld Z h0 a1 "com/example/enlace/enlace/UriReference" "port" "Ljava/lang/String;" .null) (H7 : Fld Z h0 a1 "com/example/enlace/enlace/UriReference" "path" "Ljava/lang/String;" .null) (H8 : Fld Z h0 a1 "com/example/enlace/enlace/UriReference" "query" "Ljava/lang/String;" .null) (H9 : Fld Z h0 a1 "com/example/enlace/enlace/UriReference" "fragment" "Ljava/lang/String;" .null) :
    MetFree l (⟨"com/example/enlace/enlace/UriReference", "<init>", "(Ljava/lang/String;Ljava/lang/String;Ljava/lang/String;Ljava/lang/String;Ljava/lang/String;Ljava/lang/String;Ljava/lang/String;Ljava/lang/String;)V"⟩ : MethodName) (head1 (Jvm.Cond.code (⟨"com/example/enlace/enlace/UriReference", "<init>", "(Ljava/lang/String;Ljava/lang/String;Ljava/lang/String;Ljava/lang/String;Ljava/lang/String;Ljava/lang/String;Ljava/lang/String;Ljava/lang/String;)V"⟩ : MethodName) prog_18_method_1_code 9 none :: ws) ({ frames := 1, cells := 0, slots := 0, locals := 12 } : Room)) (fun a U => a = #[(Value.ref a1), (Value.ref r0), (Value.ref r1), (Value.ref r2), (Value.ref r3), (Value.ref r4), (Value.ref r5), (Value.ref r6), (Value.ref r7)] ∧ Z.Warmed39 U.vm ∧ U.heap = h0) (fun _ _ _ _ _ => True) (fun _ U o U' => ∃ v L, o = .returned v ∧ Q5_rrrrrrrr Z a1 r0 r1 r2 r3 r4 r5 r6 r7 h0 n0 v U'.heap L ∧ FrameEnd U o U' L ({ frames := 1, cells := 0, slots := 0, locals := 12 } : Room).cells ({ frames := 1, cells := 0, slots := 0, locals := 12 } : Room).slots) := by
  refine MetFree.of_bodySF (plainFor_of_name own_pn_com_example_enlace_enlace_UriReference) hisR ?_
  intro p e s m args below meth c s₁ Bd hml0 hP hK
  obtain ⟨rfl, hZ, hh⟩ := hP
  have hx := Bd.exec
  have hby := Bd.bytes
  have hml : c.maxLocals = 9 := hml0
  have hown : s.vm.findClass "com/example/enlace/enlace/UriReference" = some m.cls := findClass_of_methodNamed Bd.named
  have hnm := (name_of_methodNamed Bd.named Bd.method).1
  have X0 : Stand p l e ({ frames := 1, cells := 0, slots := 0, locals := 12 } : Room) s m #[(Value.ref a1), (Value.ref r0), (Value.ref r1), (Value.ref r2), (Value.ref r3), (Value.ref r4), (Value.ref r5), (Value.ref r6), (Value.ref r7)] below meth c s₁ [] 0 0 := Stand.of_body Bd
  have e0 : s₁.heap = h0 := by rw [← hh, Bd.state]; rfl
  have N0 := Fr.nil n0
  have K0 := Keep.refl h0 [a1]
  show own_Go _ _ _ _ (s₁.setTop (entryFrame m #[(Value.ref a1), (Value.ref r0), (Value.ref r1), (Value.ref r2), (Value.ref r3), (Value.ref r4), (Value.ref r5), (Value.ref r6), (Value.ref r7)] 9))
  refine own_Go.by (fun tq kq => castTop (own_ef_5_rrrrrrrr m a1 r0 r1 r2 r3 r4 r5 r6 r7) kq) ?_
  show own_Go _ _ _ _ (s₁.setTop (mkF m 0 #[sR a1, sR r0, sR r1, sR r2, sR r3, sR r4, sR r5, sR r6, sR r7] []))
  refine own_Go.by (fun tq kq => XS.aloadN X0.here hx rfl (hb hby d5_0) rfl rfl kq) ?_
  show own_Go _ _ _ _ (s₁.setTop (mkF m 1 #[sR a1, sR r0, sR r1, sR r2, sR r3, sR r4, sR r5, sR r6, sR r7] [(Value.ref a1)]))
  obtain ⟨T1, X1, e1, st1⟩ := initO X0 hx hZ hown (hw _ (List.mem_of_getElem? (i := 33) rfl)) (hw _ (List.mem_of_getElem? (i := 17) rfl)) (hw _ (List.mem_of_getElem? (i := 18) rfl)) e0 (g := (mkF m 1 #[sR a1, sR r0, sR r1, sR r2, sR r3, sR r4, sR r5, sR r6, sR r7] [(Value.ref a1)])) rfl (by rw [hml]; rfl) rfl (hb hby d5_1) (by decide) (W := 0) (by show 2 * 0 + _ ≤ _; exact Nat.le_of_eq rfl) (by decide)
  refine own_Go.by st1 ?_
  refine own_Go.by (fun tq kq => XS.aloadN X1.here hx rfl (hb hby d5_4) rfl rfl kq) ?_
  refine own_Go.by (fun tq kq => XS.aloadN X1.here hx rfl (hb hby d5_5) rfl rfl kq) ?_
  show own_Go _ _ _ _ (T1.setTop (mkF m 6 #[sR a1, sR r0, sR r1, sR r2, sR r3, sR r4, sR r5, sR r6, sR r7] [(Value.ref r0), (Value.ref a1)]))
  obtain ⟨T2, h2, X2, e2, W2, st2⟩ := putF X1 hx hZ hown (host := "") (Or.inl (hw _ (List.mem_of_getElem? (i := 34) rfl))) Via.refl e1 H2 H0 (Or.inr ⟨(hw _ (List.mem_of_getElem? (i := 35) rfl)), rfl, hnm⟩) (hw _ (List.mem_of_getElem? (i := 28) rfl)) (ty := (.object "java/lang/String")) (by decide) rfl rfl (g := (mkF m 6 #[sR a1, sR r0, sR r1, sR r2, sR r3, sR r4, sR r5, sR r6, sR r7] [(Value.ref r0), (Value.ref a1)])) rfl rfl (hb hby d5_6)
  refine own_Go.by st2 ?_
  have N2 := Fr.snoc X2 N0 H1
  have O3 := O0.wr W2 H1
  have K3 := K0.wr W2 (Or.inl (List.mem_of_getElem? (i := 0) rfl))
  have F2 := H2.same W2
  refine own_Go.by (fun tq kq => XS.aloadN X2.here hx rfl (hb hby d5_9) rfl rfl kq) ?_
  refine own_Go.by (fun tq kq => XS.aloadN X2.here hx rfl (hb hby d5_10) rfl rfl kq) ?_
  show own_Go _ _ _ _ (T2.setTop (mkF m 11 #[sR a1, sR r0, sR r1, sR r2, sR r3, sR r4, sR r5, sR r6, sR r7] [(Value.ref r1), (Value.ref a1)]))
  have c4 := (H3.other W2 (Or.inr (slot_ne (Or.inr (hw _ (List.mem_of_getElem? (i := 37) rfl))) (Or.inr (hw _ (List.mem_of_getElem? (i := 35) rfl))) (by decide) (t := (.object "java/lang/String")) (t' := (.object "java/lang/String")) (by decide) (by decide))))
  have c5 := (H0.wr W2)
  obtain ⟨T6, h6, X6, e6, W6, st6⟩ := putF X2 hx hZ hown (host := "") (Or.inl (hw _ (List.mem_of_getElem? (i := 36) rfl))) Via.refl e2 c4 c5 (Or.inr ⟨(hw _ (List.mem_of_getElem? (i := 37) rfl)), rfl, hnm⟩) (hw _ (List.mem_of_getElem? (i := 28) rfl)) (ty := (.object "java/lang/String")) (by decide) rfl rfl (g := (mkF m 11 #[sR a1, sR r0, sR r1, sR r2, sR r3, sR r4, sR r5, sR r6, sR r7] [(Value.ref r1), (Value.ref a1)])) rfl rfl (hb hby d5_11)
  refine own_Go.by st6 ?_
  have N6 := Fr.snoc X6 N2 H1
  have O7 := O3.wr W6 H1
  have K7 := K3.wr W6 (Or.inl (List.mem_of_getElem? (i := 0) rfl))
  have F6 := c4.same W6
  refine own_Go.by (fun tq kq => XS.aloadN X6.here hx rfl (hb hby d5_14) rfl rfl kq) ?_
  refine own_Go.by (fun tq kq => XS.aloadN X6.here hx rfl (hb hby d5_15) rfl rfl kq) ?_
  show own_Go _ _ _ _ (T6.setTop (mkF m 16 #[sR a1, sR r0, sR r1, sR r2, sR r3, sR r4, sR r5, sR r6, sR r7] [(Value.ref r2), (Value.ref a1)]))
  have c8 := ((H4.other W2 (Or.inr (slot_ne (Or.inr (hw _ (List.mem_of_getElem? (i := 39) rfl))) (Or.inr (hw _ (List.mem_of_getElem? (i := 35) rfl))) (by decide) (t := (.object "java/lang/String")) (t' := (.object "java/lang/String")) (by decide) (by decide)))).other W6 (Or.inr (slot_ne (Or.inr (hw _ (List.mem_of_getElem? (i := 39) rfl))) (Or.inr (hw _ (List.mem_of_getElem? (i := 37) rfl))) (by decide) (t := (.object "java/lang/String")) (t' := (.object "java/lang/String")) (by decide) (by decide))))
  have c9 := (c5.wr W6)
  obtain ⟨T10, h10, X10, e10, W10, st10⟩ := putF X6 hx hZ hown (host := "") (Or.inl (hw _ (List.mem_of_getElem? (i := 38) rfl))) Via.refl e6 c8 c9 (Or.inr ⟨(hw _ (List.mem_of_getElem? (i := 39) rfl)), rfl, hnm⟩) (hw _ (List.mem_of_getElem? (i := 28) rfl)) (ty := (.object "java/lang/String")) (by decide) rfl rfl (g := (mkF m 16 #[sR a1, sR r0, sR r1, sR r2, sR r3, sR r4, sR r5, sR r6, sR r7] [(Value.ref r2), (Value.ref a1)])) rfl rfl (hb hby d5_16)
  refine own_Go.by st10 ?_
  have N10 := Fr.snoc X10 N6 H1
  have O11 := O7.wr W10 H1
  have K11 := K7.wr W10 (Or.inl (List.mem_of_getElem? (i := 0) rfl))
  have F10 := c8.same W10
  refine own_Go.by (fun tq kq => XS.aloadN X10.here hx rfl (hb hby d5_19) rfl rfl kq) ?_
  refine own_Go.by (fun tq kq => XS.aload X10.here hx rfl (hb hby d5_20) rfl rfl kq) ?_
  show own_Go _ _ _ _ (T10.setTop (mkF m 22 #[sR a1, sR r0, sR r1, sR r2, sR r3, sR r4, sR r5, sR r6, sR r7] [(Value.ref r3), (Value.ref a1)]))
  have c12 := (((H5.other W2 (Or.inr (slot_ne (Or.inr (hw _ (List.mem_of_getElem? (i := 41) rfl))) (Or.inr (hw _ (List.mem_of_getElem? (i := 35) rfl))) (by decide) (t := (.object "java/lang/String")) (t' := (.object "java/lang/String")) (by decide) (by decide)))).other W6 (Or.inr (slot_ne (Or.inr (hw _ (List.mem_of_getElem? (i := 41) rfl))) (Or.inr (hw _ (List.mem_of_getElem? (i := 37) rfl))) (by decide) (t := (.object "java/lang/String")) (t' := (.object "java/lang/String")) (by decide) (by decide)))).other W10 (Or.inr (slot_ne (Or.inr (hw _ (List.mem_of_getElem? (i := 41) rfl))) (Or.inr (hw _ (List.mem_of_getElem? (i := 39) rfl))) (by decide) (t := (.object "java/lang/String")) (t' := (.object "java/lang/String")) (by decide) (by decide))))
  have c13 := (c9.wr W10)
  obtain ⟨T14, h14, X14, e14, W14, st14⟩ := putF X10 hx hZ hown (host := "") (Or.inl (hw _ (List.mem_of_getElem? (i := 40) rfl))) Via.refl e10 c12 c13 (Or.inr ⟨(hw _ (List.mem_of_getElem? (i := 41) rfl)), rfl, hnm⟩) (hw _ (List.mem_of_getElem? (i := 28) rfl)) (ty := (.object "java/lang/String")) (by decide) rfl rfl (g := (mkF m 22 #[sR a1, sR r0, sR r1, sR r2, sR r3, sR r4, sR r5, sR r6, sR r7] [(Value.ref r3), (Value.ref a1)])) rfl rfl (hb hby d5_22)
  refine own_Go.by st14 ?_
  have N14 := Fr.snoc X14 N10 H1
  have O15 := O11.wr W14 H1
  have K15 := K11.wr W14 (Or.inl (List.mem_of_getElem? (i := 0) rfl))
  have F14 := c12.same W14
  refine own_Go.by (fun tq kq => XS.aloadN X14.here hx rfl (hb hby d5_25) rfl rfl kq) ?_
  refine own_Go.by (fun tq kq => XS.aload X14.here hx rfl (hb hby d5_26) rfl rfl kq) ?_
  show own_Go _ _ _ _ (T14.setTop (mkF m 28 #[sR a1, sR r0, sR r1, sR r2, sR r3, sR r4, sR r5, sR r6, sR r7] [(Value.ref r4), (Value.ref a1)]))
  have c16 := ((((H6.other W2 (Or.inr (slot_ne (Or.inr (hw _ (List.mem_of_getElem? (i := 43) rfl))) (Or.inr (hw _ (List.mem_of_getElem? (i := 35) rfl))) (by decide) (t := (.object "java/lang/String")) (t' := (.object "java/lang/String")) (by decide) (by decide)))).other W6 (Or.inr (slot_ne (Or.inr (hw _ (List.mem_of_getElem? (i := 43) rfl))) (Or.inr (hw _ (List.mem_of_getElem? (i := 37) rfl))) (by decide) (t := (.object "java/lang/String")) (t' := (.object "java/lang/String")) (by decide) (by decide)))).other W10 (Or.inr (slot_ne (Or.inr (hw _ (List.mem_of_getElem? (i := 43) rfl))) (Or.inr (hw _ (List.mem_of_getElem? (i := 39) rfl))) (by decide) (t := (.object "java/lang/String")) (t' := (.object "java/lang/String")) (by decide) (by decide)))).other W14 (Or.inr (slot_ne (Or.inr (hw _ (List.mem_of_getElem? (i := 43) rfl))) (Or.inr (hw _ (List.mem_of_getElem? (i := 41) rfl))) (by decide) (t := (.object "java/lang/String")) (t' := (.object "java/lang/String")) (by decide) (by decide))))
  have c17 := (c13.wr W14)
  obtain ⟨T18, h18, X18, e18, W18, st18⟩ := putF X14 hx hZ hown (host := "") (Or.inl (hw _ (List.mem_of_getElem? (i := 42) rfl))) Via.refl e14 c16 c17 (Or.inr ⟨(hw _ (List.mem_of_getElem? (i := 43) rfl)), rfl, hnm⟩) (hw _ (List.mem_of_getElem? (i := 28) rfl)) (ty := (.object "java/lang/String")) (by decide) rfl rfl (g := (mkF m 28 #[sR a1, sR r0, sR r1, sR r2, sR r3, sR r4, sR r5, sR r6, sR r7] [(Value.ref r4), (Value.ref a1)])) rfl rfl (hb hby d5_28)
  refine own_Go.by st18 ?_
  have N18 := Fr.snoc X18 N14 H1
  have O19 := O15.wr W18 H1
  have K19 := K15.wr W18 (Or.inl (List.mem_of_getElem? (i := 0) rfl))
  have F18 := c16.same W18
  refine own_Go.by (fun tq kq => XS.aloadN X18.here hx rfl (hb hby d5_31) rfl rfl kq) ?_
  refine own_Go.by (fun tq kq => XS.aload X18.here hx rfl (hb hby d5_32) rfl rfl kq) ?_
  show own_Go _ _ _ _ (T18.setTop (mkF m 34 #[sR a1, sR r0, sR r1, sR r2, sR r3, sR r4, sR r5, sR r6, sR r7] [(Value.ref r5), (Value.ref a1)]))
  have c20 := (((((H7.other W2 (Or.inr (slot_ne (Or.inr (hw _ (List.mem_of_getElem? (i := 45) rfl))) (Or.inr (hw _ (List.mem_of_getElem? (i := 35) rfl))) (by decide) (t := (.object "java/lang/String")) (t' := (.object "java/lang/String")) (by decide) (by decide)))).other W6 (Or.inr (slot_ne (Or.inr (hw _ (List.mem_of_getElem? (i := 45) rfl))) (Or.inr (hw _ (List.mem_of_getElem? (i := 37) rfl))) (by decide) (t := (.object "java/lang/String")) (t' := (.object "java/lang/String")) (by decide) (by decide)))).other W10 (Or.inr (slot_ne (Or.inr (hw _ (List.mem_of_getElem? (i := 45) rfl))) (Or.inr (hw _ (List.mem_of_getElem? (i := 39) rfl))) (by decide) (t := (.object "java/lang/String")) (t' := (.object "java/lang/String")) (by decide) (by decide)))).other W14 (Or.inr (slot_ne (Or.inr (hw _ (List.mem_of_getElem? (i := 45) rfl))) (Or.inr (hw _ (List.mem_of_getElem? (i := 41) rfl))) (by decide) (t := (.object "java/lang/String")) (t' := (.object "java/lang/String")) (by decide) (by decide)))).other W18 (Or.inr (slot_ne (Or.inr (hw _ (List.mem_of_getElem? (i := 45) rfl))) (Or.inr (hw _ (List.mem_of_getElem? (i := 43) rfl))) (by decide) (t := (.object "java/lang/String")) (t' := (.object "java/lang/String")) (by decide) (by decide))))
  have c21 := (c17.wr W18)
  obtain ⟨T22, h22, X22, e22, W22, st22⟩ := putF X18 hx hZ hown (host := "") (Or.inl (hw _ (List.mem_of_getElem? (i := 44) rfl))) Via.refl e18 c20 c21 (Or.inr ⟨(hw _ (List.mem_of_getElem? (i := 45) rfl)), rfl, hnm⟩) (hw _ (List.mem_of_getElem? (i := 28) rfl)) (ty := (.object "java/lang/String")) (by decide) rfl rfl (g := (mkF m 34 #[sR a1, sR r0, sR r1, sR r2, sR r3, sR r4, sR r5, sR r6, sR r7] [(Value.ref r5), (Value.ref a1)])) rfl rfl (hb hby d5_34)
  refine own_Go.by st22 ?_
  have N22 := Fr.snoc X22 N18 H1
  have O23 := O19.wr W22 H1
  have K23 := K19.wr W22 (Or.inl (List.mem_of_getElem? (i := 0) rfl))
  have F22 := c20.same W22
  refine own_Go.by (fun tq kq => XS.aloadN X22.here hx rfl (hb hby d5_37) rfl rfl kq) ?_
  refine own_Go.by (fun tq kq => XS.aload X22.here hx rfl (hb hby d5_38) rfl rfl kq) ?_
  show own_Go _ _ _ _ (T22.setTop (mkF m 40 #[sR a1, sR r0, sR r1, sR r2, sR r3, sR r4, sR r5, sR r6, sR r7] [(Value.ref r6), (Value.ref a1)]))
  have c24 := ((((((H8.other W2 (Or.inr (slot_ne (Or.inr (hw _ (List.mem_of_getElem? (i := 47) rfl))) (Or.inr (hw _ (List.mem_of_getElem? (i := 35) rfl))) (by decide) (t := (.object "java/lang/String")) (t' := (.object "java/lang/String")) (by decide) (by decide)))).other W6 (Or.inr (slot_ne (Or.inr (hw _ (List.mem_of_getElem? (i := 47) rfl))) (Or.inr (hw _ (List.mem_of_getElem? (i := 37) rfl))) (by decide) (t := (.object "java/lang/String")) (t' := (.object "java/lang/String")) (by decide) (by decide)))).other W10 (Or.inr (slot_ne (Or.inr (hw _ (List.mem_of_getElem? (i := 47) rfl))) (Or.inr (hw _ (List.mem_of_getElem? (i := 39) rfl))) (by decide) (t := (.object "java/lang/String")) (t' := (.object "java/lang/String")) (by decide) (by decide)))).other W14 (Or.inr (slot_ne (Or.inr (hw _ (List.mem_of_getElem? (i := 47) rfl))) (Or.inr (hw _ (List.mem_of_getElem? (i := 41) rfl))) (by decide) (t := (.object "java/lang/String")) (t' := (.object "java/lang/String")) (by decide) (by decide)))).other W18 (Or.inr (slot_ne (Or.inr (hw _ (List.mem_of_getElem? (i := 47) rfl))) (Or.inr (hw _ (List.mem_of_getElem? (i := 43) rfl))) (by decide) (t := (.object "java/lang/String")) (t' := (.object "java/lang/String")) (by decide) (by decide)))).other W22 (Or.inr (slot_ne (Or.inr (hw _ (List.mem_of_getElem? (i := 47) rfl))) (Or.inr (hw _ (List.mem_of_getElem? (i := 45) rfl))) (by decide) (t := (.object "java/lang/String")) (t' := (.object "java/lang/String")) (by decide) (by decide))))
  have c25 := (c21.wr W22)
  obtain ⟨T26, h26, X26, e26, W26, st26⟩ := putF X22 hx hZ hown (host := "") (Or.inl (hw _ (List.mem_of_getElem? (i := 46) rfl))) Via.refl e22 c24 c25 (Or.inr ⟨(hw _ (List.mem_of_getElem? (i := 47) rfl)), rfl, hnm⟩) (hw _ (List.mem_of_getElem? (i := 28) rfl)) (ty := (.object "java/lang/String")) (by decide) rfl rfl (g := (mkF m 40 #[sR a1, sR r0, sR r1, sR r2, sR r3, sR r4, sR r5, sR r6, sR r7] [(Value.ref r6), (Value.ref a1)])) rfl rfl (hb hby d5_40)
  refine own_Go.by st26 ?_
  have N26 := Fr.snoc X26 N22 H1
  have O27 := O23.wr W26 H1
  have K27 := K23.wr W26 (Or.inl (List.mem_of_getElem? (i := 0) rfl))
  have F26 := c24.same W26
  refine own_Go.by (fun tq kq => XS.aloadN X26.here hx rfl (hb hby d5_43) rfl rfl kq) ?_
  refine own_Go.by (fun tq kq => XS.aload X26.here hx rfl (hb hby d5_44) rfl rfl kq) ?_
  show own_Go _ _ _ _ (T26.setTop (mkF m 46 #[sR a1, sR r0, sR r1, sR r2, sR r3, sR r4, sR r5, sR r6, sR r7] [(Value.ref r7), (Value.ref a1)]))
  have c28 := (((((((H9.other W2 (Or.inr (slot_ne (Or.inr (hw _ (List.mem_of_getElem? (i := 49) rfl))) (Or.inr (hw _ (List.mem_of_getElem? (i := 35) rfl))) (by decide) (t := (.object "java/lang/String")) (t' := (.object "java/lang/String")) (by decide) (by decide)))).other W6 (Or.inr (slot_ne (Or.inr (hw _ (List.mem_of_getElem? (i := 49) rfl))) (Or.inr (hw _ (List.mem_of_getElem? (i := 37) rfl))) (by decide) (t := (.object "java/lang/String")) (t' := (.object "java/lang/String")) (by decide) (by decide)))).other W10 (Or.inr (slot_ne (Or.inr (hw _ (List.mem_of_getElem? (i := 49) rfl))) (Or.inr (hw _ (List.mem_of_getElem? (i := 39) rfl))) (by decide) (t := (.object "java/lang/String")) (t' := (.object "java/lang/String")) (by decide) (by decide)))).other W14 (Or.inr (slot_ne (Or.inr (hw _ (List.mem_of_getElem? (i := 49) rfl))) (Or.inr (hw _ (List.mem_of_getElem? (i := 41) rfl))) (by decide) (t := (.object "java/lang/String")) (t' := (.object "java/lang/String")) (by decide) (by decide)))).other W18 (Or.inr (slot_ne (Or.inr (hw _ (List.mem_of_getElem? (i := 49) rfl))) (Or.inr (hw _ (List.mem_of_getElem? (i := 43) rfl))) (by decide) (t := (.object "java/lang/String")) (t' := (.object "java/lang/String")) (by decide) (by decide)))).other W22 (Or.inr (slot_ne (Or.inr (hw _ (List.mem_of_getElem? (i := 49) rfl))) (Or.inr (hw _ (List.mem_of_getElem? (i := 45) rfl))) (by decide) (t := (.object "java/lang/String")) (t' := (.object "java/lang/String")) (by decide) (by decide)))).other W26 (Or.inr (slot_ne (Or.inr (hw _ (List.mem_of_getElem? (i := 49) rfl))) (Or.inr (hw _ (List.mem_of_getElem? (i := 47) rfl))) (by decide) (t := (.object "java/lang/String")) (t' := (.object "java/lang/String")) (by decide) (by decide))))
  have c29 := (c25.wr W26)
  obtain ⟨T30, h30, X30, e30, W30, st30⟩ := putF X26 hx hZ hown (host := "") (Or.inl (hw _ (List.mem_of_getElem? (i := 48) rfl))) Via.refl e26 c28 c29 (Or.inr ⟨(hw _ (List.mem_of_getElem? (i := 49) rfl)), rfl, hnm⟩) (hw _ (List.mem_of_getElem? (i := 28) rfl)) (ty := (.object "java/lang/String")) (by decide) rfl rfl (g := (mkF m 46 #[sR a1, sR r0, sR r1, sR r2, sR r3, sR r4, sR r5, sR r6, sR r7] [(Value.ref r7), (Value.ref a1)])) rfl rfl (hb hby d5_46)
  refine own_Go.by st30 ?_
  have N30 := Fr.snoc X30 N26 H1
  have O31 := O27.wr W30 H1
  have K31 := K27.wr W30 (Or.inl (List.mem_of_getElem? (i := 0) rfl))
  have F30 := c28.same W30
  show own_Go _ _ _ _ (T30.setTop (mkF m 49 #[sR a1, sR r0, sR r1, sR r2, sR r3, sR r4, sR r5, sR r6, sR r7] []))
  have c32 := (c29.wr W30)
  have c33 := (((((((F2.other W6 (Or.inr (slot_ne (Or.inr (hw _ (List.mem_of_getElem? (i := 35) rfl))) (Or.inr (hw _ (List.mem_of_getElem? (i := 37) rfl))) (by decide) (t := (.object "java/lang/String")) (t' := (.object "java/lang/String")) (by decide) (by decide)))).other W10 (Or.inr (slot_ne (Or.inr (hw _ (List.mem_of_getElem? (i := 35) rfl))) (Or.inr (hw _ (List.mem_of_getElem? (i := 39) rfl))) (by decide) (t := (.object "java/lang/String")) (t' := (.object "java/lang/String")) (by decide) (by decide)))).other W14 (Or.inr (slot_ne (Or.inr (hw _ (List.mem_of_getElem? (i := 35) rfl))) (Or.inr (hw _ (List.mem_of_getElem? (i := 41) rfl))) (by decide) (t := (.object "java/lang/String")) (t' := (.object "java/lang/String")) (by decide) (by decide)))).other W18 (Or.inr (slot_ne (Or.inr (hw _ (List.mem_of_getElem? (i := 35) rfl))) (Or.inr (hw _ (List.mem_of_getElem? (i := 43) rfl))) (by decide) (t := (.object "java/lang/String")) (t' := (.object "java/lang/String")) (by decide) (by decide)))).other W22 (Or.inr (slot_ne (Or.inr (hw _ (List.mem_of_getElem? (i := 35) rfl))) (Or.inr (hw _ (List.mem_of_getElem? (i := 45) rfl))) (by decide) (t := (.object "java/lang/String")) (t' := (.object "java/lang/String")) (by decide) (by decide)))).other W26 (Or.inr (slot_ne (Or.inr (hw _ (List.mem_of_getElem? (i := 35) rfl))) (Or.inr (hw _ (List.mem_of_getElem? (i := 47) rfl))) (by decide) (t := (.object "java/lang/String")) (t' := (.object "java/lang/String")) (by decide) (by decide)))).other W30 (Or.inr (slot_ne (Or.inr (hw _ (List.mem_of_getElem? (i := 35) rfl))) (Or.inr (hw _ (List.mem_of_getElem? (i := 49) rfl))) (by decide) (t := (.object "java/lang/String")) (t' := (.object "java/lang/String")) (by decide) (by decide))))
  obtain ⟨fs, hr, hrun, hended, hW, hsame⟩ := X30.leave (v := none) (fun _ => rfl)
  refine own_Go.fin (X30.returnOut hx Bd.returns (hb hby d5_49) hr) ⟨hrun, hended, _, _, rfl, ?_, ⟨_, rfl⟩, hW, hsame.mono (by decide) (by decide)⟩
  show Q5_rrrrrrrr Z a1 r0 r1 r2 r3 r4 r5 r6 r7 h0 n0 _ T30.heap _
  rw [e30]
  exact ⟨rfl, N30, K31, c32, c33⟩

theorem own_ef_5_rnrrrrrr (m : MethodId) (a1 : Addr) (r0 : Addr) (r2 : Addr) (r3 : Addr) (r4 : Addr) (r5 : Addr) (r6 : Addr) (r7 : Addr) : entryFrame m #[(Value.ref a1), (Value.ref r0), .null, (Value.ref r2), (Value.ref r3), (Value.ref r4), (Value.ref r5), (Value.ref r6), (Value.ref r7)] 9 = mkF m 0 #[sR a1, sR r0, .val .null, sR r2, sR r3, sR r4, sR r5, sR r6, sR r7] [] := by first | (simp [entryFrame, mkF, argsToLocals, Value.category]; done) | rfl
def Q5_rnrrrrrr (Z : State) (a1 : Addr) (r0 : Addr) (r2 : Addr) (r3 : Addr) (r4 : Addr) (r5 : Addr) (r6 : Addr) (r7 : Addr) (h0 : Heap) (n0 : Nat) (v : Option Value) (h : Heap) (L : List Loc) : Prop := v = none ∧ Fr n0 L ∧ Keep h0 h [a1] ∧ (Exa Z h a1 "com/example/enlace/enlace/UriReference") ∧ (Fld Z h a1 "com/example/enlace/enlace/UriReference" "text" "Ljava/lang/String;" (Value.ref r0))
set_option maxRecDepth 65536 in
set_option maxHeartbeats 40000000 in
theorem rm5_rnrrrrrr (l : Launch) (Z : State) (a0 : Array Value) (hw : ∀ d ∈ tables_1, d.before a0 Z = true) (ws : List Jvm.Cond) (a1 : Addr) (r0 : Addr) (r2 : Addr) (r3 : Addr) (r4 : Addr) (r5 : Addr) (r6 : Addr) (r7 : Addr) (h0 : Heap) (n0 : Nat) (O0 : Old Z n0 h0) (H0 : Exa Z h0 a1 "com/example/enlace/enlace/UriReference") (H1 : n0 ≤ a1) (H2 : Fld Z h0 a1 "com/example/enlace/enlace/UriReference" "text" "Ljava/lang/String;" .null) (H3 : Fld Z h0 a1 "com/example/enlace/enlace/UriReference" "scheme" "Ljava/lang/String;" .null) (H4 : Fld Z h0 a1 "com/example/enlace/enlace/UriReference" "userinfo" "Ljava/lang/String;" .null) (H5 : Fld Z h0 a1 "com/example/enlace/enlace/UriReference" "host" "Ljava/lang/String;" .null) (H6 : Fld Z h0 a1 "com/example/enlace/enlace/UriReference" "port" "Ljava/lang/String;" .null) (H7 : Fld Z h0 a1 "com/example/enlace/enlace/UriReference" "path" "Ljava/lang/String;" .null) (H8 : Fld Z h0 a1 "com/example/enlace/enlace/UriReference" "query" "Ljava/lang/String;" .null) (H9 : Fld Z h0 a1 "com/example/enlace/enlace/UriReference" "fragment" "Ljava/lang/String;" .null) :
    MetFree l (⟨"com/example/enlace/enlace/UriReference", "<init>", "(Ljava/lang/String;Ljava/lang/String;Ljava/lang/String;Ljava/lang/String;Ljava/lang/String;Ljava/lang/String;Ljava/lang/String;Ljava/lang/String;)V"⟩ : MethodName) (head1 (Jvm.Cond.code (⟨"com/example/enlace/enlace/UriReference", "<init>", "(Ljava/lang/String;Ljava/lang/String;Ljava/lang/String;Ljava/lang/String;Ljava/lang/String;Ljava/lang/String;Ljava/lang/String;Ljava/lang/String;)V"⟩ : MethodName) prog_18_method_1_code 9 none :: ws) ({ frames := 1, cells := 0, slots := 0, locals := 12 } : Room)) (fun a U => a = #[(Value.ref a1), (Value.ref r0), .null, (Value.ref r2), (Value.ref r3), (Value.ref r4), (Value.ref r5), (Value.ref r6), (Value.ref r7)] ∧ Z.Warmed39 U.vm ∧ U.heap = h0) (fun _ _ _ _ _ => True) (fun _ U o U' => ∃ v L, o = .returned v ∧ Q5_rnrrrrrr Z a1 r0 r2 r3 r4 r5 r6 r7 h0 n0 v U'.heap L ∧ FrameEnd U o U' L ({ frames := 1, cells := 0, slots := 0, locals := 12 } : Room).cells ({ frames := 1, cells := 0, slots := 0, locals := 12 } : Room).slots) := by
  refine MetFree.of_bodySF (plainFor_of_name own_pn_com_example_enlace_enlace_UriReference) hisR ?_
  intro p e s m args below meth c s₁ Bd hml0 hP hK
  obtain ⟨rfl, hZ, hh⟩ := hP
  have hx := Bd.exec
  have hby := Bd.bytes
  have hml : c.maxLocals = 9 := hml0
  have hown : s.vm.findClass "com/example/enlace/enlace/UriReference" = some m.cls := findClass_of_methodNamed Bd.named
  have hnm := (name_of_methodNamed Bd.named Bd.method).1
  have X0 : Stand p l e ({ frames := 1, cells := 0, slots := 0, locals := 12 } : Room) s m #[(Value.ref a1), (Value.ref r0), .null, (Value.ref r2), (Value.ref r3), (Value.ref r4), (Value.ref r5), (Value.ref r6), (Value.ref r7)] below meth c s₁ [] 0 0 := Stand.of_body Bd
  have e0 : s₁.heap = h0 := by rw [← hh, Bd.state]; rfl
  have N0 := Fr.nil n0
  have K0 := Keep.refl h0 [a1]
  show own_Go _ _ _ _ (s₁.setTop (entryFrame m #[(Value.ref a1), (Value.ref r0), .null, (Value.ref r2), (Value.ref r3), (Value.ref r4), (Value.ref r5), (Value.ref r6), (Value.ref r7)] 9))
  refine own_Go.by (fun tq kq => castTop (own_ef_5_rnrrrrrr m a1 r0 r2 r3 r4 r5 r6 r7) kq) ?_
  show own_Go _ _ _ _ (s₁.setTop (mkF m 0 #[sR a1, sR r0, .val .null, sR r2, sR r3, sR r4, sR r5, sR r6, sR r7] []))
  refine own_Go.by (fun tq kq => XS.aloadN X0.here hx rfl (hb hby d5_0) rfl rfl kq) ?_
  show own_Go _ _ _ _ (s₁.setTop (mkF m 1 #[sR a1, sR r0, .val .null, sR r2, sR r3, sR r4, sR r5, sR r6, sR r7] [(Value.ref a1)]))
  obtain ⟨T1, X1, e1, st1⟩ := initO X0 hx hZ hown (hw _ (List.mem_of_getElem? (i := 33) rfl)) (hw _ (List.mem_of_getElem? (i := 17) rfl)) (hw _ (List.mem_of_getElem? (i := 18) rfl)) e0 (g := (mkF m 1 #[sR a1, sR r0, .val .null, sR r2, sR r3, sR r4, sR r5, sR r6, sR r7] [(Value.ref a1)])) rfl (by rw [hml]; rfl) rfl (hb hby d5_1) (by decide) (W := 0) (by show 2 * 0 + _ ≤ _; exact Nat.le_of_eq rfl) (by decide)
  refine own_Go.by st1 ?_
  refine own_Go.by (fun tq kq => XS.aloadN X1.here hx rfl (hb hby d5_4) rfl rfl kq) ?_
  refine own_Go.by (fun tq kq => XS.aloadN X1.here hx rfl (hb hby d5_5) rfl rfl kq) ?_
  show own_Go _ _ _ _ (T1.setTop (mkF m 6 #[sR a1, sR r0, .val .null, sR r2, sR r3, sR r4, sR r5, sR r6, sR r7] [(Value.ref r0), (Value.ref a1)]))
  obtain ⟨T2, h2, X2, e2, W2, st2⟩ := putF X1 hx hZ hown (host := "") (Or.inl (hw _ (List.mem_of_getElem? (i := 34) rfl))) Via.refl e1 H2 H0 (Or.inr ⟨(hw _ (List.mem_of_getElem? (i := 35) rfl)), rfl, hnm⟩) (hw _ (List.mem_of_getElem? (i := 28) rfl)) (ty := (.object "java/lang/String")) (by decide) rfl rfl (g := (mkF m 6 #[sR a1, sR r0, .val .null, sR r2, sR r3, sR r4, sR r5, sR r6, sR r7] [(Value.ref r0), (Value.ref a1)])) rfl rfl (hb hby d5_6)
  refine own_Go.by st2 ?_
  have N2 := Fr.snoc X2 N0 H1
  have O3 := O0.wr W2 H1
  have K3 := K0.wr W2 (Or.inl (List.mem_of_getElem? (i := 0) rfl))
  have F2 := H2.same W2
  refine own_Go.by (fun tq kq => XS.aloadN X2.here hx rfl (hb hby d5_9) rfl rfl kq) ?_
  refine own_Go.by (fun tq kq => XS.aloadN X2.here hx rfl (hb hby d5_10) rfl rfl kq) ?_
  show own_Go _ _ _ _ (T2.setTop (mkF m 11 #[sR a1, sR r0, .val .null, sR r2, sR r3, sR r4, sR r5, sR r6, sR r7] [.null, (Value.ref a1)]))
  have c4 := (H3.other W2 (Or.inr (slot_ne (Or.inr (hw _ (List.mem_of_getElem? (i := 37) rfl))) (Or.inr (hw _ (List.mem_of_getElem? (i := 35) rfl))) (by decide) (t := (.object "java/lang/String")) (t' := (.object "java/lang/String")) (by decide) (by decide))))
  have c5 := (H0.wr W2)
  obtain ⟨T6, h6, X6, e6, W6, st6⟩ := putF X2 hx hZ hown (host := "") (Or.inl (hw _ (List.mem_of_getElem? (i := 36) rfl))) Via.refl e2 c4 c5 (Or.inr ⟨(hw _ (List.mem_of_getElem? (i := 37) rfl)), rfl, hnm⟩) (hw _ (List.mem_of_getElem? (i := 28) rfl)) (ty := (.object "java/lang/String")) (by decide) rfl rfl (g := (mkF m 11 #[sR a1, sR r0, .val .null, sR r2, sR r3, sR r4, sR r5, sR r6, sR r7] [.null, (Value.ref a1)])) rfl rfl (hb hby d5_11)
  refine own_Go.by st6 ?_
  have N6 := Fr.snoc X6 N2 H1
  have O7 := O3.wr W6 H1
  have K7 := K3.wr W6 (Or.inl (List.mem_of_getElem? (i := 0) rfl))
  have F6 := c4.same W6
  refine own_Go.by (fun tq kq => XS.aloadN X6.here hx rfl (hb hby d5_14) rfl rfl kq) ?_
  refine own_Go.by (fun tq kq => XS.aloadN X6.here hx rfl (hb hby d5_15) rfl rfl kq) ?_
  show own_Go _ _ _ _ (T6.setTop (mkF m 16 #[sR a1, sR r0, .val .null, sR r2, sR r3, sR r4, sR r5, sR r6, sR r7] [(Value.ref r2), (Value.ref a1)]))
  have c8 := ((H4.other W2 (Or.inr (slot_ne (Or.inr (hw _ (List.mem_of_getElem? (i := 39) rfl))) (Or.inr (hw _ (List.mem_of_getElem? (i := 35) rfl))) (by decide) (t := (.object "java/lang/String")) (t' := (.object "java/lang/String")) (by decide) (by decide)))).other W6 (Or.inr (slot_ne (Or.inr (hw _ (List.mem_of_getElem? (i := 39) rfl))) (Or.inr (hw _ (List.mem_of_getElem? (i := 37) rfl))) (by decide) (t := (.object "java/lang/String")) (t' := (.object "java/lang/String")) (by decide) (by decide))))
  have c9 := (c5.wr W6)
  obtain ⟨T10, h10, X10, e10, W10, st10⟩ := putF X6 hx hZ hown (host := "") (Or.inl (hw _ (List.mem_of_getElem? (i := 38) rfl))) Via.refl e6 c8 c9 (Or.inr ⟨(hw _ (List.mem_of_getElem? (i := 39) rfl)), rfl, hnm⟩) (hw _ (List.mem_of_getElem? (i := 28) rfl)) (ty := (.object "java/lang/String")) (by decide) rfl rfl (g := (mkF m 16 #[sR a1, sR r0, .val .null, sR r2, sR r3, sR r4, sR r5, sR r6, sR r7] [(Value.ref r2), (Value.ref a1)])) rfl rfl (hb hby d5_16)
  refine own_Go.by st10 ?_
  have N10 := Fr.snoc X10 N6 H1
  have O11 := O7.wr W10 H1
  have K11 := K7.wr W10 (Or.inl (List.mem_of_getElem? (i := 0) rfl))
  have F10 := c8.same W10
  refine own_Go.by (fun tq kq => XS.aloadN X10.here hx rfl (hb hby d5_19) rfl rfl kq) ?_
  refine own_Go.by (fun tq kq => XS.aload X10.here hx rfl (hb hby d5_20) rfl rfl kq) ?_
  show own_Go _ _ _ _ (T10.setTop (mkF m 22 #[sR a1, sR r0, .val .null, sR r2, sR r3, sR r4, sR r5, sR r6, sR r7] [(Value.ref r3), (Value.ref a1)]))
  have c12 := (((H5.other W2 (Or.inr (slot_ne (Or.inr (hw _ (List.mem_of_getElem? (i := 41) rfl))) (Or.inr (hw _ (List.mem_of_getElem? (i := 35) rfl))) (by decide) (t := (.object "java/lang/String")) (t' := (.object "java/lang/String")) (by decide) (by decide)))).other W6 (Or.inr (slot_ne (Or.inr (hw _ (List.mem_of_getElem? (i := 41) rfl))) (Or.inr (hw _ (List.mem_of_getElem? (i := 37) rfl))) (by decide) (t := (.object "java/lang/String")) (t' := (.object "java/lang/String")) (by decide) (by decide)))).other W10 (Or.inr (slot_ne (Or.inr (hw _ (List.mem_of_getElem? (i := 41) rfl))) (Or.inr (hw _ (List.mem_of_getElem? (i := 39) rfl))) (by decide) (t := (.object "java/lang/String")) (t' := (.object "java/lang/String")) (by decide) (by decide))))
  have c13 := (c9.wr W10)
  obtain ⟨T14, h14, X14, e14, W14, st14⟩ := putF X10 hx hZ hown (host := "") (Or.inl (hw _ (List.mem_of_getElem? (i := 40) rfl))) Via.refl e10 c12 c13 (Or.inr ⟨(hw _ (List.mem_of_getElem? (i := 41) rfl)), rfl, hnm⟩) (hw _ (List.mem_of_getElem? (i := 28) rfl)) (ty := (.object "java/lang/String")) (by decide) rfl rfl (g := (mkF m 22 #[sR a1, sR r0, .val .null, sR r2, sR r3, sR r4, sR r5, sR r6, sR r7] [(Value.ref r3), (Value.ref a1)])) rfl rfl (hb hby d5_22)
  refine own_Go.by st14 ?_
  have N14 := Fr.snoc X14 N10 H1
  have O15 := O11.wr W14 H1
  have K15 := K11.wr W14 (Or.inl (List.mem_of_getElem? (i := 0) rfl))
  have F14 := c12.same W14
  refine own_Go.by (fun tq kq => XS.aloadN X14.here hx rfl (hb hby d5_25) rfl rfl kq) ?_
  refine own_Go.by (fun tq kq => XS.aload X14.here hx rfl (hb hby d5_26) rfl rfl kq) ?_
  show own_Go _ _ _ _ (T14.setTop (mkF m 28 #[sR a1, sR r0, .val .null, sR r2, sR r3, sR r4, sR r5, sR r6, sR r7] [(Value.ref r4), (Value.ref a1)]))
  have c16 := ((((H6.other W2 (Or.inr (slot_ne (Or.inr (hw _ (List.mem_of_getElem? (i := 43) rfl))) (Or.inr (hw _ (List.mem_of_getElem? (i := 35) rfl))) (by decide) (t := (.object "java/lang/String")) (t' := (.object "java/lang/String")) (by decide) (by decide)))).other W6 (Or.inr (slot_ne (Or.inr (hw _ (List.mem_of_getElem? (i := 43) rfl))) (Or.inr (hw _ (List.mem_of_getElem? (i := 37) rfl))) (by decide) (t := (.object "java/lang/String")) (t' := (.object "java/lang/String")) (by decide) (by decide)))).other W10 (Or.inr (slot_ne (Or.inr (hw _ (List.mem_of_getElem? (i := 43) rfl))) (Or.inr (hw _ (List.mem_of_getElem? (i := 39) rfl))) (by decide) (t := (.object "java/lang/String")) (t' := (.object "java/lang/String")) (by decide) (by decide)))).other W14 (Or.inr (slot_ne (Or.inr (hw _ (List.mem_of_getElem? (i := 43) rfl))) (Or.inr (hw _ (List.mem_of_getElem? (i := 41) rfl))) (by decide) (t := (.object "java/lang/String")) (t' := (.object "java/lang/String")) (by decide) (by decide))))
  have c17 := (c13.wr W14)
  obtain ⟨T18, h18, X18, e18, W18, st18⟩ := putF X14 hx hZ hown (host := "") (Or.inl (hw _ (List.mem_of_getElem? (i := 42) rfl))) Via.refl e14 c16 c17 (Or.inr ⟨(hw _ (List.mem_of_getElem? (i := 43) rfl)), rfl, hnm⟩) (hw _ (List.mem_of_getElem? (i := 28) rfl)) (ty := (.object "java/lang/String")) (by decide) rfl rfl (g := (mkF m 28 #[sR a1, sR r0, .val .null, sR r2, sR r3, sR r4, sR r5, sR r6, sR r7] [(Value.ref r4), (Value.ref a1)])) rfl rfl (hb hby d5_28)
  refine own_Go.by st18 ?_
  have N18 := Fr.snoc X18 N14 H1
  have O19 := O15.wr W18 H1
  have K19 := K15.wr W18 (Or.inl (List.mem_of_getElem? (i := 0) rfl))
  have F18 := c16.same W18
  refine own_Go.by (fun tq kq => XS.aloadN X18.here hx rfl (hb hby d5_31) rfl rfl kq) ?_
  refine own_Go.by (fun tq kq => XS.aload X18.here hx rfl (hb hby d5_32) rfl rfl kq) ?_
  show own_Go _ _ _ _ (T18.setTop (mkF m 34 #[sR a1, sR r0, .val .null, sR r2, sR r3, sR r4, sR r5, sR r6, sR r7] [(Value.ref r5), (Value.ref a1)]))
  have c20 := (((((H7.other W2 (Or.inr (slot_ne (Or.inr (hw _ (List.mem_of_getElem? (i := 45) rfl))) (Or.inr (hw _ (List.mem_of_getElem? (i := 35) rfl))) (by decide) (t := (.object "java/lang/String")) (t' := (.object "java/lang/String")) (by decide) (by decide)))).other W6 (Or.inr (slot_ne (Or.inr (hw _ (List.mem_of_getElem? (i := 45) rfl))) (Or.inr (hw _ (List.mem_of_getElem? (i := 37) rfl))) (by decide) (t := (.object "java/lang/String")) (t' := (.object "java/lang/String")) (by decide) (by decide)))).other W10 (Or.inr (slot_ne (Or.inr (hw _ (List.mem_of_getElem? (i := 45) rfl))) (Or.inr (hw _ (List.mem_of_getElem? (i := 39) rfl))) (by decide) (t := (.object "java/lang/String")) (t' := (.object "java/lang/String")) (by decide) (by decide)))).other W14 (Or.inr (slot_ne (Or.inr (hw _ (List.mem_of_getElem? (i := 45) rfl))) (Or.inr (hw _ (List.mem_of_getElem? (i := 41) rfl))) (by decide) (t := (.object "java/lang/String")) (t' := (.object "java/lang/String")) (by decide) (by decide)))).other W18 (Or.inr (slot_ne (Or.inr (hw _ (List.mem_of_getElem? (i := 45) rfl))) (Or.inr (hw _ (List.mem_of_getElem? (i := 43) rfl))) (by decide) (t := (.object "java/lang/String")) (t' := (.object "java/lang/String")) (by decide) (by decide))))
  have c21 := (c17.wr W18)
  obtain ⟨T22, h22, X22, e22, W22, st22⟩ := putF X18 hx hZ hown (host := "") (Or.inl (hw _ (List.mem_of_getElem? (i := 44) rfl))) Via.refl e18 c20 c21 (Or.inr ⟨(hw _ (List.mem_of_getElem? (i := 45) rfl)), rfl, hnm⟩) (hw _ (List.mem_of_getElem? (i := 28) rfl)) (ty := (.object "java/lang/String")) (by decide) rfl rfl (g := (mkF m 34 #[sR a1, sR r0, .val .null, sR r2, sR r3, sR r4, sR r5, sR r6, sR r7] [(Value.ref r5), (Value.ref a1)])) rfl rfl (hb hby d5_34)
  refine own_Go.by st22 ?_
  have N22 := Fr.snoc X22 N18 H1
  have O23 := O19.wr W22 H1
  have K23 := K19.wr W22 (Or.inl (List.mem_of_getElem? (i := 0) rfl))
  have F22 := c20.same W22
  refine own_Go.by (fun tq kq => XS.aloadN X22.here hx rfl (hb hby d5_37) rfl rfl kq) ?_
  refine own_Go.by (fun tq kq => XS.aload X22.here hx rfl (hb hby d5_38) rfl rfl kq) ?_
  show own_Go _ _ _ _ (T22.setTop (mkF m 40 #[sR a1, sR r0, .val .null, sR r2, sR r3, sR r4, sR r5, sR r6, sR r7] [(Value.ref r6), (Value.ref a1)]))
  have c24 := ((((((H8.other W2 (Or.inr (slot_ne (Or.inr (hw _ (List.mem_of_getElem? (i := 47) rfl))) (Or.inr (hw _ (List.mem_of_getElem? (i := 35) rfl))) (by decide) (t := (.object "java/lang/String")) (t' := (.object "java/lang/String")) (by decide) (by decide)))).other W6 (Or.inr (slot_ne (Or.inr (hw _ (List.mem_of_getElem? (i := 47) rfl))) (Or.inr (hw _ (List.mem_of_getElem? (i := 37) rfl))) (by decide) (t := (.object "java/lang/String")) (t' := (.object "java/lang/String")) (by decide) (by decide)))).other W10 (Or.inr (slot_ne (Or.inr (hw _ (List.mem_of_getElem? (i := 47) rfl))) (Or.inr (hw _ (List.mem_of_getElem? (i := 39) rfl))) (by decide) (t := (.object "java/lang/String")) (t' := (.object "java/lang/String")) (by decide) (by decide)))).other W14 (Or.inr (slot_ne (Or.inr (hw _ (List.mem_of_getElem? (i := 47) rfl))) (Or.inr (hw _ (List.mem_of_getElem? (i := 41) rfl))) (by decide) (t := (.object "java/lang/String")) (t' := (.object "java/lang/String")) (by decide) (by decide)))).other W18 (Or.inr (slot_ne (Or.inr (hw _ (List.mem_of_getElem? (i := 47) rfl))) (Or.inr (hw _ (List.mem_of_getElem? (i := 43) rfl))) (by decide) (t := (.object "java/lang/String")) (t' := (.object "java/lang/String")) (by decide) (by decide)))).other W22 (Or.inr (slot_ne (Or.inr (hw _ (List.mem_of_getElem? (i := 47) rfl))) (Or.inr (hw _ (List.mem_of_getElem? (i := 45) rfl))) (by decide) (t := (.object "java/lang/String")) (t' := (.object "java/lang/String")) (by decide) (by decide))))
  have c25 := (c21.wr W22)
  obtain ⟨T26, h26, X26, e26, W26, st26⟩ := putF X22 hx hZ hown (host := "") (Or.inl (hw _ (List.mem_of_getElem? (i := 46) rfl))) Via.refl e22 c24 c25 (Or.inr ⟨(hw _ (List.mem_of_getElem? (i := 47) rfl)), rfl, hnm⟩) (hw _ (List.mem_of_getElem? (i := 28) rfl)) (ty := (.object "java/lang/String")) (by decide) rfl rfl (g := (mkF m 40 #[sR a1, sR r0, .val .null, sR r2, sR r3, sR r4, sR r5, sR r6, sR r7] [(Value.ref r6), (Value.ref a1)])) rfl rfl (hb hby d5_40)
  refine own_Go.by st26 ?_
  have N26 := Fr.snoc X26 N22 H1
  have O27 := O23.wr W26 H1
  have K27 := K23.wr W26 (Or.inl (List.mem_of_getElem? (i := 0) rfl))
  have F26 := c24.same W26
  refine own_Go.by (fun tq kq => XS.aloadN X26.here hx rfl (hb hby d5_43) rfl rfl kq) ?_
  refine own_Go.by (fun tq kq => XS.aload X26.here hx rfl (hb hby d5_44) rfl rfl kq) ?_
  show own_Go _ _ _ _ (T26.setTop (mkF m 46 #[sR a1, sR r0, .val .null, sR r2, sR r3, sR r4, sR r5, sR r6, sR r7] [(Value.ref r7), (Value.ref a1)]))
  have c28 := (((((((H9.other W2 (Or.inr (slot_ne (Or.inr (hw _ (List.mem_of_getElem? (i := 49) rfl))) (Or.inr (hw _ (List.mem_of_getElem? (i := 35) rfl))) (by decide) (t := (.object "java/lang/String")) (t' := (.object "java/lang/String")) (by decide) (by decide)))).other W6 (Or.inr (slot_ne (Or.inr (hw _ (List.mem_of_getElem? (i := 49) rfl))) (Or.inr (hw _ (List.mem_of_getElem? (i := 37) rfl))) (by decide) (t := (.object "java/lang/String")) (t' := (.object "java/lang/String")) (by decide) (by decide)))).other W10 (Or.inr (slot_ne (Or.inr (hw _ (List.mem_of_getElem? (i := 49) rfl))) (Or.inr (hw _ (List.mem_of_getElem? (i := 39) rfl))) (by decide) (t := (.object "java/lang/String")) (t' := (.object "java/lang/String")) (by decide) (by decide)))).other W14 (Or.inr (slot_ne (Or.inr (hw _ (List.mem_of_getElem? (i := 49) rfl))) (Or.inr (hw _ (List.mem_of_getElem? (i := 41) rfl))) (by decide) (t := (.object "java/lang/String")) (t' := (.object "java/lang/String")) (by decide) (by decide)))).other W18 (Or.inr (slot_ne (Or.inr (hw _ (List.mem_of_getElem? (i := 49) rfl))) (Or.inr (hw _ (List.mem_of_getElem? (i := 43) rfl))) (by decide) (t := (.object "java/lang/String")) (t' := (.object "java/lang/String")) (by decide) (by decide)))).other W22 (Or.inr (slot_ne (Or.inr (hw _ (List.mem_of_getElem? (i := 49) rfl))) (Or.inr (hw _ (List.mem_of_getElem? (i := 45) rfl))) (by decide) (t := (.object "java/lang/String")) (t' := (.object "java/lang/String")) (by decide) (by decide)))).other W26 (Or.inr (slot_ne (Or.inr (hw _ (List.mem_of_getElem? (i := 49) rfl))) (Or.inr (hw _ (List.mem_of_getElem? (i := 47) rfl))) (by decide) (t := (.object "java/lang/String")) (t' := (.object "java/lang/String")) (by decide) (by decide))))
  have c29 := (c25.wr W26)
  obtain ⟨T30, h30, X30, e30, W30, st30⟩ := putF X26 hx hZ hown (host := "") (Or.inl (hw _ (List.mem_of_getElem? (i := 48) rfl))) Via.refl e26 c28 c29 (Or.inr ⟨(hw _ (List.mem_of_getElem? (i := 49) rfl)), rfl, hnm⟩) (hw _ (List.mem_of_getElem? (i := 28) rfl)) (ty := (.object "java/lang/String")) (by decide) rfl rfl (g := (mkF m 46 #[sR a1, sR r0, .val .null, sR r2, sR r3, sR r4, sR r5, sR r6, sR r7] [(Value.ref r7), (Value.ref a1)])) rfl rfl (hb hby d5_46)
  refine own_Go.by st30 ?_
  have N30 := Fr.snoc X30 N26 H1
  have O31 := O27.wr W30 H1
  have K31 := K27.wr W30 (Or.inl (List.mem_of_getElem? (i := 0) rfl))
  have F30 := c28.same W30
  show own_Go _ _ _ _ (T30.setTop (mkF m 49 #[sR a1, sR r0, .val .null, sR r2, sR r3, sR r4, sR r5, sR r6, sR r7] []))
  have c32 := (c29.wr W30)
  have c33 := (((((((F2.other W6 (Or.inr (slot_ne (Or.inr (hw _ (List.mem_of_getElem? (i := 35) rfl))) (Or.inr (hw _ (List.mem_of_getElem? (i := 37) rfl))) (by decide) (t := (.object "java/lang/String")) (t' := (.object "java/lang/String")) (by decide) (by decide)))).other W10 (Or.inr (slot_ne (Or.inr (hw _ (List.mem_of_getElem? (i := 35) rfl))) (Or.inr (hw _ (List.mem_of_getElem? (i := 39) rfl))) (by decide) (t := (.object "java/lang/String")) (t' := (.object "java/lang/String")) (by decide) (by decide)))).other W14 (Or.inr (slot_ne (Or.inr (hw _ (List.mem_of_getElem? (i := 35) rfl))) (Or.inr (hw _ (List.mem_of_getElem? (i := 41) rfl))) (by decide) (t := (.object "java/lang/String")) (t' := (.object "java/lang/String")) (by decide) (by decide)))).other W18 (Or.inr (slot_ne (Or.inr (hw _ (List.mem_of_getElem? (i := 35) rfl))) (Or.inr (hw _ (List.mem_of_getElem? (i := 43) rfl))) (by decide) (t := (.object "java/lang/String")) (t' := (.object "java/lang/String")) (by decide) (by decide)))).other W22 (Or.inr (slot_ne (Or.inr (hw _ (List.mem_of_getElem? (i := 35) rfl))) (Or.inr (hw _ (List.mem_of_getElem? (i := 45) rfl))) (by decide) (t := (.object "java/lang/String")) (t' := (.object "java/lang/String")) (by decide) (by decide)))).other W26 (Or.inr (slot_ne (Or.inr (hw _ (List.mem_of_getElem? (i := 35) rfl))) (Or.inr (hw _ (List.mem_of_getElem? (i := 47) rfl))) (by decide) (t := (.object "java/lang/String")) (t' := (.object "java/lang/String")) (by decide) (by decide)))).other W30 (Or.inr (slot_ne (Or.inr (hw _ (List.mem_of_getElem? (i := 35) rfl))) (Or.inr (hw _ (List.mem_of_getElem? (i := 49) rfl))) (by decide) (t := (.object "java/lang/String")) (t' := (.object "java/lang/String")) (by decide) (by decide))))
  obtain ⟨fs, hr, hrun, hended, hW, hsame⟩ := X30.leave (v := none) (fun _ => rfl)
  refine own_Go.fin (X30.returnOut hx Bd.returns (hb hby d5_49) hr) ⟨hrun, hended, _, _, rfl, ?_, ⟨_, rfl⟩, hW, hsame.mono (by decide) (by decide)⟩
  show Q5_rnrrrrrr Z a1 r0 r2 r3 r4 r5 r6 r7 h0 n0 _ T30.heap _
  rw [e30]
  exact ⟨rfl, N30, K31, c32, c33⟩

theorem own_pd2 : parseMethodDescriptor "(Ljava/lang/Object;)Z" = some ⟨[(.object "java/lang/Object")], some .boolean⟩ := by decide +kernel
theorem d6_0 : decode prog_18_method_19_code 0 = .ok (.aload_n 1, 1) := by decide +kernel
theorem d6_1 : decode prog_18_method_19_code 1 = .ok (.instanceof 8, 3) := by decide +kernel
theorem d6_4 : decode prog_18_method_19_code 4 = .ok (.ifCond .eq 24, 3) := by decide +kernel
theorem d6_7 : decode prog_18_method_19_code 7 = .ok (.aload_n 0, 1) := by decide +kernel
theorem d6_8 : decode prog_18_method_19_code 8 = .ok (.getfield 7, 3) := by decide +kernel
theorem d6_11 : decode prog_18_method_19_code 11 = .ok (.aload_n 1, 1) := by decide +kernel
theorem d6_12 : decode prog_18_method_19_code 12 = .ok (.checkcast 8, 3) := by decide +kernel
theorem d6_15 : decode prog_18_method_19_code 15 = .ok (.getfield 7, 3) := by decide +kernel
theorem d6_18 : decode prog_18_method_19_code 18 = .ok (.invokevirtual 144, 3) := by decide +kernel
theorem d6_21 : decode prog_18_method_19_code 21 = .ok (.ifCond .eq 7, 3) := by decide +kernel
theorem d6_24 : decode prog_18_method_19_code 24 = .ok (.iconst 1, 1) := by decide +kernel
theorem d6_25 : decode prog_18_method_19_code 25 = .ok (.goto 4, 3) := by decide +kernel
theorem d6_28 : decode prog_18_method_19_code 28 = .ok (.iconst 0, 1) := by decide +kernel
theorem d6_29 : decode prog_18_method_19_code 29 = .ok (.ireturn, 1) := by decide +kernel
theorem own_ef_6_a (m : MethodId) (a1 : Addr) (a2 : Addr) : entryFrame m #[(Value.ref a1), (Value.ref a2)] 2 = mkF m 0 #[sR a1, sR a2] [] := by first | (simp [entryFrame, mkF, argsToLocals, Value.category]; done) | rfl
def Q6_a (Z : State) (a1 : Addr) (a2 : Addr) (zc : Int32) (s1 : Addr) (t1 : Addr) (k1 : ClassId) (N1 : Int32) (w1 : List Value) (cs1 : List Int32) (s2 : Addr) (t2 : Addr) (k2 : ClassId) (N2 : Int32) (w2 : List Value) (cs2 : List Int32) (h0 : Heap) (n0 : Nat) (v : Option Value) (h : Heap) (L : List Loc) : Prop := ∃ (r : Int32), v = some (Value.int r) ∧ Fr n0 L ∧ h = h0 ∧ ((r = (0 : Int32) ∧ ¬ cs1 = cs2) ∨ (r = (1 : Int32) ∧ cs1 = cs2))
set_option maxRecDepth 65536 in
set_option maxHeartbeats 40000000 in
theorem rm6_a (l : Launch) (Z : State) (a0 : Array Value) (hw : ∀ d ∈ tables_1, d.before a0 Z = true) (ws : List Jvm.Cond) (a1 : Addr) (a2 : Addr) (zc : Int32) (s1 : Addr) (t1 : Addr) (k1 : ClassId) (N1 : Int32) (w1 : List Value) (cs1 : List Int32) (s2 : Addr) (t2 : Addr) (k2 : ClassId) (N2 : Int32) (w2 : List Value) (cs2 : List Int32) (h0 : Heap) (n0 : Nat) (O0 : Old Z n0 h0) (H0 : Sta Z Z.heap "java/lang/String" "COMPACT_STRINGS" "Z" (Value.int zc)) (hzc : ¬ (zc = (0 : Int32))) (H2 : Exa Z h0 a1 "com/example/enlace/enlace/UriReference") (H3 : Exa Z h0 a2 "com/example/enlace/enlace/UriReference") (H4 : Fld Z h0 a1 "com/example/enlace/enlace/UriReference" "text" "Ljava/lang/String;" (Value.ref s1)) (H5 : Exa Z h0 s1 "java/lang/String") (H6 : Fld Z h0 s1 "java/lang/String" "coder" "B" (Value.int (0 : Int32))) (H7 : Fld Z h0 s1 "java/lang/String" "value" "[B" (Value.ref t1)) (H8 : Arv Z h0 t1 k1 .byte N1 w1 (Value.int (0 : Int32))) (hk1 : own_cod cs1 N1 w1) (H10 : Fld Z h0 a2 "com/example/enlace/enlace/UriReference" "text" "Ljava/lang/String;" (Value.ref s2)) (H11 : Exa Z h0 s2 "java/lang/String") (H12 : Fld Z h0 s2 "java/lang/String" "coder" "B" (Value.int (0 : Int32))) (H13 : Fld Z h0 s2 "java/lang/String" "value" "[B" (Value.ref t2)) (H14 : Arv Z h0 t2 k2 .byte N2 w2 (Value.int (0 : Int32))) (hk2 : own_cod cs2 N2 w2) :
    MetFree l (⟨"com/example/enlace/enlace/UriReference", "equals", "(Ljava/lang/Object;)Z"⟩ : MethodName) (head1 (Jvm.Cond.code (⟨"com/example/enlace/enlace/UriReference", "equals", "(Ljava/lang/Object;)Z"⟩ : MethodName) prog_18_method_19_code 2 (some .boolean) :: ws) ({ frames := 2, cells := 0, slots := 0, locals := 28 } : Room)) (fun a U => a = #[(Value.ref a1), (Value.ref a2)] ∧ Z.Warmed39 U.vm ∧ U.heap = h0) (fun _ _ _ _ _ => True) (fun _ U o U' => ∃ v L, o = .returned v ∧ Q6_a Z a1 a2 zc s1 t1 k1 N1 w1 cs1 s2 t2 k2 N2 w2 cs2 h0 n0 v U'.heap L ∧ FrameEnd U o U' L ({ frames := 2, cells := 0, slots := 0, locals := 28 } : Room).cells ({ frames := 2, cells := 0, slots := 0, locals := 28 } : Room).slots) := by
  refine MetFree.of_bodySF (plainFor_of_name own_pn_com_example_enlace_enlace_UriReference) hisR ?_
  intro p e s m args below meth c s₁ Bd hml0 hP hK
  obtain ⟨rfl, hZ, hh⟩ := hP
  have hx := Bd.exec
  have hby := Bd.bytes
  have hml : c.maxLocals = 2 := hml0
  have hown : s.vm.findClass "com/example/enlace/enlace/UriReference" = some m.cls := findClass_of_methodNamed Bd.named
  have hnm := (name_of_methodNamed Bd.named Bd.method).1
  have X0 : Stand p l e ({ frames := 2, cells := 0, slots := 0, locals := 28 } : Room) s m #[(Value.ref a1), (Value.ref a2)] below meth c s₁ [] 0 0 := Stand.of_body Bd
  have e0 : s₁.heap = h0 := by rw [← hh, Bd.state]; rfl
  have N0 := Fr.nil n0
  have K0 : Keep h0 h0 [] := Keep.refl h0 []
  show own_Go _ _ _ _ (s₁.setTop (entryFrame m #[(Value.ref a1), (Value.ref a2)] 2))
  refine own_Go.by (fun tq kq => castTop (own_ef_6_a m a1 a2) kq) ?_
  show own_Go _ _ _ _ (s₁.setTop (mkF m 0 #[sR a1, sR a2] []))
  refine own_Go.by (fun tq kq => XS.aloadN X0.here hx rfl (hb hby d6_0) rfl rfl kq) ?_
  show own_Go _ _ _ _ (s₁.setTop (mkF m 1 #[sR a1, sR a2] [(Value.ref a2)]))
  obtain ⟨T1, X1, e1, st1⟩ := instY X0 hx hZ hown (hw _ (List.mem_of_getElem? (i := 62) rfl)) e0 (Ins.self H3) (g := (mkF m 1 #[sR a1, sR a2] [(Value.ref a2)])) rfl rfl (hb hby d6_1)
  refine own_Go.by st1 ?_
  show own_Go _ _ _ _ (T1.setTop (mkF m 4 #[sR a1, sR a2] [(Value.int (1 : Int32))]))
  refine own_Go.by (fun tq kq => XS.ifNo X1.here hx rfl (hb hby d6_4) rfl ((if0 _ _).trans (feq (by decide : ¬ ((1 : Int32) = (0 : Int32)))).1) kq) ?_
  refine own_Go.by (fun tq kq => XS.aloadN X1.here hx rfl (hb hby d6_7) rfl rfl kq) ?_
  show own_Go _ _ _ _ (T1.setTop (mkF m 8 #[sR a1, sR a2] [(Value.ref a1)]))
  obtain ⟨T2, X2, e2, st2⟩ := getF X1 hx hZ hown (host := "") (Or.inl (hw _ (List.mem_of_getElem? (i := 34) rfl))) Via.refl e1 H4 (g := (mkF m 8 #[sR a1, sR a2] [(Value.ref a1)])) rfl rfl (hb hby d6_8)
  refine own_Go.by st2 ?_
  refine own_Go.by (fun tq kq => XS.aloadN X2.here hx rfl (hb hby d6_11) rfl rfl kq) ?_
  show own_Go _ _ _ _ (T2.setTop (mkF m 12 #[sR a1, sR a2] [(Value.ref a2), (Value.ref s1)]))
  obtain ⟨T3, X3, e3, st3⟩ := castY X2 hx hZ hown (hw _ (List.mem_of_getElem? (i := 62) rfl)) e2 (Ins.self H3) (g := (mkF m 12 #[sR a1, sR a2] [(Value.ref a2), (Value.ref s1)])) rfl rfl (hb hby d6_12)
  refine own_Go.by st3 ?_
  show own_Go _ _ _ _ (T3.setTop (mkF m 15 #[sR a1, sR a2] [(Value.ref a2), (Value.ref s1)]))
  obtain ⟨T4, X4, e4, st4⟩ := getF X3 hx hZ hown (host := "") (Or.inl (hw _ (List.mem_of_getElem? (i := 34) rfl))) Via.refl e3 H10 (g := (mkF m 15 #[sR a1, sR a2] [(Value.ref a2), (Value.ref s1)])) rfl rfl (hb hby d6_15)
  refine own_Go.by st4 ?_
  show own_Go _ _ _ _ (T4.setTop (mkF m 18 #[sR a1, sR a2] [(Value.ref s2), (Value.ref s1)]))
  obtain ⟨cq5, kq5, q5a, q5b, q5c⟩ := isOf hZ e4 H5
  obtain ⟨_, _, ⟨T5, L5, k5, n5⟩, -, X5, ⟨Lc5, hQ5, l5, y5, z5⟩, st5⟩ := X4.virtualBack hx (y := (⟨"java/lang/String", "equals", "(Ljava/lang/Object;)Z"⟩ : MethodName)) (z := (⟨"java/lang/String", "equals", "(Ljava/lang/Object;)Z"⟩ : MethodName)) hown (mvT hZ (hw _ (List.mem_of_getElem? (i := 64) rfl))) (mvT hZ (hw _ (List.mem_of_getElem? (i := 65) rfl))) (notFace_of_selects (args := #[]) (mvT hZ (hw _ (List.mem_of_getElem? (i := 67) rfl)))) (mvT hZ (hw _ (List.mem_of_getElem? (i := 67) rfl))) (mvT hZ (hw _ (List.mem_of_getElem? (i := 66) rfl))) (by decide) (StrChars.Road.eqW (W := 0) hZ (fun d hd => hw d (own_heq d hd)) (kI := 4) (hw _ (List.mem_of_getElem? (i := 6) rfl)) H5 H7 H6 H8 hk1.1 (own_up _ hk1.2.1) hk1.2.2 H11 H13 H12 H14 hk2.1 (own_up _ hk2.2.1) hk2.2.2 (H0.ext O0.2) hzc (by decide) (by decide)) q5a q5c (g := (mkF m 18 #[sR a1, sR a2] [(Value.ref s2), (Value.ref s1)])) rfl (by rw [hml]; rfl) (Steps.refl _) (argsL := [(Value.ref s2)]) (rest := []) (lenOf own_pd2 rfl) rfl (by show 2 * 0 + _ ≤ _; exact Nat.le_of_eq rfl) (hb hby d6_18) (fun _ _ => ⟨rfl, e4, (by decide : 0 + 0 ≤ _), (by decide : 0 + 0 ≤ _)⟩)
  dsimp only [Pt.U, Pt.locs, Pt.cells, Pt.slots] at X5 l5 y5 z5 st5 hQ5
  subst l5 y5 z5
  refine own_Go.by (fun tq kq => st5.trans kq) ?_
  obtain ⟨hv5, rfl, e5⟩ := hQ5
  obtain ⟨q5, rfl, heq5⟩ := own_eqv hv5
  have N5 := Fr.app N0 (Fr.nil n0)
  show own_Go _ _ _ _ (T5.setTop (mkF m 21 #[sR a1, sR a2] [(Value.int q5)]))
  by_cases hc21_6 : q5 = (0 : Int32)
  ·
    refine own_Go.by (fun tq kq => XS.ifYes X5.here hx rfl (pc0 := 21) (pc' := 28) rfl (hb hby d6_21) rfl ((if0 _ _).trans (teq hc21_6).1) (by decide) (by decide) kq) ?_
    refine own_Go.by (fun tq kq => XS.iconst X5.here hx rfl (hb hby d6_28) kq) ?_
    show own_Go _ _ _ _ (T5.setTop (mkF m 29 #[sR a1, sR a2] [(Value.int (0 : Int32))]))
    obtain ⟨fs, hr, hrun, hended, hW, hsame⟩ := X5.leave (v := some (Value.int (nar .boolean (0 : Int32)))) (fun h => by rw [Bd.returns] at h; cases h)
    refine own_Go.fin (retN X5 hx (t := .boolean) Bd.returns (by simp) (hb hby d6_29) hr) ⟨hrun, hended, _, _, rfl, ?_, ⟨_, rfl⟩, hW, hsame.mono (by decide) (by decide)⟩
    show Q6_a Z a1 a2 zc s1 t1 k1 N1 w1 cs1 s2 t2 k2 N2 w2 cs2 h0 n0 _ T5.heap _
    rw [e5]
    exact ⟨(nar .boolean (0 : Int32)), rfl, N5, rfl, (Or.inl ⟨rfl, own_eqF heq5 hc21_6⟩)⟩
  ·
    refine own_Go.by (fun tq kq => XS.ifNo X5.here hx rfl (hb hby d6_21) rfl ((if0 _ _).trans (feq hc21_6).1) kq) ?_
    refine own_Go.by (fun tq kq => XS.iconst X5.here hx rfl (hb hby d6_24) kq) ?_
    refine own_Go.by (fun tq kq => XS.goto X5.here hx rfl (pc0 := 25) (pc' := 29) rfl (hb hby d6_25) (by decide) (by decide) kq) ?_
    show own_Go _ _ _ _ (T5.setTop (mkF m 29 #[sR a1, sR a2] [(Value.int (1 : Int32))]))
    obtain ⟨fs, hr, hrun, hended, hW, hsame⟩ := X5.leave (v := some (Value.int (nar .boolean (1 : Int32)))) (fun h => by rw [Bd.returns] at h; cases h)
    refine own_Go.fin (retN X5 hx (t := .boolean) Bd.returns (by simp) (hb hby d6_29) hr) ⟨hrun, hended, _, _, rfl, ?_, ⟨_, rfl⟩, hW, hsame.mono (by decide) (by decide)⟩
    show Q6_a Z a1 a2 zc s1 t1 k1 N1 w1 cs1 s2 t2 k2 N2 w2 cs2 h0 n0 _ T5.heap _
    rw [e5]
    exact ⟨(nar .boolean (1 : Int32)), rfl, N5, rfl, (Or.inr ⟨rfl, own_eqT heq5 hc21_6⟩)⟩

theorem own_ef_6_n (m : MethodId) (a1 : Addr) : entryFrame m #[(Value.ref a1), .null] 2 = mkF m 0 #[sR a1, .val .null] [] := by first | (simp [entryFrame, mkF, argsToLocals, Value.category]; done) | rfl
def Q6_n (Z : State) (a1 : Addr) (h0 : Heap) (n0 : Nat) (v : Option Value) (h : Heap) (L : List Loc) : Prop := v = some (Value.int (0 : Int32)) ∧ Fr n0 L ∧ h = h0
set_option maxRecDepth 65536 in
set_option maxHeartbeats 40000000 in
theorem rm6_n (l : Launch) (Z : State) (a0 : Array Value) (hw : ∀ d ∈ tables_1, d.before a0 Z = true) (ws : List Jvm.Cond) (a1 : Addr) (h0 : Heap) (n0 : Nat) (O0 : Old Z n0 h0) :
    MetFree l (⟨"com/example/enlace/enlace/UriReference", "equals", "(Ljava/lang/Object;)Z"⟩ : MethodName) (head1 (Jvm.Cond.code (⟨"com/example/enlace/enlace/UriReference", "equals", "(Ljava/lang/Object;)Z"⟩ : MethodName) prog_18_method_19_code 2 (some .boolean) :: ws) ({ frames := 0, cells := 0, slots := 0, locals := 0 } : Room)) (fun a U => a = #[(Value.ref a1), .null] ∧ Z.Warmed39 U.vm ∧ U.heap = h0) (fun _ _ _ _ _ => True) (fun _ U o U' => ∃ v L, o = .returned v ∧ Q6_n Z a1 h0 n0 v U'.heap L ∧ FrameEnd U o U' L ({ frames := 0, cells := 0, slots := 0, locals := 0 } : Room).cells ({ frames := 0, cells := 0, slots := 0, locals := 0 } : Room).slots) := by
  refine MetFree.of_bodySF (plainFor_of_name own_pn_com_example_enlace_enlace_UriReference) hisR ?_
  intro p e s m args below meth c s₁ Bd hml0 hP hK
  obtain ⟨rfl, hZ, hh⟩ := hP
  have hx := Bd.exec
  have hby := Bd.bytes
  have hml : c.maxLocals = 2 := hml0
  have hown : s.vm.findClass "com/example/enlace/enlace/UriReference" = some m.cls := findClass_of_methodNamed Bd.named
  have hnm := (name_of_methodNamed Bd.named Bd.method).1
  have X0 : Stand p l e ({ frames := 0, cells := 0, slots := 0, locals := 0 } : Room) s m #[(Value.ref a1), .null] below meth c s₁ [] 0 0 := Stand.of_body Bd
  have e0 : s₁.heap = h0 := by rw [← hh, Bd.state]; rfl
  have N0 := Fr.nil n0
  have K0 : Keep h0 h0 [] := Keep.refl h0 []
  show own_Go _ _ _ _ (s₁.setTop (entryFrame m #[(Value.ref a1), .null] 2))
  refine own_Go.by (fun tq kq => castTop (own_ef_6_n m a1) kq) ?_
  show own_Go _ _ _ _ (s₁.setTop (mkF m 0 #[sR a1, .val .null] []))
  refine own_Go.by (fun tq kq => XS.aloadN X0.here hx rfl (hb hby d6_0) rfl rfl kq) ?_
  show own_Go _ _ _ _ (s₁.setTop (mkF m 1 #[sR a1, .val .null] [.null]))
  refine own_Go.by (fun tq kq => X0.instanceofNull hx (g := (mkF m 1 #[sR a1, .val .null] [.null])) rfl rfl (hb hby d6_1) _ kq) ?_
  show own_Go _ _ _ _ (s₁.setTop (mkF m 4 #[sR a1, .val .null] [(Value.int (0 : Int32))]))
  refine own_Go.by (fun tq kq => XS.ifYes X0.here hx rfl (pc0 := 4) (pc' := 28) rfl (hb hby d6_4) rfl ((if0 _ _).trans (teq (by decide : (0 : Int32) = (0 : Int32))).1) (by decide) (by decide) kq) ?_
  refine own_Go.by (fun tq kq => XS.iconst X0.here hx rfl (hb hby d6_28) kq) ?_
  show own_Go _ _ _ _ (s₁.setTop (mkF m 29 #[sR a1, .val .null] [(Value.int (0 : Int32))]))
  obtain ⟨fs, hr, hrun, hended, hW, hsame⟩ := X0.leave (v := some (Value.int (nar .boolean (0 : Int32)))) (fun h => by rw [Bd.returns] at h; cases h)
  refine own_Go.fin (retN X0 hx (t := .boolean) Bd.returns (by simp) (hb hby d6_29) hr) ⟨hrun, hended, _, _, rfl, ?_, ⟨_, rfl⟩, hW, hsame.mono (by decide) (by decide)⟩
  show Q6_n Z a1 h0 n0 _ s₁.heap _
  rw [e0]
  exact ⟨rfl, N0, rfl⟩

theorem own_ef_6_s (m : MethodId) (a1 : Addr) (a2 : Addr) : entryFrame m #[(Value.ref a1), (Value.ref a2)] 2 = mkF m 0 #[sR a1, sR a2] [] := by first | (simp [entryFrame, mkF, argsToLocals, Value.category]; done) | rfl
def Q6_s (Z : State) (a1 : Addr) (a2 : Addr) (h0 : Heap) (n0 : Nat) (v : Option Value) (h : Heap) (L : List Loc) : Prop := v = some (Value.int (0 : Int32)) ∧ Fr n0 L ∧ h = h0
set_option maxRecDepth 65536 in
set_option maxHeartbeats 40000000 in
theorem rm6_s (l : Launch) (Z : State) (a0 : Array Value) (hw : ∀ d ∈ tables_1, d.before a0 Z = true) (ws : List Jvm.Cond) (a1 : Addr) (a2 : Addr) (h0 : Heap) (n0 : Nat) (O0 : Old Z n0 h0) (H0 : Exa Z h0 a2 "java/lang/String") :
    MetFree l (⟨"com/example/enlace/enlace/UriReference", "equals", "(Ljava/lang/Object;)Z"⟩ : MethodName) (head1 (Jvm.Cond.code (⟨"com/example/enlace/enlace/UriReference", "equals", "(Ljava/lang/Object;)Z"⟩ : MethodName) prog_18_method_19_code 2 (some .boolean) :: ws) ({ frames := 0, cells := 0, slots := 0, locals := 0 } : Room)) (fun a U => a = #[(Value.ref a1), (Value.ref a2)] ∧ Z.Warmed39 U.vm ∧ U.heap = h0) (fun _ _ _ _ _ => True) (fun _ U o U' => ∃ v L, o = .returned v ∧ Q6_s Z a1 a2 h0 n0 v U'.heap L ∧ FrameEnd U o U' L ({ frames := 0, cells := 0, slots := 0, locals := 0 } : Room).cells ({ frames := 0, cells := 0, slots := 0, locals := 0 } : Room).slots) := by
  refine MetFree.of_bodySF (plainFor_of_name own_pn_com_example_enlace_enlace_UriReference) hisR ?_
  intro p e s m args below meth c s₁ Bd hml0 hP hK
  obtain ⟨rfl, hZ, hh⟩ := hP
  have hx := Bd.exec
  have hby := Bd.bytes
  have hml : c.maxLocals = 2 := hml0
  have hown : s.vm.findClass "com/example/enlace/enlace/UriReference" = some m.cls := findClass_of_methodNamed Bd.named
  have hnm := (name_of_methodNamed Bd.named Bd.method).1
  have X0 : Stand p l e ({ frames := 0, cells := 0, slots := 0, locals := 0 } : Room) s m #[(Value.ref a1), (Value.ref a2)] below meth c s₁ [] 0 0 := Stand.of_body Bd
  have e0 : s₁.heap = h0 := by rw [← hh, Bd.state]; rfl
  have N0 := Fr.nil n0
  have K0 : Keep h0 h0 [] := Keep.refl h0 []
  show own_Go _ _ _ _ (s₁.setTop (entryFrame m #[(Value.ref a1), (Value.ref a2)] 2))
  refine own_Go.by (fun tq kq => castTop (own_ef_6_s m a1 a2) kq) ?_
  show own_Go _ _ _ _ (s₁.setTop (mkF m 0 #[sR a1, sR a2] []))
  refine own_Go.by (fun tq kq => XS.aloadN X0.here hx rfl (hb hby d6_0) rfl rfl kq) ?_
  show own_Go _ _ _ _ (s₁.setTop (mkF m 1 #[sR a1, sR a2] [(Value.ref a2)]))
  obtain ⟨T1, X1, e1, st1⟩ := instNo X0 hx hZ hown (hw _ (List.mem_of_getElem? (i := 62) rfl)) e0 H0 (own_noInst (hw _ (List.mem_of_getElem? (i := 75) rfl)) (hw _ (List.mem_of_getElem? (i := 76) rfl)) (hw _ (List.mem_of_getElem? (i := 28) rfl)) (by decide) (by decide)) (g := (mkF m 1 #[sR a1, sR a2] [(Value.ref a2)])) rfl rfl (hb hby d6_1)
  refine own_Go.by st1 ?_
  show own_Go _ _ _ _ (T1.setTop (mkF m 4 #[sR a1, sR a2] [(Value.int (0 : Int32))]))
  refine own_Go.by (fun tq kq => XS.ifYes X1.here hx rfl (pc0 := 4) (pc' := 28) rfl (hb hby d6_4) rfl ((if0 _ _).trans (teq (by decide : (0 : Int32) = (0 : Int32))).1) (by decide) (by decide) kq) ?_
  refine own_Go.by (fun tq kq => XS.iconst X1.here hx rfl (hb hby d6_28) kq) ?_
  show own_Go _ _ _ _ (T1.setTop (mkF m 29 #[sR a1, sR a2] [(Value.int (0 : Int32))]))
  obtain ⟨fs, hr, hrun, hended, hW, hsame⟩ := X1.leave (v := some (Value.int (nar .boolean (0 : Int32)))) (fun h => by rw [Bd.returns] at h; cases h)
  refine own_Go.fin (retN X1 hx (t := .boolean) Bd.returns (by simp) (hb hby d6_29) hr) ⟨hrun, hended, _, _, rfl, ?_, ⟨_, rfl⟩, hW, hsame.mono (by decide) (by decide)⟩
  show Q6_s Z a1 a2 h0 n0 _ T1.heap _
  rw [e1]
  exact ⟨rfl, N0, rfl⟩

theorem own_pd3 : parseMethodDescriptor "(ICC)Ljava/lang/String;" = some ⟨[.int, .char, .char], some (.object "java/lang/String")⟩ := by decide +kernel
theorem own_pd4 : parseMethodDescriptor "(Ljava/lang/String;Ljava/lang/String;Ljava/lang/String;Ljava/lang/String;Ljava/lang/String;Ljava/lang/String;Ljava/lang/String;Ljava/lang/String;)V" = some ⟨[(.object "java/lang/String"), (.object "java/lang/String"), (.object "java/lang/String"), (.object "java/lang/String"), (.object "java/lang/String"), (.object "java/lang/String"), (.object "java/lang/String"), (.object "java/lang/String")], none⟩ := by decide +kernel
theorem own_ef_0 (m : MethodId) (p1 : Int32) (p2 : Int32) (p3 : Int32) : entryFrame m #[(Value.int p1), (Value.int p2), (Value.int p3)] maxLocals = mkF m 0 #[sI p1, sI p2, sI p3, .unset, .unset, .unset, .unset, .unset, .unset, .unset, .unset, .unset, .unset, .unset, .unset, .unset, .unset, .unset] [] := by first | (simp [entryFrame, mkF, argsToLocals, Value.category, maxLocals]; done) | rfl
def Q0 (Z : State) (p1 : Int32) (p2 : Int32) (p3 : Int32) (zc : Int32) (h0 : Heap) (n0 : Nat) (v : Option Value) (h : Heap) (L : List Loc) : Prop := v = some (Value.int (1 : Int32)) ∧ Fr n0 L ∧ Keep h0 h []
set_option maxRecDepth 65536 in
set_option maxHeartbeats 40000000 in
theorem rm0 (l : Launch) (Z : State) (a0 : Array Value) (hw : ∀ d ∈ tables_1, d.before a0 Z = true) (ws : List Jvm.Cond) (p1 : Int32) (p2 : Int32) (p3 : Int32) (zc : Int32) (h0 : Heap) (n0 : Nat) (O0 : Old Z n0 h0) (H0 : Sta Z Z.heap "java/lang/String" "COMPACT_STRINGS" "Z" (Value.int zc)) (hzc : ¬ (zc = (0 : Int32))) :
    MetFree l x (head1 (Jvm.Cond.code x code maxLocals ret :: ws) room_1) (fun a U => a = #[(Value.int p1), (Value.int p2), (Value.int p3)] ∧ Z.Warmed39 U.vm ∧ U.heap = h0 ∧ CHv Z consts_1 U.vm h0) (fun _ _ _ _ _ => True) (fun _ U o U' => ∃ v L, o = .returned v ∧ Q0 Z p1 p2 p3 zc h0 n0 v U'.heap L ∧ CHr Z consts_1 U.vm U.heap U'.vm U'.heap ∧ ReturnedEndW U o U' L room_1.cells room_1.slots) := by
  refine MetFree.of_bodySF (plainFor_of_name own_pn_com_example_enlace_enlace_UriReferenceEqualsPinLaw) hisR ?_
  intro p e s m args below meth c s₁ Bd hml0 hP hK
  obtain ⟨rfl, hZ, hh, CH0⟩ := hP
  have hx := Bd.exec
  have hby := Bd.bytes
  have hml : c.maxLocals = 18 := hml0
  have hown : s.vm.findClass "com/example/enlace/enlace/UriReferenceEqualsPinLaw" = some m.cls := findClass_of_methodNamed Bd.named
  have hnm := (name_of_methodNamed Bd.named Bd.method).1
  have hEL := own_hEL hw
  have X0 : Stand p l e room_1 s m #[(Value.int p1), (Value.int p2), (Value.int p3)] below meth c s₁ [] 0 0 := Stand.of_body Bd
  have e0 : s₁.heap = h0 := by rw [← hh, Bd.state]; rfl
  have hS0 : s.Since s.vm 0 := (State.WarmedH.refl s).since 0
  have N0 := Fr.nil n0
  have K0 : Keep h0 h0 [] := Keep.refl h0 []
  show own_Go _ _ _ _ (s₁.setTop (entryFrame m #[(Value.int p1), (Value.int p2), (Value.int p3)] maxLocals))
  refine own_Go.by (fun tq kq => castTop (own_ef_0 m p1 p2 p3) kq) ?_
  show own_Go _ _ _ _ (s₁.setTop (mkF m 0 #[sI p1, sI p2, sI p3, .unset, .unset, .unset, .unset, .unset, .unset, .unset, .unset, .unset, .unset, .unset, .unset, .unset, .unset, .unset] []))
  refine own_Go.by (fun tq kq => XS.iloadN X0.here hx rfl (hb hby at_0) rfl kq) ?_
  refine own_Go.by (fun tq kq => XS.sipush X0.here hx rfl (hb hby at_1) kq) ?_
  refine own_Go.by (fun tq kq => XS.iand X0.here hx rfl (hb hby at_4) rfl kq) ?_
  refine own_Go.by (fun tq kq => XS.i2c X0.here hx rfl (hb hby at_5) rfl kq) ?_
  show own_Go _ _ _ _ (s₁.setTop (mkF m 6 #[sI p1, sI p2, sI p3, .unset, .unset, .unset, .unset, .unset, .unset, .unset, .unset, .unset, .unset, .unset, .unset, .unset, .unset, .unset] [(Value.int ((p1 &&& (255 : Int32)).toUInt32.toUInt16.toUInt32.toInt32))]))
  refine own_Go.by (fun tq kq => XS.istoreN X0.here hx rfl (hb hby at_6) rfl (l' := #[sI p1, sI p2, sI p3, sI ((p1 &&& (255 : Int32)).toUInt32.toUInt16.toUInt32.toInt32), .unset, .unset, .unset, .unset, .unset, .unset, .unset, .unset, .unset, .unset, .unset, .unset, .unset, .unset]) rfl kq) ?_
  show own_Go _ _ _ _ (s₁.setTop (mkF m 7 #[sI p1, sI p2, sI p3, sI ((p1 &&& (255 : Int32)).toUInt32.toUInt16.toUInt32.toInt32), .unset, .unset, .unset, .unset, .unset, .unset, .unset, .unset, .unset, .unset, .unset, .unset, .unset, .unset] []))
  generalize hv_c0x : ((p1 &&& (255 : Int32)).toUInt32.toUInt16.toUInt32.toInt32) = c0x
  refine own_Go.by (fun tq kq => XS.iloadN X0.here hx rfl (hb hby at_7) rfl kq) ?_
  refine own_Go.by (fun tq kq => XS.bipush X0.here hx rfl (hb hby at_8) kq) ?_
  refine own_Go.by (fun tq kq => XS.iushr X0.here hx rfl (hb hby at_10) rfl kq) ?_
  show own_Go _ _ _ _ (s₁.setTop (mkF m 11 #[sI p1, sI p2, sI p3, sI c0x, .unset, .unset, .unset, .unset, .unset, .unset, .unset, .unset, .unset, .unset, .unset, .unset, .unset, .unset] [(Value.int ((p1.toUInt32 >>> ((8 : Int32) &&& 31).toUInt32).toInt32))]))
  refine own_Go.by (fun tq kq => XS.sipush X0.here hx rfl (hb hby at_11) kq) ?_
  refine own_Go.by (fun tq kq => XS.iand X0.here hx rfl (hb hby at_14) rfl kq) ?_
  refine own_Go.by (fun tq kq => XS.i2c X0.here hx rfl (hb hby at_15) rfl kq) ?_
  show own_Go _ _ _ _ (s₁.setTop (mkF m 16 #[sI p1, sI p2, sI p3, sI c0x, .unset, .unset, .unset, .unset, .unset, .unset, .unset, .unset, .unset, .unset, .unset, .unset, .unset, .unset] [(Value.int ((((p1.toUInt32 >>> ((8 : Int32) &&& 31).toUInt32).toInt32) &&& (255 : Int32)).toUInt32.toUInt16.toUInt32.toInt32))]))
  refine own_Go.by (fun tq kq => XS.istore X0.here hx rfl (hb hby at_16) rfl (l' := #[sI p1, sI p2, sI p3, sI c0x, .val (Value.int ((((p1.toUInt32 >>> ((8 : Int32) &&& 31).toUInt32).toInt32) &&& (255 : Int32)).toUInt32.toUInt16.toUInt32.toInt32)), .unset, .unset, .unset, .unset, .unset, .unset, .unset, .unset, .unset, .unset, .unset, .unset, .unset]) rfl kq) ?_
  show own_Go _ _ _ _ (s₁.setTop (mkF m 18 #[sI p1, sI p2, sI p3, sI c0x, .val (Value.int ((((p1.toUInt32 >>> ((8 : Int32) &&& 31).toUInt32).toInt32) &&& (255 : Int32)).toUInt32.toUInt16.toUInt32.toInt32)), .unset, .unset, .unset, .unset, .unset, .unset, .unset, .unset, .unset, .unset, .unset, .unset, .unset] []))
  generalize hv_c1x : ((((p1.toUInt32 >>> ((8 : Int32) &&& 31).toUInt32).toInt32) &&& (255 : Int32)).toUInt32.toUInt16.toUInt32.toInt32) = c1x
  refine own_Go.by (fun tq kq => XS.iloadN X0.here hx rfl (hb hby at_18) rfl kq) ?_
  refine own_Go.by (fun tq kq => XS.bipush X0.here hx rfl (hb hby at_19) kq) ?_
  refine own_Go.by (fun tq kq => XS.iushr X0.here hx rfl (hb hby at_21) rfl kq) ?_
  show own_Go _ _ _ _ (s₁.setTop (mkF m 22 #[sI p1, sI p2, sI p3, sI c0x, sI c1x, .unset, .unset, .unset, .unset, .unset, .unset, .unset, .unset, .unset, .unset, .unset, .unset, .unset] [(Value.int ((p1.toUInt32 >>> ((16 : Int32) &&& 31).toUInt32).toInt32))]))
  refine own_Go.by (fun tq kq => X0.ldcInt hx hown (mvT hZ (hw _ (List.mem_of_getElem? (i := 0) rfl))) (g := (mkF m 22 #[sI p1, sI p2, sI p3, sI c0x, sI c1x, .unset, .unset, .unset, .unset, .unset, .unset, .unset, .unset, .unset, .unset, .unset, .unset, .unset] [(Value.int ((p1.toUInt32 >>> ((16 : Int32) &&& 31).toUInt32).toInt32))])) rfl (hb hby at_22) _ kq) ?_
  refine own_Go.by (fun tq kq => XS.iand X0.here hx rfl (hb hby at_24) rfl kq) ?_
  refine own_Go.by (fun tq kq => XS.iconst X0.here hx rfl (hb hby at_25) kq) ?_
  show own_Go _ _ _ _ (s₁.setTop (mkF m 26 #[sI p1, sI p2, sI p3, sI c0x, sI c1x, .unset, .unset, .unset, .unset, .unset, .unset, .unset, .unset, .unset, .unset, .unset, .unset, .unset] [(Value.int (3 : Int32)), (Value.int (((p1.toUInt32 >>> ((16 : Int32) &&& 31).toUInt32).toInt32) &&& (65535 : Int32)))]))
  refine own_Go.by (fun tq kq => iremM (g := (mkF m 26 #[sI p1, sI p2, sI p3, sI c0x, sI c1x, .unset, .unset, .unset, .unset, .unset, .unset, .unset, .unset, .unset, .unset, .unset, .unset, .unset] [(Value.int (3 : Int32)), (Value.int (((p1.toUInt32 >>> ((16 : Int32) &&& 31).toUInt32).toInt32) &&& (65535 : Int32)))])) X0 hx rfl (hb hby at_26) rfl (by decide) kq) ?_
  show own_Go _ _ _ _ (s₁.setTop (mkF m 27 #[sI p1, sI p2, sI p3, sI c0x, sI c1x, .unset, .unset, .unset, .unset, .unset, .unset, .unset, .unset, .unset, .unset, .unset, .unset, .unset] [(Value.int ((((p1.toUInt32 >>> ((16 : Int32) &&& 31).toUInt32).toInt32) &&& (65535 : Int32)) % (3 : Int32)))]))
  refine own_Go.by (fun tq kq => XS.istore X0.here hx rfl (hb hby at_27) rfl (l' := #[sI p1, sI p2, sI p3, sI c0x, sI c1x, .val (Value.int ((((p1.toUInt32 >>> ((16 : Int32) &&& 31).toUInt32).toInt32) &&& (65535 : Int32)) % (3 : Int32))), .unset, .unset, .unset, .unset, .unset, .unset, .unset, .unset, .unset, .unset, .unset, .unset]) rfl kq) ?_
  show own_Go _ _ _ _ (s₁.setTop (mkF m 29 #[sI p1, sI p2, sI p3, sI c0x, sI c1x, .val (Value.int ((((p1.toUInt32 >>> ((16 : Int32) &&& 31).toUInt32).toInt32) &&& (65535 : Int32)) % (3 : Int32))), .unset, .unset, .unset, .unset, .unset, .unset, .unset, .unset, .unset, .unset, .unset, .unset] []))
  generalize hv_la : ((((p1.toUInt32 >>> ((16 : Int32) &&& 31).toUInt32).toInt32) &&& (65535 : Int32)) % (3 : Int32)) = la
  refine own_Go.by (fun tq kq => XS.iloadN X0.here hx rfl (hb hby at_29) rfl kq) ?_
  refine own_Go.by (fun tq kq => XS.iconst X0.here hx rfl (hb hby at_30) kq) ?_
  refine own_Go.by (fun tq kq => XS.iand X0.here hx rfl (hb hby at_31) rfl kq) ?_
  show own_Go _ _ _ _ (s₁.setTop (mkF m 32 #[sI p1, sI p2, sI p3, sI c0x, sI c1x, sI la, .unset, .unset, .unset, .unset, .unset, .unset, .unset, .unset, .unset, .unset, .unset, .unset] [(Value.int (p3 &&& (3 : Int32)))]))
  refine own_Go.by (fun tq kq => XS.istore X0.here hx rfl (hb hby at_32) rfl (l' := #[sI p1, sI p2, sI p3, sI c0x, sI c1x, sI la, sI (p3 &&& (3 : Int32)), .unset, .unset, .unset, .unset, .unset, .unset, .unset, .unset, .unset, .unset, .unset]) rfl kq) ?_
  refine own_merge (α := Int32 × Int32 × Int32) (P := fun zz => (¬ zz.1 < 0 ∧ ¬ (255 : Int32) < zz.1) ∧ (¬ zz.2.1 < 0 ∧ ¬ (255 : Int32) < zz.2.1) ∧ own_r3 zz.2.2) (F := fun zz => s₁.setTop (mkF m 134 #[sI p1, sI p2, sI p3, sI c0x, sI c1x, sI la, sI (p3 &&& (3 : Int32)), .val (Value.int zz.1), .val (Value.int zz.2.1), .val (Value.int zz.2.2), .unset, .unset, .unset, .unset, .unset, .unset, .unset, .unset] [])) ?_ ?_
  ·
    rintro ⟨d0x, d1x, lb⟩ h_d0x_d1x_lb
    dsimp only at h_d0x_d1x_lb
    refine own_Go.by (fun tq kq => XS.iload X0.here hx rfl (hb hby at_134) rfl kq) ?_
    refine own_Go.by (fun tq kq => XS.iloadN X0.here hx rfl (hb hby at_136) rfl kq) ?_
    refine own_Go.by (fun tq kq => XS.iload X0.here hx rfl (hb hby at_137) rfl kq) ?_
    show own_Go _ _ _ _ (s₁.setTop (mkF m 139 #[sI p1, sI p2, sI p3, sI c0x, sI c1x, sI la, sI (p3 &&& (3 : Int32)), sI d0x, sI d1x, sI lb, .unset, .unset, .unset, .unset, .unset, .unset, .unset, .unset] [(Value.int c1x), (Value.int c0x), (Value.int la)]))
    obtain ⟨_, _, ⟨T1, L1, k1, n1⟩, -, X1, hs1, hg1, ⟨Lc1, hQ1, l1, y1, z1, R1⟩, st1⟩ := Jvm.RoadKit.callSS X0 hx (y := (⟨"com/example/enlace/enlace/UriReferenceEqualsPinLaw", "text", "(ICC)Ljava/lang/String;"⟩ : MethodName)) hown (mvT hZ (hw _ (List.mem_of_getElem? (i := 1) rfl))) (mvT hZ (hw _ (List.mem_of_getElem? (i := 2) rfl))) (mvT hZ (hw _ (List.mem_of_getElem? (i := 3) rfl))) (mvT hZ (hw _ (List.mem_of_getElem? (i := 4) rfl))) (by decide) (backOfSH (W := 0) (rm1 l Z a0 hw [] la c0x c1x zc h0 n0 O0 ((own_b255 hv_c0x).1 : (¬ c0x < 0 ∧ ¬ (255 : Int32) < c0x)) ((own_b255 hv_c1x).1 : (¬ c1x < 0 ∧ ¬ (255 : Int32) < c1x)) H0 (hzc : ¬ (zc = (0 : Int32)))) hZ (hw _ (List.mem_of_getElem? (i := 4) rfl)) (hw _ (List.mem_of_getElem? (i := 3) rfl)) (by decide) (by decide) hEL CH0) (g := (mkF m 139 #[sI p1, sI p2, sI p3, sI c0x, sI c1x, sI la, sI (p3 &&& (3 : Int32)), sI d0x, sI d1x, sI lb, .unset, .unset, .unset, .unset, .unset, .unset, .unset, .unset] [(Value.int c1x), (Value.int c0x), (Value.int la)])) rfl (by rw [hml]; rfl) (argsL := [(Value.int la), (Value.int c0x), (Value.int c1x)]) (rest := []) (lenOf own_pd3 rfl) rfl (by show 2 * 0 + _ ≤ _; exact Nat.le_of_eq rfl) (hb hby at_139) (fun _ _ => ⟨rfl, e0, (by decide : 0 + 6 ≤ _), (by decide : 0 + 12 ≤ _)⟩)
    dsimp only [Pt.U, Pt.locs, Pt.cells, Pt.slots] at X1 l1 y1 z1 st1 hQ1 hs1 hg1 R1
    subst l1 y1 z1
    obtain ⟨X1, hS1, hZ1, hown1⟩ := rebS (s := s) (vm0 := s.vm) hS0 (Nat.zero_le _) X1 hs1 hg1 hZ hown
    refine own_Go.by (fun tq kq => st1.trans kq) ?_
    obtain ⟨x_1, t_1, kb_1, N2_1, vs2_1, rfl, N1q, K1q, p1_0, p1_1, p1_2, p1_3, p1_4, p1_5⟩ := hQ1
    have N1 := Fr.app N0 N1q
    have O2 := O0.keep K1q all0
    have K2 := K0.trans K1q all0
    have g3 : n0 ≤ x_1 := Nat.le_trans (own_old_le O0) p1_0
    have z3 : h0.size ≤ x_1 := Nat.le_trans K0.1 p1_0
    refine own_Go.by (fun tq kq => XS.astore X1.here hx rfl (hb hby at_142) rfl rfl (l' := #[sI p1, sI p2, sI p3, sI c0x, sI c1x, sI la, sI (p3 &&& (3 : Int32)), sI d0x, sI d1x, sI lb, sR x_1, .unset, .unset, .unset, .unset, .unset, .unset, .unset]) rfl kq) ?_
    refine own_Go.by (fun tq kq => XS.iload X1.here hx rfl (hb hby at_144) rfl kq) ?_
    refine own_Go.by (fun tq kq => XS.iload X1.here hx rfl (hb hby at_146) rfl kq) ?_
    show own_Go _ _ _ _ (T1.setTop (mkF m 148 #[sI p1, sI p2, sI p3, sI c0x, sI c1x, sI la, sI (p3 &&& (3 : Int32)), sI d0x, sI d1x, sI lb, sR x_1, .unset, .unset, .unset, .unset, .unset, .unset, .unset] [(Value.int d0x), (Value.int lb)]))
    refine own_Go.by (fun tq kq => XS.iload X1.here hx rfl (hb hby at_148) rfl kq) ?_
    show own_Go _ _ _ _ (T1.setTop (mkF m 150 #[sI p1, sI p2, sI p3, sI c0x, sI c1x, sI la, sI (p3 &&& (3 : Int32)), sI d0x, sI d1x, sI lb, sR x_1, .unset, .unset, .unset, .unset, .unset, .unset, .unset] [(Value.int d1x), (Value.int d0x), (Value.int lb)]))
    obtain ⟨_, _, ⟨T4, L4, k4, n4⟩, -, X4, hs4, hg4, ⟨Lc4, hQ4, l4, y4, z4, R4⟩, st4⟩ := Jvm.RoadKit.callSS X1 hx (y := (⟨"com/example/enlace/enlace/UriReferenceEqualsPinLaw", "text", "(ICC)Ljava/lang/String;"⟩ : MethodName)) hown1 (mvT hZ1 (hw _ (List.mem_of_getElem? (i := 1) rfl))) (mvT hZ1 (hw _ (List.mem_of_getElem? (i := 2) rfl))) (mvT hZ1 (hw _ (List.mem_of_getElem? (i := 3) rfl))) (mvT hZ1 (hw _ (List.mem_of_getElem? (i := 4) rfl))) (by decide) (backOfSH (W := 0) (rm1 l Z a0 hw [] lb d0x d1x zc T1.heap n0 O2 (h_d0x_d1x_lb.1 : (¬ d0x < 0 ∧ ¬ (255 : Int32) < d0x)) (h_d0x_d1x_lb.2.1 : (¬ d1x < 0 ∧ ¬ (255 : Int32) < d1x)) H0 (hzc : ¬ (zc = (0 : Int32)))) hZ1 (hw _ (List.mem_of_getElem? (i := 4) rfl)) (hw _ (List.mem_of_getElem? (i := 3) rfl)) (by decide) (by decide) hEL R1.1) (g := (mkF m 150 #[sI p1, sI p2, sI p3, sI c0x, sI c1x, sI la, sI (p3 &&& (3 : Int32)), sI d0x, sI d1x, sI lb, sR x_1, .unset, .unset, .unset, .unset, .unset, .unset, .unset] [(Value.int d1x), (Value.int d0x), (Value.int lb)])) rfl (by rw [hml]; rfl) (argsL := [(Value.int lb), (Value.int d0x), (Value.int d1x)]) (rest := []) (lenOf own_pd3 rfl) rfl (by show 2 * 0 + _ ≤ _; exact Nat.le_of_eq rfl) (hb hby at_150) (fun _ _ => ⟨rfl, rfl, (by decide : 6 + 6 ≤ _), (by decide : 12 + 12 ≤ _)⟩)
    dsimp only [Pt.U, Pt.locs, Pt.cells, Pt.slots] at X4 l4 y4 z4 st4 hQ4 hs4 hg4 R4
    subst l4 y4 z4
    obtain ⟨X4, hS4, hZ4, hown4⟩ := rebS (s := s) (vm0 := T1.vm) hS1 (Nat.le_refl _) X4 hs4 hg4 hZ1 hown1
    refine own_Go.by (fun tq kq => st4.trans kq) ?_
    obtain ⟨x_4, t_4, kb_4, N2_4, vs2_4, rfl, N4q, K4q, p4_0, p4_1, p4_2, p4_3, p4_4, p4_5⟩ := hQ4
    have N4 := Fr.app N1 N4q
    have O5 := O2.keep K4q all0
    have K5 := K2.trans K4q all0
    have g6 : n0 ≤ x_4 := Nat.le_trans (own_old_le O2) p4_0
    have z6 : h0.size ≤ x_4 := Nat.le_trans K2.1 p4_0
    refine own_Go.by (fun tq kq => XS.astore X4.here hx rfl (hb hby at_153) rfl rfl (l' := #[sI p1, sI p2, sI p3, sI c0x, sI c1x, sI la, sI (p3 &&& (3 : Int32)), sI d0x, sI d1x, sI lb, sR x_1, sR x_4, .unset, .unset, .unset, .unset, .unset, .unset]) rfl kq) ?_
    refine own_Go.by (fun tq kq => XS.iloadN X4.here hx rfl (hb hby at_155) rfl kq) ?_
    refine own_Go.by (fun tq kq => XS.iconst X4.here hx rfl (hb hby at_156) kq) ?_
    show own_Go _ _ _ _ (T4.setTop (mkF m 157 #[sI p1, sI p2, sI p3, sI c0x, sI c1x, sI la, sI (p3 &&& (3 : Int32)), sI d0x, sI d1x, sI lb, sR x_1, sR x_4, .unset, .unset, .unset, .unset, .unset, .unset] [(Value.int (3 : Int32)), (Value.int p3)]))
    refine own_Go.by (fun tq kq => XS.iushr X4.here hx rfl (hb hby at_157) rfl kq) ?_
    refine own_Go.by (fun tq kq => XS.iconst X4.here hx rfl (hb hby at_158) kq) ?_
    refine own_Go.by (fun tq kq => XS.iand X4.here hx rfl (hb hby at_159) rfl kq) ?_
    show own_Go _ _ _ _ (T4.setTop (mkF m 160 #[sI p1, sI p2, sI p3, sI c0x, sI c1x, sI la, sI (p3 &&& (3 : Int32)), sI d0x, sI d1x, sI lb, sR x_1, sR x_4, .unset, .unset, .unset, .unset, .unset, .unset] [(Value.int (((p3.toUInt32 >>> ((3 : Int32) &&& 31).toUInt32).toInt32) &&& (1 : Int32)))]))
    by_cases hc160_7 : (((p3.toUInt32 >>> ((3 : Int32) &&& 31).toUInt32).toInt32) &&& (1 : Int32)) = (0 : Int32)
    ·
      refine own_Go.by (fun tq kq => XS.ifYes X4.here hx rfl (pc0 := 160) (pc' := 168) rfl (hb hby at_160) rfl ((if0 _ _).trans (teq hc160_7).1) (by decide) (by decide) kq) ?_
      refine own_Go.by (fun tq kq => XS.aconstNull X4.here hx rfl (hb hby at_168) kq) ?_
      refine own_Go.by (fun tq kq => XS.astore X4.here hx rfl (hb hby at_169) rfl rfl (l' := #[sI p1, sI p2, sI p3, sI c0x, sI c1x, sI la, sI (p3 &&& (3 : Int32)), sI d0x, sI d1x, sI lb, sR x_1, sR x_4, .val .null, .unset, .unset, .unset, .unset, .unset]) rfl kq) ?_
      refine own_Go.by (fun tq kq => XS.iloadN X4.here hx rfl (hb hby at_171) rfl kq) ?_
      show own_Go _ _ _ _ (T4.setTop (mkF m 172 #[sI p1, sI p2, sI p3, sI c0x, sI c1x, sI la, sI (p3 &&& (3 : Int32)), sI d0x, sI d1x, sI lb, sR x_1, sR x_4, .val .null, .unset, .unset, .unset, .unset, .unset] [(Value.int p3)]))
      refine own_Go.by (fun tq kq => XS.iconst X4.here hx rfl (hb hby at_172) kq) ?_
      refine own_Go.by (fun tq kq => XS.iushr X4.here hx rfl (hb hby at_173) rfl kq) ?_
      refine own_Go.by (fun tq kq => XS.iconst X4.here hx rfl (hb hby at_174) kq) ?_
      refine own_Go.by (fun tq kq => XS.iand X4.here hx rfl (hb hby at_175) rfl kq) ?_
      show own_Go _ _ _ _ (T4.setTop (mkF m 176 #[sI p1, sI p2, sI p3, sI c0x, sI c1x, sI la, sI (p3 &&& (3 : Int32)), sI d0x, sI d1x, sI lb, sR x_1, sR x_4, .val .null, .unset, .unset, .unset, .unset, .unset] [(Value.int (((p3.toUInt32 >>> ((2 : Int32) &&& 31).toUInt32).toInt32) &&& (1 : Int32)))]))
      by_cases hc176_8 : (((p3.toUInt32 >>> ((2 : Int32) &&& 31).toUInt32).toInt32) &&& (1 : Int32)) = (0 : Int32)
      ·
        refine own_Go.by (fun tq kq => XS.ifYes X4.here hx rfl (pc0 := 176) (pc' := 183) rfl (hb hby at_176) rfl ((if0 _ _).trans (teq hc176_8).1) (by decide) (by decide) kq) ?_
        refine own_Go.by (fun tq kq => XS.iconst X4.here hx rfl (hb hby at_183) kq) ?_
        refine own_Go.by (fun tq kq => XS.istore X4.here hx rfl (hb hby at_184) rfl (l' := #[sI p1, sI p2, sI p3, sI c0x, sI c1x, sI la, sI (p3 &&& (3 : Int32)), sI d0x, sI d1x, sI lb, sR x_1, sR x_4, .val .null, sI (0 : Int32), .unset, .unset, .unset, .unset]) rfl kq) ?_
        show own_Go _ _ _ _ (T4.setTop (mkF m 186 #[sI p1, sI p2, sI p3, sI c0x, sI c1x, sI la, sI (p3 &&& (3 : Int32)), sI d0x, sI d1x, sI lb, sR x_1, sR x_4, .val .null, sI (0 : Int32), .unset, .unset, .unset, .unset] []))
        obtain ⟨T9, h9, X9, e9, E9, A9, D9, -, st9⟩ := newO X4 hx hZ4 hown4 (hw _ (List.mem_of_getElem? (i := 27) rfl)) (hw _ (List.mem_of_getElem? (i := 28) rfl)) (hw _ (List.mem_of_getElem? (i := 29) rfl)) rfl (g := (mkF m 186 #[sI p1, sI p2, sI p3, sI c0x, sI c1x, sI la, sI (p3 &&& (3 : Int32)), sI d0x, sI d1x, sI lb, sR x_1, sR x_4, .val .null, sI (0 : Int32), .unset, .unset, .unset, .unset] [])) rfl (hb hby at_186) (by decide) (by decide)
        obtain ⟨ob9, y9⟩ : ∃ z, z = T4.heap.size := ⟨_, rfl⟩
        rw [← y9] at A9 D9 st9
        refine own_Go.by st9 ?_
        have O10 := O5.ext E9
        have K10 := K5.ext E9
        have hk_10 := E9.1
        have g11 : n0 ≤ ob9 := Nat.le_trans (own_old_le O5) (Nat.le_of_eq y9.symm)
        have z11 : h0.size ≤ ob9 := Nat.le_trans K5.1 (Nat.le_of_eq y9.symm)
        have F9_text : Fld Z h9 ob9 "com/example/enlace/enlace/UriReference" "text" "Ljava/lang/String;" .null := D9 (Or.inr (hw _ (List.mem_of_getElem? (i := 35) rfl))) (ty := (.object "java/lang/String")) (by decide)
        have F9_scheme : Fld Z h9 ob9 "com/example/enlace/enlace/UriReference" "scheme" "Ljava/lang/String;" .null := D9 (Or.inr (hw _ (List.mem_of_getElem? (i := 37) rfl))) (ty := (.object "java/lang/String")) (by decide)
        have F9_userinfo : Fld Z h9 ob9 "com/example/enlace/enlace/UriReference" "userinfo" "Ljava/lang/String;" .null := D9 (Or.inr (hw _ (List.mem_of_getElem? (i := 39) rfl))) (ty := (.object "java/lang/String")) (by decide)
        have F9_host : Fld Z h9 ob9 "com/example/enlace/enlace/UriReference" "host" "Ljava/lang/String;" .null := D9 (Or.inr (hw _ (List.mem_of_getElem? (i := 41) rfl))) (ty := (.object "java/lang/String")) (by decide)
        have F9_port : Fld Z h9 ob9 "com/example/enlace/enlace/UriReference" "port" "Ljava/lang/String;" .null := D9 (Or.inr (hw _ (List.mem_of_getElem? (i := 43) rfl))) (ty := (.object "java/lang/String")) (by decide)
        have F9_path : Fld Z h9 ob9 "com/example/enlace/enlace/UriReference" "path" "Ljava/lang/String;" .null := D9 (Or.inr (hw _ (List.mem_of_getElem? (i := 45) rfl))) (ty := (.object "java/lang/String")) (by decide)
        have F9_query : Fld Z h9 ob9 "com/example/enlace/enlace/UriReference" "query" "Ljava/lang/String;" .null := D9 (Or.inr (hw _ (List.mem_of_getElem? (i := 47) rfl))) (ty := (.object "java/lang/String")) (by decide)
        have F9_fragment : Fld Z h9 ob9 "com/example/enlace/enlace/UriReference" "fragment" "Ljava/lang/String;" .null := D9 (Or.inr (hw _ (List.mem_of_getElem? (i := 49) rfl))) (ty := (.object "java/lang/String")) (by decide)
        refine own_Go.by (fun tq kq => XS.dup X9.here hx rfl (hb hby at_189) rfl rfl kq) ?_
        refine own_Go.by (fun tq kq => XS.aload X9.here hx rfl (hb hby at_190) rfl rfl kq) ?_
        refine own_Go.by (fun tq kq => XS.aload X9.here hx rfl (hb hby at_192) rfl rfl kq) ?_
        show own_Go _ _ _ _ (T9.setTop (mkF m 194 #[sI p1, sI p2, sI p3, sI c0x, sI c1x, sI la, sI (p3 &&& (3 : Int32)), sI d0x, sI d1x, sI lb, sR x_1, sR x_4, .val .null, sI (0 : Int32), .unset, .unset, .unset, .unset] [.null, (Value.ref x_1), (Value.ref ob9), (Value.ref ob9)]))
        refine own_Go.by (fun tq kq => XS.aconstNull X9.here hx rfl (hb hby at_194) kq) ?_
        refine own_Go.by (fun tq kq => XS.aconstNull X9.here hx rfl (hb hby at_195) kq) ?_
        refine own_Go.by (fun tq kq => XS.aconstNull X9.here hx rfl (hb hby at_196) kq) ?_
        refine own_Go.by (fun tq kq => XS.aload X9.here hx rfl (hb hby at_197) rfl rfl kq) ?_
        show own_Go _ _ _ _ (T9.setTop (mkF m 199 #[sI p1, sI p2, sI p3, sI c0x, sI c1x, sI la, sI (p3 &&& (3 : Int32)), sI d0x, sI d1x, sI lb, sR x_1, sR x_4, .val .null, sI (0 : Int32), .unset, .unset, .unset, .unset] [(Value.ref x_1), .null, .null, .null, .null, (Value.ref x_1), (Value.ref ob9), (Value.ref ob9)]))
        refine own_Go.by (fun tq kq => XS.aconstNull X9.here hx rfl (hb hby at_199) kq) ?_
        refine own_Go.by (fun tq kq => XS.aconstNull X9.here hx rfl (hb hby at_200) kq) ?_
        show own_Go _ _ _ _ (T9.setTop (mkF m 201 #[sI p1, sI p2, sI p3, sI c0x, sI c1x, sI la, sI (p3 &&& (3 : Int32)), sI d0x, sI d1x, sI lb, sR x_1, sR x_4, .val .null, sI (0 : Int32), .unset, .unset, .unset, .unset] [.null, .null, (Value.ref x_1), .null, .null, .null, .null, (Value.ref x_1), (Value.ref ob9), (Value.ref ob9)]))
        obtain ⟨_, _, ⟨T12, L12, k12, n12⟩, -, X12, ⟨Lc12, hQ12, l12, y12, z12⟩, st12⟩ := X9.specialBack hx (y := (⟨"com/example/enlace/enlace/UriReference", "<init>", "(Ljava/lang/String;Ljava/lang/String;Ljava/lang/String;Ljava/lang/String;Ljava/lang/String;Ljava/lang/String;Ljava/lang/String;Ljava/lang/String;)V"⟩ : MethodName)) rfl hown4 (mvT hZ4 (hw _ (List.mem_of_getElem? (i := 30) rfl))) (mvT hZ4 (hw _ (List.mem_of_getElem? (i := 31) rfl))) (mvT hZ4 (hw _ (List.mem_of_getElem? (i := 32) rfl))) (by decide) (backOf (W := 1) (rm5_rnnnnrnn l Z a0 hw [] ob9 x_1 x_1 h9 n0 O10 A9 g11 F9_text F9_scheme F9_userinfo F9_host F9_port F9_path F9_query F9_fragment) hZ4 (hw _ (List.mem_of_getElem? (i := 32) rfl)) (hw _ (List.mem_of_getElem? (i := 29) rfl)) (by decide) (by decide)) (g := (mkF m 201 #[sI p1, sI p2, sI p3, sI c0x, sI c1x, sI la, sI (p3 &&& (3 : Int32)), sI d0x, sI d1x, sI lb, sR x_1, sR x_4, .val .null, sI (0 : Int32), .unset, .unset, .unset, .unset] [.null, .null, (Value.ref x_1), .null, .null, .null, .null, (Value.ref x_1), (Value.ref ob9), (Value.ref ob9)])) rfl (by rw [hml]; rfl) (Steps.refl _) (a := ob9) (argsL := [(Value.ref x_1), .null, .null, .null, .null, (Value.ref x_1), .null, .null]) (rest := [(Value.ref ob9)]) (lenOf own_pd4 rfl) rfl (by show 2 * 0 + _ ≤ _; exact Nat.le_of_eq rfl) (hb hby at_201) (fun _ _ => ⟨rfl, e9, (by decide : 13 + 0 ≤ _), (by decide : 32 + 0 ≤ _)⟩)
        dsimp only [Pt.U, Pt.locs, Pt.cells, Pt.slots] at X12 l12 y12 z12 st12 hQ12
        subst l12 y12 z12
        refine own_Go.by (fun tq kq => st12.trans kq) ?_
        obtain ⟨rfl, N12q, K12q, p12_0, p12_1⟩ := hQ12
        have N12 := Fr.app N4 N12q
        have O13 := O10.keep K12q (allS g11 all0)
        have K13 := K10.trans K12q (allS (Or.inr z11) all0)
        have hk_13 := Nat.le_trans hk_10 K12q.1
        refine own_Go.by (fun tq kq => XS.astore X12.here hx rfl (hb hby at_204) rfl rfl (l' := #[sI p1, sI p2, sI p3, sI c0x, sI c1x, sI la, sI (p3 &&& (3 : Int32)), sI d0x, sI d1x, sI lb, sR x_1, sR x_4, .val .null, sI (0 : Int32), sR ob9, .unset, .unset, .unset]) rfl kq) ?_
        refine own_Go.by (fun tq kq => XS.iload X12.here hx rfl (hb hby at_206) rfl kq) ?_
        show own_Go _ _ _ _ (T12.setTop (mkF m 208 #[sI p1, sI p2, sI p3, sI c0x, sI c1x, sI la, sI (p3 &&& (3 : Int32)), sI d0x, sI d1x, sI lb, sR x_1, sR x_4, .val .null, sI (0 : Int32), sR ob9, .unset, .unset, .unset] [(Value.int (0 : Int32))]))
        refine own_Go.by (fun tq kq => XS.ifYes X12.here hx rfl (pc0 := 208) (pc' := 232) rfl (hb hby at_208) rfl ((if0 _ _).trans (teq (by decide : (0 : Int32) = (0 : Int32))).1) (by decide) (by decide) kq) ?_
        show own_Go _ _ _ _ (T12.setTop (mkF m 232 #[sI p1, sI p2, sI p3, sI c0x, sI c1x, sI la, sI (p3 &&& (3 : Int32)), sI d0x, sI d1x, sI lb, sR x_1, sR x_4, .val .null, sI (0 : Int32), sR ob9, .unset, .unset, .unset] []))
        obtain ⟨T14, h14, X14, e14, E14, A14, D14, -, st14⟩ := newO X12 hx hZ4 hown4 (hw _ (List.mem_of_getElem? (i := 27) rfl)) (hw _ (List.mem_of_getElem? (i := 28) rfl)) (hw _ (List.mem_of_getElem? (i := 29) rfl)) rfl (g := (mkF m 232 #[sI p1, sI p2, sI p3, sI c0x, sI c1x, sI la, sI (p3 &&& (3 : Int32)), sI d0x, sI d1x, sI lb, sR x_1, sR x_4, .val .null, sI (0 : Int32), sR ob9, .unset, .unset, .unset] [])) rfl (hb hby at_232) (by decide) (by decide)
        obtain ⟨ob14, y14⟩ : ∃ z, z = T12.heap.size := ⟨_, rfl⟩
        rw [← y14] at A14 D14 st14
        refine own_Go.by st14 ?_
        have O15 := O13.ext E14
        have K15 := K13.ext E14
        have hk_15 := Nat.le_trans hk_13 E14.1
        have g16 : n0 ≤ ob14 := Nat.le_trans (own_old_le O13) (Nat.le_of_eq y14.symm)
        have z16 : h0.size ≤ ob14 := Nat.le_trans K13.1 (Nat.le_of_eq y14.symm)
        have F14_text : Fld Z h14 ob14 "com/example/enlace/enlace/UriReference" "text" "Ljava/lang/String;" .null := D14 (Or.inr (hw _ (List.mem_of_getElem? (i := 35) rfl))) (ty := (.object "java/lang/String")) (by decide)
        have F14_scheme : Fld Z h14 ob14 "com/example/enlace/enlace/UriReference" "scheme" "Ljava/lang/String;" .null := D14 (Or.inr (hw _ (List.mem_of_getElem? (i := 37) rfl))) (ty := (.object "java/lang/String")) (by decide)
        have F14_userinfo : Fld Z h14 ob14 "com/example/enlace/enlace/UriReference" "userinfo" "Ljava/lang/String;" .null := D14 (Or.inr (hw _ (List.mem_of_getElem? (i := 39) rfl))) (ty := (.object "java/lang/String")) (by decide)
        have F14_host : Fld Z h14 ob14 "com/example/enlace/enlace/UriReference" "host" "Ljava/lang/String;" .null := D14 (Or.inr (hw _ (List.mem_of_getElem? (i := 41) rfl))) (ty := (.object "java/lang/String")) (by decide)
        have F14_port : Fld Z h14 ob14 "com/example/enlace/enlace/UriReference" "port" "Ljava/lang/String;" .null := D14 (Or.inr (hw _ (List.mem_of_getElem? (i := 43) rfl))) (ty := (.object "java/lang/String")) (by decide)
        have F14_path : Fld Z h14 ob14 "com/example/enlace/enlace/UriReference" "path" "Ljava/lang/String;" .null := D14 (Or.inr (hw _ (List.mem_of_getElem? (i := 45) rfl))) (ty := (.object "java/lang/String")) (by decide)
        have F14_query : Fld Z h14 ob14 "com/example/enlace/enlace/UriReference" "query" "Ljava/lang/String;" .null := D14 (Or.inr (hw _ (List.mem_of_getElem? (i := 47) rfl))) (ty := (.object "java/lang/String")) (by decide)
        have F14_fragment : Fld Z h14 ob14 "com/example/enlace/enlace/UriReference" "fragment" "Ljava/lang/String;" .null := D14 (Or.inr (hw _ (List.mem_of_getElem? (i := 49) rfl))) (ty := (.object "java/lang/String")) (by decide)
        refine own_Go.by (fun tq kq => XS.dup X14.here hx rfl (hb hby at_235) rfl rfl kq) ?_
        refine own_Go.by (fun tq kq => XS.aload X14.here hx rfl (hb hby at_236) rfl rfl kq) ?_
        refine own_Go.by (fun tq kq => XS.aload X14.here hx rfl (hb hby at_238) rfl rfl kq) ?_
        show own_Go _ _ _ _ (T14.setTop (mkF m 240 #[sI p1, sI p2, sI p3, sI c0x, sI c1x, sI la, sI (p3 &&& (3 : Int32)), sI d0x, sI d1x, sI lb, sR x_1, sR x_4, .val .null, sI (0 : Int32), sR ob9, .unset, .unset, .unset] [.null, (Value.ref x_4), (Value.ref ob14), (Value.ref ob14)]))
        refine own_Go.by (fun tq kq => XS.ifnonnullNo X14.here hx rfl (hb hby at_240) rfl kq) ?_
        show own_Go _ _ _ _ (T14.setTop (mkF m 243 #[sI p1, sI p2, sI p3, sI c0x, sI c1x, sI la, sI (p3 &&& (3 : Int32)), sI d0x, sI d1x, sI lb, sR x_1, sR x_4, .val .null, sI (0 : Int32), sR ob9, .unset, .unset, .unset] [(Value.ref x_4), (Value.ref ob14), (Value.ref ob14)]))
        have R18 := CHr.ext E9 R4.1
        have Sf19 := Safe.ext E9 R4.1 (Safe.new (Nat.le_of_eq y9.symm))
        have R20 := CHr.keep K12q (allS Sf19 all0) R18.1
        have R21 := CHr.ext E14 R20.1
        obtain ⟨sa17, T17, h17, k17, sb17, kk17, X17, e17, E17, hS17, hk17, hZ17, hown17, Ea17, Fc17, Fv17, Va17, -, -, R17, -, hne17, st17⟩ := ldcCH (s := s) (vm0 := T4.vm) (EL := consts_1) X14 hx hZ4 hown4 (hw _ (List.mem_of_getElem? (i := 50) rfl)) (fun d hd => hw d (own_wS d hd)) e14 hS4 hk_15 hEL (List.mem_of_getElem? (i := 1) rfl) R21.1 (vs := [(Value.int (102 : Int32)), (Value.int (116 : Int32)), (Value.int (112 : Int32))]) (z := (3 : Int32)) ⟨by decide, by decide +kernel⟩ (by decide) rfl (g := (mkF m 243 #[sI p1, sI p2, sI p3, sI c0x, sI c1x, sI la, sI (p3 &&& (3 : Int32)), sI d0x, sI d1x, sI lb, sR x_1, sR x_4, .val .null, sI (0 : Int32), sR ob9, .unset, .unset, .unset] [(Value.ref x_4), (Value.ref ob14), (Value.ref ob14)])) rfl (hb hby at_243) (n := 12) (by decide) (by decide) (by decide) (by decide)
        refine own_Go.by st17 ?_
        have O22 := O15.ext E17
        have K22 := K15.ext E17
        refine own_Go.by (fun tq kq => XS.goto X17.here hx rfl (pc0 := 245) (pc' := 249) rfl (hb hby at_245) (by decide) (by decide) kq) ?_
        show own_Go _ _ _ _ (T17.setTop (mkF m 249 #[sI p1, sI p2, sI p3, sI c0x, sI c1x, sI la, sI (p3 &&& (3 : Int32)), sI d0x, sI d1x, sI lb, sR x_1, sR x_4, .val .null, sI (0 : Int32), sR ob9, .unset, .unset, .unset] [(Value.ref sa17), (Value.ref x_4), (Value.ref ob14), (Value.ref ob14)]))
        obtain ⟨sa23, T23, h23, k23, sb23, kk23, X23, e23, E23, hS23, hk23, hZ23, hown23, Ea23, Fc23, Fv23, Va23, -, -, R23, -, hne23, st23⟩ := ldcCH (s := s) (vm0 := T17.vm) (EL := consts_1) X17 hx hZ17 hown17 (hw _ (List.mem_of_getElem? (i := 51) rfl)) (fun d hd => hw d (own_wS d hd)) e17 hS17 hk17 hEL (List.mem_of_getElem? (i := 2) rfl) R17.1 (vs := [(Value.int (117 : Int32))]) (z := (1 : Int32)) ⟨by decide, by decide +kernel⟩ (by decide) rfl (g := (mkF m 249 #[sI p1, sI p2, sI p3, sI c0x, sI c1x, sI la, sI (p3 &&& (3 : Int32)), sI d0x, sI d1x, sI lb, sR x_1, sR x_4, .val .null, sI (0 : Int32), sR ob9, .unset, .unset, .unset] [(Value.ref sa17), (Value.ref x_4), (Value.ref ob14), (Value.ref ob14)])) rfl (hb hby at_249) (n := 4) (by decide) (by decide) (by decide) (by decide)
        refine own_Go.by st23 ?_
        have O24 := O22.ext E23
        have K24 := K22.ext E23
        show own_Go _ _ _ _ (T23.setTop (mkF m 251 #[sI p1, sI p2, sI p3, sI c0x, sI c1x, sI la, sI (p3 &&& (3 : Int32)), sI d0x, sI d1x, sI lb, sR x_1, sR x_4, .val .null, sI (0 : Int32), sR ob9, .unset, .unset, .unset] [(Value.ref sa23), (Value.ref sa17), (Value.ref x_4), (Value.ref ob14), (Value.ref ob14)]))
        obtain ⟨sa25, T25, h25, k25, sb25, kk25, X25, e25, E25, hS25, hk25, hZ25, hown25, Ea25, Fc25, Fv25, Va25, -, -, R25, -, hne25, st25⟩ := ldcCH (s := s) (vm0 := T23.vm) (EL := consts_1) X23 hx hZ23 hown23 (hw _ (List.mem_of_getElem? (i := 52) rfl)) (fun d hd => hw d (own_wS d hd)) e23 hS23 hk23 hEL (List.mem_of_getElem? (i := 3) rfl) R23.1 (vs := [(Value.int (104 : Int32))]) (z := (1 : Int32)) ⟨by decide, by decide +kernel⟩ (by decide) rfl (g := (mkF m 251 #[sI p1, sI p2, sI p3, sI c0x, sI c1x, sI la, sI (p3 &&& (3 : Int32)), sI d0x, sI d1x, sI lb, sR x_1, sR x_4, .val .null, sI (0 : Int32), sR ob9, .unset, .unset, .unset] [(Value.ref sa23), (Value.ref sa17), (Value.ref x_4), (Value.ref ob14), (Value.ref ob14)])) rfl (hb hby at_251) (n := 4) (by decide) (by decide) (by decide) (by decide)
        refine own_Go.by st25 ?_
        have O26 := O24.ext E25
        have K26 := K24.ext E25
        show own_Go _ _ _ _ (T25.setTop (mkF m 253 #[sI p1, sI p2, sI p3, sI c0x, sI c1x, sI la, sI (p3 &&& (3 : Int32)), sI d0x, sI d1x, sI lb, sR x_1, sR x_4, .val .null, sI (0 : Int32), sR ob9, .unset, .unset, .unset] [(Value.ref sa25), (Value.ref sa23), (Value.ref sa17), (Value.ref x_4), (Value.ref ob14), (Value.ref ob14)]))
        obtain ⟨sa27, T27, h27, k27, sb27, kk27, X27, e27, E27, hS27, hk27, hZ27, hown27, Ea27, Fc27, Fv27, Va27, -, -, R27, -, hne27, st27⟩ := ldcCH (s := s) (vm0 := T25.vm) (EL := consts_1) X25 hx hZ25 hown25 (hw _ (List.mem_of_getElem? (i := 53) rfl)) (fun d hd => hw d (own_wS d hd)) e25 hS25 hk25 hEL (List.mem_of_getElem? (i := 4) rfl) R25.1 (vs := [(Value.int (56 : Int32))]) (z := (1 : Int32)) ⟨by decide, by decide +kernel⟩ (by decide) rfl (g := (mkF m 253 #[sI p1, sI p2, sI p3, sI c0x, sI c1x, sI la, sI (p3 &&& (3 : Int32)), sI d0x, sI d1x, sI lb, sR x_1, sR x_4, .val .null, sI (0 : Int32), sR ob9, .unset, .unset, .unset] [(Value.ref sa25), (Value.ref sa23), (Value.ref sa17), (Value.ref x_4), (Value.ref ob14), (Value.ref ob14)])) rfl (hb hby at_253) (n := 4) (by decide) (by decide) (by decide) (by decide)
        refine own_Go.by st27 ?_
        have O28 := O26.ext E27
        have K28 := K26.ext E27
        show own_Go _ _ _ _ (T27.setTop (mkF m 255 #[sI p1, sI p2, sI p3, sI c0x, sI c1x, sI la, sI (p3 &&& (3 : Int32)), sI d0x, sI d1x, sI lb, sR x_1, sR x_4, .val .null, sI (0 : Int32), sR ob9, .unset, .unset, .unset] [(Value.ref sa27), (Value.ref sa25), (Value.ref sa23), (Value.ref sa17), (Value.ref x_4), (Value.ref ob14), (Value.ref ob14)]))
        obtain ⟨sa29, T29, h29, k29, sb29, kk29, X29, e29, E29, hS29, hk29, hZ29, hown29, Ea29, Fc29, Fv29, Va29, -, -, R29, -, hne29, st29⟩ := ldcCH (s := s) (vm0 := T27.vm) (EL := consts_1) X27 hx hZ27 hown27 (hw _ (List.mem_of_getElem? (i := 54) rfl)) (fun d hd => hw d (own_wS d hd)) e27 hS27 hk27 hEL (List.mem_of_getElem? (i := 5) rfl) R27.1 (vs := [(Value.int (47 : Int32)), (Value.int (112 : Int32))]) (z := (2 : Int32)) ⟨by decide, by decide +kernel⟩ (by decide) rfl (g := (mkF m 255 #[sI p1, sI p2, sI p3, sI c0x, sI c1x, sI la, sI (p3 &&& (3 : Int32)), sI d0x, sI d1x, sI lb, sR x_1, sR x_4, .val .null, sI (0 : Int32), sR ob9, .unset, .unset, .unset] [(Value.ref sa27), (Value.ref sa25), (Value.ref sa23), (Value.ref sa17), (Value.ref x_4), (Value.ref ob14), (Value.ref ob14)])) rfl (hb hby at_255) (n := 8) (by decide) (by decide) (by decide) (by decide)
        refine own_Go.by st29 ?_
        have O30 := O28.ext E29
        have K30 := K28.ext E29
        show own_Go _ _ _ _ (T29.setTop (mkF m 257 #[sI p1, sI p2, sI p3, sI c0x, sI c1x, sI la, sI (p3 &&& (3 : Int32)), sI d0x, sI d1x, sI lb, sR x_1, sR x_4, .val .null, sI (0 : Int32), sR ob9, .unset, .unset, .unset] [(Value.ref sa29), (Value.ref sa27), (Value.ref sa25), (Value.ref sa23), (Value.ref sa17), (Value.ref x_4), (Value.ref ob14), (Value.ref ob14)]))
        obtain ⟨sa31, T31, h31, k31, sb31, kk31, X31, e31, E31, hS31, hk31, hZ31, hown31, Ea31, Fc31, Fv31, Va31, -, -, R31, -, hne31, st31⟩ := ldcCH (s := s) (vm0 := T29.vm) (EL := consts_1) X29 hx hZ29 hown29 (hw _ (List.mem_of_getElem? (i := 55) rfl)) (fun d hd => hw d (own_wS d hd)) e29 hS29 hk29 hEL (List.mem_of_getElem? (i := 6) rfl) R29.1 (vs := [(Value.int (113 : Int32))]) (z := (1 : Int32)) ⟨by decide, by decide +kernel⟩ (by decide) rfl (g := (mkF m 257 #[sI p1, sI p2, sI p3, sI c0x, sI c1x, sI la, sI (p3 &&& (3 : Int32)), sI d0x, sI d1x, sI lb, sR x_1, sR x_4, .val .null, sI (0 : Int32), sR ob9, .unset, .unset, .unset] [(Value.ref sa29), (Value.ref sa27), (Value.ref sa25), (Value.ref sa23), (Value.ref sa17), (Value.ref x_4), (Value.ref ob14), (Value.ref ob14)])) rfl (hb hby at_257) (n := 4) (by decide) (by decide) (by decide) (by decide)
        refine own_Go.by st31 ?_
        have O32 := O30.ext E31
        have K32 := K30.ext E31
        show own_Go _ _ _ _ (T31.setTop (mkF m 259 #[sI p1, sI p2, sI p3, sI c0x, sI c1x, sI la, sI (p3 &&& (3 : Int32)), sI d0x, sI d1x, sI lb, sR x_1, sR x_4, .val .null, sI (0 : Int32), sR ob9, .unset, .unset, .unset] [(Value.ref sa31), (Value.ref sa29), (Value.ref sa27), (Value.ref sa25), (Value.ref sa23), (Value.ref sa17), (Value.ref x_4), (Value.ref ob14), (Value.ref ob14)]))
        obtain ⟨sa33, T33, h33, k33, sb33, kk33, X33, e33, E33, hS33, hk33, hZ33, hown33, Ea33, Fc33, Fv33, Va33, -, -, R33, -, hne33, st33⟩ := ldcCH (s := s) (vm0 := T31.vm) (EL := consts_1) X31 hx hZ31 hown31 (hw _ (List.mem_of_getElem? (i := 56) rfl)) (fun d hd => hw d (own_wS d hd)) e31 hS31 hk31 hEL (List.mem_of_getElem? (i := 7) rfl) R31.1 (vs := [(Value.int (102 : Int32))]) (z := (1 : Int32)) ⟨by decide, by decide +kernel⟩ (by decide) rfl (g := (mkF m 259 #[sI p1, sI p2, sI p3, sI c0x, sI c1x, sI la, sI (p3 &&& (3 : Int32)), sI d0x, sI d1x, sI lb, sR x_1, sR x_4, .val .null, sI (0 : Int32), sR ob9, .unset, .unset, .unset] [(Value.ref sa31), (Value.ref sa29), (Value.ref sa27), (Value.ref sa25), (Value.ref sa23), (Value.ref sa17), (Value.ref x_4), (Value.ref ob14), (Value.ref ob14)])) rfl (hb hby at_259) (n := 4) (by decide) (by decide) (by decide) (by decide)
        refine own_Go.by st33 ?_
        have O34 := O32.ext E33
        have K34 := K32.ext E33
        show own_Go _ _ _ _ (T33.setTop (mkF m 261 #[sI p1, sI p2, sI p3, sI c0x, sI c1x, sI la, sI (p3 &&& (3 : Int32)), sI d0x, sI d1x, sI lb, sR x_1, sR x_4, .val .null, sI (0 : Int32), sR ob9, .unset, .unset, .unset] [(Value.ref sa33), (Value.ref sa31), (Value.ref sa29), (Value.ref sa27), (Value.ref sa25), (Value.ref sa23), (Value.ref sa17), (Value.ref x_4), (Value.ref ob14), (Value.ref ob14)]))
        have c36 := (((((((A14.ext E17).ext E23).ext E25).ext E27).ext E29).ext E31).ext E33)
        have c37 := (((((((F14_text.ext E17).ext E23).ext E25).ext E27).ext E29).ext E31).ext E33)
        have c38 := (((((((F14_scheme.ext E17).ext E23).ext E25).ext E27).ext E29).ext E31).ext E33)
        have c39 := (((((((F14_userinfo.ext E17).ext E23).ext E25).ext E27).ext E29).ext E31).ext E33)
        have c40 := (((((((F14_host.ext E17).ext E23).ext E25).ext E27).ext E29).ext E31).ext E33)
        have c41 := (((((((F14_port.ext E17).ext E23).ext E25).ext E27).ext E29).ext E31).ext E33)
        have c42 := (((((((F14_path.ext E17).ext E23).ext E25).ext E27).ext E29).ext E31).ext E33)
        have c43 := (((((((F14_query.ext E17).ext E23).ext E25).ext E27).ext E29).ext E31).ext E33)
        have c44 := (((((((F14_fragment.ext E17).ext E23).ext E25).ext E27).ext E29).ext E31).ext E33)
        obtain ⟨_, _, ⟨T35, L35, k35, n35⟩, -, X35, ⟨Lc35, hQ35, l35, y35, z35⟩, st35⟩ := X33.specialBack hx (y := (⟨"com/example/enlace/enlace/UriReference", "<init>", "(Ljava/lang/String;Ljava/lang/String;Ljava/lang/String;Ljava/lang/String;Ljava/lang/String;Ljava/lang/String;Ljava/lang/String;Ljava/lang/String;)V"⟩ : MethodName)) rfl hown33 (mvT hZ33 (hw _ (List.mem_of_getElem? (i := 30) rfl))) (mvT hZ33 (hw _ (List.mem_of_getElem? (i := 31) rfl))) (mvT hZ33 (hw _ (List.mem_of_getElem? (i := 32) rfl))) (by decide) (backOf (W := 1) (rm5_rrrrrrrr l Z a0 hw [] ob14 x_4 sa17 sa23 sa25 sa27 sa29 sa31 sa33 h33 n0 O34 c36 g16 c37 c38 c39 c40 c41 c42 c43 c44) hZ33 (hw _ (List.mem_of_getElem? (i := 32) rfl)) (hw _ (List.mem_of_getElem? (i := 29) rfl)) (by decide) (by decide)) (g := (mkF m 261 #[sI p1, sI p2, sI p3, sI c0x, sI c1x, sI la, sI (p3 &&& (3 : Int32)), sI d0x, sI d1x, sI lb, sR x_1, sR x_4, .val .null, sI (0 : Int32), sR ob9, .unset, .unset, .unset] [(Value.ref sa33), (Value.ref sa31), (Value.ref sa29), (Value.ref sa27), (Value.ref sa25), (Value.ref sa23), (Value.ref sa17), (Value.ref x_4), (Value.ref ob14), (Value.ref ob14)])) rfl (by rw [hml]; rfl) (Steps.refl _) (a := ob14) (argsL := [(Value.ref x_4), (Value.ref sa17), (Value.ref sa23), (Value.ref sa25), (Value.ref sa27), (Value.ref sa29), (Value.ref sa31), (Value.ref sa33)]) (rest := [(Value.ref ob14)]) (lenOf own_pd4 rfl) rfl (by show 2 * 0 + _ ≤ _; exact Nat.le_of_eq rfl) (hb hby at_261) (fun _ _ => ⟨rfl, e33, (by decide : 28 + 0 ≤ _), (by decide : 108 + 0 ≤ _)⟩)
        dsimp only [Pt.U, Pt.locs, Pt.cells, Pt.slots] at X35 l35 y35 z35 st35 hQ35
        subst l35 y35 z35
        refine own_Go.by (fun tq kq => st35.trans kq) ?_
        obtain ⟨rfl, N35q, K35q, p35_0, p35_1⟩ := hQ35
        have N35 := Fr.app N12 N35q
        have O45 := O34.keep K35q (allS g16 all0)
        have K45 := K34.trans K35q (allS (Or.inr z16) all0)
        have hk_45 := Nat.le_trans hk33 K35q.1
        refine own_Go.by (fun tq kq => XS.astore X35.here hx rfl (hb hby at_264) rfl rfl (l' := #[sI p1, sI p2, sI p3, sI c0x, sI c1x, sI la, sI (p3 &&& (3 : Int32)), sI d0x, sI d1x, sI lb, sR x_1, sR x_4, .val .null, sI (0 : Int32), sR ob9, sR ob14, .unset, .unset]) rfl kq) ?_
        refine own_merge (α := Int32) (P := fun ex => (ex = (1 : Int32) ∧ own_text la c0x c1x = own_text lb d0x d1x) ∨ (ex = (0 : Int32) ∧ ¬ own_text la c0x c1x = own_text lb d0x d1x)) (F := fun ex => T35.setTop (mkF m 305 #[sI p1, sI p2, sI p3, sI c0x, sI c1x, sI la, sI (p3 &&& (3 : Int32)), sI d0x, sI d1x, sI lb, sR x_1, sR x_4, .val .null, sI (0 : Int32), sR ob9, sR ob14, sI ex, .unset] [])) ?_ ?_
        ·
          intro ex h_ex
          refine own_Go.by (fun tq kq => XS.aconstNull X35.here hx rfl (hb hby at_305) kq) ?_
          refine own_Go.by (fun tq kq => XS.astore X35.here hx rfl (hb hby at_306) rfl rfl (l' := #[sI p1, sI p2, sI p3, sI c0x, sI c1x, sI la, sI (p3 &&& (3 : Int32)), sI d0x, sI d1x, sI lb, sR x_1, sR x_4, .val .null, sI (0 : Int32), sR ob9, sR ob14, sI ex, .val .null]) rfl kq) ?_
          show own_Go _ _ _ _ (T35.setTop (mkF m 308 #[sI p1, sI p2, sI p3, sI c0x, sI c1x, sI la, sI (p3 &&& (3 : Int32)), sI d0x, sI d1x, sI lb, sR x_1, sR x_4, .val .null, sI (0 : Int32), sR ob9, sR ob14, sI ex, .val .null] []))
          refine own_Go.by (fun tq kq => XS.aload X35.here hx rfl (hb hby at_308) rfl rfl kq) ?_
          refine own_Go.by (fun tq kq => XS.aload X35.here hx rfl (hb hby at_310) rfl rfl kq) ?_
          show own_Go _ _ _ _ (T35.setTop (mkF m 312 #[sI p1, sI p2, sI p3, sI c0x, sI c1x, sI la, sI (p3 &&& (3 : Int32)), sI d0x, sI d1x, sI lb, sR x_1, sR x_4, .val .null, sI (0 : Int32), sR ob9, sR ob14, sI ex, .val .null] [(Value.ref ob14), (Value.ref ob9)]))
          have c47 := (((((((((p12_0.ext E14).ext E17).ext E23).ext E25).ext E27).ext E29).ext E31).ext E33).keep K35q)
          have c48 := (((((((((p12_1.ext E14).ext E17).ext E23).ext E25).ext E27).ext E29).ext E31).ext E33).keep K35q (ninS (Nat.ne_of_lt (Nat.lt_of_lt_of_le A9.lt (Nat.le_trans K12q.1 (Nat.le_of_eq y14.symm)))) nin0))
          have c49 := ((((((((((((p1_1.keep K4q).ext E9).keep K12q).ext E14).ext E17).ext E23).ext E25).ext E27).ext E29).ext E31).ext E33).keep K35q)
          have c50 := ((((((((((((p1_2.keep K4q nin0).ext E9).keep K12q (ninS (Nat.ne_of_lt (Nat.lt_of_lt_of_le p1_1.lt (Nat.le_trans K4q.1 (Nat.le_of_eq y9.symm)))) nin0)).ext E14).ext E17).ext E23).ext E25).ext E27).ext E29).ext E31).ext E33).keep K35q (ninS (Nat.ne_of_lt (Nat.lt_of_lt_of_le p1_1.lt (Nat.le_trans K4q.1 (Nat.le_trans E9.1 (Nat.le_trans K12q.1 (Nat.le_of_eq y14.symm)))))) nin0))
          have c51 := ((((((((((((p1_3.keep K4q nin0).ext E9).keep K12q (ninS (Nat.ne_of_lt (Nat.lt_of_lt_of_le p1_1.lt (Nat.le_trans K4q.1 (Nat.le_of_eq y9.symm)))) nin0)).ext E14).ext E17).ext E23).ext E25).ext E27).ext E29).ext E31).ext E33).keep K35q (ninS (Nat.ne_of_lt (Nat.lt_of_lt_of_le p1_1.lt (Nat.le_trans K4q.1 (Nat.le_trans E9.1 (Nat.le_trans K12q.1 (Nat.le_of_eq y14.symm)))))) nin0))
          have c52 := ((((((((((((p1_4.keep K4q nin0).ext E9).keep K12q (ninS (Nat.ne_of_lt (Nat.lt_of_lt_of_le p1_4.lt (Nat.le_trans K4q.1 (Nat.le_of_eq y9.symm)))) nin0)).ext E14).ext E17).ext E23).ext E25).ext E27).ext E29).ext E31).ext E33).keep K35q (ninS (Nat.ne_of_lt (Nat.lt_of_lt_of_le p1_4.lt (Nat.le_trans K4q.1 (Nat.le_trans E9.1 (Nat.le_trans K12q.1 (Nat.le_of_eq y14.symm)))))) nin0))
          have c53 := (((((((((((p4_1.ext E9).keep K12q).ext E14).ext E17).ext E23).ext E25).ext E27).ext E29).ext E31).ext E33).keep K35q)
          have c54 := (((((((((((p4_2.ext E9).keep K12q (ninS (Nat.ne_of_lt (Nat.lt_of_lt_of_le p4_1.lt (Nat.le_of_eq y9.symm))) nin0)).ext E14).ext E17).ext E23).ext E25).ext E27).ext E29).ext E31).ext E33).keep K35q (ninS (Nat.ne_of_lt (Nat.lt_of_lt_of_le p4_1.lt (Nat.le_trans E9.1 (Nat.le_trans K12q.1 (Nat.le_of_eq y14.symm))))) nin0))
          have c55 := (((((((((((p4_3.ext E9).keep K12q (ninS (Nat.ne_of_lt (Nat.lt_of_lt_of_le p4_1.lt (Nat.le_of_eq y9.symm))) nin0)).ext E14).ext E17).ext E23).ext E25).ext E27).ext E29).ext E31).ext E33).keep K35q (ninS (Nat.ne_of_lt (Nat.lt_of_lt_of_le p4_1.lt (Nat.le_trans E9.1 (Nat.le_trans K12q.1 (Nat.le_of_eq y14.symm))))) nin0))
          have c56 := (((((((((((p4_4.ext E9).keep K12q (ninS (Nat.ne_of_lt (Nat.lt_of_lt_of_le p4_4.lt (Nat.le_of_eq y9.symm))) nin0)).ext E14).ext E17).ext E23).ext E25).ext E27).ext E29).ext E31).ext E33).keep K35q (ninS (Nat.ne_of_lt (Nat.lt_of_lt_of_le p4_4.lt (Nat.le_trans E9.1 (Nat.le_trans K12q.1 (Nat.le_of_eq y14.symm))))) nin0))
          obtain ⟨cq46, kq46, q46a, q46b, q46c⟩ := isOf hZ33 rfl c47
          obtain ⟨_, _, ⟨T46, L46, k46, n46⟩, -, X46, ⟨Lc46, hQ46, l46, y46, z46⟩, st46⟩ := X35.virtualBack hx (y := (⟨"com/example/enlace/enlace/UriReference", "equals", "(Ljava/lang/Object;)Z"⟩ : MethodName)) (z := (⟨"com/example/enlace/enlace/UriReference", "equals", "(Ljava/lang/Object;)Z"⟩ : MethodName)) hown33 (mvT hZ33 (hw _ (List.mem_of_getElem? (i := 57) rfl))) (mvT hZ33 (hw _ (List.mem_of_getElem? (i := 58) rfl))) (notFace_of_selects (args := #[]) (mvT hZ33 (hw _ (List.mem_of_getElem? (i := 60) rfl)))) (mvT hZ33 (hw _ (List.mem_of_getElem? (i := 60) rfl))) (mvT hZ33 (hw _ (List.mem_of_getElem? (i := 59) rfl))) (by decide) (backOf (W := 0) (rm6_a l Z a0 hw [] ob9 ob14 zc x_1 t_1 kb_1 N2_1 vs2_1 (own_text la c0x c1x) x_4 t_4 kb_4 N2_4 vs2_4 (own_text lb d0x d1x) T35.heap n0 O45 H0 (hzc : ¬ (zc = (0 : Int32))) c47 p35_0 c48 c49 c50 c51 c52 (p1_5 : own_cod (own_text la c0x c1x) N2_1 vs2_1) p35_1 c53 c54 c55 c56 (p4_5 : own_cod (own_text lb d0x d1x) N2_4 vs2_4)) hZ33 (hw _ (List.mem_of_getElem? (i := 61) rfl)) (hw _ (List.mem_of_getElem? (i := 29) rfl)) (by decide) (by decide)) q46a q46c (g := (mkF m 312 #[sI p1, sI p2, sI p3, sI c0x, sI c1x, sI la, sI (p3 &&& (3 : Int32)), sI d0x, sI d1x, sI lb, sR x_1, sR x_4, .val .null, sI (0 : Int32), sR ob9, sR ob14, sI ex, .val .null] [(Value.ref ob14), (Value.ref ob9)])) rfl (by rw [hml]; rfl) (Steps.refl _) (argsL := [(Value.ref ob14)]) (rest := []) (lenOf own_pd2 rfl) rfl (by show 2 * 0 + _ ≤ _; exact Nat.le_of_eq rfl) (hb hby at_312) (fun _ _ => ⟨rfl, rfl, (by decide : 28 + 0 ≤ _), (by decide : 108 + 0 ≤ _)⟩)
          dsimp only [Pt.U, Pt.locs, Pt.cells, Pt.slots] at X46 l46 y46 z46 st46 hQ46
          subst l46 y46 z46
          refine own_Go.by (fun tq kq => st46.trans kq) ?_
          obtain ⟨r_46, rfl, N46q, e46, p46_0⟩ := hQ46
          have N46 := Fr.app N35 N46q
          refine own_Go.by (fun tq kq => XS.iload X46.here hx rfl (hb hby at_315) rfl kq) ?_
          show own_Go _ _ _ _ (T46.setTop (mkF m 317 #[sI p1, sI p2, sI p3, sI c0x, sI c1x, sI la, sI (p3 &&& (3 : Int32)), sI d0x, sI d1x, sI lb, sR x_1, sR x_4, .val .null, sI (0 : Int32), sR ob9, sR ob14, sI ex, .val .null] [(Value.int ex), (Value.int r_46)]))
          refine own_Go.by (fun tq kq => XS.icmpNo X46.here hx rfl (hb hby at_317) rfl (teq (own_same p46_0 h_ex Iff.rfl : r_46 = ex)).2 kq) ?_
          refine own_Go.by (fun tq kq => XS.aload X46.here hx rfl (hb hby at_320) rfl rfl kq) ?_
          refine own_Go.by (fun tq kq => XS.aload X46.here hx rfl (hb hby at_322) rfl rfl kq) ?_
          show own_Go _ _ _ _ (T46.setTop (mkF m 324 #[sI p1, sI p2, sI p3, sI c0x, sI c1x, sI la, sI (p3 &&& (3 : Int32)), sI d0x, sI d1x, sI lb, sR x_1, sR x_4, .val .null, sI (0 : Int32), sR ob9, sR ob14, sI ex, .val .null] [(Value.ref ob9), (Value.ref ob14)]))
          obtain ⟨cq57, kq57, q57a, q57b, q57c⟩ := isOf hZ33 e46 p35_0
          obtain ⟨_, _, ⟨T57, L57, k57, n57⟩, -, X57, ⟨Lc57, hQ57, l57, y57, z57⟩, st57⟩ := X46.virtualBack hx (y := (⟨"com/example/enlace/enlace/UriReference", "equals", "(Ljava/lang/Object;)Z"⟩ : MethodName)) (z := (⟨"com/example/enlace/enlace/UriReference", "equals", "(Ljava/lang/Object;)Z"⟩ : MethodName)) hown33 (mvT hZ33 (hw _ (List.mem_of_getElem? (i := 57) rfl))) (mvT hZ33 (hw _ (List.mem_of_getElem? (i := 58) rfl))) (notFace_of_selects (args := #[]) (mvT hZ33 (hw _ (List.mem_of_getElem? (i := 60) rfl)))) (mvT hZ33 (hw _ (List.mem_of_getElem? (i := 60) rfl))) (mvT hZ33 (hw _ (List.mem_of_getElem? (i := 59) rfl))) (by decide) (backOf (W := 0) (rm6_a l Z a0 hw [] ob14 ob9 zc x_4 t_4 kb_4 N2_4 vs2_4 (own_text lb d0x d1x) x_1 t_1 kb_1 N2_1 vs2_1 (own_text la c0x c1x) T35.heap n0 O45 H0 (hzc : ¬ (zc = (0 : Int32))) p35_0 c47 p35_1 c53 c54 c55 c56 (p4_5 : own_cod (own_text lb d0x d1x) N2_4 vs2_4) c48 c49 c50 c51 c52 (p1_5 : own_cod (own_text la c0x c1x) N2_1 vs2_1)) hZ33 (hw _ (List.mem_of_getElem? (i := 61) rfl)) (hw _ (List.mem_of_getElem? (i := 29) rfl)) (by decide) (by decide)) q57a q57c (g := (mkF m 324 #[sI p1, sI p2, sI p3, sI c0x, sI c1x, sI la, sI (p3 &&& (3 : Int32)), sI d0x, sI d1x, sI lb, sR x_1, sR x_4, .val .null, sI (0 : Int32), sR ob9, sR ob14, sI ex, .val .null] [(Value.ref ob9), (Value.ref ob14)])) rfl (by rw [hml]; rfl) (Steps.refl _) (argsL := [(Value.ref ob9)]) (rest := []) (lenOf own_pd2 rfl) rfl (by show 2 * 0 + _ ≤ _; exact Nat.le_of_eq rfl) (hb hby at_324) (fun _ _ => ⟨rfl, e46, (by decide : 28 + 0 ≤ _), (by decide : 108 + 0 ≤ _)⟩)
          dsimp only [Pt.U, Pt.locs, Pt.cells, Pt.slots] at X57 l57 y57 z57 st57 hQ57
          subst l57 y57 z57
          refine own_Go.by (fun tq kq => st57.trans kq) ?_
          obtain ⟨r_57, rfl, N57q, e57, p57_0⟩ := hQ57
          have N57 := Fr.app N46 N57q
          refine own_Go.by (fun tq kq => XS.iload X57.here hx rfl (hb hby at_327) rfl kq) ?_
          show own_Go _ _ _ _ (T57.setTop (mkF m 329 #[sI p1, sI p2, sI p3, sI c0x, sI c1x, sI la, sI (p3 &&& (3 : Int32)), sI d0x, sI d1x, sI lb, sR x_1, sR x_4, .val .null, sI (0 : Int32), sR ob9, sR ob14, sI ex, .val .null] [(Value.int ex), (Value.int r_57)]))
          refine own_Go.by (fun tq kq => XS.icmpNo X57.here hx rfl (hb hby at_329) rfl (teq (own_same p57_0 h_ex ⟨Eq.symm, Eq.symm⟩ : r_57 = ex)).2 kq) ?_
          refine own_Go.by (fun tq kq => XS.aload X57.here hx rfl (hb hby at_332) rfl rfl kq) ?_
          refine own_Go.by (fun tq kq => XS.aload X57.here hx rfl (hb hby at_334) rfl rfl kq) ?_
          show own_Go _ _ _ _ (T57.setTop (mkF m 336 #[sI p1, sI p2, sI p3, sI c0x, sI c1x, sI la, sI (p3 &&& (3 : Int32)), sI d0x, sI d1x, sI lb, sR x_1, sR x_4, .val .null, sI (0 : Int32), sR ob9, sR ob14, sI ex, .val .null] [(Value.ref ob9), (Value.ref ob9)]))
          obtain ⟨cq58, kq58, q58a, q58b, q58c⟩ := isOf hZ33 e57 c47
          obtain ⟨_, _, ⟨T58, L58, k58, n58⟩, -, X58, ⟨Lc58, hQ58, l58, y58, z58⟩, st58⟩ := X57.virtualBack hx (y := (⟨"com/example/enlace/enlace/UriReference", "equals", "(Ljava/lang/Object;)Z"⟩ : MethodName)) (z := (⟨"com/example/enlace/enlace/UriReference", "equals", "(Ljava/lang/Object;)Z"⟩ : MethodName)) hown33 (mvT hZ33 (hw _ (List.mem_of_getElem? (i := 57) rfl))) (mvT hZ33 (hw _ (List.mem_of_getElem? (i := 58) rfl))) (notFace_of_selects (args := #[]) (mvT hZ33 (hw _ (List.mem_of_getElem? (i := 60) rfl)))) (mvT hZ33 (hw _ (List.mem_of_getElem? (i := 60) rfl))) (mvT hZ33 (hw _ (List.mem_of_getElem? (i := 59) rfl))) (by decide) (backOf (W := 0) (rm6_a l Z a0 hw [] ob9 ob9 zc x_1 t_1 kb_1 N2_1 vs2_1 (own_text la c0x c1x) x_1 t_1 kb_1 N2_1 vs2_1 (own_text la c0x c1x) T35.heap n0 O45 H0 (hzc : ¬ (zc = (0 : Int32))) c47 c47 c48 c49 c50 c51 c52 (p1_5 : own_cod (own_text la c0x c1x) N2_1 vs2_1) c48 c49 c50 c51 c52 (p1_5 : own_cod (own_text la c0x c1x) N2_1 vs2_1)) hZ33 (hw _ (List.mem_of_getElem? (i := 61) rfl)) (hw _ (List.mem_of_getElem? (i := 29) rfl)) (by decide) (by decide)) q58a q58c (g := (mkF m 336 #[sI p1, sI p2, sI p3, sI c0x, sI c1x, sI la, sI (p3 &&& (3 : Int32)), sI d0x, sI d1x, sI lb, sR x_1, sR x_4, .val .null, sI (0 : Int32), sR ob9, sR ob14, sI ex, .val .null] [(Value.ref ob9), (Value.ref ob9)])) rfl (by rw [hml]; rfl) (Steps.refl _) (argsL := [(Value.ref ob9)]) (rest := []) (lenOf own_pd2 rfl) rfl (by show 2 * 0 + _ ≤ _; exact Nat.le_of_eq rfl) (hb hby at_336) (fun _ _ => ⟨rfl, e57, (by decide : 28 + 0 ≤ _), (by decide : 108 + 0 ≤ _)⟩)
          dsimp only [Pt.U, Pt.locs, Pt.cells, Pt.slots] at X58 l58 y58 z58 st58 hQ58
          subst l58 y58 z58
          refine own_Go.by (fun tq kq => st58.trans kq) ?_
          obtain ⟨r_58, rfl, N58q, e58, p58_0⟩ := hQ58
          have N58 := Fr.app N57 N58q
          show own_Go _ _ _ _ (T58.setTop (mkF m 339 #[sI p1, sI p2, sI p3, sI c0x, sI c1x, sI la, sI (p3 &&& (3 : Int32)), sI d0x, sI d1x, sI lb, sR x_1, sR x_4, .val .null, sI (0 : Int32), sR ob9, sR ob14, sI ex, .val .null] [(Value.int r_58)]))
          refine own_Go.by (fun tq kq => XS.ifNo X58.here hx rfl (hb hby at_339) rfl ((if0 _ _).trans (feq (own_self p58_0 rfl : ¬ (r_58 = (0 : Int32)))).1) kq) ?_
          refine own_Go.by (fun tq kq => XS.aload X58.here hx rfl (hb hby at_342) rfl rfl kq) ?_
          refine own_Go.by (fun tq kq => XS.aload X58.here hx rfl (hb hby at_344) rfl rfl kq) ?_
          show own_Go _ _ _ _ (T58.setTop (mkF m 346 #[sI p1, sI p2, sI p3, sI c0x, sI c1x, sI la, sI (p3 &&& (3 : Int32)), sI d0x, sI d1x, sI lb, sR x_1, sR x_4, .val .null, sI (0 : Int32), sR ob9, sR ob14, sI ex, .val .null] [.null, (Value.ref ob9)]))
          obtain ⟨cq59, kq59, q59a, q59b, q59c⟩ := isOf hZ33 e58 c47
          obtain ⟨_, _, ⟨T59, L59, k59, n59⟩, -, X59, ⟨Lc59, hQ59, l59, y59, z59⟩, st59⟩ := X58.virtualBack hx (y := (⟨"com/example/enlace/enlace/UriReference", "equals", "(Ljava/lang/Object;)Z"⟩ : MethodName)) (z := (⟨"com/example/enlace/enlace/UriReference", "equals", "(Ljava/lang/Object;)Z"⟩ : MethodName)) hown33 (mvT hZ33 (hw _ (List.mem_of_getElem? (i := 57) rfl))) (mvT hZ33 (hw _ (List.mem_of_getElem? (i := 58) rfl))) (notFace_of_selects (args := #[]) (mvT hZ33 (hw _ (List.mem_of_getElem? (i := 60) rfl)))) (mvT hZ33 (hw _ (List.mem_of_getElem? (i := 60) rfl))) (mvT hZ33 (hw _ (List.mem_of_getElem? (i := 59) rfl))) (by decide) (backOf (W := 0) (rm6_n l Z a0 hw [] ob9 T35.heap n0 O45 ) hZ33 (hw _ (List.mem_of_getElem? (i := 61) rfl)) (hw _ (List.mem_of_getElem? (i := 29) rfl)) (by decide) (by decide)) q59a q59c (g := (mkF m 346 #[sI p1, sI p2, sI p3, sI c0x, sI c1x, sI la, sI (p3 &&& (3 : Int32)), sI d0x, sI d1x, sI lb, sR x_1, sR x_4, .val .null, sI (0 : Int32), sR ob9, sR ob14, sI ex, .val .null] [.null, (Value.ref ob9)])) rfl (by rw [hml]; rfl) (Steps.refl _) (argsL := [.null]) (rest := []) (lenOf own_pd2 rfl) rfl (by show 2 * 0 + _ ≤ _; exact Nat.le_of_eq rfl) (hb hby at_346) (fun _ _ => ⟨rfl, e58, (by decide : 28 + 0 ≤ _), (by decide : 108 + 0 ≤ _)⟩)
          dsimp only [Pt.U, Pt.locs, Pt.cells, Pt.slots] at X59 l59 y59 z59 st59 hQ59
          subst l59 y59 z59
          refine own_Go.by (fun tq kq => st59.trans kq) ?_
          obtain ⟨rfl, N59q, e59⟩ := hQ59
          have N59 := Fr.app N58 N59q
          show own_Go _ _ _ _ (T59.setTop (mkF m 349 #[sI p1, sI p2, sI p3, sI c0x, sI c1x, sI la, sI (p3 &&& (3 : Int32)), sI d0x, sI d1x, sI lb, sR x_1, sR x_4, .val .null, sI (0 : Int32), sR ob9, sR ob14, sI ex, .val .null] [(Value.int (0 : Int32))]))
          refine own_Go.by (fun tq kq => XS.ifNo X59.here hx rfl (hb hby at_349) rfl ((if0 _ _).trans (teq (by decide : (0 : Int32) = (0 : Int32))).2) kq) ?_
          refine own_Go.by (fun tq kq => XS.aload X59.here hx rfl (hb hby at_352) rfl rfl kq) ?_
          refine own_Go.by (fun tq kq => XS.aload X59.here hx rfl (hb hby at_354) rfl rfl kq) ?_
          show own_Go _ _ _ _ (T59.setTop (mkF m 356 #[sI p1, sI p2, sI p3, sI c0x, sI c1x, sI la, sI (p3 &&& (3 : Int32)), sI d0x, sI d1x, sI lb, sR x_1, sR x_4, .val .null, sI (0 : Int32), sR ob9, sR ob14, sI ex, .val .null] [(Value.ref x_1), (Value.ref ob9)]))
          obtain ⟨cq60, kq60, q60a, q60b, q60c⟩ := isOf hZ33 e59 c47
          obtain ⟨_, _, ⟨T60, L60, k60, n60⟩, -, X60, ⟨Lc60, hQ60, l60, y60, z60⟩, st60⟩ := X59.virtualBack hx (y := (⟨"com/example/enlace/enlace/UriReference", "equals", "(Ljava/lang/Object;)Z"⟩ : MethodName)) (z := (⟨"com/example/enlace/enlace/UriReference", "equals", "(Ljava/lang/Object;)Z"⟩ : MethodName)) hown33 (mvT hZ33 (hw _ (List.mem_of_getElem? (i := 57) rfl))) (mvT hZ33 (hw _ (List.mem_of_getElem? (i := 58) rfl))) (notFace_of_selects (args := #[]) (mvT hZ33 (hw _ (List.mem_of_getElem? (i := 60) rfl)))) (mvT hZ33 (hw _ (List.mem_of_getElem? (i := 60) rfl))) (mvT hZ33 (hw _ (List.mem_of_getElem? (i := 59) rfl))) (by decide) (backOf (W := 0) (rm6_s l Z a0 hw [] ob9 x_1 T35.heap n0 O45 c49) hZ33 (hw _ (List.mem_of_getElem? (i := 61) rfl)) (hw _ (List.mem_of_getElem? (i := 29) rfl)) (by decide) (by decide)) q60a q60c (g := (mkF m 356 #[sI p1, sI p2, sI p3, sI c0x, sI c1x, sI la, sI (p3 &&& (3 : Int32)), sI d0x, sI d1x, sI lb, sR x_1, sR x_4, .val .null, sI (0 : Int32), sR ob9, sR ob14, sI ex, .val .null] [(Value.ref x_1), (Value.ref ob9)])) rfl (by rw [hml]; rfl) (Steps.refl _) (argsL := [(Value.ref x_1)]) (rest := []) (lenOf own_pd2 rfl) rfl (by show 2 * 0 + _ ≤ _; exact Nat.le_of_eq rfl) (hb hby at_356) (fun _ _ => ⟨rfl, e59, (by decide : 28 + 0 ≤ _), (by decide : 108 + 0 ≤ _)⟩)
          dsimp only [Pt.U, Pt.locs, Pt.cells, Pt.slots] at X60 l60 y60 z60 st60 hQ60
          subst l60 y60 z60
          refine own_Go.by (fun tq kq => st60.trans kq) ?_
          obtain ⟨rfl, N60q, e60⟩ := hQ60
          have N60 := Fr.app N59 N60q
          show own_Go _ _ _ _ (T60.setTop (mkF m 359 #[sI p1, sI p2, sI p3, sI c0x, sI c1x, sI la, sI (p3 &&& (3 : Int32)), sI d0x, sI d1x, sI lb, sR x_1, sR x_4, .val .null, sI (0 : Int32), sR ob9, sR ob14, sI ex, .val .null] [(Value.int (0 : Int32))]))
          refine own_Go.by (fun tq kq => XS.ifNo X60.here hx rfl (hb hby at_359) rfl ((if0 _ _).trans (teq (by decide : (0 : Int32) = (0 : Int32))).2) kq) ?_
          refine own_Go.by (fun tq kq => XS.iconst X60.here hx rfl (hb hby at_362) kq) ?_
          refine own_Go.by (fun tq kq => XS.goto X60.here hx rfl (pc0 := 363) (pc' := 367) rfl (hb hby at_363) (by decide) (by decide) kq) ?_
          show own_Go _ _ _ _ (T60.setTop (mkF m 367 #[sI p1, sI p2, sI p3, sI c0x, sI c1x, sI la, sI (p3 &&& (3 : Int32)), sI d0x, sI d1x, sI lb, sR x_1, sR x_4, .val .null, sI (0 : Int32), sR ob9, sR ob14, sI ex, .val .null] [(Value.int (1 : Int32))]))
          obtain ⟨fs, hr, hrun, hended, hRE⟩ := Stand.leaveW (s := s) (vm₁ := T33.vm) X60 hS33 (by rw [e60]; exact hk_45) (v := some (Value.int (nar .boolean (1 : Int32)))) (fun h => by rw [Bd.returns] at h; cases h)
          have Sf61 := Safe.ext E14 R20.1 (Safe.new (Nat.le_of_eq y14.symm))
          have R62 := CHr.keep K35q (allS (((((((R17.trans R23).trans R25).trans R27).trans R29).trans R31).trans R33).safe A14.lt Sf61) all0) R33.1
          have hCR := ((((((((((((R1.trans R4).trans R18).trans R20).trans R21).trans R17).trans R23).trans R25).trans R27).trans R29).trans R31).trans R33).trans R62)
          have hCZ : CHr Z consts_1 s.vm s.heap T60.vm T60.heap := by
            rw [hh, e60]
            exact hCR.trans (CHv.at (s := s) (vm0 := T33.vm) X60 hZ33 hEL hCR.1)
          refine own_Go.fin (retN X60 hx (t := .boolean) Bd.returns (by simp) (hb hby at_367) hr) ⟨hrun, hended, _, _, rfl, ?_, hCZ, own_rew hRE (by decide) (by decide)⟩
          show Q0 Z p1 p2 p3 zc h0 n0 _ T60.heap _
          rw [e60]
          exact ⟨rfl, N60, K45⟩
        ·
          intro g_ex
          refine own_Go.by (fun tq kq => XS.iload X35.here hx rfl (hb hby at_266) rfl kq) ?_
          refine own_Go.by (fun tq kq => XS.iload X35.here hx rfl (hb hby at_268) rfl kq) ?_
          show own_Go _ _ _ _ (T35.setTop (mkF m 270 #[sI p1, sI p2, sI p3, sI c0x, sI c1x, sI la, sI (p3 &&& (3 : Int32)), sI d0x, sI d1x, sI lb, sR x_1, sR x_4, .val .null, sI (0 : Int32), sR ob9, sR ob14, .unset, .unset] [(Value.int lb), (Value.int la)]))
          by_cases hc270_63 : la = lb
          ·
            refine own_Go.by (fun tq kq => XS.icmpNo X35.here hx rfl (hb hby at_270) rfl (teq hc270_63).2 kq) ?_
            refine own_Go.by (fun tq kq => XS.iload X35.here hx rfl (hb hby at_273) rfl kq) ?_
            refine own_Go.by (fun tq kq => XS.iconst X35.here hx rfl (hb hby at_275) kq) ?_
            show own_Go _ _ _ _ (T35.setTop (mkF m 276 #[sI p1, sI p2, sI p3, sI c0x, sI c1x, sI la, sI (p3 &&& (3 : Int32)), sI d0x, sI d1x, sI lb, sR x_1, sR x_4, .val .null, sI (0 : Int32), sR ob9, sR ob14, .unset, .unset] [(Value.int (1 : Int32)), (Value.int la)]))
            by_cases hc276_64 : la < (1 : Int32)
            ·
              refine own_Go.by (fun tq kq => XS.icmpYes X35.here hx rfl (pc0 := 276) (pc' := 285) rfl (hb hby at_276) rfl (tlt hc276_64).1 (by decide) (by decide) kq) ?_
              refine own_Go.by (fun tq kq => XS.iload X35.here hx rfl (hb hby at_285) rfl kq) ?_
              refine own_Go.by (fun tq kq => XS.iconst X35.here hx rfl (hb hby at_287) kq) ?_
              show own_Go _ _ _ _ (T35.setTop (mkF m 288 #[sI p1, sI p2, sI p3, sI c0x, sI c1x, sI la, sI (p3 &&& (3 : Int32)), sI d0x, sI d1x, sI lb, sR x_1, sR x_4, .val .null, sI (0 : Int32), sR ob9, sR ob14, .unset, .unset] [(Value.int (2 : Int32)), (Value.int la)]))
              by_cases hc288_65 : la < (2 : Int32)
              ·
                refine own_Go.by (fun tq kq => XS.icmpYes X35.here hx rfl (pc0 := 288) (pc' := 298) rfl (hb hby at_288) rfl (tlt hc288_65).1 (by decide) (by decide) kq) ?_
                refine own_Go.by (fun tq kq => XS.iconst X35.here hx rfl (hb hby at_298) kq) ?_
                refine own_Go.by (fun tq kq => XS.goto X35.here hx rfl (pc0 := 299) (pc' := 303) rfl (hb hby at_299) (by decide) (by decide) kq) ?_
                refine own_Go.by (fun tq kq => XS.istore X35.here hx rfl (hb hby at_303) rfl (l' := #[sI p1, sI p2, sI p3, sI c0x, sI c1x, sI la, sI (p3 &&& (3 : Int32)), sI d0x, sI d1x, sI lb, sR x_1, sR x_4, .val .null, sI (0 : Int32), sR ob9, sR ob14, sI (1 : Int32), .unset]) rfl kq) ?_
                exact g_ex _ (Or.inl ⟨rfl, (own_exp (own_r3p hv_la) h_d0x_d1x_lb.2.2).mpr ⟨hc270_63, Or.inl hc276_64, Or.inl hc288_65⟩⟩)
              ·
                refine own_Go.by (fun tq kq => XS.icmpNo X35.here hx rfl (hb hby at_288) rfl (flt hc288_65).1 kq) ?_
                refine own_Go.by (fun tq kq => XS.iload X35.here hx rfl (hb hby at_291) rfl kq) ?_
                refine own_Go.by (fun tq kq => XS.iload X35.here hx rfl (hb hby at_293) rfl kq) ?_
                show own_Go _ _ _ _ (T35.setTop (mkF m 295 #[sI p1, sI p2, sI p3, sI c0x, sI c1x, sI la, sI (p3 &&& (3 : Int32)), sI d0x, sI d1x, sI lb, sR x_1, sR x_4, .val .null, sI (0 : Int32), sR ob9, sR ob14, .unset, .unset] [(Value.int d1x), (Value.int c1x)]))
                by_cases hc295_66 : c1x = d1x
                ·
                  refine own_Go.by (fun tq kq => XS.icmpNo X35.here hx rfl (hb hby at_295) rfl (teq hc295_66).2 kq) ?_
                  refine own_Go.by (fun tq kq => XS.iconst X35.here hx rfl (hb hby at_298) kq) ?_
                  refine own_Go.by (fun tq kq => XS.goto X35.here hx rfl (pc0 := 299) (pc' := 303) rfl (hb hby at_299) (by decide) (by decide) kq) ?_
                  refine own_Go.by (fun tq kq => XS.istore X35.here hx rfl (hb hby at_303) rfl (l' := #[sI p1, sI p2, sI p3, sI c0x, sI c1x, sI la, sI (p3 &&& (3 : Int32)), sI d0x, sI d1x, sI lb, sR x_1, sR x_4, .val .null, sI (0 : Int32), sR ob9, sR ob14, sI (1 : Int32), .unset]) rfl kq) ?_
                  exact g_ex _ (Or.inl ⟨rfl, (own_exp (own_r3p hv_la) h_d0x_d1x_lb.2.2).mpr ⟨hc270_63, Or.inl hc276_64, Or.inr hc295_66⟩⟩)
                ·
                  refine own_Go.by (fun tq kq => XS.icmpYes X35.here hx rfl (pc0 := 295) (pc' := 302) rfl (hb hby at_295) rfl (feq hc295_66).2 (by decide) (by decide) kq) ?_
                  refine own_Go.by (fun tq kq => XS.iconst X35.here hx rfl (hb hby at_302) kq) ?_
                  refine own_Go.by (fun tq kq => XS.istore X35.here hx rfl (hb hby at_303) rfl (l' := #[sI p1, sI p2, sI p3, sI c0x, sI c1x, sI la, sI (p3 &&& (3 : Int32)), sI d0x, sI d1x, sI lb, sR x_1, sR x_4, .val .null, sI (0 : Int32), sR ob9, sR ob14, sI (0 : Int32), .unset]) rfl kq) ?_
                  exact g_ex _ (Or.inr ⟨rfl, fun q => (fun z => z.2.2.elim hc288_65 hc295_66) ((own_exp (own_r3p hv_la) h_d0x_d1x_lb.2.2).mp q)⟩)
            ·
              refine own_Go.by (fun tq kq => XS.icmpNo X35.here hx rfl (hb hby at_276) rfl (flt hc276_64).1 kq) ?_
              refine own_Go.by (fun tq kq => XS.iloadN X35.here hx rfl (hb hby at_279) rfl kq) ?_
              refine own_Go.by (fun tq kq => XS.iload X35.here hx rfl (hb hby at_280) rfl kq) ?_
              show own_Go _ _ _ _ (T35.setTop (mkF m 282 #[sI p1, sI p2, sI p3, sI c0x, sI c1x, sI la, sI (p3 &&& (3 : Int32)), sI d0x, sI d1x, sI lb, sR x_1, sR x_4, .val .null, sI (0 : Int32), sR ob9, sR ob14, .unset, .unset] [(Value.int d0x), (Value.int c0x)]))
              by_cases hc282_67 : c0x = d0x
              ·
                refine own_Go.by (fun tq kq => XS.icmpNo X35.here hx rfl (hb hby at_282) rfl (teq hc282_67).2 kq) ?_
                refine own_Go.by (fun tq kq => XS.iload X35.here hx rfl (hb hby at_285) rfl kq) ?_
                refine own_Go.by (fun tq kq => XS.iconst X35.here hx rfl (hb hby at_287) kq) ?_
                show own_Go _ _ _ _ (T35.setTop (mkF m 288 #[sI p1, sI p2, sI p3, sI c0x, sI c1x, sI la, sI (p3 &&& (3 : Int32)), sI d0x, sI d1x, sI lb, sR x_1, sR x_4, .val .null, sI (0 : Int32), sR ob9, sR ob14, .unset, .unset] [(Value.int (2 : Int32)), (Value.int la)]))
                by_cases hc288_68 : la < (2 : Int32)
                ·
                  refine own_Go.by (fun tq kq => XS.icmpYes X35.here hx rfl (pc0 := 288) (pc' := 298) rfl (hb hby at_288) rfl (tlt hc288_68).1 (by decide) (by decide) kq) ?_
                  refine own_Go.by (fun tq kq => XS.iconst X35.here hx rfl (hb hby at_298) kq) ?_
                  refine own_Go.by (fun tq kq => XS.goto X35.here hx rfl (pc0 := 299) (pc' := 303) rfl (hb hby at_299) (by decide) (by decide) kq) ?_
                  refine own_Go.by (fun tq kq => XS.istore X35.here hx rfl (hb hby at_303) rfl (l' := #[sI p1, sI p2, sI p3, sI c0x, sI c1x, sI la, sI (p3 &&& (3 : Int32)), sI d0x, sI d1x, sI lb, sR x_1, sR x_4, .val .null, sI (0 : Int32), sR ob9, sR ob14, sI (1 : Int32), .unset]) rfl kq) ?_
                  exact g_ex _ (Or.inl ⟨rfl, (own_exp (own_r3p hv_la) h_d0x_d1x_lb.2.2).mpr ⟨hc270_63, Or.inr hc282_67, Or.inl hc288_68⟩⟩)
                ·
                  refine own_Go.by (fun tq kq => XS.icmpNo X35.here hx rfl (hb hby at_288) rfl (flt hc288_68).1 kq) ?_
                  refine own_Go.by (fun tq kq => XS.iload X35.here hx rfl (hb hby at_291) rfl kq) ?_
                  refine own_Go.by (fun tq kq => XS.iload X35.here hx rfl (hb hby at_293) rfl kq) ?_
                  show own_Go _ _ _ _ (T35.setTop (mkF m 295 #[sI p1, sI p2, sI p3, sI c0x, sI c1x, sI la, sI (p3 &&& (3 : Int32)), sI d0x, sI d1x, sI lb, sR x_1, sR x_4, .val .null, sI (0 : Int32), sR ob9, sR ob14, .unset, .unset] [(Value.int d1x), (Value.int c1x)]))
                  by_cases hc295_69 : c1x = d1x
                  ·
                    refine own_Go.by (fun tq kq => XS.icmpNo X35.here hx rfl (hb hby at_295) rfl (teq hc295_69).2 kq) ?_
                    refine own_Go.by (fun tq kq => XS.iconst X35.here hx rfl (hb hby at_298) kq) ?_
                    refine own_Go.by (fun tq kq => XS.goto X35.here hx rfl (pc0 := 299) (pc' := 303) rfl (hb hby at_299) (by decide) (by decide) kq) ?_
                    refine own_Go.by (fun tq kq => XS.istore X35.here hx rfl (hb hby at_303) rfl (l' := #[sI p1, sI p2, sI p3, sI c0x, sI c1x, sI la, sI (p3 &&& (3 : Int32)), sI d0x, sI d1x, sI lb, sR x_1, sR x_4, .val .null, sI (0 : Int32), sR ob9, sR ob14, sI (1 : Int32), .unset]) rfl kq) ?_
                    exact g_ex _ (Or.inl ⟨rfl, (own_exp (own_r3p hv_la) h_d0x_d1x_lb.2.2).mpr ⟨hc270_63, Or.inr hc282_67, Or.inr hc295_69⟩⟩)
                  ·
                    refine own_Go.by (fun tq kq => XS.icmpYes X35.here hx rfl (pc0 := 295) (pc' := 302) rfl (hb hby at_295) rfl (feq hc295_69).2 (by decide) (by decide) kq) ?_
                    refine own_Go.by (fun tq kq => XS.iconst X35.here hx rfl (hb hby at_302) kq) ?_
                    refine own_Go.by (fun tq kq => XS.istore X35.here hx rfl (hb hby at_303) rfl (l' := #[sI p1, sI p2, sI p3, sI c0x, sI c1x, sI la, sI (p3 &&& (3 : Int32)), sI d0x, sI d1x, sI lb, sR x_1, sR x_4, .val .null, sI (0 : Int32), sR ob9, sR ob14, sI (0 : Int32), .unset]) rfl kq) ?_
                    exact g_ex _ (Or.inr ⟨rfl, fun q => (fun z => z.2.2.elim hc288_68 hc295_69) ((own_exp (own_r3p hv_la) h_d0x_d1x_lb.2.2).mp q)⟩)
              ·
                refine own_Go.by (fun tq kq => XS.icmpYes X35.here hx rfl (pc0 := 282) (pc' := 302) rfl (hb hby at_282) rfl (feq hc282_67).2 (by decide) (by decide) kq) ?_
                refine own_Go.by (fun tq kq => XS.iconst X35.here hx rfl (hb hby at_302) kq) ?_
                refine own_Go.by (fun tq kq => XS.istore X35.here hx rfl (hb hby at_303) rfl (l' := #[sI p1, sI p2, sI p3, sI c0x, sI c1x, sI la, sI (p3 &&& (3 : Int32)), sI d0x, sI d1x, sI lb, sR x_1, sR x_4, .val .null, sI (0 : Int32), sR ob9, sR ob14, sI (0 : Int32), .unset]) rfl kq) ?_
                exact g_ex _ (Or.inr ⟨rfl, fun q => (fun z => z.2.1.elim hc276_64 hc282_67) ((own_exp (own_r3p hv_la) h_d0x_d1x_lb.2.2).mp q)⟩)
          ·
            refine own_Go.by (fun tq kq => XS.icmpYes X35.here hx rfl (pc0 := 270) (pc' := 302) rfl (hb hby at_270) rfl (feq hc270_63).2 (by decide) (by decide) kq) ?_
            refine own_Go.by (fun tq kq => XS.iconst X35.here hx rfl (hb hby at_302) kq) ?_
            refine own_Go.by (fun tq kq => XS.istore X35.here hx rfl (hb hby at_303) rfl (l' := #[sI p1, sI p2, sI p3, sI c0x, sI c1x, sI la, sI (p3 &&& (3 : Int32)), sI d0x, sI d1x, sI lb, sR x_1, sR x_4, .val .null, sI (0 : Int32), sR ob9, sR ob14, sI (0 : Int32), .unset]) rfl kq) ?_
            exact g_ex _ (Or.inr ⟨rfl, fun q => (fun z => hc270_63 z.1) ((own_exp (own_r3p hv_la) h_d0x_d1x_lb.2.2).mp q)⟩)
      ·
        refine own_Go.by (fun tq kq => XS.ifNo X4.here hx rfl (hb hby at_176) rfl ((if0 _ _).trans (feq hc176_8).1) kq) ?_
        refine own_Go.by (fun tq kq => XS.iconst X4.here hx rfl (hb hby at_179) kq) ?_
        refine own_Go.by (fun tq kq => XS.goto X4.here hx rfl (pc0 := 180) (pc' := 184) rfl (hb hby at_180) (by decide) (by decide) kq) ?_
        refine own_Go.by (fun tq kq => XS.istore X4.here hx rfl (hb hby at_184) rfl (l' := #[sI p1, sI p2, sI p3, sI c0x, sI c1x, sI la, sI (p3 &&& (3 : Int32)), sI d0x, sI d1x, sI lb, sR x_1, sR x_4, .val .null, sI (1 : Int32), .unset, .unset, .unset, .unset]) rfl kq) ?_
        show own_Go _ _ _ _ (T4.setTop (mkF m 186 #[sI p1, sI p2, sI p3, sI c0x, sI c1x, sI la, sI (p3 &&& (3 : Int32)), sI d0x, sI d1x, sI lb, sR x_1, sR x_4, .val .null, sI (1 : Int32), .unset, .unset, .unset, .unset] []))
        obtain ⟨T70, h70, X70, e70, E70, A70, D70, -, st70⟩ := newO X4 hx hZ4 hown4 (hw _ (List.mem_of_getElem? (i := 27) rfl)) (hw _ (List.mem_of_getElem? (i := 28) rfl)) (hw _ (List.mem_of_getElem? (i := 29) rfl)) rfl (g := (mkF m 186 #[sI p1, sI p2, sI p3, sI c0x, sI c1x, sI la, sI (p3 &&& (3 : Int32)), sI d0x, sI d1x, sI lb, sR x_1, sR x_4, .val .null, sI (1 : Int32), .unset, .unset, .unset, .unset] [])) rfl (hb hby at_186) (by decide) (by decide)
        obtain ⟨ob70, y70⟩ : ∃ z, z = T4.heap.size := ⟨_, rfl⟩
        rw [← y70] at A70 D70 st70
        refine own_Go.by st70 ?_
        have O71 := O5.ext E70
        have K71 := K5.ext E70
        have hk_71 := E70.1
        have g72 : n0 ≤ ob70 := Nat.le_trans (own_old_le O5) (Nat.le_of_eq y70.symm)
        have z72 : h0.size ≤ ob70 := Nat.le_trans K5.1 (Nat.le_of_eq y70.symm)
        have F70_text : Fld Z h70 ob70 "com/example/enlace/enlace/UriReference" "text" "Ljava/lang/String;" .null := D70 (Or.inr (hw _ (List.mem_of_getElem? (i := 35) rfl))) (ty := (.object "java/lang/String")) (by decide)
        have F70_scheme : Fld Z h70 ob70 "com/example/enlace/enlace/UriReference" "scheme" "Ljava/lang/String;" .null := D70 (Or.inr (hw _ (List.mem_of_getElem? (i := 37) rfl))) (ty := (.object "java/lang/String")) (by decide)
        have F70_userinfo : Fld Z h70 ob70 "com/example/enlace/enlace/UriReference" "userinfo" "Ljava/lang/String;" .null := D70 (Or.inr (hw _ (List.mem_of_getElem? (i := 39) rfl))) (ty := (.object "java/lang/String")) (by decide)
        have F70_host : Fld Z h70 ob70 "com/example/enlace/enlace/UriReference" "host" "Ljava/lang/String;" .null := D70 (Or.inr (hw _ (List.mem_of_getElem? (i := 41) rfl))) (ty := (.object "java/lang/String")) (by decide)
        have F70_port : Fld Z h70 ob70 "com/example/enlace/enlace/UriReference" "port" "Ljava/lang/String;" .null := D70 (Or.inr (hw _ (List.mem_of_getElem? (i := 43) rfl))) (ty := (.object "java/lang/String")) (by decide)
        have F70_path : Fld Z h70 ob70 "com/example/enlace/enlace/UriReference" "path" "Ljava/lang/String;" .null := D70 (Or.inr (hw _ (List.mem_of_getElem? (i := 45) rfl))) (ty := (.object "java/lang/String")) (by decide)
        have F70_query : Fld Z h70 ob70 "com/example/enlace/enlace/UriReference" "query" "Ljava/lang/String;" .null := D70 (Or.inr (hw _ (List.mem_of_getElem? (i := 47) rfl))) (ty := (.object "java/lang/String")) (by decide)
        have F70_fragment : Fld Z h70 ob70 "com/example/enlace/enlace/UriReference" "fragment" "Ljava/lang/String;" .null := D70 (Or.inr (hw _ (List.mem_of_getElem? (i := 49) rfl))) (ty := (.object "java/lang/String")) (by decide)
        refine own_Go.by (fun tq kq => XS.dup X70.here hx rfl (hb hby at_189) rfl rfl kq) ?_
        refine own_Go.by (fun tq kq => XS.aload X70.here hx rfl (hb hby at_190) rfl rfl kq) ?_
        refine own_Go.by (fun tq kq => XS.aload X70.here hx rfl (hb hby at_192) rfl rfl kq) ?_
        show own_Go _ _ _ _ (T70.setTop (mkF m 194 #[sI p1, sI p2, sI p3, sI c0x, sI c1x, sI la, sI (p3 &&& (3 : Int32)), sI d0x, sI d1x, sI lb, sR x_1, sR x_4, .val .null, sI (1 : Int32), .unset, .unset, .unset, .unset] [.null, (Value.ref x_1), (Value.ref ob70), (Value.ref ob70)]))
        refine own_Go.by (fun tq kq => XS.aconstNull X70.here hx rfl (hb hby at_194) kq) ?_
        refine own_Go.by (fun tq kq => XS.aconstNull X70.here hx rfl (hb hby at_195) kq) ?_
        refine own_Go.by (fun tq kq => XS.aconstNull X70.here hx rfl (hb hby at_196) kq) ?_
        refine own_Go.by (fun tq kq => XS.aload X70.here hx rfl (hb hby at_197) rfl rfl kq) ?_
        show own_Go _ _ _ _ (T70.setTop (mkF m 199 #[sI p1, sI p2, sI p3, sI c0x, sI c1x, sI la, sI (p3 &&& (3 : Int32)), sI d0x, sI d1x, sI lb, sR x_1, sR x_4, .val .null, sI (1 : Int32), .unset, .unset, .unset, .unset] [(Value.ref x_1), .null, .null, .null, .null, (Value.ref x_1), (Value.ref ob70), (Value.ref ob70)]))
        refine own_Go.by (fun tq kq => XS.aconstNull X70.here hx rfl (hb hby at_199) kq) ?_
        refine own_Go.by (fun tq kq => XS.aconstNull X70.here hx rfl (hb hby at_200) kq) ?_
        show own_Go _ _ _ _ (T70.setTop (mkF m 201 #[sI p1, sI p2, sI p3, sI c0x, sI c1x, sI la, sI (p3 &&& (3 : Int32)), sI d0x, sI d1x, sI lb, sR x_1, sR x_4, .val .null, sI (1 : Int32), .unset, .unset, .unset, .unset] [.null, .null, (Value.ref x_1), .null, .null, .null, .null, (Value.ref x_1), (Value.ref ob70), (Value.ref ob70)]))
        obtain ⟨_, _, ⟨T73, L73, k73, n73⟩, -, X73, ⟨Lc73, hQ73, l73, y73, z73⟩, st73⟩ := X70.specialBack hx (y := (⟨"com/example/enlace/enlace/UriReference", "<init>", "(Ljava/lang/String;Ljava/lang/String;Ljava/lang/String;Ljava/lang/String;Ljava/lang/String;Ljava/lang/String;Ljava/lang/String;Ljava/lang/String;)V"⟩ : MethodName)) rfl hown4 (mvT hZ4 (hw _ (List.mem_of_getElem? (i := 30) rfl))) (mvT hZ4 (hw _ (List.mem_of_getElem? (i := 31) rfl))) (mvT hZ4 (hw _ (List.mem_of_getElem? (i := 32) rfl))) (by decide) (backOf (W := 1) (rm5_rnnnnrnn l Z a0 hw [] ob70 x_1 x_1 h70 n0 O71 A70 g72 F70_text F70_scheme F70_userinfo F70_host F70_port F70_path F70_query F70_fragment) hZ4 (hw _ (List.mem_of_getElem? (i := 32) rfl)) (hw _ (List.mem_of_getElem? (i := 29) rfl)) (by decide) (by decide)) (g := (mkF m 201 #[sI p1, sI p2, sI p3, sI c0x, sI c1x, sI la, sI (p3 &&& (3 : Int32)), sI d0x, sI d1x, sI lb, sR x_1, sR x_4, .val .null, sI (1 : Int32), .unset, .unset, .unset, .unset] [.null, .null, (Value.ref x_1), .null, .null, .null, .null, (Value.ref x_1), (Value.ref ob70), (Value.ref ob70)])) rfl (by rw [hml]; rfl) (Steps.refl _) (a := ob70) (argsL := [(Value.ref x_1), .null, .null, .null, .null, (Value.ref x_1), .null, .null]) (rest := [(Value.ref ob70)]) (lenOf own_pd4 rfl) rfl (by show 2 * 0 + _ ≤ _; exact Nat.le_of_eq rfl) (hb hby at_201) (fun _ _ => ⟨rfl, e70, (by decide : 13 + 0 ≤ _), (by decide : 32 + 0 ≤ _)⟩)
        dsimp only [Pt.U, Pt.locs, Pt.cells, Pt.slots] at X73 l73 y73 z73 st73 hQ73
        subst l73 y73 z73
        refine own_Go.by (fun tq kq => st73.trans kq) ?_
        obtain ⟨rfl, N73q, K73q, p73_0, p73_1⟩ := hQ73
        have N73 := Fr.app N4 N73q
        have O74 := O71.keep K73q (allS g72 all0)
        have K74 := K71.trans K73q (allS (Or.inr z72) all0)
        have hk_74 := Nat.le_trans hk_71 K73q.1
        refine own_Go.by (fun tq kq => XS.astore X73.here hx rfl (hb hby at_204) rfl rfl (l' := #[sI p1, sI p2, sI p3, sI c0x, sI c1x, sI la, sI (p3 &&& (3 : Int32)), sI d0x, sI d1x, sI lb, sR x_1, sR x_4, .val .null, sI (1 : Int32), sR ob70, .unset, .unset, .unset]) rfl kq) ?_
        refine own_Go.by (fun tq kq => XS.iload X73.here hx rfl (hb hby at_206) rfl kq) ?_
        show own_Go _ _ _ _ (T73.setTop (mkF m 208 #[sI p1, sI p2, sI p3, sI c0x, sI c1x, sI la, sI (p3 &&& (3 : Int32)), sI d0x, sI d1x, sI lb, sR x_1, sR x_4, .val .null, sI (1 : Int32), sR ob70, .unset, .unset, .unset] [(Value.int (1 : Int32))]))
        refine own_Go.by (fun tq kq => XS.ifNo X73.here hx rfl (hb hby at_208) rfl ((if0 _ _).trans (feq (by decide : ¬ ((1 : Int32) = (0 : Int32)))).1) kq) ?_
        show own_Go _ _ _ _ (T73.setTop (mkF m 211 #[sI p1, sI p2, sI p3, sI c0x, sI c1x, sI la, sI (p3 &&& (3 : Int32)), sI d0x, sI d1x, sI lb, sR x_1, sR x_4, .val .null, sI (1 : Int32), sR ob70, .unset, .unset, .unset] []))
        obtain ⟨T75, h75, X75, e75, E75, A75, D75, -, st75⟩ := newO X73 hx hZ4 hown4 (hw _ (List.mem_of_getElem? (i := 27) rfl)) (hw _ (List.mem_of_getElem? (i := 28) rfl)) (hw _ (List.mem_of_getElem? (i := 29) rfl)) rfl (g := (mkF m 211 #[sI p1, sI p2, sI p3, sI c0x, sI c1x, sI la, sI (p3 &&& (3 : Int32)), sI d0x, sI d1x, sI lb, sR x_1, sR x_4, .val .null, sI (1 : Int32), sR ob70, .unset, .unset, .unset] [])) rfl (hb hby at_211) (by decide) (by decide)
        obtain ⟨ob75, y75⟩ : ∃ z, z = T73.heap.size := ⟨_, rfl⟩
        rw [← y75] at A75 D75 st75
        refine own_Go.by st75 ?_
        have O76 := O74.ext E75
        have K76 := K74.ext E75
        have hk_76 := Nat.le_trans hk_74 E75.1
        have g77 : n0 ≤ ob75 := Nat.le_trans (own_old_le O74) (Nat.le_of_eq y75.symm)
        have z77 : h0.size ≤ ob75 := Nat.le_trans K74.1 (Nat.le_of_eq y75.symm)
        have F75_text : Fld Z h75 ob75 "com/example/enlace/enlace/UriReference" "text" "Ljava/lang/String;" .null := D75 (Or.inr (hw _ (List.mem_of_getElem? (i := 35) rfl))) (ty := (.object "java/lang/String")) (by decide)
        have F75_scheme : Fld Z h75 ob75 "com/example/enlace/enlace/UriReference" "scheme" "Ljava/lang/String;" .null := D75 (Or.inr (hw _ (List.mem_of_getElem? (i := 37) rfl))) (ty := (.object "java/lang/String")) (by decide)
        have F75_userinfo : Fld Z h75 ob75 "com/example/enlace/enlace/UriReference" "userinfo" "Ljava/lang/String;" .null := D75 (Or.inr (hw _ (List.mem_of_getElem? (i := 39) rfl))) (ty := (.object "java/lang/String")) (by decide)
        have F75_host : Fld Z h75 ob75 "com/example/enlace/enlace/UriReference" "host" "Ljava/lang/String;" .null := D75 (Or.inr (hw _ (List.mem_of_getElem? (i := 41) rfl))) (ty := (.object "java/lang/String")) (by decide)
        have F75_port : Fld Z h75 ob75 "com/example/enlace/enlace/UriReference" "port" "Ljava/lang/String;" .null := D75 (Or.inr (hw _ (List.mem_of_getElem? (i := 43) rfl))) (ty := (.object "java/lang/String")) (by decide)
        have F75_path : Fld Z h75 ob75 "com/example/enlace/enlace/UriReference" "path" "Ljava/lang/String;" .null := D75 (Or.inr (hw _ (List.mem_of_getElem? (i := 45) rfl))) (ty := (.object "java/lang/String")) (by decide)
        have F75_query : Fld Z h75 ob75 "com/example/enlace/enlace/UriReference" "query" "Ljava/lang/String;" .null := D75 (Or.inr (hw _ (List.mem_of_getElem? (i := 47) rfl))) (ty := (.object "java/lang/String")) (by decide)
        have F75_fragment : Fld Z h75 ob75 "com/example/enlace/enlace/UriReference" "fragment" "Ljava/lang/String;" .null := D75 (Or.inr (hw _ (List.mem_of_getElem? (i := 49) rfl))) (ty := (.object "java/lang/String")) (by decide)
        refine own_Go.by (fun tq kq => XS.dup X75.here hx rfl (hb hby at_214) rfl rfl kq) ?_
        refine own_Go.by (fun tq kq => XS.aload X75.here hx rfl (hb hby at_215) rfl rfl kq) ?_
        refine own_Go.by (fun tq kq => XS.aload X75.here hx rfl (hb hby at_217) rfl rfl kq) ?_
        show own_Go _ _ _ _ (T75.setTop (mkF m 219 #[sI p1, sI p2, sI p3, sI c0x, sI c1x, sI la, sI (p3 &&& (3 : Int32)), sI d0x, sI d1x, sI lb, sR x_1, sR x_4, .val .null, sI (1 : Int32), sR ob70, .unset, .unset, .unset] [.null, (Value.ref x_4), (Value.ref ob75), (Value.ref ob75)]))
        refine own_Go.by (fun tq kq => XS.aconstNull X75.here hx rfl (hb hby at_219) kq) ?_
        refine own_Go.by (fun tq kq => XS.aconstNull X75.here hx rfl (hb hby at_220) kq) ?_
        refine own_Go.by (fun tq kq => XS.aconstNull X75.here hx rfl (hb hby at_221) kq) ?_
        refine own_Go.by (fun tq kq => XS.aload X75.here hx rfl (hb hby at_222) rfl rfl kq) ?_
        show own_Go _ _ _ _ (T75.setTop (mkF m 224 #[sI p1, sI p2, sI p3, sI c0x, sI c1x, sI la, sI (p3 &&& (3 : Int32)), sI d0x, sI d1x, sI lb, sR x_1, sR x_4, .val .null, sI (1 : Int32), sR ob70, .unset, .unset, .unset] [(Value.ref x_1), .null, .null, .null, .null, (Value.ref x_4), (Value.ref ob75), (Value.ref ob75)]))
        refine own_Go.by (fun tq kq => XS.aconstNull X75.here hx rfl (hb hby at_224) kq) ?_
        refine own_Go.by (fun tq kq => XS.aconstNull X75.here hx rfl (hb hby at_225) kq) ?_
        show own_Go _ _ _ _ (T75.setTop (mkF m 226 #[sI p1, sI p2, sI p3, sI c0x, sI c1x, sI la, sI (p3 &&& (3 : Int32)), sI d0x, sI d1x, sI lb, sR x_1, sR x_4, .val .null, sI (1 : Int32), sR ob70, .unset, .unset, .unset] [.null, .null, (Value.ref x_1), .null, .null, .null, .null, (Value.ref x_4), (Value.ref ob75), (Value.ref ob75)]))
        obtain ⟨_, _, ⟨T78, L78, k78, n78⟩, -, X78, ⟨Lc78, hQ78, l78, y78, z78⟩, st78⟩ := X75.specialBack hx (y := (⟨"com/example/enlace/enlace/UriReference", "<init>", "(Ljava/lang/String;Ljava/lang/String;Ljava/lang/String;Ljava/lang/String;Ljava/lang/String;Ljava/lang/String;Ljava/lang/String;Ljava/lang/String;)V"⟩ : MethodName)) rfl hown4 (mvT hZ4 (hw _ (List.mem_of_getElem? (i := 30) rfl))) (mvT hZ4 (hw _ (List.mem_of_getElem? (i := 31) rfl))) (mvT hZ4 (hw _ (List.mem_of_getElem? (i := 32) rfl))) (by decide) (backOf (W := 1) (rm5_rnnnnrnn l Z a0 hw [] ob75 x_4 x_1 h75 n0 O76 A75 g77 F75_text F75_scheme F75_userinfo F75_host F75_port F75_path F75_query F75_fragment) hZ4 (hw _ (List.mem_of_getElem? (i := 32) rfl)) (hw _ (List.mem_of_getElem? (i := 29) rfl)) (by decide) (by decide)) (g := (mkF m 226 #[sI p1, sI p2, sI p3, sI c0x, sI c1x, sI la, sI (p3 &&& (3 : Int32)), sI d0x, sI d1x, sI lb, sR x_1, sR x_4, .val .null, sI (1 : Int32), sR ob70, .unset, .unset, .unset] [.null, .null, (Value.ref x_1), .null, .null, .null, .null, (Value.ref x_4), (Value.ref ob75), (Value.ref ob75)])) rfl (by rw [hml]; rfl) (Steps.refl _) (a := ob75) (argsL := [(Value.ref x_4), .null, .null, .null, .null, (Value.ref x_1), .null, .null]) (rest := [(Value.ref ob75)]) (lenOf own_pd4 rfl) rfl (by show 2 * 0 + _ ≤ _; exact Nat.le_of_eq rfl) (hb hby at_226) (fun _ _ => ⟨rfl, e75, (by decide : 14 + 0 ≤ _), (by decide : 40 + 0 ≤ _)⟩)
        dsimp only [Pt.U, Pt.locs, Pt.cells, Pt.slots] at X78 l78 y78 z78 st78 hQ78
        subst l78 y78 z78
        refine own_Go.by (fun tq kq => st78.trans kq) ?_
        obtain ⟨rfl, N78q, K78q, p78_0, p78_1⟩ := hQ78
        have N78 := Fr.app N73 N78q
        have O79 := O76.keep K78q (allS g77 all0)
        have K79 := K76.trans K78q (allS (Or.inr z77) all0)
        have hk_79 := Nat.le_trans hk_76 K78q.1
        refine own_Go.by (fun tq kq => XS.goto X78.here hx rfl (pc0 := 229) (pc' := 264) rfl (hb hby at_229) (by decide) (by decide) kq) ?_
        refine own_Go.by (fun tq kq => XS.astore X78.here hx rfl (hb hby at_264) rfl rfl (l' := #[sI p1, sI p2, sI p3, sI c0x, sI c1x, sI la, sI (p3 &&& (3 : Int32)), sI d0x, sI d1x, sI lb, sR x_1, sR x_4, .val .null, sI (1 : Int32), sR ob70, sR ob75, .unset, .unset]) rfl kq) ?_
        refine own_merge (α := Int32) (P := fun ex => (ex = (1 : Int32) ∧ own_text la c0x c1x = own_text lb d0x d1x) ∨ (ex = (0 : Int32) ∧ ¬ own_text la c0x c1x = own_text lb d0x d1x)) (F := fun ex => T78.setTop (mkF m 305 #[sI p1, sI p2, sI p3, sI c0x, sI c1x, sI la, sI (p3 &&& (3 : Int32)), sI d0x, sI d1x, sI lb, sR x_1, sR x_4, .val .null, sI (1 : Int32), sR ob70, sR ob75, sI ex, .unset] [])) ?_ ?_
        ·
          intro ex h_ex
          refine own_Go.by (fun tq kq => XS.aconstNull X78.here hx rfl (hb hby at_305) kq) ?_
          show own_Go _ _ _ _ (T78.setTop (mkF m 306 #[sI p1, sI p2, sI p3, sI c0x, sI c1x, sI la, sI (p3 &&& (3 : Int32)), sI d0x, sI d1x, sI lb, sR x_1, sR x_4, .val .null, sI (1 : Int32), sR ob70, sR ob75, sI ex, .unset] [.null]))
          refine own_Go.by (fun tq kq => XS.astore X78.here hx rfl (hb hby at_306) rfl rfl (l' := #[sI p1, sI p2, sI p3, sI c0x, sI c1x, sI la, sI (p3 &&& (3 : Int32)), sI d0x, sI d1x, sI lb, sR x_1, sR x_4, .val .null, sI (1 : Int32), sR ob70, sR ob75, sI ex, .val .null]) rfl kq) ?_
          refine own_Go.by (fun tq kq => XS.aload X78.here hx rfl (hb hby at_308) rfl rfl kq) ?_
          refine own_Go.by (fun tq kq => XS.aload X78.here hx rfl (hb hby at_310) rfl rfl kq) ?_
          show own_Go _ _ _ _ (T78.setTop (mkF m 312 #[sI p1, sI p2, sI p3, sI c0x, sI c1x, sI la, sI (p3 &&& (3 : Int32)), sI d0x, sI d1x, sI lb, sR x_1, sR x_4, .val .null, sI (1 : Int32), sR ob70, sR ob75, sI ex, .val .null] [(Value.ref ob75), (Value.ref ob70)]))
          have c81 := ((p73_0.ext E75).keep K78q)
          have c82 := ((p73_1.ext E75).keep K78q (ninS (Nat.ne_of_lt (Nat.lt_of_lt_of_le A70.lt (Nat.le_trans K73q.1 (Nat.le_of_eq y75.symm)))) nin0))
          have c83 := (((((p1_1.keep K4q).ext E70).keep K73q).ext E75).keep K78q)
          have c84 := (((((p1_2.keep K4q nin0).ext E70).keep K73q (ninS (Nat.ne_of_lt (Nat.lt_of_lt_of_le p1_1.lt (Nat.le_trans K4q.1 (Nat.le_of_eq y70.symm)))) nin0)).ext E75).keep K78q (ninS (Nat.ne_of_lt (Nat.lt_of_lt_of_le p1_1.lt (Nat.le_trans K4q.1 (Nat.le_trans E70.1 (Nat.le_trans K73q.1 (Nat.le_of_eq y75.symm)))))) nin0))
          have c85 := (((((p1_3.keep K4q nin0).ext E70).keep K73q (ninS (Nat.ne_of_lt (Nat.lt_of_lt_of_le p1_1.lt (Nat.le_trans K4q.1 (Nat.le_of_eq y70.symm)))) nin0)).ext E75).keep K78q (ninS (Nat.ne_of_lt (Nat.lt_of_lt_of_le p1_1.lt (Nat.le_trans K4q.1 (Nat.le_trans E70.1 (Nat.le_trans K73q.1 (Nat.le_of_eq y75.symm)))))) nin0))
          have c86 := (((((p1_4.keep K4q nin0).ext E70).keep K73q (ninS (Nat.ne_of_lt (Nat.lt_of_lt_of_le p1_4.lt (Nat.le_trans K4q.1 (Nat.le_of_eq y70.symm)))) nin0)).ext E75).keep K78q (ninS (Nat.ne_of_lt (Nat.lt_of_lt_of_le p1_4.lt (Nat.le_trans K4q.1 (Nat.le_trans E70.1 (Nat.le_trans K73q.1 (Nat.le_of_eq y75.symm)))))) nin0))
          have c87 := ((((p4_1.ext E70).keep K73q).ext E75).keep K78q)
          have c88 := ((((p4_2.ext E70).keep K73q (ninS (Nat.ne_of_lt (Nat.lt_of_lt_of_le p4_1.lt (Nat.le_of_eq y70.symm))) nin0)).ext E75).keep K78q (ninS (Nat.ne_of_lt (Nat.lt_of_lt_of_le p4_1.lt (Nat.le_trans E70.1 (Nat.le_trans K73q.1 (Nat.le_of_eq y75.symm))))) nin0))
          have c89 := ((((p4_3.ext E70).keep K73q (ninS (Nat.ne_of_lt (Nat.lt_of_lt_of_le p4_1.lt (Nat.le_of_eq y70.symm))) nin0)).ext E75).keep K78q (ninS (Nat.ne_of_lt (Nat.lt_of_lt_of_le p4_1.lt (Nat.le_trans E70.1 (Nat.le_trans K73q.1 (Nat.le_of_eq y75.symm))))) nin0))
          have c90 := ((((p4_4.ext E70).keep K73q (ninS (Nat.ne_of_lt (Nat.lt_of_lt_of_le p4_4.lt (Nat.le_of_eq y70.symm))) nin0)).ext E75).keep K78q (ninS (Nat.ne_of_lt (Nat.lt_of_lt_of_le p4_4.lt (Nat.le_trans E70.1 (Nat.le_trans K73q.1 (Nat.le_of_eq y75.symm))))) nin0))
          obtain ⟨cq80, kq80, q80a, q80b, q80c⟩ := isOf hZ4 rfl c81
          obtain ⟨_, _, ⟨T80, L80, k80, n80⟩, -, X80, ⟨Lc80, hQ80, l80, y80, z80⟩, st80⟩ := X78.virtualBack hx (y := (⟨"com/example/enlace/enlace/UriReference", "equals", "(Ljava/lang/Object;)Z"⟩ : MethodName)) (z := (⟨"com/example/enlace/enlace/UriReference", "equals", "(Ljava/lang/Object;)Z"⟩ : MethodName)) hown4 (mvT hZ4 (hw _ (List.mem_of_getElem? (i := 57) rfl))) (mvT hZ4 (hw _ (List.mem_of_getElem? (i := 58) rfl))) (notFace_of_selects (args := #[]) (mvT hZ4 (hw _ (List.mem_of_getElem? (i := 60) rfl)))) (mvT hZ4 (hw _ (List.mem_of_getElem? (i := 60) rfl))) (mvT hZ4 (hw _ (List.mem_of_getElem? (i := 59) rfl))) (by decide) (backOf (W := 0) (rm6_a l Z a0 hw [] ob70 ob75 zc x_1 t_1 kb_1 N2_1 vs2_1 (own_text la c0x c1x) x_4 t_4 kb_4 N2_4 vs2_4 (own_text lb d0x d1x) T78.heap n0 O79 H0 (hzc : ¬ (zc = (0 : Int32))) c81 p78_0 c82 c83 c84 c85 c86 (p1_5 : own_cod (own_text la c0x c1x) N2_1 vs2_1) p78_1 c87 c88 c89 c90 (p4_5 : own_cod (own_text lb d0x d1x) N2_4 vs2_4)) hZ4 (hw _ (List.mem_of_getElem? (i := 61) rfl)) (hw _ (List.mem_of_getElem? (i := 29) rfl)) (by decide) (by decide)) q80a q80c (g := (mkF m 312 #[sI p1, sI p2, sI p3, sI c0x, sI c1x, sI la, sI (p3 &&& (3 : Int32)), sI d0x, sI d1x, sI lb, sR x_1, sR x_4, .val .null, sI (1 : Int32), sR ob70, sR ob75, sI ex, .val .null] [(Value.ref ob75), (Value.ref ob70)])) rfl (by rw [hml]; rfl) (Steps.refl _) (argsL := [(Value.ref ob75)]) (rest := []) (lenOf own_pd2 rfl) rfl (by show 2 * 0 + _ ≤ _; exact Nat.le_of_eq rfl) (hb hby at_312) (fun _ _ => ⟨rfl, rfl, (by decide : 14 + 0 ≤ _), (by decide : 40 + 0 ≤ _)⟩)
          dsimp only [Pt.U, Pt.locs, Pt.cells, Pt.slots] at X80 l80 y80 z80 st80 hQ80
          subst l80 y80 z80
          refine own_Go.by (fun tq kq => st80.trans kq) ?_
          obtain ⟨r_80, rfl, N80q, e80, p80_0⟩ := hQ80
          have N80 := Fr.app N78 N80q
          refine own_Go.by (fun tq kq => XS.iload X80.here hx rfl (hb hby at_315) rfl kq) ?_
          show own_Go _ _ _ _ (T80.setTop (mkF m 317 #[sI p1, sI p2, sI p3, sI c0x, sI c1x, sI la, sI (p3 &&& (3 : Int32)), sI d0x, sI d1x, sI lb, sR x_1, sR x_4, .val .null, sI (1 : Int32), sR ob70, sR ob75, sI ex, .val .null] [(Value.int ex), (Value.int r_80)]))
          refine own_Go.by (fun tq kq => XS.icmpNo X80.here hx rfl (hb hby at_317) rfl (teq (own_same p80_0 h_ex Iff.rfl : r_80 = ex)).2 kq) ?_
          refine own_Go.by (fun tq kq => XS.aload X80.here hx rfl (hb hby at_320) rfl rfl kq) ?_
          refine own_Go.by (fun tq kq => XS.aload X80.here hx rfl (hb hby at_322) rfl rfl kq) ?_
          show own_Go _ _ _ _ (T80.setTop (mkF m 324 #[sI p1, sI p2, sI p3, sI c0x, sI c1x, sI la, sI (p3 &&& (3 : Int32)), sI d0x, sI d1x, sI lb, sR x_1, sR x_4, .val .null, sI (1 : Int32), sR ob70, sR ob75, sI ex, .val .null] [(Value.ref ob70), (Value.ref ob75)]))
          obtain ⟨cq91, kq91, q91a, q91b, q91c⟩ := isOf hZ4 e80 p78_0
          obtain ⟨_, _, ⟨T91, L91, k91, n91⟩, -, X91, ⟨Lc91, hQ91, l91, y91, z91⟩, st91⟩ := X80.virtualBack hx (y := (⟨"com/example/enlace/enlace/UriReference", "equals", "(Ljava/lang/Object;)Z"⟩ : MethodName)) (z := (⟨"com/example/enlace/enlace/UriReference", "equals", "(Ljava/lang/Object;)Z"⟩ : MethodName)) hown4 (mvT hZ4 (hw _ (List.mem_of_getElem? (i := 57) rfl))) (mvT hZ4 (hw _ (List.mem_of_getElem? (i := 58) rfl))) (notFace_of_selects (args := #[]) (mvT hZ4 (hw _ (List.mem_of_getElem? (i := 60) rfl)))) (mvT hZ4 (hw _ (List.mem_of_getElem? (i := 60) rfl))) (mvT hZ4 (hw _ (List.mem_of_getElem? (i := 59) rfl))) (by decide) (backOf (W := 0) (rm6_a l Z a0 hw [] ob75 ob70 zc x_4 t_4 kb_4 N2_4 vs2_4 (own_text lb d0x d1x) x_1 t_1 kb_1 N2_1 vs2_1 (own_text la c0x c1x) T78.heap n0 O79 H0 (hzc : ¬ (zc = (0 : Int32))) p78_0 c81 p78_1 c87 c88 c89 c90 (p4_5 : own_cod (own_text lb d0x d1x) N2_4 vs2_4) c82 c83 c84 c85 c86 (p1_5 : own_cod (own_text la c0x c1x) N2_1 vs2_1)) hZ4 (hw _ (List.mem_of_getElem? (i := 61) rfl)) (hw _ (List.mem_of_getElem? (i := 29) rfl)) (by decide) (by decide)) q91a q91c (g := (mkF m 324 #[sI p1, sI p2, sI p3, sI c0x, sI c1x, sI la, sI (p3 &&& (3 : Int32)), sI d0x, sI d1x, sI lb, sR x_1, sR x_4, .val .null, sI (1 : Int32), sR ob70, sR ob75, sI ex, .val .null] [(Value.ref ob70), (Value.ref ob75)])) rfl (by rw [hml]; rfl) (Steps.refl _) (argsL := [(Value.ref ob70)]) (rest := []) (lenOf own_pd2 rfl) rfl (by show 2 * 0 + _ ≤ _; exact Nat.le_of_eq rfl) (hb hby at_324) (fun _ _ => ⟨rfl, e80, (by decide : 14 + 0 ≤ _), (by decide : 40 + 0 ≤ _)⟩)
          dsimp only [Pt.U, Pt.locs, Pt.cells, Pt.slots] at X91 l91 y91 z91 st91 hQ91
          subst l91 y91 z91
          refine own_Go.by (fun tq kq => st91.trans kq) ?_
          obtain ⟨r_91, rfl, N91q, e91, p91_0⟩ := hQ91
          have N91 := Fr.app N80 N91q
          refine own_Go.by (fun tq kq => XS.iload X91.here hx rfl (hb hby at_327) rfl kq) ?_
          show own_Go _ _ _ _ (T91.setTop (mkF m 329 #[sI p1, sI p2, sI p3, sI c0x, sI c1x, sI la, sI (p3 &&& (3 : Int32)), sI d0x, sI d1x, sI lb, sR x_1, sR x_4, .val .null, sI (1 : Int32), sR ob70, sR ob75, sI ex, .val .null] [(Value.int ex), (Value.int r_91)]))
          refine own_Go.by (fun tq kq => XS.icmpNo X91.here hx rfl (hb hby at_329) rfl (teq (own_same p91_0 h_ex ⟨Eq.symm, Eq.symm⟩ : r_91 = ex)).2 kq) ?_
          refine own_Go.by (fun tq kq => XS.aload X91.here hx rfl (hb hby at_332) rfl rfl kq) ?_
          refine own_Go.by (fun tq kq => XS.aload X91.here hx rfl (hb hby at_334) rfl rfl kq) ?_
          show own_Go _ _ _ _ (T91.setTop (mkF m 336 #[sI p1, sI p2, sI p3, sI c0x, sI c1x, sI la, sI (p3 &&& (3 : Int32)), sI d0x, sI d1x, sI lb, sR x_1, sR x_4, .val .null, sI (1 : Int32), sR ob70, sR ob75, sI ex, .val .null] [(Value.ref ob70), (Value.ref ob70)]))
          obtain ⟨cq92, kq92, q92a, q92b, q92c⟩ := isOf hZ4 e91 c81
          obtain ⟨_, _, ⟨T92, L92, k92, n92⟩, -, X92, ⟨Lc92, hQ92, l92, y92, z92⟩, st92⟩ := X91.virtualBack hx (y := (⟨"com/example/enlace/enlace/UriReference", "equals", "(Ljava/lang/Object;)Z"⟩ : MethodName)) (z := (⟨"com/example/enlace/enlace/UriReference", "equals", "(Ljava/lang/Object;)Z"⟩ : MethodName)) hown4 (mvT hZ4 (hw _ (List.mem_of_getElem? (i := 57) rfl))) (mvT hZ4 (hw _ (List.mem_of_getElem? (i := 58) rfl))) (notFace_of_selects (args := #[]) (mvT hZ4 (hw _ (List.mem_of_getElem? (i := 60) rfl)))) (mvT hZ4 (hw _ (List.mem_of_getElem? (i := 60) rfl))) (mvT hZ4 (hw _ (List.mem_of_getElem? (i := 59) rfl))) (by decide) (backOf (W := 0) (rm6_a l Z a0 hw [] ob70 ob70 zc x_1 t_1 kb_1 N2_1 vs2_1 (own_text la c0x c1x) x_1 t_1 kb_1 N2_1 vs2_1 (own_text la c0x c1x) T78.heap n0 O79 H0 (hzc : ¬ (zc = (0 : Int32))) c81 c81 c82 c83 c84 c85 c86 (p1_5 : own_cod (own_text la c0x c1x) N2_1 vs2_1) c82 c83 c84 c85 c86 (p1_5 : own_cod (own_text la c0x c1x) N2_1 vs2_1)) hZ4 (hw _ (List.mem_of_getElem? (i := 61) rfl)) (hw _ (List.mem_of_getElem? (i := 29) rfl)) (by decide) (by decide)) q92a q92c (g := (mkF m 336 #[sI p1, sI p2, sI p3, sI c0x, sI c1x, sI la, sI (p3 &&& (3 : Int32)), sI d0x, sI d1x, sI lb, sR x_1, sR x_4, .val .null, sI (1 : Int32), sR ob70, sR ob75, sI ex, .val .null] [(Value.ref ob70), (Value.ref ob70)])) rfl (by rw [hml]; rfl) (Steps.refl _) (argsL := [(Value.ref ob70)]) (rest := []) (lenOf own_pd2 rfl) rfl (by show 2 * 0 + _ ≤ _; exact Nat.le_of_eq rfl) (hb hby at_336) (fun _ _ => ⟨rfl, e91, (by decide : 14 + 0 ≤ _), (by decide : 40 + 0 ≤ _)⟩)
          dsimp only [Pt.U, Pt.locs, Pt.cells, Pt.slots] at X92 l92 y92 z92 st92 hQ92
          subst l92 y92 z92
          refine own_Go.by (fun tq kq => st92.trans kq) ?_
          obtain ⟨r_92, rfl, N92q, e92, p92_0⟩ := hQ92
          have N92 := Fr.app N91 N92q
          show own_Go _ _ _ _ (T92.setTop (mkF m 339 #[sI p1, sI p2, sI p3, sI c0x, sI c1x, sI la, sI (p3 &&& (3 : Int32)), sI d0x, sI d1x, sI lb, sR x_1, sR x_4, .val .null, sI (1 : Int32), sR ob70, sR ob75, sI ex, .val .null] [(Value.int r_92)]))
          refine own_Go.by (fun tq kq => XS.ifNo X92.here hx rfl (hb hby at_339) rfl ((if0 _ _).trans (feq (own_self p92_0 rfl : ¬ (r_92 = (0 : Int32)))).1) kq) ?_
          refine own_Go.by (fun tq kq => XS.aload X92.here hx rfl (hb hby at_342) rfl rfl kq) ?_
          refine own_Go.by (fun tq kq => XS.aload X92.here hx rfl (hb hby at_344) rfl rfl kq) ?_
          show own_Go _ _ _ _ (T92.setTop (mkF m 346 #[sI p1, sI p2, sI p3, sI c0x, sI c1x, sI la, sI (p3 &&& (3 : Int32)), sI d0x, sI d1x, sI lb, sR x_1, sR x_4, .val .null, sI (1 : Int32), sR ob70, sR ob75, sI ex, .val .null] [.null, (Value.ref ob70)]))
          obtain ⟨cq93, kq93, q93a, q93b, q93c⟩ := isOf hZ4 e92 c81
          obtain ⟨_, _, ⟨T93, L93, k93, n93⟩, -, X93, ⟨Lc93, hQ93, l93, y93, z93⟩, st93⟩ := X92.virtualBack hx (y := (⟨"com/example/enlace/enlace/UriReference", "equals", "(Ljava/lang/Object;)Z"⟩ : MethodName)) (z := (⟨"com/example/enlace/enlace/UriReference", "equals", "(Ljava/lang/Object;)Z"⟩ : MethodName)) hown4 (mvT hZ4 (hw _ (List.mem_of_getElem? (i := 57) rfl))) (mvT hZ4 (hw _ (List.mem_of_getElem? (i := 58) rfl))) (notFace_of_selects (args := #[]) (mvT hZ4 (hw _ (List.mem_of_getElem? (i := 60) rfl)))) (mvT hZ4 (hw _ (List.mem_of_getElem? (i := 60) rfl))) (mvT hZ4 (hw _ (List.mem_of_getElem? (i := 59) rfl))) (by decide) (backOf (W := 0) (rm6_n l Z a0 hw [] ob70 T78.heap n0 O79 ) hZ4 (hw _ (List.mem_of_getElem? (i := 61) rfl)) (hw _ (List.mem_of_getElem? (i := 29) rfl)) (by decide) (by decide)) q93a q93c (g := (mkF m 346 #[sI p1, sI p2, sI p3, sI c0x, sI c1x, sI la, sI (p3 &&& (3 : Int32)), sI d0x, sI d1x, sI lb, sR x_1, sR x_4, .val .null, sI (1 : Int32), sR ob70, sR ob75, sI ex, .val .null] [.null, (Value.ref ob70)])) rfl (by rw [hml]; rfl) (Steps.refl _) (argsL := [.null]) (rest := []) (lenOf own_pd2 rfl) rfl (by show 2 * 0 + _ ≤ _; exact Nat.le_of_eq rfl) (hb hby at_346) (fun _ _ => ⟨rfl, e92, (by decide : 14 + 0 ≤ _), (by decide : 40 + 0 ≤ _)⟩)
          dsimp only [Pt.U, Pt.locs, Pt.cells, Pt.slots] at X93 l93 y93 z93 st93 hQ93
          subst l93 y93 z93
          refine own_Go.by (fun tq kq => st93.trans kq) ?_
          obtain ⟨rfl, N93q, e93⟩ := hQ93
          have N93 := Fr.app N92 N93q
          show own_Go _ _ _ _ (T93.setTop (mkF m 349 #[sI p1, sI p2, sI p3, sI c0x, sI c1x, sI la, sI (p3 &&& (3 : Int32)), sI d0x, sI d1x, sI lb, sR x_1, sR x_4, .val .null, sI (1 : Int32), sR ob70, sR ob75, sI ex, .val .null] [(Value.int (0 : Int32))]))
          refine own_Go.by (fun tq kq => XS.ifNo X93.here hx rfl (hb hby at_349) rfl ((if0 _ _).trans (teq (by decide : (0 : Int32) = (0 : Int32))).2) kq) ?_
          refine own_Go.by (fun tq kq => XS.aload X93.here hx rfl (hb hby at_352) rfl rfl kq) ?_
          refine own_Go.by (fun tq kq => XS.aload X93.here hx rfl (hb hby at_354) rfl rfl kq) ?_
          show own_Go _ _ _ _ (T93.setTop (mkF m 356 #[sI p1, sI p2, sI p3, sI c0x, sI c1x, sI la, sI (p3 &&& (3 : Int32)), sI d0x, sI d1x, sI lb, sR x_1, sR x_4, .val .null, sI (1 : Int32), sR ob70, sR ob75, sI ex, .val .null] [(Value.ref x_1), (Value.ref ob70)]))
          obtain ⟨cq94, kq94, q94a, q94b, q94c⟩ := isOf hZ4 e93 c81
          obtain ⟨_, _, ⟨T94, L94, k94, n94⟩, -, X94, ⟨Lc94, hQ94, l94, y94, z94⟩, st94⟩ := X93.virtualBack hx (y := (⟨"com/example/enlace/enlace/UriReference", "equals", "(Ljava/lang/Object;)Z"⟩ : MethodName)) (z := (⟨"com/example/enlace/enlace/UriReference", "equals", "(Ljava/lang/Object;)Z"⟩ : MethodName)) hown4 (mvT hZ4 (hw _ (List.mem_of_getElem? (i := 57) rfl))) (mvT hZ4 (hw _ (List.mem_of_getElem? (i := 58) rfl))) (notFace_of_selects (args := #[]) (mvT hZ4 (hw _ (List.mem_of_getElem? (i := 60) rfl)))) (mvT hZ4 (hw _ (List.mem_of_getElem? (i := 60) rfl))) (mvT hZ4 (hw _ (List.mem_of_getElem? (i := 59) rfl))) (by decide) (backOf (W := 0) (rm6_s l Z a0 hw [] ob70 x_1 T78.heap n0 O79 c83) hZ4 (hw _ (List.mem_of_getElem? (i := 61) rfl)) (hw _ (List.mem_of_getElem? (i := 29) rfl)) (by decide) (by decide)) q94a q94c (g := (mkF m 356 #[sI p1, sI p2, sI p3, sI c0x, sI c1x, sI la, sI (p3 &&& (3 : Int32)), sI d0x, sI d1x, sI lb, sR x_1, sR x_4, .val .null, sI (1 : Int32), sR ob70, sR ob75, sI ex, .val .null] [(Value.ref x_1), (Value.ref ob70)])) rfl (by rw [hml]; rfl) (Steps.refl _) (argsL := [(Value.ref x_1)]) (rest := []) (lenOf own_pd2 rfl) rfl (by show 2 * 0 + _ ≤ _; exact Nat.le_of_eq rfl) (hb hby at_356) (fun _ _ => ⟨rfl, e93, (by decide : 14 + 0 ≤ _), (by decide : 40 + 0 ≤ _)⟩)
          dsimp only [Pt.U, Pt.locs, Pt.cells, Pt.slots] at X94 l94 y94 z94 st94 hQ94
          subst l94 y94 z94
          refine own_Go.by (fun tq kq => st94.trans kq) ?_
          obtain ⟨rfl, N94q, e94⟩ := hQ94
          have N94 := Fr.app N93 N94q
          show own_Go _ _ _ _ (T94.setTop (mkF m 359 #[sI p1, sI p2, sI p3, sI c0x, sI c1x, sI la, sI (p3 &&& (3 : Int32)), sI d0x, sI d1x, sI lb, sR x_1, sR x_4, .val .null, sI (1 : Int32), sR ob70, sR ob75, sI ex, .val .null] [(Value.int (0 : Int32))]))
          refine own_Go.by (fun tq kq => XS.ifNo X94.here hx rfl (hb hby at_359) rfl ((if0 _ _).trans (teq (by decide : (0 : Int32) = (0 : Int32))).2) kq) ?_
          refine own_Go.by (fun tq kq => XS.iconst X94.here hx rfl (hb hby at_362) kq) ?_
          refine own_Go.by (fun tq kq => XS.goto X94.here hx rfl (pc0 := 363) (pc' := 367) rfl (hb hby at_363) (by decide) (by decide) kq) ?_
          show own_Go _ _ _ _ (T94.setTop (mkF m 367 #[sI p1, sI p2, sI p3, sI c0x, sI c1x, sI la, sI (p3 &&& (3 : Int32)), sI d0x, sI d1x, sI lb, sR x_1, sR x_4, .val .null, sI (1 : Int32), sR ob70, sR ob75, sI ex, .val .null] [(Value.int (1 : Int32))]))
          obtain ⟨fs, hr, hrun, hended, hRE⟩ := Stand.leaveW (s := s) (vm₁ := T4.vm) X94 hS4 (by rw [e94]; exact hk_79) (v := some (Value.int (nar .boolean (1 : Int32)))) (fun h => by rw [Bd.returns] at h; cases h)
          have R95 := CHr.ext E70 R4.1
          have Sf96 := Safe.ext E70 R4.1 (Safe.new (Nat.le_of_eq y70.symm))
          have R97 := CHr.keep K73q (allS Sf96 all0) R95.1
          have R98 := CHr.ext E75 R97.1
          have Sf99 := Safe.ext E75 R97.1 (Safe.new (Nat.le_of_eq y75.symm))
          have R100 := CHr.keep K78q (allS Sf99 all0) R98.1
          have hCR := (((((R1.trans R4).trans R95).trans R97).trans R98).trans R100)
          have hCZ : CHr Z consts_1 s.vm s.heap T94.vm T94.heap := by
            rw [hh, e94]
            exact hCR.trans (CHv.at (s := s) (vm0 := T4.vm) X94 hZ4 hEL hCR.1)
          refine own_Go.fin (retN X94 hx (t := .boolean) Bd.returns (by simp) (hb hby at_367) hr) ⟨hrun, hended, _, _, rfl, ?_, hCZ, own_rew hRE (by decide) (by decide)⟩
          show Q0 Z p1 p2 p3 zc h0 n0 _ T94.heap _
          rw [e94]
          exact ⟨rfl, N94, K79⟩
        ·
          intro g_ex
          refine own_Go.by (fun tq kq => XS.iload X78.here hx rfl (hb hby at_266) rfl kq) ?_
          show own_Go _ _ _ _ (T78.setTop (mkF m 268 #[sI p1, sI p2, sI p3, sI c0x, sI c1x, sI la, sI (p3 &&& (3 : Int32)), sI d0x, sI d1x, sI lb, sR x_1, sR x_4, .val .null, sI (1 : Int32), sR ob70, sR ob75, .unset, .unset] [(Value.int la)]))
          refine own_Go.by (fun tq kq => XS.iload X78.here hx rfl (hb hby at_268) rfl kq) ?_
          show own_Go _ _ _ _ (T78.setTop (mkF m 270 #[sI p1, sI p2, sI p3, sI c0x, sI c1x, sI la, sI (p3 &&& (3 : Int32)), sI d0x, sI d1x, sI lb, sR x_1, sR x_4, .val .null, sI (1 : Int32), sR ob70, sR ob75, .unset, .unset] [(Value.int lb), (Value.int la)]))
          by_cases hc270_101 : la = lb
          ·
            refine own_Go.by (fun tq kq => XS.icmpNo X78.here hx rfl (hb hby at_270) rfl (teq hc270_101).2 kq) ?_
            refine own_Go.by (fun tq kq => XS.iload X78.here hx rfl (hb hby at_273) rfl kq) ?_
            refine own_Go.by (fun tq kq => XS.iconst X78.here hx rfl (hb hby at_275) kq) ?_
            show own_Go _ _ _ _ (T78.setTop (mkF m 276 #[sI p1, sI p2, sI p3, sI c0x, sI c1x, sI la, sI (p3 &&& (3 : Int32)), sI d0x, sI d1x, sI lb, sR x_1, sR x_4, .val .null, sI (1 : Int32), sR ob70, sR ob75, .unset, .unset] [(Value.int (1 : Int32)), (Value.int la)]))
            by_cases hc276_102 : la < (1 : Int32)
            ·
              refine own_Go.by (fun tq kq => XS.icmpYes X78.here hx rfl (pc0 := 276) (pc' := 285) rfl (hb hby at_276) rfl (tlt hc276_102).1 (by decide) (by decide) kq) ?_
              refine own_Go.by (fun tq kq => XS.iload X78.here hx rfl (hb hby at_285) rfl kq) ?_
              refine own_Go.by (fun tq kq => XS.iconst X78.here hx rfl (hb hby at_287) kq) ?_
              show own_Go _ _ _ _ (T78.setTop (mkF m 288 #[sI p1, sI p2, sI p3, sI c0x, sI c1x, sI la, sI (p3 &&& (3 : Int32)), sI d0x, sI d1x, sI lb, sR x_1, sR x_4, .val .null, sI (1 : Int32), sR ob70, sR ob75, .unset, .unset] [(Value.int (2 : Int32)), (Value.int la)]))
              by_cases hc288_103 : la < (2 : Int32)
              ·
                refine own_Go.by (fun tq kq => XS.icmpYes X78.here hx rfl (pc0 := 288) (pc' := 298) rfl (hb hby at_288) rfl (tlt hc288_103).1 (by decide) (by decide) kq) ?_
                refine own_Go.by (fun tq kq => XS.iconst X78.here hx rfl (hb hby at_298) kq) ?_
                refine own_Go.by (fun tq kq => XS.goto X78.here hx rfl (pc0 := 299) (pc' := 303) rfl (hb hby at_299) (by decide) (by decide) kq) ?_
                refine own_Go.by (fun tq kq => XS.istore X78.here hx rfl (hb hby at_303) rfl (l' := #[sI p1, sI p2, sI p3, sI c0x, sI c1x, sI la, sI (p3 &&& (3 : Int32)), sI d0x, sI d1x, sI lb, sR x_1, sR x_4, .val .null, sI (1 : Int32), sR ob70, sR ob75, sI (1 : Int32), .unset]) rfl kq) ?_
                exact g_ex _ (Or.inl ⟨rfl, (own_exp (own_r3p hv_la) h_d0x_d1x_lb.2.2).mpr ⟨hc270_101, Or.inl hc276_102, Or.inl hc288_103⟩⟩)
              ·
                refine own_Go.by (fun tq kq => XS.icmpNo X78.here hx rfl (hb hby at_288) rfl (flt hc288_103).1 kq) ?_
                refine own_Go.by (fun tq kq => XS.iload X78.here hx rfl (hb hby at_291) rfl kq) ?_
                refine own_Go.by (fun tq kq => XS.iload X78.here hx rfl (hb hby at_293) rfl kq) ?_
                show own_Go _ _ _ _ (T78.setTop (mkF m 295 #[sI p1, sI p2, sI p3, sI c0x, sI c1x, sI la, sI (p3 &&& (3 : Int32)), sI d0x, sI d1x, sI lb, sR x_1, sR x_4, .val .null, sI (1 : Int32), sR ob70, sR ob75, .unset, .unset] [(Value.int d1x), (Value.int c1x)]))
                by_cases hc295_104 : c1x = d1x
                ·
                  refine own_Go.by (fun tq kq => XS.icmpNo X78.here hx rfl (hb hby at_295) rfl (teq hc295_104).2 kq) ?_
                  refine own_Go.by (fun tq kq => XS.iconst X78.here hx rfl (hb hby at_298) kq) ?_
                  refine own_Go.by (fun tq kq => XS.goto X78.here hx rfl (pc0 := 299) (pc' := 303) rfl (hb hby at_299) (by decide) (by decide) kq) ?_
                  refine own_Go.by (fun tq kq => XS.istore X78.here hx rfl (hb hby at_303) rfl (l' := #[sI p1, sI p2, sI p3, sI c0x, sI c1x, sI la, sI (p3 &&& (3 : Int32)), sI d0x, sI d1x, sI lb, sR x_1, sR x_4, .val .null, sI (1 : Int32), sR ob70, sR ob75, sI (1 : Int32), .unset]) rfl kq) ?_
                  exact g_ex _ (Or.inl ⟨rfl, (own_exp (own_r3p hv_la) h_d0x_d1x_lb.2.2).mpr ⟨hc270_101, Or.inl hc276_102, Or.inr hc295_104⟩⟩)
                ·
                  refine own_Go.by (fun tq kq => XS.icmpYes X78.here hx rfl (pc0 := 295) (pc' := 302) rfl (hb hby at_295) rfl (feq hc295_104).2 (by decide) (by decide) kq) ?_
                  refine own_Go.by (fun tq kq => XS.iconst X78.here hx rfl (hb hby at_302) kq) ?_
                  refine own_Go.by (fun tq kq => XS.istore X78.here hx rfl (hb hby at_303) rfl (l' := #[sI p1, sI p2, sI p3, sI c0x, sI c1x, sI la, sI (p3 &&& (3 : Int32)), sI d0x, sI d1x, sI lb, sR x_1, sR x_4, .val .null, sI (1 : Int32), sR ob70, sR ob75, sI (0 : Int32), .unset]) rfl kq) ?_
                  exact g_ex _ (Or.inr ⟨rfl, fun q => (fun z => z.2.2.elim hc288_103 hc295_104) ((own_exp (own_r3p hv_la) h_d0x_d1x_lb.2.2).mp q)⟩)
            ·
              refine own_Go.by (fun tq kq => XS.icmpNo X78.here hx rfl (hb hby at_276) rfl (flt hc276_102).1 kq) ?_
              refine own_Go.by (fun tq kq => XS.iloadN X78.here hx rfl (hb hby at_279) rfl kq) ?_
              refine own_Go.by (fun tq kq => XS.iload X78.here hx rfl (hb hby at_280) rfl kq) ?_
              show own_Go _ _ _ _ (T78.setTop (mkF m 282 #[sI p1, sI p2, sI p3, sI c0x, sI c1x, sI la, sI (p3 &&& (3 : Int32)), sI d0x, sI d1x, sI lb, sR x_1, sR x_4, .val .null, sI (1 : Int32), sR ob70, sR ob75, .unset, .unset] [(Value.int d0x), (Value.int c0x)]))
              by_cases hc282_105 : c0x = d0x
              ·
                refine own_Go.by (fun tq kq => XS.icmpNo X78.here hx rfl (hb hby at_282) rfl (teq hc282_105).2 kq) ?_
                refine own_Go.by (fun tq kq => XS.iload X78.here hx rfl (hb hby at_285) rfl kq) ?_
                refine own_Go.by (fun tq kq => XS.iconst X78.here hx rfl (hb hby at_287) kq) ?_
                show own_Go _ _ _ _ (T78.setTop (mkF m 288 #[sI p1, sI p2, sI p3, sI c0x, sI c1x, sI la, sI (p3 &&& (3 : Int32)), sI d0x, sI d1x, sI lb, sR x_1, sR x_4, .val .null, sI (1 : Int32), sR ob70, sR ob75, .unset, .unset] [(Value.int (2 : Int32)), (Value.int la)]))
                by_cases hc288_106 : la < (2 : Int32)
                ·
                  refine own_Go.by (fun tq kq => XS.icmpYes X78.here hx rfl (pc0 := 288) (pc' := 298) rfl (hb hby at_288) rfl (tlt hc288_106).1 (by decide) (by decide) kq) ?_
                  refine own_Go.by (fun tq kq => XS.iconst X78.here hx rfl (hb hby at_298) kq) ?_
                  refine own_Go.by (fun tq kq => XS.goto X78.here hx rfl (pc0 := 299) (pc' := 303) rfl (hb hby at_299) (by decide) (by decide) kq) ?_
                  refine own_Go.by (fun tq kq => XS.istore X78.here hx rfl (hb hby at_303) rfl (l' := #[sI p1, sI p2, sI p3, sI c0x, sI c1x, sI la, sI (p3 &&& (3 : Int32)), sI d0x, sI d1x, sI lb, sR x_1, sR x_4, .val .null, sI (1 : Int32), sR ob70, sR ob75, sI (1 : Int32), .unset]) rfl kq) ?_
                  exact g_ex _ (Or.inl ⟨rfl, (own_exp (own_r3p hv_la) h_d0x_d1x_lb.2.2).mpr ⟨hc270_101, Or.inr hc282_105, Or.inl hc288_106⟩⟩)
                ·
                  refine own_Go.by (fun tq kq => XS.icmpNo X78.here hx rfl (hb hby at_288) rfl (flt hc288_106).1 kq) ?_
                  refine own_Go.by (fun tq kq => XS.iload X78.here hx rfl (hb hby at_291) rfl kq) ?_
                  refine own_Go.by (fun tq kq => XS.iload X78.here hx rfl (hb hby at_293) rfl kq) ?_
                  show own_Go _ _ _ _ (T78.setTop (mkF m 295 #[sI p1, sI p2, sI p3, sI c0x, sI c1x, sI la, sI (p3 &&& (3 : Int32)), sI d0x, sI d1x, sI lb, sR x_1, sR x_4, .val .null, sI (1 : Int32), sR ob70, sR ob75, .unset, .unset] [(Value.int d1x), (Value.int c1x)]))
                  by_cases hc295_107 : c1x = d1x
                  ·
                    refine own_Go.by (fun tq kq => XS.icmpNo X78.here hx rfl (hb hby at_295) rfl (teq hc295_107).2 kq) ?_
                    refine own_Go.by (fun tq kq => XS.iconst X78.here hx rfl (hb hby at_298) kq) ?_
                    refine own_Go.by (fun tq kq => XS.goto X78.here hx rfl (pc0 := 299) (pc' := 303) rfl (hb hby at_299) (by decide) (by decide) kq) ?_
                    refine own_Go.by (fun tq kq => XS.istore X78.here hx rfl (hb hby at_303) rfl (l' := #[sI p1, sI p2, sI p3, sI c0x, sI c1x, sI la, sI (p3 &&& (3 : Int32)), sI d0x, sI d1x, sI lb, sR x_1, sR x_4, .val .null, sI (1 : Int32), sR ob70, sR ob75, sI (1 : Int32), .unset]) rfl kq) ?_
                    exact g_ex _ (Or.inl ⟨rfl, (own_exp (own_r3p hv_la) h_d0x_d1x_lb.2.2).mpr ⟨hc270_101, Or.inr hc282_105, Or.inr hc295_107⟩⟩)
                  ·
                    refine own_Go.by (fun tq kq => XS.icmpYes X78.here hx rfl (pc0 := 295) (pc' := 302) rfl (hb hby at_295) rfl (feq hc295_107).2 (by decide) (by decide) kq) ?_
                    refine own_Go.by (fun tq kq => XS.iconst X78.here hx rfl (hb hby at_302) kq) ?_
                    refine own_Go.by (fun tq kq => XS.istore X78.here hx rfl (hb hby at_303) rfl (l' := #[sI p1, sI p2, sI p3, sI c0x, sI c1x, sI la, sI (p3 &&& (3 : Int32)), sI d0x, sI d1x, sI lb, sR x_1, sR x_4, .val .null, sI (1 : Int32), sR ob70, sR ob75, sI (0 : Int32), .unset]) rfl kq) ?_
                    exact g_ex _ (Or.inr ⟨rfl, fun q => (fun z => z.2.2.elim hc288_106 hc295_107) ((own_exp (own_r3p hv_la) h_d0x_d1x_lb.2.2).mp q)⟩)
              ·
                refine own_Go.by (fun tq kq => XS.icmpYes X78.here hx rfl (pc0 := 282) (pc' := 302) rfl (hb hby at_282) rfl (feq hc282_105).2 (by decide) (by decide) kq) ?_
                refine own_Go.by (fun tq kq => XS.iconst X78.here hx rfl (hb hby at_302) kq) ?_
                refine own_Go.by (fun tq kq => XS.istore X78.here hx rfl (hb hby at_303) rfl (l' := #[sI p1, sI p2, sI p3, sI c0x, sI c1x, sI la, sI (p3 &&& (3 : Int32)), sI d0x, sI d1x, sI lb, sR x_1, sR x_4, .val .null, sI (1 : Int32), sR ob70, sR ob75, sI (0 : Int32), .unset]) rfl kq) ?_
                exact g_ex _ (Or.inr ⟨rfl, fun q => (fun z => z.2.1.elim hc276_102 hc282_105) ((own_exp (own_r3p hv_la) h_d0x_d1x_lb.2.2).mp q)⟩)
          ·
            refine own_Go.by (fun tq kq => XS.icmpYes X78.here hx rfl (pc0 := 270) (pc' := 302) rfl (hb hby at_270) rfl (feq hc270_101).2 (by decide) (by decide) kq) ?_
            refine own_Go.by (fun tq kq => XS.iconst X78.here hx rfl (hb hby at_302) kq) ?_
            refine own_Go.by (fun tq kq => XS.istore X78.here hx rfl (hb hby at_303) rfl (l' := #[sI p1, sI p2, sI p3, sI c0x, sI c1x, sI la, sI (p3 &&& (3 : Int32)), sI d0x, sI d1x, sI lb, sR x_1, sR x_4, .val .null, sI (1 : Int32), sR ob70, sR ob75, sI (0 : Int32), .unset]) rfl kq) ?_
            exact g_ex _ (Or.inr ⟨rfl, fun q => (fun z => hc270_101 z.1) ((own_exp (own_r3p hv_la) h_d0x_d1x_lb.2.2).mp q)⟩)
    ·
      refine own_Go.by (fun tq kq => XS.ifNo X4.here hx rfl (hb hby at_160) rfl ((if0 _ _).trans (feq hc160_7).1) kq) ?_
      show own_Go _ _ _ _ (T4.setTop (mkF m 163 #[sI p1, sI p2, sI p3, sI c0x, sI c1x, sI la, sI (p3 &&& (3 : Int32)), sI d0x, sI d1x, sI lb, sR x_1, sR x_4, .unset, .unset, .unset, .unset, .unset, .unset] []))
      obtain ⟨sa108, T108, h108, k108, sb108, kk108, X108, e108, E108, hS108, hk108, hZ108, hown108, Ea108, Fc108, Fv108, Va108, -, -, R108, -, hne108, st108⟩ := ldcCH (s := s) (vm0 := T4.vm) (EL := consts_1) X4 hx hZ4 hown4 (hw _ (List.mem_of_getElem? (i := 77) rfl)) (fun d hd => hw d (own_wS d hd)) rfl hS4 (Nat.le_refl _) hEL (List.mem_of_getElem? (i := 0) rfl) R4.1 (vs := [(Value.int (104 : Int32)), (Value.int (116 : Int32)), (Value.int (116 : Int32)), (Value.int (112 : Int32))]) (z := (4 : Int32)) ⟨by decide, by decide +kernel⟩ (by decide) rfl (g := (mkF m 163 #[sI p1, sI p2, sI p3, sI c0x, sI c1x, sI la, sI (p3 &&& (3 : Int32)), sI d0x, sI d1x, sI lb, sR x_1, sR x_4, .unset, .unset, .unset, .unset, .unset, .unset] [])) rfl (hb hby at_163) (n := 16) (by decide) (by decide) (by decide) (by decide)
      refine own_Go.by st108 ?_
      have O109 := O5.ext E108
      have K109 := K5.ext E108
      refine own_Go.by (fun tq kq => XS.goto X108.here hx rfl (pc0 := 165) (pc' := 169) rfl (hb hby at_165) (by decide) (by decide) kq) ?_
      refine own_Go.by (fun tq kq => XS.astore X108.here hx rfl (hb hby at_169) rfl rfl (l' := #[sI p1, sI p2, sI p3, sI c0x, sI c1x, sI la, sI (p3 &&& (3 : Int32)), sI d0x, sI d1x, sI lb, sR x_1, sR x_4, sR sa108, .unset, .unset, .unset, .unset, .unset]) rfl kq) ?_
      refine own_Go.by (fun tq kq => XS.iloadN X108.here hx rfl (hb hby at_171) rfl kq) ?_
      show own_Go _ _ _ _ (T108.setTop (mkF m 172 #[sI p1, sI p2, sI p3, sI c0x, sI c1x, sI la, sI (p3 &&& (3 : Int32)), sI d0x, sI d1x, sI lb, sR x_1, sR x_4, sR sa108, .unset, .unset, .unset, .unset, .unset] [(Value.int p3)]))
      refine own_Go.by (fun tq kq => XS.iconst X108.here hx rfl (hb hby at_172) kq) ?_
      refine own_Go.by (fun tq kq => XS.iushr X108.here hx rfl (hb hby at_173) rfl kq) ?_
      refine own_Go.by (fun tq kq => XS.iconst X108.here hx rfl (hb hby at_174) kq) ?_
      refine own_Go.by (fun tq kq => XS.iand X108.here hx rfl (hb hby at_175) rfl kq) ?_
      show own_Go _ _ _ _ (T108.setTop (mkF m 176 #[sI p1, sI p2, sI p3, sI c0x, sI c1x, sI la, sI (p3 &&& (3 : Int32)), sI d0x, sI d1x, sI lb, sR x_1, sR x_4, sR sa108, .unset, .unset, .unset, .unset, .unset] [(Value.int (((p3.toUInt32 >>> ((2 : Int32) &&& 31).toUInt32).toInt32) &&& (1 : Int32)))]))
      by_cases hc176_110 : (((p3.toUInt32 >>> ((2 : Int32) &&& 31).toUInt32).toInt32) &&& (1 : Int32)) = (0 : Int32)
      ·
        refine own_Go.by (fun tq kq => XS.ifYes X108.here hx rfl (pc0 := 176) (pc' := 183) rfl (hb hby at_176) rfl ((if0 _ _).trans (teq hc176_110).1) (by decide) (by decide) kq) ?_
        refine own_Go.by (fun tq kq => XS.iconst X108.here hx rfl (hb hby at_183) kq) ?_
        refine own_Go.by (fun tq kq => XS.istore X108.here hx rfl (hb hby at_184) rfl (l' := #[sI p1, sI p2, sI p3, sI c0x, sI c1x, sI la, sI (p3 &&& (3 : Int32)), sI d0x, sI d1x, sI lb, sR x_1, sR x_4, sR sa108, sI (0 : Int32), .unset, .unset, .unset, .unset]) rfl kq) ?_
        show own_Go _ _ _ _ (T108.setTop (mkF m 186 #[sI p1, sI p2, sI p3, sI c0x, sI c1x, sI la, sI (p3 &&& (3 : Int32)), sI d0x, sI d1x, sI lb, sR x_1, sR x_4, sR sa108, sI (0 : Int32), .unset, .unset, .unset, .unset] []))
        obtain ⟨T111, h111, X111, e111, E111, A111, D111, -, st111⟩ := newO X108 hx hZ108 hown108 (hw _ (List.mem_of_getElem? (i := 27) rfl)) (hw _ (List.mem_of_getElem? (i := 28) rfl)) (hw _ (List.mem_of_getElem? (i := 29) rfl)) e108 (g := (mkF m 186 #[sI p1, sI p2, sI p3, sI c0x, sI c1x, sI la, sI (p3 &&& (3 : Int32)), sI d0x, sI d1x, sI lb, sR x_1, sR x_4, sR sa108, sI (0 : Int32), .unset, .unset, .unset, .unset] [])) rfl (hb hby at_186) (by decide) (by decide)
        obtain ⟨ob111, y111⟩ : ∃ z, z = h108.size := ⟨_, rfl⟩
        rw [← y111] at A111 D111 st111
        refine own_Go.by st111 ?_
        have O112 := O109.ext E111
        have K112 := K109.ext E111
        have hk_112 := Nat.le_trans hk108 E111.1
        have g113 : n0 ≤ ob111 := Nat.le_trans (own_old_le O109) (Nat.le_of_eq y111.symm)
        have z113 : h0.size ≤ ob111 := Nat.le_trans K109.1 (Nat.le_of_eq y111.symm)
        have F111_text : Fld Z h111 ob111 "com/example/enlace/enlace/UriReference" "text" "Ljava/lang/String;" .null := D111 (Or.inr (hw _ (List.mem_of_getElem? (i := 35) rfl))) (ty := (.object "java/lang/String")) (by decide)
        have F111_scheme : Fld Z h111 ob111 "com/example/enlace/enlace/UriReference" "scheme" "Ljava/lang/String;" .null := D111 (Or.inr (hw _ (List.mem_of_getElem? (i := 37) rfl))) (ty := (.object "java/lang/String")) (by decide)
        have F111_userinfo : Fld Z h111 ob111 "com/example/enlace/enlace/UriReference" "userinfo" "Ljava/lang/String;" .null := D111 (Or.inr (hw _ (List.mem_of_getElem? (i := 39) rfl))) (ty := (.object "java/lang/String")) (by decide)
        have F111_host : Fld Z h111 ob111 "com/example/enlace/enlace/UriReference" "host" "Ljava/lang/String;" .null := D111 (Or.inr (hw _ (List.mem_of_getElem? (i := 41) rfl))) (ty := (.object "java/lang/String")) (by decide)
        have F111_port : Fld Z h111 ob111 "com/example/enlace/enlace/UriReference" "port" "Ljava/lang/String;" .null := D111 (Or.inr (hw _ (List.mem_of_getElem? (i := 43) rfl))) (ty := (.object "java/lang/String")) (by decide)
        have F111_path : Fld Z h111 ob111 "com/example/enlace/enlace/UriReference" "path" "Ljava/lang/String;" .null := D111 (Or.inr (hw _ (List.mem_of_getElem? (i := 45) rfl))) (ty := (.object "java/lang/String")) (by decide)
        have F111_query : Fld Z h111 ob111 "com/example/enlace/enlace/UriReference" "query" "Ljava/lang/String;" .null := D111 (Or.inr (hw _ (List.mem_of_getElem? (i := 47) rfl))) (ty := (.object "java/lang/String")) (by decide)
        have F111_fragment : Fld Z h111 ob111 "com/example/enlace/enlace/UriReference" "fragment" "Ljava/lang/String;" .null := D111 (Or.inr (hw _ (List.mem_of_getElem? (i := 49) rfl))) (ty := (.object "java/lang/String")) (by decide)
        refine own_Go.by (fun tq kq => XS.dup X111.here hx rfl (hb hby at_189) rfl rfl kq) ?_
        refine own_Go.by (fun tq kq => XS.aload X111.here hx rfl (hb hby at_190) rfl rfl kq) ?_
        refine own_Go.by (fun tq kq => XS.aload X111.here hx rfl (hb hby at_192) rfl rfl kq) ?_
        show own_Go _ _ _ _ (T111.setTop (mkF m 194 #[sI p1, sI p2, sI p3, sI c0x, sI c1x, sI la, sI (p3 &&& (3 : Int32)), sI d0x, sI d1x, sI lb, sR x_1, sR x_4, sR sa108, sI (0 : Int32), .unset, .unset, .unset, .unset] [(Value.ref sa108), (Value.ref x_1), (Value.ref ob111), (Value.ref ob111)]))
        refine own_Go.by (fun tq kq => XS.aconstNull X111.here hx rfl (hb hby at_194) kq) ?_
        refine own_Go.by (fun tq kq => XS.aconstNull X111.here hx rfl (hb hby at_195) kq) ?_
        refine own_Go.by (fun tq kq => XS.aconstNull X111.here hx rfl (hb hby at_196) kq) ?_
        refine own_Go.by (fun tq kq => XS.aload X111.here hx rfl (hb hby at_197) rfl rfl kq) ?_
        show own_Go _ _ _ _ (T111.setTop (mkF m 199 #[sI p1, sI p2, sI p3, sI c0x, sI c1x, sI la, sI (p3 &&& (3 : Int32)), sI d0x, sI d1x, sI lb, sR x_1, sR x_4, sR sa108, sI (0 : Int32), .unset, .unset, .unset, .unset] [(Value.ref x_1), .null, .null, .null, (Value.ref sa108), (Value.ref x_1), (Value.ref ob111), (Value.ref ob111)]))
        refine own_Go.by (fun tq kq => XS.aconstNull X111.here hx rfl (hb hby at_199) kq) ?_
        refine own_Go.by (fun tq kq => XS.aconstNull X111.here hx rfl (hb hby at_200) kq) ?_
        show own_Go _ _ _ _ (T111.setTop (mkF m 201 #[sI p1, sI p2, sI p3, sI c0x, sI c1x, sI la, sI (p3 &&& (3 : Int32)), sI d0x, sI d1x, sI lb, sR x_1, sR x_4, sR sa108, sI (0 : Int32), .unset, .unset, .unset, .unset] [.null, .null, (Value.ref x_1), .null, .null, .null, (Value.ref sa108), (Value.ref x_1), (Value.ref ob111), (Value.ref ob111)]))
        obtain ⟨_, _, ⟨T114, L114, k114, n114⟩, -, X114, ⟨Lc114, hQ114, l114, y114, z114⟩, st114⟩ := X111.specialBack hx (y := (⟨"com/example/enlace/enlace/UriReference", "<init>", "(Ljava/lang/String;Ljava/lang/String;Ljava/lang/String;Ljava/lang/String;Ljava/lang/String;Ljava/lang/String;Ljava/lang/String;Ljava/lang/String;)V"⟩ : MethodName)) rfl hown108 (mvT hZ108 (hw _ (List.mem_of_getElem? (i := 30) rfl))) (mvT hZ108 (hw _ (List.mem_of_getElem? (i := 31) rfl))) (mvT hZ108 (hw _ (List.mem_of_getElem? (i := 32) rfl))) (by decide) (backOf (W := 1) (rm5_rrnnnrnn l Z a0 hw [] ob111 x_1 sa108 x_1 h111 n0 O112 A111 g113 F111_text F111_scheme F111_userinfo F111_host F111_port F111_path F111_query F111_fragment) hZ108 (hw _ (List.mem_of_getElem? (i := 32) rfl)) (hw _ (List.mem_of_getElem? (i := 29) rfl)) (by decide) (by decide)) (g := (mkF m 201 #[sI p1, sI p2, sI p3, sI c0x, sI c1x, sI la, sI (p3 &&& (3 : Int32)), sI d0x, sI d1x, sI lb, sR x_1, sR x_4, sR sa108, sI (0 : Int32), .unset, .unset, .unset, .unset] [.null, .null, (Value.ref x_1), .null, .null, .null, (Value.ref sa108), (Value.ref x_1), (Value.ref ob111), (Value.ref ob111)])) rfl (by rw [hml]; rfl) (Steps.refl _) (a := ob111) (argsL := [(Value.ref x_1), (Value.ref sa108), .null, .null, .null, (Value.ref x_1), .null, .null]) (rest := [(Value.ref ob111)]) (lenOf own_pd4 rfl) rfl (by show 2 * 0 + _ ≤ _; exact Nat.le_of_eq rfl) (hb hby at_201) (fun _ _ => ⟨rfl, e111, (by decide : 15 + 0 ≤ _), (by decide : 52 + 0 ≤ _)⟩)
        dsimp only [Pt.U, Pt.locs, Pt.cells, Pt.slots] at X114 l114 y114 z114 st114 hQ114
        subst l114 y114 z114
        refine own_Go.by (fun tq kq => st114.trans kq) ?_
        obtain ⟨rfl, N114q, K114q, p114_0, p114_1⟩ := hQ114
        have N114 := Fr.app N4 N114q
        have O115 := O112.keep K114q (allS g113 all0)
        have K115 := K112.trans K114q (allS (Or.inr z113) all0)
        have hk_115 := Nat.le_trans hk_112 K114q.1
        refine own_Go.by (fun tq kq => XS.astore X114.here hx rfl (hb hby at_204) rfl rfl (l' := #[sI p1, sI p2, sI p3, sI c0x, sI c1x, sI la, sI (p3 &&& (3 : Int32)), sI d0x, sI d1x, sI lb, sR x_1, sR x_4, sR sa108, sI (0 : Int32), sR ob111, .unset, .unset, .unset]) rfl kq) ?_
        refine own_Go.by (fun tq kq => XS.iload X114.here hx rfl (hb hby at_206) rfl kq) ?_
        show own_Go _ _ _ _ (T114.setTop (mkF m 208 #[sI p1, sI p2, sI p3, sI c0x, sI c1x, sI la, sI (p3 &&& (3 : Int32)), sI d0x, sI d1x, sI lb, sR x_1, sR x_4, sR sa108, sI (0 : Int32), sR ob111, .unset, .unset, .unset] [(Value.int (0 : Int32))]))
        refine own_Go.by (fun tq kq => XS.ifYes X114.here hx rfl (pc0 := 208) (pc' := 232) rfl (hb hby at_208) rfl ((if0 _ _).trans (teq (by decide : (0 : Int32) = (0 : Int32))).1) (by decide) (by decide) kq) ?_
        show own_Go _ _ _ _ (T114.setTop (mkF m 232 #[sI p1, sI p2, sI p3, sI c0x, sI c1x, sI la, sI (p3 &&& (3 : Int32)), sI d0x, sI d1x, sI lb, sR x_1, sR x_4, sR sa108, sI (0 : Int32), sR ob111, .unset, .unset, .unset] []))
        obtain ⟨T116, h116, X116, e116, E116, A116, D116, -, st116⟩ := newO X114 hx hZ108 hown108 (hw _ (List.mem_of_getElem? (i := 27) rfl)) (hw _ (List.mem_of_getElem? (i := 28) rfl)) (hw _ (List.mem_of_getElem? (i := 29) rfl)) rfl (g := (mkF m 232 #[sI p1, sI p2, sI p3, sI c0x, sI c1x, sI la, sI (p3 &&& (3 : Int32)), sI d0x, sI d1x, sI lb, sR x_1, sR x_4, sR sa108, sI (0 : Int32), sR ob111, .unset, .unset, .unset] [])) rfl (hb hby at_232) (by decide) (by decide)
        obtain ⟨ob116, y116⟩ : ∃ z, z = T114.heap.size := ⟨_, rfl⟩
        rw [← y116] at A116 D116 st116
        refine own_Go.by st116 ?_
        have O117 := O115.ext E116
        have K117 := K115.ext E116
        have hk_117 := Nat.le_trans hk_115 E116.1
        have g118 : n0 ≤ ob116 := Nat.le_trans (own_old_le O115) (Nat.le_of_eq y116.symm)
        have z118 : h0.size ≤ ob116 := Nat.le_trans K115.1 (Nat.le_of_eq y116.symm)
        have F116_text : Fld Z h116 ob116 "com/example/enlace/enlace/UriReference" "text" "Ljava/lang/String;" .null := D116 (Or.inr (hw _ (List.mem_of_getElem? (i := 35) rfl))) (ty := (.object "java/lang/String")) (by decide)
        have F116_scheme : Fld Z h116 ob116 "com/example/enlace/enlace/UriReference" "scheme" "Ljava/lang/String;" .null := D116 (Or.inr (hw _ (List.mem_of_getElem? (i := 37) rfl))) (ty := (.object "java/lang/String")) (by decide)
        have F116_userinfo : Fld Z h116 ob116 "com/example/enlace/enlace/UriReference" "userinfo" "Ljava/lang/String;" .null := D116 (Or.inr (hw _ (List.mem_of_getElem? (i := 39) rfl))) (ty := (.object "java/lang/String")) (by decide)
        have F116_host : Fld Z h116 ob116 "com/example/enlace/enlace/UriReference" "host" "Ljava/lang/String;" .null := D116 (Or.inr (hw _ (List.mem_of_getElem? (i := 41) rfl))) (ty := (.object "java/lang/String")) (by decide)
        have F116_port : Fld Z h116 ob116 "com/example/enlace/enlace/UriReference" "port" "Ljava/lang/String;" .null := D116 (Or.inr (hw _ (List.mem_of_getElem? (i := 43) rfl))) (ty := (.object "java/lang/String")) (by decide)
        have F116_path : Fld Z h116 ob116 "com/example/enlace/enlace/UriReference" "path" "Ljava/lang/String;" .null := D116 (Or.inr (hw _ (List.mem_of_getElem? (i := 45) rfl))) (ty := (.object "java/lang/String")) (by decide)
        have F116_query : Fld Z h116 ob116 "com/example/enlace/enlace/UriReference" "query" "Ljava/lang/String;" .null := D116 (Or.inr (hw _ (List.mem_of_getElem? (i := 47) rfl))) (ty := (.object "java/lang/String")) (by decide)
        have F116_fragment : Fld Z h116 ob116 "com/example/enlace/enlace/UriReference" "fragment" "Ljava/lang/String;" .null := D116 (Or.inr (hw _ (List.mem_of_getElem? (i := 49) rfl))) (ty := (.object "java/lang/String")) (by decide)
        refine own_Go.by (fun tq kq => XS.dup X116.here hx rfl (hb hby at_235) rfl rfl kq) ?_
        refine own_Go.by (fun tq kq => XS.aload X116.here hx rfl (hb hby at_236) rfl rfl kq) ?_
        refine own_Go.by (fun tq kq => XS.aload X116.here hx rfl (hb hby at_238) rfl rfl kq) ?_
        show own_Go _ _ _ _ (T116.setTop (mkF m 240 #[sI p1, sI p2, sI p3, sI c0x, sI c1x, sI la, sI (p3 &&& (3 : Int32)), sI d0x, sI d1x, sI lb, sR x_1, sR x_4, sR sa108, sI (0 : Int32), sR ob111, .unset, .unset, .unset] [(Value.ref sa108), (Value.ref x_4), (Value.ref ob116), (Value.ref ob116)]))
        refine own_Go.by (fun tq kq => XS.ifnonnullYes X116.here hx rfl (pc0 := 240) (pc' := 248) rfl (hb hby at_240) rfl (by decide) (by decide) kq) ?_
        refine own_Go.by (fun tq kq => XS.aconstNull X116.here hx rfl (hb hby at_248) kq) ?_
        show own_Go _ _ _ _ (T116.setTop (mkF m 249 #[sI p1, sI p2, sI p3, sI c0x, sI c1x, sI la, sI (p3 &&& (3 : Int32)), sI d0x, sI d1x, sI lb, sR x_1, sR x_4, sR sa108, sI (0 : Int32), sR ob111, .unset, .unset, .unset] [.null, (Value.ref x_4), (Value.ref ob116), (Value.ref ob116)]))
        have R120 := CHr.ext E111 R108.1
        have Sf121 := Safe.ext E111 R108.1 (Safe.new (Nat.le_of_eq y111.symm))
        have R122 := CHr.keep K114q (allS Sf121 all0) R120.1
        have R123 := CHr.ext E116 R122.1
        obtain ⟨sa119, T119, h119, k119, sb119, kk119, X119, e119, E119, hS119, hk119, hZ119, hown119, Ea119, Fc119, Fv119, Va119, -, -, R119, -, hne119, st119⟩ := ldcCH (s := s) (vm0 := T108.vm) (EL := consts_1) X116 hx hZ108 hown108 (hw _ (List.mem_of_getElem? (i := 51) rfl)) (fun d hd => hw d (own_wS d hd)) e116 hS108 hk_117 hEL (List.mem_of_getElem? (i := 2) rfl) R123.1 (vs := [(Value.int (117 : Int32))]) (z := (1 : Int32)) ⟨by decide, by decide +kernel⟩ (by decide) rfl (g := (mkF m 249 #[sI p1, sI p2, sI p3, sI c0x, sI c1x, sI la, sI (p3 &&& (3 : Int32)), sI d0x, sI d1x, sI lb, sR x_1, sR x_4, sR sa108, sI (0 : Int32), sR ob111, .unset, .unset, .unset] [.null, (Value.ref x_4), (Value.ref ob116), (Value.ref ob116)])) rfl (hb hby at_249) (n := 4) (by decide) (by decide) (by decide) (by decide)
        refine own_Go.by st119 ?_
        have O124 := O117.ext E119
        have K124 := K117.ext E119
        show own_Go _ _ _ _ (T119.setTop (mkF m 251 #[sI p1, sI p2, sI p3, sI c0x, sI c1x, sI la, sI (p3 &&& (3 : Int32)), sI d0x, sI d1x, sI lb, sR x_1, sR x_4, sR sa108, sI (0 : Int32), sR ob111, .unset, .unset, .unset] [(Value.ref sa119), .null, (Value.ref x_4), (Value.ref ob116), (Value.ref ob116)]))
        obtain ⟨sa125, T125, h125, k125, sb125, kk125, X125, e125, E125, hS125, hk125, hZ125, hown125, Ea125, Fc125, Fv125, Va125, -, -, R125, -, hne125, st125⟩ := ldcCH (s := s) (vm0 := T119.vm) (EL := consts_1) X119 hx hZ119 hown119 (hw _ (List.mem_of_getElem? (i := 52) rfl)) (fun d hd => hw d (own_wS d hd)) e119 hS119 hk119 hEL (List.mem_of_getElem? (i := 3) rfl) R119.1 (vs := [(Value.int (104 : Int32))]) (z := (1 : Int32)) ⟨by decide, by decide +kernel⟩ (by decide) rfl (g := (mkF m 251 #[sI p1, sI p2, sI p3, sI c0x, sI c1x, sI la, sI (p3 &&& (3 : Int32)), sI d0x, sI d1x, sI lb, sR x_1, sR x_4, sR sa108, sI (0 : Int32), sR ob111, .unset, .unset, .unset] [(Value.ref sa119), .null, (Value.ref x_4), (Value.ref ob116), (Value.ref ob116)])) rfl (hb hby at_251) (n := 4) (by decide) (by decide) (by decide) (by decide)
        refine own_Go.by st125 ?_
        have O126 := O124.ext E125
        have K126 := K124.ext E125
        show own_Go _ _ _ _ (T125.setTop (mkF m 253 #[sI p1, sI p2, sI p3, sI c0x, sI c1x, sI la, sI (p3 &&& (3 : Int32)), sI d0x, sI d1x, sI lb, sR x_1, sR x_4, sR sa108, sI (0 : Int32), sR ob111, .unset, .unset, .unset] [(Value.ref sa125), (Value.ref sa119), .null, (Value.ref x_4), (Value.ref ob116), (Value.ref ob116)]))
        obtain ⟨sa127, T127, h127, k127, sb127, kk127, X127, e127, E127, hS127, hk127, hZ127, hown127, Ea127, Fc127, Fv127, Va127, -, -, R127, -, hne127, st127⟩ := ldcCH (s := s) (vm0 := T125.vm) (EL := consts_1) X125 hx hZ125 hown125 (hw _ (List.mem_of_getElem? (i := 53) rfl)) (fun d hd => hw d (own_wS d hd)) e125 hS125 hk125 hEL (List.mem_of_getElem? (i := 4) rfl) R125.1 (vs := [(Value.int (56 : Int32))]) (z := (1 : Int32)) ⟨by decide, by decide +kernel⟩ (by decide) rfl (g := (mkF m 253 #[sI p1, sI p2, sI p3, sI c0x, sI c1x, sI la, sI (p3 &&& (3 : Int32)), sI d0x, sI d1x, sI lb, sR x_1, sR x_4, sR sa108, sI (0 : Int32), sR ob111, .unset, .unset, .unset] [(Value.ref sa125), (Value.ref sa119), .null, (Value.ref x_4), (Value.ref ob116), (Value.ref ob116)])) rfl (hb hby at_253) (n := 4) (by decide) (by decide) (by decide) (by decide)
        refine own_Go.by st127 ?_
        have O128 := O126.ext E127
        have K128 := K126.ext E127
        show own_Go _ _ _ _ (T127.setTop (mkF m 255 #[sI p1, sI p2, sI p3, sI c0x, sI c1x, sI la, sI (p3 &&& (3 : Int32)), sI d0x, sI d1x, sI lb, sR x_1, sR x_4, sR sa108, sI (0 : Int32), sR ob111, .unset, .unset, .unset] [(Value.ref sa127), (Value.ref sa125), (Value.ref sa119), .null, (Value.ref x_4), (Value.ref ob116), (Value.ref ob116)]))
        obtain ⟨sa129, T129, h129, k129, sb129, kk129, X129, e129, E129, hS129, hk129, hZ129, hown129, Ea129, Fc129, Fv129, Va129, -, -, R129, -, hne129, st129⟩ := ldcCH (s := s) (vm0 := T127.vm) (EL := consts_1) X127 hx hZ127 hown127 (hw _ (List.mem_of_getElem? (i := 54) rfl)) (fun d hd => hw d (own_wS d hd)) e127 hS127 hk127 hEL (List.mem_of_getElem? (i := 5) rfl) R127.1 (vs := [(Value.int (47 : Int32)), (Value.int (112 : Int32))]) (z := (2 : Int32)) ⟨by decide, by decide +kernel⟩ (by decide) rfl (g := (mkF m 255 #[sI p1, sI p2, sI p3, sI c0x, sI c1x, sI la, sI (p3 &&& (3 : Int32)), sI d0x, sI d1x, sI lb, sR x_1, sR x_4, sR sa108, sI (0 : Int32), sR ob111, .unset, .unset, .unset] [(Value.ref sa127), (Value.ref sa125), (Value.ref sa119), .null, (Value.ref x_4), (Value.ref ob116), (Value.ref ob116)])) rfl (hb hby at_255) (n := 8) (by decide) (by decide) (by decide) (by decide)
        refine own_Go.by st129 ?_
        have O130 := O128.ext E129
        have K130 := K128.ext E129
        show own_Go _ _ _ _ (T129.setTop (mkF m 257 #[sI p1, sI p2, sI p3, sI c0x, sI c1x, sI la, sI (p3 &&& (3 : Int32)), sI d0x, sI d1x, sI lb, sR x_1, sR x_4, sR sa108, sI (0 : Int32), sR ob111, .unset, .unset, .unset] [(Value.ref sa129), (Value.ref sa127), (Value.ref sa125), (Value.ref sa119), .null, (Value.ref x_4), (Value.ref ob116), (Value.ref ob116)]))
        obtain ⟨sa131, T131, h131, k131, sb131, kk131, X131, e131, E131, hS131, hk131, hZ131, hown131, Ea131, Fc131, Fv131, Va131, -, -, R131, -, hne131, st131⟩ := ldcCH (s := s) (vm0 := T129.vm) (EL := consts_1) X129 hx hZ129 hown129 (hw _ (List.mem_of_getElem? (i := 55) rfl)) (fun d hd => hw d (own_wS d hd)) e129 hS129 hk129 hEL (List.mem_of_getElem? (i := 6) rfl) R129.1 (vs := [(Value.int (113 : Int32))]) (z := (1 : Int32)) ⟨by decide, by decide +kernel⟩ (by decide) rfl (g := (mkF m 257 #[sI p1, sI p2, sI p3, sI c0x, sI c1x, sI la, sI (p3 &&& (3 : Int32)), sI d0x, sI d1x, sI lb, sR x_1, sR x_4, sR sa108, sI (0 : Int32), sR ob111, .unset, .unset, .unset] [(Value.ref sa129), (Value.ref sa127), (Value.ref sa125), (Value.ref sa119), .null, (Value.ref x_4), (Value.ref ob116), (Value.ref ob116)])) rfl (hb hby at_257) (n := 4) (by decide) (by decide) (by decide) (by decide)
        refine own_Go.by st131 ?_
        have O132 := O130.ext E131
        have K132 := K130.ext E131
        show own_Go _ _ _ _ (T131.setTop (mkF m 259 #[sI p1, sI p2, sI p3, sI c0x, sI c1x, sI la, sI (p3 &&& (3 : Int32)), sI d0x, sI d1x, sI lb, sR x_1, sR x_4, sR sa108, sI (0 : Int32), sR ob111, .unset, .unset, .unset] [(Value.ref sa131), (Value.ref sa129), (Value.ref sa127), (Value.ref sa125), (Value.ref sa119), .null, (Value.ref x_4), (Value.ref ob116), (Value.ref ob116)]))
        obtain ⟨sa133, T133, h133, k133, sb133, kk133, X133, e133, E133, hS133, hk133, hZ133, hown133, Ea133, Fc133, Fv133, Va133, -, -, R133, -, hne133, st133⟩ := ldcCH (s := s) (vm0 := T131.vm) (EL := consts_1) X131 hx hZ131 hown131 (hw _ (List.mem_of_getElem? (i := 56) rfl)) (fun d hd => hw d (own_wS d hd)) e131 hS131 hk131 hEL (List.mem_of_getElem? (i := 7) rfl) R131.1 (vs := [(Value.int (102 : Int32))]) (z := (1 : Int32)) ⟨by decide, by decide +kernel⟩ (by decide) rfl (g := (mkF m 259 #[sI p1, sI p2, sI p3, sI c0x, sI c1x, sI la, sI (p3 &&& (3 : Int32)), sI d0x, sI d1x, sI lb, sR x_1, sR x_4, sR sa108, sI (0 : Int32), sR ob111, .unset, .unset, .unset] [(Value.ref sa131), (Value.ref sa129), (Value.ref sa127), (Value.ref sa125), (Value.ref sa119), .null, (Value.ref x_4), (Value.ref ob116), (Value.ref ob116)])) rfl (hb hby at_259) (n := 4) (by decide) (by decide) (by decide) (by decide)
        refine own_Go.by st133 ?_
        have O134 := O132.ext E133
        have K134 := K132.ext E133
        show own_Go _ _ _ _ (T133.setTop (mkF m 261 #[sI p1, sI p2, sI p3, sI c0x, sI c1x, sI la, sI (p3 &&& (3 : Int32)), sI d0x, sI d1x, sI lb, sR x_1, sR x_4, sR sa108, sI (0 : Int32), sR ob111, .unset, .unset, .unset] [(Value.ref sa133), (Value.ref sa131), (Value.ref sa129), (Value.ref sa127), (Value.ref sa125), (Value.ref sa119), .null, (Value.ref x_4), (Value.ref ob116), (Value.ref ob116)]))
        have c136 := ((((((A116.ext E119).ext E125).ext E127).ext E129).ext E131).ext E133)
        have c137 := ((((((F116_text.ext E119).ext E125).ext E127).ext E129).ext E131).ext E133)
        have c138 := ((((((F116_scheme.ext E119).ext E125).ext E127).ext E129).ext E131).ext E133)
        have c139 := ((((((F116_userinfo.ext E119).ext E125).ext E127).ext E129).ext E131).ext E133)
        have c140 := ((((((F116_host.ext E119).ext E125).ext E127).ext E129).ext E131).ext E133)
        have c141 := ((((((F116_port.ext E119).ext E125).ext E127).ext E129).ext E131).ext E133)
        have c142 := ((((((F116_path.ext E119).ext E125).ext E127).ext E129).ext E131).ext E133)
        have c143 := ((((((F116_query.ext E119).ext E125).ext E127).ext E129).ext E131).ext E133)
        have c144 := ((((((F116_fragment.ext E119).ext E125).ext E127).ext E129).ext E131).ext E133)
        obtain ⟨_, _, ⟨T135, L135, k135, n135⟩, -, X135, ⟨Lc135, hQ135, l135, y135, z135⟩, st135⟩ := X133.specialBack hx (y := (⟨"com/example/enlace/enlace/UriReference", "<init>", "(Ljava/lang/String;Ljava/lang/String;Ljava/lang/String;Ljava/lang/String;Ljava/lang/String;Ljava/lang/String;Ljava/lang/String;Ljava/lang/String;)V"⟩ : MethodName)) rfl hown133 (mvT hZ133 (hw _ (List.mem_of_getElem? (i := 30) rfl))) (mvT hZ133 (hw _ (List.mem_of_getElem? (i := 31) rfl))) (mvT hZ133 (hw _ (List.mem_of_getElem? (i := 32) rfl))) (by decide) (backOf (W := 1) (rm5_rnrrrrrr l Z a0 hw [] ob116 x_4 sa119 sa125 sa127 sa129 sa131 sa133 h133 n0 O134 c136 g118 c137 c138 c139 c140 c141 c142 c143 c144) hZ133 (hw _ (List.mem_of_getElem? (i := 32) rfl)) (hw _ (List.mem_of_getElem? (i := 29) rfl)) (by decide) (by decide)) (g := (mkF m 261 #[sI p1, sI p2, sI p3, sI c0x, sI c1x, sI la, sI (p3 &&& (3 : Int32)), sI d0x, sI d1x, sI lb, sR x_1, sR x_4, sR sa108, sI (0 : Int32), sR ob111, .unset, .unset, .unset] [(Value.ref sa133), (Value.ref sa131), (Value.ref sa129), (Value.ref sa127), (Value.ref sa125), (Value.ref sa119), .null, (Value.ref x_4), (Value.ref ob116), (Value.ref ob116)])) rfl (by rw [hml]; rfl) (Steps.refl _) (a := ob116) (argsL := [(Value.ref x_4), .null, (Value.ref sa119), (Value.ref sa125), (Value.ref sa127), (Value.ref sa129), (Value.ref sa131), (Value.ref sa133)]) (rest := [(Value.ref ob116)]) (lenOf own_pd4 rfl) rfl (by show 2 * 0 + _ ≤ _; exact Nat.le_of_eq rfl) (hb hby at_261) (fun _ _ => ⟨rfl, e133, (by decide : 28 + 0 ≤ _), (by decide : 112 + 0 ≤ _)⟩)
        dsimp only [Pt.U, Pt.locs, Pt.cells, Pt.slots] at X135 l135 y135 z135 st135 hQ135
        subst l135 y135 z135
        refine own_Go.by (fun tq kq => st135.trans kq) ?_
        obtain ⟨rfl, N135q, K135q, p135_0, p135_1⟩ := hQ135
        have N135 := Fr.app N114 N135q
        have O145 := O134.keep K135q (allS g118 all0)
        have K145 := K134.trans K135q (allS (Or.inr z118) all0)
        have hk_145 := Nat.le_trans hk133 K135q.1
        refine own_Go.by (fun tq kq => XS.astore X135.here hx rfl (hb hby at_264) rfl rfl (l' := #[sI p1, sI p2, sI p3, sI c0x, sI c1x, sI la, sI (p3 &&& (3 : Int32)), sI d0x, sI d1x, sI lb, sR x_1, sR x_4, sR sa108, sI (0 : Int32), sR ob111, sR ob116, .unset, .unset]) rfl kq) ?_
        refine own_merge (α := Int32) (P := fun ex => (ex = (1 : Int32) ∧ own_text la c0x c1x = own_text lb d0x d1x) ∨ (ex = (0 : Int32) ∧ ¬ own_text la c0x c1x = own_text lb d0x d1x)) (F := fun ex => T135.setTop (mkF m 305 #[sI p1, sI p2, sI p3, sI c0x, sI c1x, sI la, sI (p3 &&& (3 : Int32)), sI d0x, sI d1x, sI lb, sR x_1, sR x_4, sR sa108, sI (0 : Int32), sR ob111, sR ob116, sI ex, .unset] [])) ?_ ?_
        ·
          intro ex h_ex
          refine own_Go.by (fun tq kq => XS.aconstNull X135.here hx rfl (hb hby at_305) kq) ?_
          refine own_Go.by (fun tq kq => XS.astore X135.here hx rfl (hb hby at_306) rfl rfl (l' := #[sI p1, sI p2, sI p3, sI c0x, sI c1x, sI la, sI (p3 &&& (3 : Int32)), sI d0x, sI d1x, sI lb, sR x_1, sR x_4, sR sa108, sI (0 : Int32), sR ob111, sR ob116, sI ex, .val .null]) rfl kq) ?_
          show own_Go _ _ _ _ (T135.setTop (mkF m 308 #[sI p1, sI p2, sI p3, sI c0x, sI c1x, sI la, sI (p3 &&& (3 : Int32)), sI d0x, sI d1x, sI lb, sR x_1, sR x_4, sR sa108, sI (0 : Int32), sR ob111, sR ob116, sI ex, .val .null] []))
          refine own_Go.by (fun tq kq => XS.aload X135.here hx rfl (hb hby at_308) rfl rfl kq) ?_
          refine own_Go.by (fun tq kq => XS.aload X135.here hx rfl (hb hby at_310) rfl rfl kq) ?_
          show own_Go _ _ _ _ (T135.setTop (mkF m 312 #[sI p1, sI p2, sI p3, sI c0x, sI c1x, sI la, sI (p3 &&& (3 : Int32)), sI d0x, sI d1x, sI lb, sR x_1, sR x_4, sR sa108, sI (0 : Int32), sR ob111, sR ob116, sI ex, .val .null] [(Value.ref ob116), (Value.ref ob111)]))
          have c147 := ((((((((p114_0.ext E116).ext E119).ext E125).ext E127).ext E129).ext E131).ext E133).keep K135q)
          have c148 := ((((((((p114_1.ext E116).ext E119).ext E125).ext E127).ext E129).ext E131).ext E133).keep K135q (ninS (Nat.ne_of_lt (Nat.lt_of_lt_of_le A111.lt (Nat.le_trans K114q.1 (Nat.le_of_eq y116.symm)))) nin0))
          have c149 := ((((((((((((p1_1.keep K4q).ext E108).ext E111).keep K114q).ext E116).ext E119).ext E125).ext E127).ext E129).ext E131).ext E133).keep K135q)
          have c150 := ((((((((((((p1_2.keep K4q nin0).ext E108).ext E111).keep K114q (ninS (Nat.ne_of_lt (Nat.lt_of_lt_of_le p1_1.lt (Nat.le_trans K4q.1 (Nat.le_trans E108.1 (Nat.le_of_eq y111.symm))))) nin0)).ext E116).ext E119).ext E125).ext E127).ext E129).ext E131).ext E133).keep K135q (ninS (Nat.ne_of_lt (Nat.lt_of_lt_of_le p1_1.lt (Nat.le_trans K4q.1 (Nat.le_trans E108.1 (Nat.le_trans E111.1 (Nat.le_trans K114q.1 (Nat.le_of_eq y116.symm))))))) nin0))
          have c151 := ((((((((((((p1_3.keep K4q nin0).ext E108).ext E111).keep K114q (ninS (Nat.ne_of_lt (Nat.lt_of_lt_of_le p1_1.lt (Nat.le_trans K4q.1 (Nat.le_trans E108.1 (Nat.le_of_eq y111.symm))))) nin0)).ext E116).ext E119).ext E125).ext E127).ext E129).ext E131).ext E133).keep K135q (ninS (Nat.ne_of_lt (Nat.lt_of_lt_of_le p1_1.lt (Nat.le_trans K4q.1 (Nat.le_trans E108.1 (Nat.le_trans E111.1 (Nat.le_trans K114q.1 (Nat.le_of_eq y116.symm))))))) nin0))
          have c152 := ((((((((((((p1_4.keep K4q nin0).ext E108).ext E111).keep K114q (ninS (Nat.ne_of_lt (Nat.lt_of_lt_of_le p1_4.lt (Nat.le_trans K4q.1 (Nat.le_trans E108.1 (Nat.le_of_eq y111.symm))))) nin0)).ext E116).ext E119).ext E125).ext E127).ext E129).ext E131).ext E133).keep K135q (ninS (Nat.ne_of_lt (Nat.lt_of_lt_of_le p1_4.lt (Nat.le_trans K4q.1 (Nat.le_trans E108.1 (Nat.le_trans E111.1 (Nat.le_trans K114q.1 (Nat.le_of_eq y116.symm))))))) nin0))
          have c153 := (((((((((((p4_1.ext E108).ext E111).keep K114q).ext E116).ext E119).ext E125).ext E127).ext E129).ext E131).ext E133).keep K135q)
          have c154 := (((((((((((p4_2.ext E108).ext E111).keep K114q (ninS (Nat.ne_of_lt (Nat.lt_of_lt_of_le p4_1.lt (Nat.le_trans E108.1 (Nat.le_of_eq y111.symm)))) nin0)).ext E116).ext E119).ext E125).ext E127).ext E129).ext E131).ext E133).keep K135q (ninS (Nat.ne_of_lt (Nat.lt_of_lt_of_le p4_1.lt (Nat.le_trans E108.1 (Nat.le_trans E111.1 (Nat.le_trans K114q.1 (Nat.le_of_eq y116.symm)))))) nin0))
          have c155 := (((((((((((p4_3.ext E108).ext E111).keep K114q (ninS (Nat.ne_of_lt (Nat.lt_of_lt_of_le p4_1.lt (Nat.le_trans E108.1 (Nat.le_of_eq y111.symm)))) nin0)).ext E116).ext E119).ext E125).ext E127).ext E129).ext E131).ext E133).keep K135q (ninS (Nat.ne_of_lt (Nat.lt_of_lt_of_le p4_1.lt (Nat.le_trans E108.1 (Nat.le_trans E111.1 (Nat.le_trans K114q.1 (Nat.le_of_eq y116.symm)))))) nin0))
          have c156 := (((((((((((p4_4.ext E108).ext E111).keep K114q (ninS (Nat.ne_of_lt (Nat.lt_of_lt_of_le p4_4.lt (Nat.le_trans E108.1 (Nat.le_of_eq y111.symm)))) nin0)).ext E116).ext E119).ext E125).ext E127).ext E129).ext E131).ext E133).keep K135q (ninS (Nat.ne_of_lt (Nat.lt_of_lt_of_le p4_4.lt (Nat.le_trans E108.1 (Nat.le_trans E111.1 (Nat.le_trans K114q.1 (Nat.le_of_eq y116.symm)))))) nin0))
          obtain ⟨cq146, kq146, q146a, q146b, q146c⟩ := isOf hZ133 rfl c147
          obtain ⟨_, _, ⟨T146, L146, k146, n146⟩, -, X146, ⟨Lc146, hQ146, l146, y146, z146⟩, st146⟩ := X135.virtualBack hx (y := (⟨"com/example/enlace/enlace/UriReference", "equals", "(Ljava/lang/Object;)Z"⟩ : MethodName)) (z := (⟨"com/example/enlace/enlace/UriReference", "equals", "(Ljava/lang/Object;)Z"⟩ : MethodName)) hown133 (mvT hZ133 (hw _ (List.mem_of_getElem? (i := 57) rfl))) (mvT hZ133 (hw _ (List.mem_of_getElem? (i := 58) rfl))) (notFace_of_selects (args := #[]) (mvT hZ133 (hw _ (List.mem_of_getElem? (i := 60) rfl)))) (mvT hZ133 (hw _ (List.mem_of_getElem? (i := 60) rfl))) (mvT hZ133 (hw _ (List.mem_of_getElem? (i := 59) rfl))) (by decide) (backOf (W := 0) (rm6_a l Z a0 hw [] ob111 ob116 zc x_1 t_1 kb_1 N2_1 vs2_1 (own_text la c0x c1x) x_4 t_4 kb_4 N2_4 vs2_4 (own_text lb d0x d1x) T135.heap n0 O145 H0 (hzc : ¬ (zc = (0 : Int32))) c147 p135_0 c148 c149 c150 c151 c152 (p1_5 : own_cod (own_text la c0x c1x) N2_1 vs2_1) p135_1 c153 c154 c155 c156 (p4_5 : own_cod (own_text lb d0x d1x) N2_4 vs2_4)) hZ133 (hw _ (List.mem_of_getElem? (i := 61) rfl)) (hw _ (List.mem_of_getElem? (i := 29) rfl)) (by decide) (by decide)) q146a q146c (g := (mkF m 312 #[sI p1, sI p2, sI p3, sI c0x, sI c1x, sI la, sI (p3 &&& (3 : Int32)), sI d0x, sI d1x, sI lb, sR x_1, sR x_4, sR sa108, sI (0 : Int32), sR ob111, sR ob116, sI ex, .val .null] [(Value.ref ob116), (Value.ref ob111)])) rfl (by rw [hml]; rfl) (Steps.refl _) (argsL := [(Value.ref ob116)]) (rest := []) (lenOf own_pd2 rfl) rfl (by show 2 * 0 + _ ≤ _; exact Nat.le_of_eq rfl) (hb hby at_312) (fun _ _ => ⟨rfl, rfl, (by decide : 28 + 0 ≤ _), (by decide : 112 + 0 ≤ _)⟩)
          dsimp only [Pt.U, Pt.locs, Pt.cells, Pt.slots] at X146 l146 y146 z146 st146 hQ146
          subst l146 y146 z146
          refine own_Go.by (fun tq kq => st146.trans kq) ?_
          obtain ⟨r_146, rfl, N146q, e146, p146_0⟩ := hQ146
          have N146 := Fr.app N135 N146q
          refine own_Go.by (fun tq kq => XS.iload X146.here hx rfl (hb hby at_315) rfl kq) ?_
          show own_Go _ _ _ _ (T146.setTop (mkF m 317 #[sI p1, sI p2, sI p3, sI c0x, sI c1x, sI la, sI (p3 &&& (3 : Int32)), sI d0x, sI d1x, sI lb, sR x_1, sR x_4, sR sa108, sI (0 : Int32), sR ob111, sR ob116, sI ex, .val .null] [(Value.int ex), (Value.int r_146)]))
          refine own_Go.by (fun tq kq => XS.icmpNo X146.here hx rfl (hb hby at_317) rfl (teq (own_same p146_0 h_ex Iff.rfl : r_146 = ex)).2 kq) ?_
          refine own_Go.by (fun tq kq => XS.aload X146.here hx rfl (hb hby at_320) rfl rfl kq) ?_
          refine own_Go.by (fun tq kq => XS.aload X146.here hx rfl (hb hby at_322) rfl rfl kq) ?_
          show own_Go _ _ _ _ (T146.setTop (mkF m 324 #[sI p1, sI p2, sI p3, sI c0x, sI c1x, sI la, sI (p3 &&& (3 : Int32)), sI d0x, sI d1x, sI lb, sR x_1, sR x_4, sR sa108, sI (0 : Int32), sR ob111, sR ob116, sI ex, .val .null] [(Value.ref ob111), (Value.ref ob116)]))
          obtain ⟨cq157, kq157, q157a, q157b, q157c⟩ := isOf hZ133 e146 p135_0
          obtain ⟨_, _, ⟨T157, L157, k157, n157⟩, -, X157, ⟨Lc157, hQ157, l157, y157, z157⟩, st157⟩ := X146.virtualBack hx (y := (⟨"com/example/enlace/enlace/UriReference", "equals", "(Ljava/lang/Object;)Z"⟩ : MethodName)) (z := (⟨"com/example/enlace/enlace/UriReference", "equals", "(Ljava/lang/Object;)Z"⟩ : MethodName)) hown133 (mvT hZ133 (hw _ (List.mem_of_getElem? (i := 57) rfl))) (mvT hZ133 (hw _ (List.mem_of_getElem? (i := 58) rfl))) (notFace_of_selects (args := #[]) (mvT hZ133 (hw _ (List.mem_of_getElem? (i := 60) rfl)))) (mvT hZ133 (hw _ (List.mem_of_getElem? (i := 60) rfl))) (mvT hZ133 (hw _ (List.mem_of_getElem? (i := 59) rfl))) (by decide) (backOf (W := 0) (rm6_a l Z a0 hw [] ob116 ob111 zc x_4 t_4 kb_4 N2_4 vs2_4 (own_text lb d0x d1x) x_1 t_1 kb_1 N2_1 vs2_1 (own_text la c0x c1x) T135.heap n0 O145 H0 (hzc : ¬ (zc = (0 : Int32))) p135_0 c147 p135_1 c153 c154 c155 c156 (p4_5 : own_cod (own_text lb d0x d1x) N2_4 vs2_4) c148 c149 c150 c151 c152 (p1_5 : own_cod (own_text la c0x c1x) N2_1 vs2_1)) hZ133 (hw _ (List.mem_of_getElem? (i := 61) rfl)) (hw _ (List.mem_of_getElem? (i := 29) rfl)) (by decide) (by decide)) q157a q157c (g := (mkF m 324 #[sI p1, sI p2, sI p3, sI c0x, sI c1x, sI la, sI (p3 &&& (3 : Int32)), sI d0x, sI d1x, sI lb, sR x_1, sR x_4, sR sa108, sI (0 : Int32), sR ob111, sR ob116, sI ex, .val .null] [(Value.ref ob111), (Value.ref ob116)])) rfl (by rw [hml]; rfl) (Steps.refl _) (argsL := [(Value.ref ob111)]) (rest := []) (lenOf own_pd2 rfl) rfl (by show 2 * 0 + _ ≤ _; exact Nat.le_of_eq rfl) (hb hby at_324) (fun _ _ => ⟨rfl, e146, (by decide : 28 + 0 ≤ _), (by decide : 112 + 0 ≤ _)⟩)
          dsimp only [Pt.U, Pt.locs, Pt.cells, Pt.slots] at X157 l157 y157 z157 st157 hQ157
          subst l157 y157 z157
          refine own_Go.by (fun tq kq => st157.trans kq) ?_
          obtain ⟨r_157, rfl, N157q, e157, p157_0⟩ := hQ157
          have N157 := Fr.app N146 N157q
          refine own_Go.by (fun tq kq => XS.iload X157.here hx rfl (hb hby at_327) rfl kq) ?_
          show own_Go _ _ _ _ (T157.setTop (mkF m 329 #[sI p1, sI p2, sI p3, sI c0x, sI c1x, sI la, sI (p3 &&& (3 : Int32)), sI d0x, sI d1x, sI lb, sR x_1, sR x_4, sR sa108, sI (0 : Int32), sR ob111, sR ob116, sI ex, .val .null] [(Value.int ex), (Value.int r_157)]))
          refine own_Go.by (fun tq kq => XS.icmpNo X157.here hx rfl (hb hby at_329) rfl (teq (own_same p157_0 h_ex ⟨Eq.symm, Eq.symm⟩ : r_157 = ex)).2 kq) ?_
          refine own_Go.by (fun tq kq => XS.aload X157.here hx rfl (hb hby at_332) rfl rfl kq) ?_
          refine own_Go.by (fun tq kq => XS.aload X157.here hx rfl (hb hby at_334) rfl rfl kq) ?_
          show own_Go _ _ _ _ (T157.setTop (mkF m 336 #[sI p1, sI p2, sI p3, sI c0x, sI c1x, sI la, sI (p3 &&& (3 : Int32)), sI d0x, sI d1x, sI lb, sR x_1, sR x_4, sR sa108, sI (0 : Int32), sR ob111, sR ob116, sI ex, .val .null] [(Value.ref ob111), (Value.ref ob111)]))
          obtain ⟨cq158, kq158, q158a, q158b, q158c⟩ := isOf hZ133 e157 c147
          obtain ⟨_, _, ⟨T158, L158, k158, n158⟩, -, X158, ⟨Lc158, hQ158, l158, y158, z158⟩, st158⟩ := X157.virtualBack hx (y := (⟨"com/example/enlace/enlace/UriReference", "equals", "(Ljava/lang/Object;)Z"⟩ : MethodName)) (z := (⟨"com/example/enlace/enlace/UriReference", "equals", "(Ljava/lang/Object;)Z"⟩ : MethodName)) hown133 (mvT hZ133 (hw _ (List.mem_of_getElem? (i := 57) rfl))) (mvT hZ133 (hw _ (List.mem_of_getElem? (i := 58) rfl))) (notFace_of_selects (args := #[]) (mvT hZ133 (hw _ (List.mem_of_getElem? (i := 60) rfl)))) (mvT hZ133 (hw _ (List.mem_of_getElem? (i := 60) rfl))) (mvT hZ133 (hw _ (List.mem_of_getElem? (i := 59) rfl))) (by decide) (backOf (W := 0) (rm6_a l Z a0 hw [] ob111 ob111 zc x_1 t_1 kb_1 N2_1 vs2_1 (own_text la c0x c1x) x_1 t_1 kb_1 N2_1 vs2_1 (own_text la c0x c1x) T135.heap n0 O145 H0 (hzc : ¬ (zc = (0 : Int32))) c147 c147 c148 c149 c150 c151 c152 (p1_5 : own_cod (own_text la c0x c1x) N2_1 vs2_1) c148 c149 c150 c151 c152 (p1_5 : own_cod (own_text la c0x c1x) N2_1 vs2_1)) hZ133 (hw _ (List.mem_of_getElem? (i := 61) rfl)) (hw _ (List.mem_of_getElem? (i := 29) rfl)) (by decide) (by decide)) q158a q158c (g := (mkF m 336 #[sI p1, sI p2, sI p3, sI c0x, sI c1x, sI la, sI (p3 &&& (3 : Int32)), sI d0x, sI d1x, sI lb, sR x_1, sR x_4, sR sa108, sI (0 : Int32), sR ob111, sR ob116, sI ex, .val .null] [(Value.ref ob111), (Value.ref ob111)])) rfl (by rw [hml]; rfl) (Steps.refl _) (argsL := [(Value.ref ob111)]) (rest := []) (lenOf own_pd2 rfl) rfl (by show 2 * 0 + _ ≤ _; exact Nat.le_of_eq rfl) (hb hby at_336) (fun _ _ => ⟨rfl, e157, (by decide : 28 + 0 ≤ _), (by decide : 112 + 0 ≤ _)⟩)
          dsimp only [Pt.U, Pt.locs, Pt.cells, Pt.slots] at X158 l158 y158 z158 st158 hQ158
          subst l158 y158 z158
          refine own_Go.by (fun tq kq => st158.trans kq) ?_
          obtain ⟨r_158, rfl, N158q, e158, p158_0⟩ := hQ158
          have N158 := Fr.app N157 N158q
          show own_Go _ _ _ _ (T158.setTop (mkF m 339 #[sI p1, sI p2, sI p3, sI c0x, sI c1x, sI la, sI (p3 &&& (3 : Int32)), sI d0x, sI d1x, sI lb, sR x_1, sR x_4, sR sa108, sI (0 : Int32), sR ob111, sR ob116, sI ex, .val .null] [(Value.int r_158)]))
          refine own_Go.by (fun tq kq => XS.ifNo X158.here hx rfl (hb hby at_339) rfl ((if0 _ _).trans (feq (own_self p158_0 rfl : ¬ (r_158 = (0 : Int32)))).1) kq) ?_
          refine own_Go.by (fun tq kq => XS.aload X158.here hx rfl (hb hby at_342) rfl rfl kq) ?_
          refine own_Go.by (fun tq kq => XS.aload X158.here hx rfl (hb hby at_344) rfl rfl kq) ?_
          show own_Go _ _ _ _ (T158.setTop (mkF m 346 #[sI p1, sI p2, sI p3, sI c0x, sI c1x, sI la, sI (p3 &&& (3 : Int32)), sI d0x, sI d1x, sI lb, sR x_1, sR x_4, sR sa108, sI (0 : Int32), sR ob111, sR ob116, sI ex, .val .null] [.null, (Value.ref ob111)]))
          obtain ⟨cq159, kq159, q159a, q159b, q159c⟩ := isOf hZ133 e158 c147
          obtain ⟨_, _, ⟨T159, L159, k159, n159⟩, -, X159, ⟨Lc159, hQ159, l159, y159, z159⟩, st159⟩ := X158.virtualBack hx (y := (⟨"com/example/enlace/enlace/UriReference", "equals", "(Ljava/lang/Object;)Z"⟩ : MethodName)) (z := (⟨"com/example/enlace/enlace/UriReference", "equals", "(Ljava/lang/Object;)Z"⟩ : MethodName)) hown133 (mvT hZ133 (hw _ (List.mem_of_getElem? (i := 57) rfl))) (mvT hZ133 (hw _ (List.mem_of_getElem? (i := 58) rfl))) (notFace_of_selects (args := #[]) (mvT hZ133 (hw _ (List.mem_of_getElem? (i := 60) rfl)))) (mvT hZ133 (hw _ (List.mem_of_getElem? (i := 60) rfl))) (mvT hZ133 (hw _ (List.mem_of_getElem? (i := 59) rfl))) (by decide) (backOf (W := 0) (rm6_n l Z a0 hw [] ob111 T135.heap n0 O145 ) hZ133 (hw _ (List.mem_of_getElem? (i := 61) rfl)) (hw _ (List.mem_of_getElem? (i := 29) rfl)) (by decide) (by decide)) q159a q159c (g := (mkF m 346 #[sI p1, sI p2, sI p3, sI c0x, sI c1x, sI la, sI (p3 &&& (3 : Int32)), sI d0x, sI d1x, sI lb, sR x_1, sR x_4, sR sa108, sI (0 : Int32), sR ob111, sR ob116, sI ex, .val .null] [.null, (Value.ref ob111)])) rfl (by rw [hml]; rfl) (Steps.refl _) (argsL := [.null]) (rest := []) (lenOf own_pd2 rfl) rfl (by show 2 * 0 + _ ≤ _; exact Nat.le_of_eq rfl) (hb hby at_346) (fun _ _ => ⟨rfl, e158, (by decide : 28 + 0 ≤ _), (by decide : 112 + 0 ≤ _)⟩)
          dsimp only [Pt.U, Pt.locs, Pt.cells, Pt.slots] at X159 l159 y159 z159 st159 hQ159
          subst l159 y159 z159
          refine own_Go.by (fun tq kq => st159.trans kq) ?_
          obtain ⟨rfl, N159q, e159⟩ := hQ159
          have N159 := Fr.app N158 N159q
          show own_Go _ _ _ _ (T159.setTop (mkF m 349 #[sI p1, sI p2, sI p3, sI c0x, sI c1x, sI la, sI (p3 &&& (3 : Int32)), sI d0x, sI d1x, sI lb, sR x_1, sR x_4, sR sa108, sI (0 : Int32), sR ob111, sR ob116, sI ex, .val .null] [(Value.int (0 : Int32))]))
          refine own_Go.by (fun tq kq => XS.ifNo X159.here hx rfl (hb hby at_349) rfl ((if0 _ _).trans (teq (by decide : (0 : Int32) = (0 : Int32))).2) kq) ?_
          refine own_Go.by (fun tq kq => XS.aload X159.here hx rfl (hb hby at_352) rfl rfl kq) ?_
          refine own_Go.by (fun tq kq => XS.aload X159.here hx rfl (hb hby at_354) rfl rfl kq) ?_
          show own_Go _ _ _ _ (T159.setTop (mkF m 356 #[sI p1, sI p2, sI p3, sI c0x, sI c1x, sI la, sI (p3 &&& (3 : Int32)), sI d0x, sI d1x, sI lb, sR x_1, sR x_4, sR sa108, sI (0 : Int32), sR ob111, sR ob116, sI ex, .val .null] [(Value.ref x_1), (Value.ref ob111)]))
          obtain ⟨cq160, kq160, q160a, q160b, q160c⟩ := isOf hZ133 e159 c147
          obtain ⟨_, _, ⟨T160, L160, k160, n160⟩, -, X160, ⟨Lc160, hQ160, l160, y160, z160⟩, st160⟩ := X159.virtualBack hx (y := (⟨"com/example/enlace/enlace/UriReference", "equals", "(Ljava/lang/Object;)Z"⟩ : MethodName)) (z := (⟨"com/example/enlace/enlace/UriReference", "equals", "(Ljava/lang/Object;)Z"⟩ : MethodName)) hown133 (mvT hZ133 (hw _ (List.mem_of_getElem? (i := 57) rfl))) (mvT hZ133 (hw _ (List.mem_of_getElem? (i := 58) rfl))) (notFace_of_selects (args := #[]) (mvT hZ133 (hw _ (List.mem_of_getElem? (i := 60) rfl)))) (mvT hZ133 (hw _ (List.mem_of_getElem? (i := 60) rfl))) (mvT hZ133 (hw _ (List.mem_of_getElem? (i := 59) rfl))) (by decide) (backOf (W := 0) (rm6_s l Z a0 hw [] ob111 x_1 T135.heap n0 O145 c149) hZ133 (hw _ (List.mem_of_getElem? (i := 61) rfl)) (hw _ (List.mem_of_getElem? (i := 29) rfl)) (by decide) (by decide)) q160a q160c (g := (mkF m 356 #[sI p1, sI p2, sI p3, sI c0x, sI c1x, sI la, sI (p3 &&& (3 : Int32)), sI d0x, sI d1x, sI lb, sR x_1, sR x_4, sR sa108, sI (0 : Int32), sR ob111, sR ob116, sI ex, .val .null] [(Value.ref x_1), (Value.ref ob111)])) rfl (by rw [hml]; rfl) (Steps.refl _) (argsL := [(Value.ref x_1)]) (rest := []) (lenOf own_pd2 rfl) rfl (by show 2 * 0 + _ ≤ _; exact Nat.le_of_eq rfl) (hb hby at_356) (fun _ _ => ⟨rfl, e159, (by decide : 28 + 0 ≤ _), (by decide : 112 + 0 ≤ _)⟩)
          dsimp only [Pt.U, Pt.locs, Pt.cells, Pt.slots] at X160 l160 y160 z160 st160 hQ160
          subst l160 y160 z160
          refine own_Go.by (fun tq kq => st160.trans kq) ?_
          obtain ⟨rfl, N160q, e160⟩ := hQ160
          have N160 := Fr.app N159 N160q
          show own_Go _ _ _ _ (T160.setTop (mkF m 359 #[sI p1, sI p2, sI p3, sI c0x, sI c1x, sI la, sI (p3 &&& (3 : Int32)), sI d0x, sI d1x, sI lb, sR x_1, sR x_4, sR sa108, sI (0 : Int32), sR ob111, sR ob116, sI ex, .val .null] [(Value.int (0 : Int32))]))
          refine own_Go.by (fun tq kq => XS.ifNo X160.here hx rfl (hb hby at_359) rfl ((if0 _ _).trans (teq (by decide : (0 : Int32) = (0 : Int32))).2) kq) ?_
          refine own_Go.by (fun tq kq => XS.iconst X160.here hx rfl (hb hby at_362) kq) ?_
          refine own_Go.by (fun tq kq => XS.goto X160.here hx rfl (pc0 := 363) (pc' := 367) rfl (hb hby at_363) (by decide) (by decide) kq) ?_
          show own_Go _ _ _ _ (T160.setTop (mkF m 367 #[sI p1, sI p2, sI p3, sI c0x, sI c1x, sI la, sI (p3 &&& (3 : Int32)), sI d0x, sI d1x, sI lb, sR x_1, sR x_4, sR sa108, sI (0 : Int32), sR ob111, sR ob116, sI ex, .val .null] [(Value.int (1 : Int32))]))
          obtain ⟨fs, hr, hrun, hended, hRE⟩ := Stand.leaveW (s := s) (vm₁ := T133.vm) X160 hS133 (by rw [e160]; exact hk_145) (v := some (Value.int (nar .boolean (1 : Int32)))) (fun h => by rw [Bd.returns] at h; cases h)
          have Sf161 := Safe.ext E116 R122.1 (Safe.new (Nat.le_of_eq y116.symm))
          have R162 := CHr.keep K135q (allS ((((((R119.trans R125).trans R127).trans R129).trans R131).trans R133).safe A116.lt Sf161) all0) R133.1
          have hCR := ((((((((((((R1.trans R4).trans R108).trans R120).trans R122).trans R123).trans R119).trans R125).trans R127).trans R129).trans R131).trans R133).trans R162)
          have hCZ : CHr Z consts_1 s.vm s.heap T160.vm T160.heap := by
            rw [hh, e160]
            exact hCR.trans (CHv.at (s := s) (vm0 := T133.vm) X160 hZ133 hEL hCR.1)
          refine own_Go.fin (retN X160 hx (t := .boolean) Bd.returns (by simp) (hb hby at_367) hr) ⟨hrun, hended, _, _, rfl, ?_, hCZ, own_rew hRE (by decide) (by decide)⟩
          show Q0 Z p1 p2 p3 zc h0 n0 _ T160.heap _
          rw [e160]
          exact ⟨rfl, N160, K145⟩
        ·
          intro g_ex
          refine own_Go.by (fun tq kq => XS.iload X135.here hx rfl (hb hby at_266) rfl kq) ?_
          refine own_Go.by (fun tq kq => XS.iload X135.here hx rfl (hb hby at_268) rfl kq) ?_
          show own_Go _ _ _ _ (T135.setTop (mkF m 270 #[sI p1, sI p2, sI p3, sI c0x, sI c1x, sI la, sI (p3 &&& (3 : Int32)), sI d0x, sI d1x, sI lb, sR x_1, sR x_4, sR sa108, sI (0 : Int32), sR ob111, sR ob116, .unset, .unset] [(Value.int lb), (Value.int la)]))
          by_cases hc270_163 : la = lb
          ·
            refine own_Go.by (fun tq kq => XS.icmpNo X135.here hx rfl (hb hby at_270) rfl (teq hc270_163).2 kq) ?_
            refine own_Go.by (fun tq kq => XS.iload X135.here hx rfl (hb hby at_273) rfl kq) ?_
            refine own_Go.by (fun tq kq => XS.iconst X135.here hx rfl (hb hby at_275) kq) ?_
            show own_Go _ _ _ _ (T135.setTop (mkF m 276 #[sI p1, sI p2, sI p3, sI c0x, sI c1x, sI la, sI (p3 &&& (3 : Int32)), sI d0x, sI d1x, sI lb, sR x_1, sR x_4, sR sa108, sI (0 : Int32), sR ob111, sR ob116, .unset, .unset] [(Value.int (1 : Int32)), (Value.int la)]))
            by_cases hc276_164 : la < (1 : Int32)
            ·
              refine own_Go.by (fun tq kq => XS.icmpYes X135.here hx rfl (pc0 := 276) (pc' := 285) rfl (hb hby at_276) rfl (tlt hc276_164).1 (by decide) (by decide) kq) ?_
              refine own_Go.by (fun tq kq => XS.iload X135.here hx rfl (hb hby at_285) rfl kq) ?_
              refine own_Go.by (fun tq kq => XS.iconst X135.here hx rfl (hb hby at_287) kq) ?_
              show own_Go _ _ _ _ (T135.setTop (mkF m 288 #[sI p1, sI p2, sI p3, sI c0x, sI c1x, sI la, sI (p3 &&& (3 : Int32)), sI d0x, sI d1x, sI lb, sR x_1, sR x_4, sR sa108, sI (0 : Int32), sR ob111, sR ob116, .unset, .unset] [(Value.int (2 : Int32)), (Value.int la)]))
              by_cases hc288_165 : la < (2 : Int32)
              ·
                refine own_Go.by (fun tq kq => XS.icmpYes X135.here hx rfl (pc0 := 288) (pc' := 298) rfl (hb hby at_288) rfl (tlt hc288_165).1 (by decide) (by decide) kq) ?_
                refine own_Go.by (fun tq kq => XS.iconst X135.here hx rfl (hb hby at_298) kq) ?_
                refine own_Go.by (fun tq kq => XS.goto X135.here hx rfl (pc0 := 299) (pc' := 303) rfl (hb hby at_299) (by decide) (by decide) kq) ?_
                refine own_Go.by (fun tq kq => XS.istore X135.here hx rfl (hb hby at_303) rfl (l' := #[sI p1, sI p2, sI p3, sI c0x, sI c1x, sI la, sI (p3 &&& (3 : Int32)), sI d0x, sI d1x, sI lb, sR x_1, sR x_4, sR sa108, sI (0 : Int32), sR ob111, sR ob116, sI (1 : Int32), .unset]) rfl kq) ?_
                exact g_ex _ (Or.inl ⟨rfl, (own_exp (own_r3p hv_la) h_d0x_d1x_lb.2.2).mpr ⟨hc270_163, Or.inl hc276_164, Or.inl hc288_165⟩⟩)
              ·
                refine own_Go.by (fun tq kq => XS.icmpNo X135.here hx rfl (hb hby at_288) rfl (flt hc288_165).1 kq) ?_
                refine own_Go.by (fun tq kq => XS.iload X135.here hx rfl (hb hby at_291) rfl kq) ?_
                refine own_Go.by (fun tq kq => XS.iload X135.here hx rfl (hb hby at_293) rfl kq) ?_
                show own_Go _ _ _ _ (T135.setTop (mkF m 295 #[sI p1, sI p2, sI p3, sI c0x, sI c1x, sI la, sI (p3 &&& (3 : Int32)), sI d0x, sI d1x, sI lb, sR x_1, sR x_4, sR sa108, sI (0 : Int32), sR ob111, sR ob116, .unset, .unset] [(Value.int d1x), (Value.int c1x)]))
                by_cases hc295_166 : c1x = d1x
                ·
                  refine own_Go.by (fun tq kq => XS.icmpNo X135.here hx rfl (hb hby at_295) rfl (teq hc295_166).2 kq) ?_
                  refine own_Go.by (fun tq kq => XS.iconst X135.here hx rfl (hb hby at_298) kq) ?_
                  refine own_Go.by (fun tq kq => XS.goto X135.here hx rfl (pc0 := 299) (pc' := 303) rfl (hb hby at_299) (by decide) (by decide) kq) ?_
                  refine own_Go.by (fun tq kq => XS.istore X135.here hx rfl (hb hby at_303) rfl (l' := #[sI p1, sI p2, sI p3, sI c0x, sI c1x, sI la, sI (p3 &&& (3 : Int32)), sI d0x, sI d1x, sI lb, sR x_1, sR x_4, sR sa108, sI (0 : Int32), sR ob111, sR ob116, sI (1 : Int32), .unset]) rfl kq) ?_
                  exact g_ex _ (Or.inl ⟨rfl, (own_exp (own_r3p hv_la) h_d0x_d1x_lb.2.2).mpr ⟨hc270_163, Or.inl hc276_164, Or.inr hc295_166⟩⟩)
                ·
                  refine own_Go.by (fun tq kq => XS.icmpYes X135.here hx rfl (pc0 := 295) (pc' := 302) rfl (hb hby at_295) rfl (feq hc295_166).2 (by decide) (by decide) kq) ?_
                  refine own_Go.by (fun tq kq => XS.iconst X135.here hx rfl (hb hby at_302) kq) ?_
                  refine own_Go.by (fun tq kq => XS.istore X135.here hx rfl (hb hby at_303) rfl (l' := #[sI p1, sI p2, sI p3, sI c0x, sI c1x, sI la, sI (p3 &&& (3 : Int32)), sI d0x, sI d1x, sI lb, sR x_1, sR x_4, sR sa108, sI (0 : Int32), sR ob111, sR ob116, sI (0 : Int32), .unset]) rfl kq) ?_
                  exact g_ex _ (Or.inr ⟨rfl, fun q => (fun z => z.2.2.elim hc288_165 hc295_166) ((own_exp (own_r3p hv_la) h_d0x_d1x_lb.2.2).mp q)⟩)
            ·
              refine own_Go.by (fun tq kq => XS.icmpNo X135.here hx rfl (hb hby at_276) rfl (flt hc276_164).1 kq) ?_
              refine own_Go.by (fun tq kq => XS.iloadN X135.here hx rfl (hb hby at_279) rfl kq) ?_
              refine own_Go.by (fun tq kq => XS.iload X135.here hx rfl (hb hby at_280) rfl kq) ?_
              show own_Go _ _ _ _ (T135.setTop (mkF m 282 #[sI p1, sI p2, sI p3, sI c0x, sI c1x, sI la, sI (p3 &&& (3 : Int32)), sI d0x, sI d1x, sI lb, sR x_1, sR x_4, sR sa108, sI (0 : Int32), sR ob111, sR ob116, .unset, .unset] [(Value.int d0x), (Value.int c0x)]))
              by_cases hc282_167 : c0x = d0x
              ·
                refine own_Go.by (fun tq kq => XS.icmpNo X135.here hx rfl (hb hby at_282) rfl (teq hc282_167).2 kq) ?_
                refine own_Go.by (fun tq kq => XS.iload X135.here hx rfl (hb hby at_285) rfl kq) ?_
                refine own_Go.by (fun tq kq => XS.iconst X135.here hx rfl (hb hby at_287) kq) ?_
                show own_Go _ _ _ _ (T135.setTop (mkF m 288 #[sI p1, sI p2, sI p3, sI c0x, sI c1x, sI la, sI (p3 &&& (3 : Int32)), sI d0x, sI d1x, sI lb, sR x_1, sR x_4, sR sa108, sI (0 : Int32), sR ob111, sR ob116, .unset, .unset] [(Value.int (2 : Int32)), (Value.int la)]))
                by_cases hc288_168 : la < (2 : Int32)
                ·
                  refine own_Go.by (fun tq kq => XS.icmpYes X135.here hx rfl (pc0 := 288) (pc' := 298) rfl (hb hby at_288) rfl (tlt hc288_168).1 (by decide) (by decide) kq) ?_
                  refine own_Go.by (fun tq kq => XS.iconst X135.here hx rfl (hb hby at_298) kq) ?_
                  refine own_Go.by (fun tq kq => XS.goto X135.here hx rfl (pc0 := 299) (pc' := 303) rfl (hb hby at_299) (by decide) (by decide) kq) ?_
                  refine own_Go.by (fun tq kq => XS.istore X135.here hx rfl (hb hby at_303) rfl (l' := #[sI p1, sI p2, sI p3, sI c0x, sI c1x, sI la, sI (p3 &&& (3 : Int32)), sI d0x, sI d1x, sI lb, sR x_1, sR x_4, sR sa108, sI (0 : Int32), sR ob111, sR ob116, sI (1 : Int32), .unset]) rfl kq) ?_
                  exact g_ex _ (Or.inl ⟨rfl, (own_exp (own_r3p hv_la) h_d0x_d1x_lb.2.2).mpr ⟨hc270_163, Or.inr hc282_167, Or.inl hc288_168⟩⟩)
                ·
                  refine own_Go.by (fun tq kq => XS.icmpNo X135.here hx rfl (hb hby at_288) rfl (flt hc288_168).1 kq) ?_
                  refine own_Go.by (fun tq kq => XS.iload X135.here hx rfl (hb hby at_291) rfl kq) ?_
                  refine own_Go.by (fun tq kq => XS.iload X135.here hx rfl (hb hby at_293) rfl kq) ?_
                  show own_Go _ _ _ _ (T135.setTop (mkF m 295 #[sI p1, sI p2, sI p3, sI c0x, sI c1x, sI la, sI (p3 &&& (3 : Int32)), sI d0x, sI d1x, sI lb, sR x_1, sR x_4, sR sa108, sI (0 : Int32), sR ob111, sR ob116, .unset, .unset] [(Value.int d1x), (Value.int c1x)]))
                  by_cases hc295_169 : c1x = d1x
                  ·
                    refine own_Go.by (fun tq kq => XS.icmpNo X135.here hx rfl (hb hby at_295) rfl (teq hc295_169).2 kq) ?_
                    refine own_Go.by (fun tq kq => XS.iconst X135.here hx rfl (hb hby at_298) kq) ?_
                    refine own_Go.by (fun tq kq => XS.goto X135.here hx rfl (pc0 := 299) (pc' := 303) rfl (hb hby at_299) (by decide) (by decide) kq) ?_
                    refine own_Go.by (fun tq kq => XS.istore X135.here hx rfl (hb hby at_303) rfl (l' := #[sI p1, sI p2, sI p3, sI c0x, sI c1x, sI la, sI (p3 &&& (3 : Int32)), sI d0x, sI d1x, sI lb, sR x_1, sR x_4, sR sa108, sI (0 : Int32), sR ob111, sR ob116, sI (1 : Int32), .unset]) rfl kq) ?_
                    exact g_ex _ (Or.inl ⟨rfl, (own_exp (own_r3p hv_la) h_d0x_d1x_lb.2.2).mpr ⟨hc270_163, Or.inr hc282_167, Or.inr hc295_169⟩⟩)
                  ·
                    refine own_Go.by (fun tq kq => XS.icmpYes X135.here hx rfl (pc0 := 295) (pc' := 302) rfl (hb hby at_295) rfl (feq hc295_169).2 (by decide) (by decide) kq) ?_
                    refine own_Go.by (fun tq kq => XS.iconst X135.here hx rfl (hb hby at_302) kq) ?_
                    refine own_Go.by (fun tq kq => XS.istore X135.here hx rfl (hb hby at_303) rfl (l' := #[sI p1, sI p2, sI p3, sI c0x, sI c1x, sI la, sI (p3 &&& (3 : Int32)), sI d0x, sI d1x, sI lb, sR x_1, sR x_4, sR sa108, sI (0 : Int32), sR ob111, sR ob116, sI (0 : Int32), .unset]) rfl kq) ?_
                    exact g_ex _ (Or.inr ⟨rfl, fun q => (fun z => z.2.2.elim hc288_168 hc295_169) ((own_exp (own_r3p hv_la) h_d0x_d1x_lb.2.2).mp q)⟩)
              ·
                refine own_Go.by (fun tq kq => XS.icmpYes X135.here hx rfl (pc0 := 282) (pc' := 302) rfl (hb hby at_282) rfl (feq hc282_167).2 (by decide) (by decide) kq) ?_
                refine own_Go.by (fun tq kq => XS.iconst X135.here hx rfl (hb hby at_302) kq) ?_
                refine own_Go.by (fun tq kq => XS.istore X135.here hx rfl (hb hby at_303) rfl (l' := #[sI p1, sI p2, sI p3, sI c0x, sI c1x, sI la, sI (p3 &&& (3 : Int32)), sI d0x, sI d1x, sI lb, sR x_1, sR x_4, sR sa108, sI (0 : Int32), sR ob111, sR ob116, sI (0 : Int32), .unset]) rfl kq) ?_
                exact g_ex _ (Or.inr ⟨rfl, fun q => (fun z => z.2.1.elim hc276_164 hc282_167) ((own_exp (own_r3p hv_la) h_d0x_d1x_lb.2.2).mp q)⟩)
          ·
            refine own_Go.by (fun tq kq => XS.icmpYes X135.here hx rfl (pc0 := 270) (pc' := 302) rfl (hb hby at_270) rfl (feq hc270_163).2 (by decide) (by decide) kq) ?_
            refine own_Go.by (fun tq kq => XS.iconst X135.here hx rfl (hb hby at_302) kq) ?_
            refine own_Go.by (fun tq kq => XS.istore X135.here hx rfl (hb hby at_303) rfl (l' := #[sI p1, sI p2, sI p3, sI c0x, sI c1x, sI la, sI (p3 &&& (3 : Int32)), sI d0x, sI d1x, sI lb, sR x_1, sR x_4, sR sa108, sI (0 : Int32), sR ob111, sR ob116, sI (0 : Int32), .unset]) rfl kq) ?_
            exact g_ex _ (Or.inr ⟨rfl, fun q => (fun z => hc270_163 z.1) ((own_exp (own_r3p hv_la) h_d0x_d1x_lb.2.2).mp q)⟩)
      ·
        refine own_Go.by (fun tq kq => XS.ifNo X108.here hx rfl (hb hby at_176) rfl ((if0 _ _).trans (feq hc176_110).1) kq) ?_
        refine own_Go.by (fun tq kq => XS.iconst X108.here hx rfl (hb hby at_179) kq) ?_
        refine own_Go.by (fun tq kq => XS.goto X108.here hx rfl (pc0 := 180) (pc' := 184) rfl (hb hby at_180) (by decide) (by decide) kq) ?_
        refine own_Go.by (fun tq kq => XS.istore X108.here hx rfl (hb hby at_184) rfl (l' := #[sI p1, sI p2, sI p3, sI c0x, sI c1x, sI la, sI (p3 &&& (3 : Int32)), sI d0x, sI d1x, sI lb, sR x_1, sR x_4, sR sa108, sI (1 : Int32), .unset, .unset, .unset, .unset]) rfl kq) ?_
        show own_Go _ _ _ _ (T108.setTop (mkF m 186 #[sI p1, sI p2, sI p3, sI c0x, sI c1x, sI la, sI (p3 &&& (3 : Int32)), sI d0x, sI d1x, sI lb, sR x_1, sR x_4, sR sa108, sI (1 : Int32), .unset, .unset, .unset, .unset] []))
        obtain ⟨T170, h170, X170, e170, E170, A170, D170, -, st170⟩ := newO X108 hx hZ108 hown108 (hw _ (List.mem_of_getElem? (i := 27) rfl)) (hw _ (List.mem_of_getElem? (i := 28) rfl)) (hw _ (List.mem_of_getElem? (i := 29) rfl)) e108 (g := (mkF m 186 #[sI p1, sI p2, sI p3, sI c0x, sI c1x, sI la, sI (p3 &&& (3 : Int32)), sI d0x, sI d1x, sI lb, sR x_1, sR x_4, sR sa108, sI (1 : Int32), .unset, .unset, .unset, .unset] [])) rfl (hb hby at_186) (by decide) (by decide)
        obtain ⟨ob170, y170⟩ : ∃ z, z = h108.size := ⟨_, rfl⟩
        rw [← y170] at A170 D170 st170
        refine own_Go.by st170 ?_
        have O171 := O109.ext E170
        have K171 := K109.ext E170
        have hk_171 := Nat.le_trans hk108 E170.1
        have g172 : n0 ≤ ob170 := Nat.le_trans (own_old_le O109) (Nat.le_of_eq y170.symm)
        have z172 : h0.size ≤ ob170 := Nat.le_trans K109.1 (Nat.le_of_eq y170.symm)
        have F170_text : Fld Z h170 ob170 "com/example/enlace/enlace/UriReference" "text" "Ljava/lang/String;" .null := D170 (Or.inr (hw _ (List.mem_of_getElem? (i := 35) rfl))) (ty := (.object "java/lang/String")) (by decide)
        have F170_scheme : Fld Z h170 ob170 "com/example/enlace/enlace/UriReference" "scheme" "Ljava/lang/String;" .null := D170 (Or.inr (hw _ (List.mem_of_getElem? (i := 37) rfl))) (ty := (.object "java/lang/String")) (by decide)
        have F170_userinfo : Fld Z h170 ob170 "com/example/enlace/enlace/UriReference" "userinfo" "Ljava/lang/String;" .null := D170 (Or.inr (hw _ (List.mem_of_getElem? (i := 39) rfl))) (ty := (.object "java/lang/String")) (by decide)
        have F170_host : Fld Z h170 ob170 "com/example/enlace/enlace/UriReference" "host" "Ljava/lang/String;" .null := D170 (Or.inr (hw _ (List.mem_of_getElem? (i := 41) rfl))) (ty := (.object "java/lang/String")) (by decide)
        have F170_port : Fld Z h170 ob170 "com/example/enlace/enlace/UriReference" "port" "Ljava/lang/String;" .null := D170 (Or.inr (hw _ (List.mem_of_getElem? (i := 43) rfl))) (ty := (.object "java/lang/String")) (by decide)
        have F170_path : Fld Z h170 ob170 "com/example/enlace/enlace/UriReference" "path" "Ljava/lang/String;" .null := D170 (Or.inr (hw _ (List.mem_of_getElem? (i := 45) rfl))) (ty := (.object "java/lang/String")) (by decide)
        have F170_query : Fld Z h170 ob170 "com/example/enlace/enlace/UriReference" "query" "Ljava/lang/String;" .null := D170 (Or.inr (hw _ (List.mem_of_getElem? (i := 47) rfl))) (ty := (.object "java/lang/String")) (by decide)
        have F170_fragment : Fld Z h170 ob170 "com/example/enlace/enlace/UriReference" "fragment" "Ljava/lang/String;" .null := D170 (Or.inr (hw _ (List.mem_of_getElem? (i := 49) rfl))) (ty := (.object "java/lang/String")) (by decide)
        refine own_Go.by (fun tq kq => XS.dup X170.here hx rfl (hb hby at_189) rfl rfl kq) ?_
        refine own_Go.by (fun tq kq => XS.aload X170.here hx rfl (hb hby at_190) rfl rfl kq) ?_
        refine own_Go.by (fun tq kq => XS.aload X170.here hx rfl (hb hby at_192) rfl rfl kq) ?_
        show own_Go _ _ _ _ (T170.setTop (mkF m 194 #[sI p1, sI p2, sI p3, sI c0x, sI c1x, sI la, sI (p3 &&& (3 : Int32)), sI d0x, sI d1x, sI lb, sR x_1, sR x_4, sR sa108, sI (1 : Int32), .unset, .unset, .unset, .unset] [(Value.ref sa108), (Value.ref x_1), (Value.ref ob170), (Value.ref ob170)]))
        refine own_Go.by (fun tq kq => XS.aconstNull X170.here hx rfl (hb hby at_194) kq) ?_
        refine own_Go.by (fun tq kq => XS.aconstNull X170.here hx rfl (hb hby at_195) kq) ?_
        refine own_Go.by (fun tq kq => XS.aconstNull X170.here hx rfl (hb hby at_196) kq) ?_
        refine own_Go.by (fun tq kq => XS.aload X170.here hx rfl (hb hby at_197) rfl rfl kq) ?_
        show own_Go _ _ _ _ (T170.setTop (mkF m 199 #[sI p1, sI p2, sI p3, sI c0x, sI c1x, sI la, sI (p3 &&& (3 : Int32)), sI d0x, sI d1x, sI lb, sR x_1, sR x_4, sR sa108, sI (1 : Int32), .unset, .unset, .unset, .unset] [(Value.ref x_1), .null, .null, .null, (Value.ref sa108), (Value.ref x_1), (Value.ref ob170), (Value.ref ob170)]))
        refine own_Go.by (fun tq kq => XS.aconstNull X170.here hx rfl (hb hby at_199) kq) ?_
        refine own_Go.by (fun tq kq => XS.aconstNull X170.here hx rfl (hb hby at_200) kq) ?_
        show own_Go _ _ _ _ (T170.setTop (mkF m 201 #[sI p1, sI p2, sI p3, sI c0x, sI c1x, sI la, sI (p3 &&& (3 : Int32)), sI d0x, sI d1x, sI lb, sR x_1, sR x_4, sR sa108, sI (1 : Int32), .unset, .unset, .unset, .unset] [.null, .null, (Value.ref x_1), .null, .null, .null, (Value.ref sa108), (Value.ref x_1), (Value.ref ob170), (Value.ref ob170)]))
        obtain ⟨_, _, ⟨T173, L173, k173, n173⟩, -, X173, ⟨Lc173, hQ173, l173, y173, z173⟩, st173⟩ := X170.specialBack hx (y := (⟨"com/example/enlace/enlace/UriReference", "<init>", "(Ljava/lang/String;Ljava/lang/String;Ljava/lang/String;Ljava/lang/String;Ljava/lang/String;Ljava/lang/String;Ljava/lang/String;Ljava/lang/String;)V"⟩ : MethodName)) rfl hown108 (mvT hZ108 (hw _ (List.mem_of_getElem? (i := 30) rfl))) (mvT hZ108 (hw _ (List.mem_of_getElem? (i := 31) rfl))) (mvT hZ108 (hw _ (List.mem_of_getElem? (i := 32) rfl))) (by decide) (backOf (W := 1) (rm5_rrnnnrnn l Z a0 hw [] ob170 x_1 sa108 x_1 h170 n0 O171 A170 g172 F170_text F170_scheme F170_userinfo F170_host F170_port F170_path F170_query F170_fragment) hZ108 (hw _ (List.mem_of_getElem? (i := 32) rfl)) (hw _ (List.mem_of_getElem? (i := 29) rfl)) (by decide) (by decide)) (g := (mkF m 201 #[sI p1, sI p2, sI p3, sI c0x, sI c1x, sI la, sI (p3 &&& (3 : Int32)), sI d0x, sI d1x, sI lb, sR x_1, sR x_4, sR sa108, sI (1 : Int32), .unset, .unset, .unset, .unset] [.null, .null, (Value.ref x_1), .null, .null, .null, (Value.ref sa108), (Value.ref x_1), (Value.ref ob170), (Value.ref ob170)])) rfl (by rw [hml]; rfl) (Steps.refl _) (a := ob170) (argsL := [(Value.ref x_1), (Value.ref sa108), .null, .null, .null, (Value.ref x_1), .null, .null]) (rest := [(Value.ref ob170)]) (lenOf own_pd4 rfl) rfl (by show 2 * 0 + _ ≤ _; exact Nat.le_of_eq rfl) (hb hby at_201) (fun _ _ => ⟨rfl, e170, (by decide : 15 + 0 ≤ _), (by decide : 52 + 0 ≤ _)⟩)
        dsimp only [Pt.U, Pt.locs, Pt.cells, Pt.slots] at X173 l173 y173 z173 st173 hQ173
        subst l173 y173 z173
        refine own_Go.by (fun tq kq => st173.trans kq) ?_
        obtain ⟨rfl, N173q, K173q, p173_0, p173_1⟩ := hQ173
        have N173 := Fr.app N4 N173q
        have O174 := O171.keep K173q (allS g172 all0)
        have K174 := K171.trans K173q (allS (Or.inr z172) all0)
        have hk_174 := Nat.le_trans hk_171 K173q.1
        refine own_Go.by (fun tq kq => XS.astore X173.here hx rfl (hb hby at_204) rfl rfl (l' := #[sI p1, sI p2, sI p3, sI c0x, sI c1x, sI la, sI (p3 &&& (3 : Int32)), sI d0x, sI d1x, sI lb, sR x_1, sR x_4, sR sa108, sI (1 : Int32), sR ob170, .unset, .unset, .unset]) rfl kq) ?_
        refine own_Go.by (fun tq kq => XS.iload X173.here hx rfl (hb hby at_206) rfl kq) ?_
        show own_Go _ _ _ _ (T173.setTop (mkF m 208 #[sI p1, sI p2, sI p3, sI c0x, sI c1x, sI la, sI (p3 &&& (3 : Int32)), sI d0x, sI d1x, sI lb, sR x_1, sR x_4, sR sa108, sI (1 : Int32), sR ob170, .unset, .unset, .unset] [(Value.int (1 : Int32))]))
        refine own_Go.by (fun tq kq => XS.ifNo X173.here hx rfl (hb hby at_208) rfl ((if0 _ _).trans (feq (by decide : ¬ ((1 : Int32) = (0 : Int32)))).1) kq) ?_
        show own_Go _ _ _ _ (T173.setTop (mkF m 211 #[sI p1, sI p2, sI p3, sI c0x, sI c1x, sI la, sI (p3 &&& (3 : Int32)), sI d0x, sI d1x, sI lb, sR x_1, sR x_4, sR sa108, sI (1 : Int32), sR ob170, .unset, .unset, .unset] []))
        obtain ⟨T175, h175, X175, e175, E175, A175, D175, -, st175⟩ := newO X173 hx hZ108 hown108 (hw _ (List.mem_of_getElem? (i := 27) rfl)) (hw _ (List.mem_of_getElem? (i := 28) rfl)) (hw _ (List.mem_of_getElem? (i := 29) rfl)) rfl (g := (mkF m 211 #[sI p1, sI p2, sI p3, sI c0x, sI c1x, sI la, sI (p3 &&& (3 : Int32)), sI d0x, sI d1x, sI lb, sR x_1, sR x_4, sR sa108, sI (1 : Int32), sR ob170, .unset, .unset, .unset] [])) rfl (hb hby at_211) (by decide) (by decide)
        obtain ⟨ob175, y175⟩ : ∃ z, z = T173.heap.size := ⟨_, rfl⟩
        rw [← y175] at A175 D175 st175
        refine own_Go.by st175 ?_
        have O176 := O174.ext E175
        have K176 := K174.ext E175
        have hk_176 := Nat.le_trans hk_174 E175.1
        have g177 : n0 ≤ ob175 := Nat.le_trans (own_old_le O174) (Nat.le_of_eq y175.symm)
        have z177 : h0.size ≤ ob175 := Nat.le_trans K174.1 (Nat.le_of_eq y175.symm)
        have F175_text : Fld Z h175 ob175 "com/example/enlace/enlace/UriReference" "text" "Ljava/lang/String;" .null := D175 (Or.inr (hw _ (List.mem_of_getElem? (i := 35) rfl))) (ty := (.object "java/lang/String")) (by decide)
        have F175_scheme : Fld Z h175 ob175 "com/example/enlace/enlace/UriReference" "scheme" "Ljava/lang/String;" .null := D175 (Or.inr (hw _ (List.mem_of_getElem? (i := 37) rfl))) (ty := (.object "java/lang/String")) (by decide)
        have F175_userinfo : Fld Z h175 ob175 "com/example/enlace/enlace/UriReference" "userinfo" "Ljava/lang/String;" .null := D175 (Or.inr (hw _ (List.mem_of_getElem? (i := 39) rfl))) (ty := (.object "java/lang/String")) (by decide)
        have F175_host : Fld Z h175 ob175 "com/example/enlace/enlace/UriReference" "host" "Ljava/lang/String;" .null := D175 (Or.inr (hw _ (List.mem_of_getElem? (i := 41) rfl))) (ty := (.object "java/lang/String")) (by decide)
        have F175_port : Fld Z h175 ob175 "com/example/enlace/enlace/UriReference" "port" "Ljava/lang/String;" .null := D175 (Or.inr (hw _ (List.mem_of_getElem? (i := 43) rfl))) (ty := (.object "java/lang/String")) (by decide)
        have F175_path : Fld Z h175 ob175 "com/example/enlace/enlace/UriReference" "path" "Ljava/lang/String;" .null := D175 (Or.inr (hw _ (List.mem_of_getElem? (i := 45) rfl))) (ty := (.object "java/lang/String")) (by decide)
        have F175_query : Fld Z h175 ob175 "com/example/enlace/enlace/UriReference" "query" "Ljava/lang/String;" .null := D175 (Or.inr (hw _ (List.mem_of_getElem? (i := 47) rfl))) (ty := (.object "java/lang/String")) (by decide)
        have F175_fragment : Fld Z h175 ob175 "com/example/enlace/enlace/UriReference" "fragment" "Ljava/lang/String;" .null := D175 (Or.inr (hw _ (List.mem_of_getElem? (i := 49) rfl))) (ty := (.object "java/lang/String")) (by decide)
        refine own_Go.by (fun tq kq => XS.dup X175.here hx rfl (hb hby at_214) rfl rfl kq) ?_
        refine own_Go.by (fun tq kq => XS.aload X175.here hx rfl (hb hby at_215) rfl rfl kq) ?_
        refine own_Go.by (fun tq kq => XS.aload X175.here hx rfl (hb hby at_217) rfl rfl kq) ?_
        show own_Go _ _ _ _ (T175.setTop (mkF m 219 #[sI p1, sI p2, sI p3, sI c0x, sI c1x, sI la, sI (p3 &&& (3 : Int32)), sI d0x, sI d1x, sI lb, sR x_1, sR x_4, sR sa108, sI (1 : Int32), sR ob170, .unset, .unset, .unset] [(Value.ref sa108), (Value.ref x_4), (Value.ref ob175), (Value.ref ob175)]))
        refine own_Go.by (fun tq kq => XS.aconstNull X175.here hx rfl (hb hby at_219) kq) ?_
        refine own_Go.by (fun tq kq => XS.aconstNull X175.here hx rfl (hb hby at_220) kq) ?_
        refine own_Go.by (fun tq kq => XS.aconstNull X175.here hx rfl (hb hby at_221) kq) ?_
        refine own_Go.by (fun tq kq => XS.aload X175.here hx rfl (hb hby at_222) rfl rfl kq) ?_
        show own_Go _ _ _ _ (T175.setTop (mkF m 224 #[sI p1, sI p2, sI p3, sI c0x, sI c1x, sI la, sI (p3 &&& (3 : Int32)), sI d0x, sI d1x, sI lb, sR x_1, sR x_4, sR sa108, sI (1 : Int32), sR ob170, .unset, .unset, .unset] [(Value.ref x_1), .null, .null, .null, (Value.ref sa108), (Value.ref x_4), (Value.ref ob175), (Value.ref ob175)]))
        refine own_Go.by (fun tq kq => XS.aconstNull X175.here hx rfl (hb hby at_224) kq) ?_
        refine own_Go.by (fun tq kq => XS.aconstNull X175.here hx rfl (hb hby at_225) kq) ?_
        show own_Go _ _ _ _ (T175.setTop (mkF m 226 #[sI p1, sI p2, sI p3, sI c0x, sI c1x, sI la, sI (p3 &&& (3 : Int32)), sI d0x, sI d1x, sI lb, sR x_1, sR x_4, sR sa108, sI (1 : Int32), sR ob170, .unset, .unset, .unset] [.null, .null, (Value.ref x_1), .null, .null, .null, (Value.ref sa108), (Value.ref x_4), (Value.ref ob175), (Value.ref ob175)]))
        obtain ⟨_, _, ⟨T178, L178, k178, n178⟩, -, X178, ⟨Lc178, hQ178, l178, y178, z178⟩, st178⟩ := X175.specialBack hx (y := (⟨"com/example/enlace/enlace/UriReference", "<init>", "(Ljava/lang/String;Ljava/lang/String;Ljava/lang/String;Ljava/lang/String;Ljava/lang/String;Ljava/lang/String;Ljava/lang/String;Ljava/lang/String;)V"⟩ : MethodName)) rfl hown108 (mvT hZ108 (hw _ (List.mem_of_getElem? (i := 30) rfl))) (mvT hZ108 (hw _ (List.mem_of_getElem? (i := 31) rfl))) (mvT hZ108 (hw _ (List.mem_of_getElem? (i := 32) rfl))) (by decide) (backOf (W := 1) (rm5_rrnnnrnn l Z a0 hw [] ob175 x_4 sa108 x_1 h175 n0 O176 A175 g177 F175_text F175_scheme F175_userinfo F175_host F175_port F175_path F175_query F175_fragment) hZ108 (hw _ (List.mem_of_getElem? (i := 32) rfl)) (hw _ (List.mem_of_getElem? (i := 29) rfl)) (by decide) (by decide)) (g := (mkF m 226 #[sI p1, sI p2, sI p3, sI c0x, sI c1x, sI la, sI (p3 &&& (3 : Int32)), sI d0x, sI d1x, sI lb, sR x_1, sR x_4, sR sa108, sI (1 : Int32), sR ob170, .unset, .unset, .unset] [.null, .null, (Value.ref x_1), .null, .null, .null, (Value.ref sa108), (Value.ref x_4), (Value.ref ob175), (Value.ref ob175)])) rfl (by rw [hml]; rfl) (Steps.refl _) (a := ob175) (argsL := [(Value.ref x_4), (Value.ref sa108), .null, .null, .null, (Value.ref x_1), .null, .null]) (rest := [(Value.ref ob175)]) (lenOf own_pd4 rfl) rfl (by show 2 * 0 + _ ≤ _; exact Nat.le_of_eq rfl) (hb hby at_226) (fun _ _ => ⟨rfl, e175, (by decide : 16 + 0 ≤ _), (by decide : 60 + 0 ≤ _)⟩)
        dsimp only [Pt.U, Pt.locs, Pt.cells, Pt.slots] at X178 l178 y178 z178 st178 hQ178
        subst l178 y178 z178
        refine own_Go.by (fun tq kq => st178.trans kq) ?_
        obtain ⟨rfl, N178q, K178q, p178_0, p178_1⟩ := hQ178
        have N178 := Fr.app N173 N178q
        have O179 := O176.keep K178q (allS g177 all0)
        have K179 := K176.trans K178q (allS (Or.inr z177) all0)
        have hk_179 := Nat.le_trans hk_176 K178q.1
        refine own_Go.by (fun tq kq => XS.goto X178.here hx rfl (pc0 := 229) (pc' := 264) rfl (hb hby at_229) (by decide) (by decide) kq) ?_
        refine own_Go.by (fun tq kq => XS.astore X178.here hx rfl (hb hby at_264) rfl rfl (l' := #[sI p1, sI p2, sI p3, sI c0x, sI c1x, sI la, sI (p3 &&& (3 : Int32)), sI d0x, sI d1x, sI lb, sR x_1, sR x_4, sR sa108, sI (1 : Int32), sR ob170, sR ob175, .unset, .unset]) rfl kq) ?_
        refine own_merge (α := Int32) (P := fun ex => (ex = (1 : Int32) ∧ own_text la c0x c1x = own_text lb d0x d1x) ∨ (ex = (0 : Int32) ∧ ¬ own_text la c0x c1x = own_text lb d0x d1x)) (F := fun ex => T178.setTop (mkF m 305 #[sI p1, sI p2, sI p3, sI c0x, sI c1x, sI la, sI (p3 &&& (3 : Int32)), sI d0x, sI d1x, sI lb, sR x_1, sR x_4, sR sa108, sI (1 : Int32), sR ob170, sR ob175, sI ex, .unset] [])) ?_ ?_
        ·
          intro ex h_ex
          refine own_Go.by (fun tq kq => XS.aconstNull X178.here hx rfl (hb hby at_305) kq) ?_
          show own_Go _ _ _ _ (T178.setTop (mkF m 306 #[sI p1, sI p2, sI p3, sI c0x, sI c1x, sI la, sI (p3 &&& (3 : Int32)), sI d0x, sI d1x, sI lb, sR x_1, sR x_4, sR sa108, sI (1 : Int32), sR ob170, sR ob175, sI ex, .unset] [.null]))
          refine own_Go.by (fun tq kq => XS.astore X178.here hx rfl (hb hby at_306) rfl rfl (l' := #[sI p1, sI p2, sI p3, sI c0x, sI c1x, sI la, sI (p3 &&& (3 : Int32)), sI d0x, sI d1x, sI lb, sR x_1, sR x_4, sR sa108, sI (1 : Int32), sR ob170, sR ob175, sI ex, .val .null]) rfl kq) ?_
          refine own_Go.by (fun tq kq => XS.aload X178.here hx rfl (hb hby at_308) rfl rfl kq) ?_
          refine own_Go.by (fun tq kq => XS.aload X178.here hx rfl (hb hby at_310) rfl rfl kq) ?_
          show own_Go _ _ _ _ (T178.setTop (mkF m 312 #[sI p1, sI p2, sI p3, sI c0x, sI c1x, sI la, sI (p3 &&& (3 : Int32)), sI d0x, sI d1x, sI lb, sR x_1, sR x_4, sR sa108, sI (1 : Int32), sR ob170, sR ob175, sI ex, .val .null] [(Value.ref ob175), (Value.ref ob170)]))
          have c181 := ((p173_0.ext E175).keep K178q)
          have c182 := ((p173_1.ext E175).keep K178q (ninS (Nat.ne_of_lt (Nat.lt_of_lt_of_le A170.lt (Nat.le_trans K173q.1 (Nat.le_of_eq y175.symm)))) nin0))
          have c183 := ((((((p1_1.keep K4q).ext E108).ext E170).keep K173q).ext E175).keep K178q)
          have c184 := ((((((p1_2.keep K4q nin0).ext E108).ext E170).keep K173q (ninS (Nat.ne_of_lt (Nat.lt_of_lt_of_le p1_1.lt (Nat.le_trans K4q.1 (Nat.le_trans E108.1 (Nat.le_of_eq y170.symm))))) nin0)).ext E175).keep K178q (ninS (Nat.ne_of_lt (Nat.lt_of_lt_of_le p1_1.lt (Nat.le_trans K4q.1 (Nat.le_trans E108.1 (Nat.le_trans E170.1 (Nat.le_trans K173q.1 (Nat.le_of_eq y175.symm))))))) nin0))
          have c185 := ((((((p1_3.keep K4q nin0).ext E108).ext E170).keep K173q (ninS (Nat.ne_of_lt (Nat.lt_of_lt_of_le p1_1.lt (Nat.le_trans K4q.1 (Nat.le_trans E108.1 (Nat.le_of_eq y170.symm))))) nin0)).ext E175).keep K178q (ninS (Nat.ne_of_lt (Nat.lt_of_lt_of_le p1_1.lt (Nat.le_trans K4q.1 (Nat.le_trans E108.1 (Nat.le_trans E170.1 (Nat.le_trans K173q.1 (Nat.le_of_eq y175.symm))))))) nin0))
          have c186 := ((((((p1_4.keep K4q nin0).ext E108).ext E170).keep K173q (ninS (Nat.ne_of_lt (Nat.lt_of_lt_of_le p1_4.lt (Nat.le_trans K4q.1 (Nat.le_trans E108.1 (Nat.le_of_eq y170.symm))))) nin0)).ext E175).keep K178q (ninS (Nat.ne_of_lt (Nat.lt_of_lt_of_le p1_4.lt (Nat.le_trans K4q.1 (Nat.le_trans E108.1 (Nat.le_trans E170.1 (Nat.le_trans K173q.1 (Nat.le_of_eq y175.symm))))))) nin0))
          have c187 := (((((p4_1.ext E108).ext E170).keep K173q).ext E175).keep K178q)
          have c188 := (((((p4_2.ext E108).ext E170).keep K173q (ninS (Nat.ne_of_lt (Nat.lt_of_lt_of_le p4_1.lt (Nat.le_trans E108.1 (Nat.le_of_eq y170.symm)))) nin0)).ext E175).keep K178q (ninS (Nat.ne_of_lt (Nat.lt_of_lt_of_le p4_1.lt (Nat.le_trans E108.1 (Nat.le_trans E170.1 (Nat.le_trans K173q.1 (Nat.le_of_eq y175.symm)))))) nin0))
          have c189 := (((((p4_3.ext E108).ext E170).keep K173q (ninS (Nat.ne_of_lt (Nat.lt_of_lt_of_le p4_1.lt (Nat.le_trans E108.1 (Nat.le_of_eq y170.symm)))) nin0)).ext E175).keep K178q (ninS (Nat.ne_of_lt (Nat.lt_of_lt_of_le p4_1.lt (Nat.le_trans E108.1 (Nat.le_trans E170.1 (Nat.le_trans K173q.1 (Nat.le_of_eq y175.symm)))))) nin0))
          have c190 := (((((p4_4.ext E108).ext E170).keep K173q (ninS (Nat.ne_of_lt (Nat.lt_of_lt_of_le p4_4.lt (Nat.le_trans E108.1 (Nat.le_of_eq y170.symm)))) nin0)).ext E175).keep K178q (ninS (Nat.ne_of_lt (Nat.lt_of_lt_of_le p4_4.lt (Nat.le_trans E108.1 (Nat.le_trans E170.1 (Nat.le_trans K173q.1 (Nat.le_of_eq y175.symm)))))) nin0))
          obtain ⟨cq180, kq180, q180a, q180b, q180c⟩ := isOf hZ108 rfl c181
          obtain ⟨_, _, ⟨T180, L180, k180, n180⟩, -, X180, ⟨Lc180, hQ180, l180, y180, z180⟩, st180⟩ := X178.virtualBack hx (y := (⟨"com/example/enlace/enlace/UriReference", "equals", "(Ljava/lang/Object;)Z"⟩ : MethodName)) (z := (⟨"com/example/enlace/enlace/UriReference", "equals", "(Ljava/lang/Object;)Z"⟩ : MethodName)) hown108 (mvT hZ108 (hw _ (List.mem_of_getElem? (i := 57) rfl))) (mvT hZ108 (hw _ (List.mem_of_getElem? (i := 58) rfl))) (notFace_of_selects (args := #[]) (mvT hZ108 (hw _ (List.mem_of_getElem? (i := 60) rfl)))) (mvT hZ108 (hw _ (List.mem_of_getElem? (i := 60) rfl))) (mvT hZ108 (hw _ (List.mem_of_getElem? (i := 59) rfl))) (by decide) (backOf (W := 0) (rm6_a l Z a0 hw [] ob170 ob175 zc x_1 t_1 kb_1 N2_1 vs2_1 (own_text la c0x c1x) x_4 t_4 kb_4 N2_4 vs2_4 (own_text lb d0x d1x) T178.heap n0 O179 H0 (hzc : ¬ (zc = (0 : Int32))) c181 p178_0 c182 c183 c184 c185 c186 (p1_5 : own_cod (own_text la c0x c1x) N2_1 vs2_1) p178_1 c187 c188 c189 c190 (p4_5 : own_cod (own_text lb d0x d1x) N2_4 vs2_4)) hZ108 (hw _ (List.mem_of_getElem? (i := 61) rfl)) (hw _ (List.mem_of_getElem? (i := 29) rfl)) (by decide) (by decide)) q180a q180c (g := (mkF m 312 #[sI p1, sI p2, sI p3, sI c0x, sI c1x, sI la, sI (p3 &&& (3 : Int32)), sI d0x, sI d1x, sI lb, sR x_1, sR x_4, sR sa108, sI (1 : Int32), sR ob170, sR ob175, sI ex, .val .null] [(Value.ref ob175), (Value.ref ob170)])) rfl (by rw [hml]; rfl) (Steps.refl _) (argsL := [(Value.ref ob175)]) (rest := []) (lenOf own_pd2 rfl) rfl (by show 2 * 0 + _ ≤ _; exact Nat.le_of_eq rfl) (hb hby at_312) (fun _ _ => ⟨rfl, rfl, (by decide : 16 + 0 ≤ _), (by decide : 60 + 0 ≤ _)⟩)
          dsimp only [Pt.U, Pt.locs, Pt.cells, Pt.slots] at X180 l180 y180 z180 st180 hQ180
          subst l180 y180 z180
          refine own_Go.by (fun tq kq => st180.trans kq) ?_
          obtain ⟨r_180, rfl, N180q, e180, p180_0⟩ := hQ180
          have N180 := Fr.app N178 N180q
          refine own_Go.by (fun tq kq => XS.iload X180.here hx rfl (hb hby at_315) rfl kq) ?_
          show own_Go _ _ _ _ (T180.setTop (mkF m 317 #[sI p1, sI p2, sI p3, sI c0x, sI c1x, sI la, sI (p3 &&& (3 : Int32)), sI d0x, sI d1x, sI lb, sR x_1, sR x_4, sR sa108, sI (1 : Int32), sR ob170, sR ob175, sI ex, .val .null] [(Value.int ex), (Value.int r_180)]))
          refine own_Go.by (fun tq kq => XS.icmpNo X180.here hx rfl (hb hby at_317) rfl (teq (own_same p180_0 h_ex Iff.rfl : r_180 = ex)).2 kq) ?_
          refine own_Go.by (fun tq kq => XS.aload X180.here hx rfl (hb hby at_320) rfl rfl kq) ?_
          refine own_Go.by (fun tq kq => XS.aload X180.here hx rfl (hb hby at_322) rfl rfl kq) ?_
          show own_Go _ _ _ _ (T180.setTop (mkF m 324 #[sI p1, sI p2, sI p3, sI c0x, sI c1x, sI la, sI (p3 &&& (3 : Int32)), sI d0x, sI d1x, sI lb, sR x_1, sR x_4, sR sa108, sI (1 : Int32), sR ob170, sR ob175, sI ex, .val .null] [(Value.ref ob170), (Value.ref ob175)]))
          obtain ⟨cq191, kq191, q191a, q191b, q191c⟩ := isOf hZ108 e180 p178_0
          obtain ⟨_, _, ⟨T191, L191, k191, n191⟩, -, X191, ⟨Lc191, hQ191, l191, y191, z191⟩, st191⟩ := X180.virtualBack hx (y := (⟨"com/example/enlace/enlace/UriReference", "equals", "(Ljava/lang/Object;)Z"⟩ : MethodName)) (z := (⟨"com/example/enlace/enlace/UriReference", "equals", "(Ljava/lang/Object;)Z"⟩ : MethodName)) hown108 (mvT hZ108 (hw _ (List.mem_of_getElem? (i := 57) rfl))) (mvT hZ108 (hw _ (List.mem_of_getElem? (i := 58) rfl))) (notFace_of_selects (args := #[]) (mvT hZ108 (hw _ (List.mem_of_getElem? (i := 60) rfl)))) (mvT hZ108 (hw _ (List.mem_of_getElem? (i := 60) rfl))) (mvT hZ108 (hw _ (List.mem_of_getElem? (i := 59) rfl))) (by decide) (backOf (W := 0) (rm6_a l Z a0 hw [] ob175 ob170 zc x_4 t_4 kb_4 N2_4 vs2_4 (own_text lb d0x d1x) x_1 t_1 kb_1 N2_1 vs2_1 (own_text la c0x c1x) T178.heap n0 O179 H0 (hzc : ¬ (zc = (0 : Int32))) p178_0 c181 p178_1 c187 c188 c189 c190 (p4_5 : own_cod (own_text lb d0x d1x) N2_4 vs2_4) c182 c183 c184 c185 c186 (p1_5 : own_cod (own_text la c0x c1x) N2_1 vs2_1)) hZ108 (hw _ (List.mem_of_getElem? (i := 61) rfl)) (hw _ (List.mem_of_getElem? (i := 29) rfl)) (by decide) (by decide)) q191a q191c (g := (mkF m 324 #[sI p1, sI p2, sI p3, sI c0x, sI c1x, sI la, sI (p3 &&& (3 : Int32)), sI d0x, sI d1x, sI lb, sR x_1, sR x_4, sR sa108, sI (1 : Int32), sR ob170, sR ob175, sI ex, .val .null] [(Value.ref ob170), (Value.ref ob175)])) rfl (by rw [hml]; rfl) (Steps.refl _) (argsL := [(Value.ref ob170)]) (rest := []) (lenOf own_pd2 rfl) rfl (by show 2 * 0 + _ ≤ _; exact Nat.le_of_eq rfl) (hb hby at_324) (fun _ _ => ⟨rfl, e180, (by decide : 16 + 0 ≤ _), (by decide : 60 + 0 ≤ _)⟩)
          dsimp only [Pt.U, Pt.locs, Pt.cells, Pt.slots] at X191 l191 y191 z191 st191 hQ191
          subst l191 y191 z191
          refine own_Go.by (fun tq kq => st191.trans kq) ?_
          obtain ⟨r_191, rfl, N191q, e191, p191_0⟩ := hQ191
          have N191 := Fr.app N180 N191q
          refine own_Go.by (fun tq kq => XS.iload X191.here hx rfl (hb hby at_327) rfl kq) ?_
          show own_Go _ _ _ _ (T191.setTop (mkF m 329 #[sI p1, sI p2, sI p3, sI c0x, sI c1x, sI la, sI (p3 &&& (3 : Int32)), sI d0x, sI d1x, sI lb, sR x_1, sR x_4, sR sa108, sI (1 : Int32), sR ob170, sR ob175, sI ex, .val .null] [(Value.int ex), (Value.int r_191)]))
          refine own_Go.by (fun tq kq => XS.icmpNo X191.here hx rfl (hb hby at_329) rfl (teq (own_same p191_0 h_ex ⟨Eq.symm, Eq.symm⟩ : r_191 = ex)).2 kq) ?_
          refine own_Go.by (fun tq kq => XS.aload X191.here hx rfl (hb hby at_332) rfl rfl kq) ?_
          refine own_Go.by (fun tq kq => XS.aload X191.here hx rfl (hb hby at_334) rfl rfl kq) ?_
          show own_Go _ _ _ _ (T191.setTop (mkF m 336 #[sI p1, sI p2, sI p3, sI c0x, sI c1x, sI la, sI (p3 &&& (3 : Int32)), sI d0x, sI d1x, sI lb, sR x_1, sR x_4, sR sa108, sI (1 : Int32), sR ob170, sR ob175, sI ex, .val .null] [(Value.ref ob170), (Value.ref ob170)]))
          obtain ⟨cq192, kq192, q192a, q192b, q192c⟩ := isOf hZ108 e191 c181
          obtain ⟨_, _, ⟨T192, L192, k192, n192⟩, -, X192, ⟨Lc192, hQ192, l192, y192, z192⟩, st192⟩ := X191.virtualBack hx (y := (⟨"com/example/enlace/enlace/UriReference", "equals", "(Ljava/lang/Object;)Z"⟩ : MethodName)) (z := (⟨"com/example/enlace/enlace/UriReference", "equals", "(Ljava/lang/Object;)Z"⟩ : MethodName)) hown108 (mvT hZ108 (hw _ (List.mem_of_getElem? (i := 57) rfl))) (mvT hZ108 (hw _ (List.mem_of_getElem? (i := 58) rfl))) (notFace_of_selects (args := #[]) (mvT hZ108 (hw _ (List.mem_of_getElem? (i := 60) rfl)))) (mvT hZ108 (hw _ (List.mem_of_getElem? (i := 60) rfl))) (mvT hZ108 (hw _ (List.mem_of_getElem? (i := 59) rfl))) (by decide) (backOf (W := 0) (rm6_a l Z a0 hw [] ob170 ob170 zc x_1 t_1 kb_1 N2_1 vs2_1 (own_text la c0x c1x) x_1 t_1 kb_1 N2_1 vs2_1 (own_text la c0x c1x) T178.heap n0 O179 H0 (hzc : ¬ (zc = (0 : Int32))) c181 c181 c182 c183 c184 c185 c186 (p1_5 : own_cod (own_text la c0x c1x) N2_1 vs2_1) c182 c183 c184 c185 c186 (p1_5 : own_cod (own_text la c0x c1x) N2_1 vs2_1)) hZ108 (hw _ (List.mem_of_getElem? (i := 61) rfl)) (hw _ (List.mem_of_getElem? (i := 29) rfl)) (by decide) (by decide)) q192a q192c (g := (mkF m 336 #[sI p1, sI p2, sI p3, sI c0x, sI c1x, sI la, sI (p3 &&& (3 : Int32)), sI d0x, sI d1x, sI lb, sR x_1, sR x_4, sR sa108, sI (1 : Int32), sR ob170, sR ob175, sI ex, .val .null] [(Value.ref ob170), (Value.ref ob170)])) rfl (by rw [hml]; rfl) (Steps.refl _) (argsL := [(Value.ref ob170)]) (rest := []) (lenOf own_pd2 rfl) rfl (by show 2 * 0 + _ ≤ _; exact Nat.le_of_eq rfl) (hb hby at_336) (fun _ _ => ⟨rfl, e191, (by decide : 16 + 0 ≤ _), (by decide : 60 + 0 ≤ _)⟩)
          dsimp only [Pt.U, Pt.locs, Pt.cells, Pt.slots] at X192 l192 y192 z192 st192 hQ192
          subst l192 y192 z192
          refine own_Go.by (fun tq kq => st192.trans kq) ?_
          obtain ⟨r_192, rfl, N192q, e192, p192_0⟩ := hQ192
          have N192 := Fr.app N191 N192q
          show own_Go _ _ _ _ (T192.setTop (mkF m 339 #[sI p1, sI p2, sI p3, sI c0x, sI c1x, sI la, sI (p3 &&& (3 : Int32)), sI d0x, sI d1x, sI lb, sR x_1, sR x_4, sR sa108, sI (1 : Int32), sR ob170, sR ob175, sI ex, .val .null] [(Value.int r_192)]))
          refine own_Go.by (fun tq kq => XS.ifNo X192.here hx rfl (hb hby at_339) rfl ((if0 _ _).trans (feq (own_self p192_0 rfl : ¬ (r_192 = (0 : Int32)))).1) kq) ?_
          refine own_Go.by (fun tq kq => XS.aload X192.here hx rfl (hb hby at_342) rfl rfl kq) ?_
          refine own_Go.by (fun tq kq => XS.aload X192.here hx rfl (hb hby at_344) rfl rfl kq) ?_
          show own_Go _ _ _ _ (T192.setTop (mkF m 346 #[sI p1, sI p2, sI p3, sI c0x, sI c1x, sI la, sI (p3 &&& (3 : Int32)), sI d0x, sI d1x, sI lb, sR x_1, sR x_4, sR sa108, sI (1 : Int32), sR ob170, sR ob175, sI ex, .val .null] [.null, (Value.ref ob170)]))
          obtain ⟨cq193, kq193, q193a, q193b, q193c⟩ := isOf hZ108 e192 c181
          obtain ⟨_, _, ⟨T193, L193, k193, n193⟩, -, X193, ⟨Lc193, hQ193, l193, y193, z193⟩, st193⟩ := X192.virtualBack hx (y := (⟨"com/example/enlace/enlace/UriReference", "equals", "(Ljava/lang/Object;)Z"⟩ : MethodName)) (z := (⟨"com/example/enlace/enlace/UriReference", "equals", "(Ljava/lang/Object;)Z"⟩ : MethodName)) hown108 (mvT hZ108 (hw _ (List.mem_of_getElem? (i := 57) rfl))) (mvT hZ108 (hw _ (List.mem_of_getElem? (i := 58) rfl))) (notFace_of_selects (args := #[]) (mvT hZ108 (hw _ (List.mem_of_getElem? (i := 60) rfl)))) (mvT hZ108 (hw _ (List.mem_of_getElem? (i := 60) rfl))) (mvT hZ108 (hw _ (List.mem_of_getElem? (i := 59) rfl))) (by decide) (backOf (W := 0) (rm6_n l Z a0 hw [] ob170 T178.heap n0 O179 ) hZ108 (hw _ (List.mem_of_getElem? (i := 61) rfl)) (hw _ (List.mem_of_getElem? (i := 29) rfl)) (by decide) (by decide)) q193a q193c (g := (mkF m 346 #[sI p1, sI p2, sI p3, sI c0x, sI c1x, sI la, sI (p3 &&& (3 : Int32)), sI d0x, sI d1x, sI lb, sR x_1, sR x_4, sR sa108, sI (1 : Int32), sR ob170, sR ob175, sI ex, .val .null] [.null, (Value.ref ob170)])) rfl (by rw [hml]; rfl) (Steps.refl _) (argsL := [.null]) (rest := []) (lenOf own_pd2 rfl) rfl (by show 2 * 0 + _ ≤ _; exact Nat.le_of_eq rfl) (hb hby at_346) (fun _ _ => ⟨rfl, e192, (by decide : 16 + 0 ≤ _), (by decide : 60 + 0 ≤ _)⟩)
          dsimp only [Pt.U, Pt.locs, Pt.cells, Pt.slots] at X193 l193 y193 z193 st193 hQ193
          subst l193 y193 z193
          refine own_Go.by (fun tq kq => st193.trans kq) ?_
          obtain ⟨rfl, N193q, e193⟩ := hQ193
          have N193 := Fr.app N192 N193q
          show own_Go _ _ _ _ (T193.setTop (mkF m 349 #[sI p1, sI p2, sI p3, sI c0x, sI c1x, sI la, sI (p3 &&& (3 : Int32)), sI d0x, sI d1x, sI lb, sR x_1, sR x_4, sR sa108, sI (1 : Int32), sR ob170, sR ob175, sI ex, .val .null] [(Value.int (0 : Int32))]))
          refine own_Go.by (fun tq kq => XS.ifNo X193.here hx rfl (hb hby at_349) rfl ((if0 _ _).trans (teq (by decide : (0 : Int32) = (0 : Int32))).2) kq) ?_
          refine own_Go.by (fun tq kq => XS.aload X193.here hx rfl (hb hby at_352) rfl rfl kq) ?_
          refine own_Go.by (fun tq kq => XS.aload X193.here hx rfl (hb hby at_354) rfl rfl kq) ?_
          show own_Go _ _ _ _ (T193.setTop (mkF m 356 #[sI p1, sI p2, sI p3, sI c0x, sI c1x, sI la, sI (p3 &&& (3 : Int32)), sI d0x, sI d1x, sI lb, sR x_1, sR x_4, sR sa108, sI (1 : Int32), sR ob170, sR ob175, sI ex, .val .null] [(Value.ref x_1), (Value.ref ob170)]))
          obtain ⟨cq194, kq194, q194a, q194b, q194c⟩ := isOf hZ108 e193 c181
          obtain ⟨_, _, ⟨T194, L194, k194, n194⟩, -, X194, ⟨Lc194, hQ194, l194, y194, z194⟩, st194⟩ := X193.virtualBack hx (y := (⟨"com/example/enlace/enlace/UriReference", "equals", "(Ljava/lang/Object;)Z"⟩ : MethodName)) (z := (⟨"com/example/enlace/enlace/UriReference", "equals", "(Ljava/lang/Object;)Z"⟩ : MethodName)) hown108 (mvT hZ108 (hw _ (List.mem_of_getElem? (i := 57) rfl))) (mvT hZ108 (hw _ (List.mem_of_getElem? (i := 58) rfl))) (notFace_of_selects (args := #[]) (mvT hZ108 (hw _ (List.mem_of_getElem? (i := 60) rfl)))) (mvT hZ108 (hw _ (List.mem_of_getElem? (i := 60) rfl))) (mvT hZ108 (hw _ (List.mem_of_getElem? (i := 59) rfl))) (by decide) (backOf (W := 0) (rm6_s l Z a0 hw [] ob170 x_1 T178.heap n0 O179 c183) hZ108 (hw _ (List.mem_of_getElem? (i := 61) rfl)) (hw _ (List.mem_of_getElem? (i := 29) rfl)) (by decide) (by decide)) q194a q194c (g := (mkF m 356 #[sI p1, sI p2, sI p3, sI c0x, sI c1x, sI la, sI (p3 &&& (3 : Int32)), sI d0x, sI d1x, sI lb, sR x_1, sR x_4, sR sa108, sI (1 : Int32), sR ob170, sR ob175, sI ex, .val .null] [(Value.ref x_1), (Value.ref ob170)])) rfl (by rw [hml]; rfl) (Steps.refl _) (argsL := [(Value.ref x_1)]) (rest := []) (lenOf own_pd2 rfl) rfl (by show 2 * 0 + _ ≤ _; exact Nat.le_of_eq rfl) (hb hby at_356) (fun _ _ => ⟨rfl, e193, (by decide : 16 + 0 ≤ _), (by decide : 60 + 0 ≤ _)⟩)
          dsimp only [Pt.U, Pt.locs, Pt.cells, Pt.slots] at X194 l194 y194 z194 st194 hQ194
          subst l194 y194 z194
          refine own_Go.by (fun tq kq => st194.trans kq) ?_
          obtain ⟨rfl, N194q, e194⟩ := hQ194
          have N194 := Fr.app N193 N194q
          show own_Go _ _ _ _ (T194.setTop (mkF m 359 #[sI p1, sI p2, sI p3, sI c0x, sI c1x, sI la, sI (p3 &&& (3 : Int32)), sI d0x, sI d1x, sI lb, sR x_1, sR x_4, sR sa108, sI (1 : Int32), sR ob170, sR ob175, sI ex, .val .null] [(Value.int (0 : Int32))]))
          refine own_Go.by (fun tq kq => XS.ifNo X194.here hx rfl (hb hby at_359) rfl ((if0 _ _).trans (teq (by decide : (0 : Int32) = (0 : Int32))).2) kq) ?_
          refine own_Go.by (fun tq kq => XS.iconst X194.here hx rfl (hb hby at_362) kq) ?_
          refine own_Go.by (fun tq kq => XS.goto X194.here hx rfl (pc0 := 363) (pc' := 367) rfl (hb hby at_363) (by decide) (by decide) kq) ?_
          show own_Go _ _ _ _ (T194.setTop (mkF m 367 #[sI p1, sI p2, sI p3, sI c0x, sI c1x, sI la, sI (p3 &&& (3 : Int32)), sI d0x, sI d1x, sI lb, sR x_1, sR x_4, sR sa108, sI (1 : Int32), sR ob170, sR ob175, sI ex, .val .null] [(Value.int (1 : Int32))]))
          obtain ⟨fs, hr, hrun, hended, hRE⟩ := Stand.leaveW (s := s) (vm₁ := T108.vm) X194 hS108 (by rw [e194]; exact hk_179) (v := some (Value.int (nar .boolean (1 : Int32)))) (fun h => by rw [Bd.returns] at h; cases h)
          have R195 := CHr.ext E170 R108.1
          have Sf196 := Safe.ext E170 R108.1 (Safe.new (Nat.le_of_eq y170.symm))
          have R197 := CHr.keep K173q (allS Sf196 all0) R195.1
          have R198 := CHr.ext E175 R197.1
          have Sf199 := Safe.ext E175 R197.1 (Safe.new (Nat.le_of_eq y175.symm))
          have R200 := CHr.keep K178q (allS Sf199 all0) R198.1
          have hCR := ((((((R1.trans R4).trans R108).trans R195).trans R197).trans R198).trans R200)
          have hCZ : CHr Z consts_1 s.vm s.heap T194.vm T194.heap := by
            rw [hh, e194]
            exact hCR.trans (CHv.at (s := s) (vm0 := T108.vm) X194 hZ108 hEL hCR.1)
          refine own_Go.fin (retN X194 hx (t := .boolean) Bd.returns (by simp) (hb hby at_367) hr) ⟨hrun, hended, _, _, rfl, ?_, hCZ, own_rew hRE (by decide) (by decide)⟩
          show Q0 Z p1 p2 p3 zc h0 n0 _ T194.heap _
          rw [e194]
          exact ⟨rfl, N194, K179⟩
        ·
          intro g_ex
          refine own_Go.by (fun tq kq => XS.iload X178.here hx rfl (hb hby at_266) rfl kq) ?_
          show own_Go _ _ _ _ (T178.setTop (mkF m 268 #[sI p1, sI p2, sI p3, sI c0x, sI c1x, sI la, sI (p3 &&& (3 : Int32)), sI d0x, sI d1x, sI lb, sR x_1, sR x_4, sR sa108, sI (1 : Int32), sR ob170, sR ob175, .unset, .unset] [(Value.int la)]))
          refine own_Go.by (fun tq kq => XS.iload X178.here hx rfl (hb hby at_268) rfl kq) ?_
          show own_Go _ _ _ _ (T178.setTop (mkF m 270 #[sI p1, sI p2, sI p3, sI c0x, sI c1x, sI la, sI (p3 &&& (3 : Int32)), sI d0x, sI d1x, sI lb, sR x_1, sR x_4, sR sa108, sI (1 : Int32), sR ob170, sR ob175, .unset, .unset] [(Value.int lb), (Value.int la)]))
          by_cases hc270_201 : la = lb
          ·
            refine own_Go.by (fun tq kq => XS.icmpNo X178.here hx rfl (hb hby at_270) rfl (teq hc270_201).2 kq) ?_
            refine own_Go.by (fun tq kq => XS.iload X178.here hx rfl (hb hby at_273) rfl kq) ?_
            refine own_Go.by (fun tq kq => XS.iconst X178.here hx rfl (hb hby at_275) kq) ?_
            show own_Go _ _ _ _ (T178.setTop (mkF m 276 #[sI p1, sI p2, sI p3, sI c0x, sI c1x, sI la, sI (p3 &&& (3 : Int32)), sI d0x, sI d1x, sI lb, sR x_1, sR x_4, sR sa108, sI (1 : Int32), sR ob170, sR ob175, .unset, .unset] [(Value.int (1 : Int32)), (Value.int la)]))
            by_cases hc276_202 : la < (1 : Int32)
            ·
              refine own_Go.by (fun tq kq => XS.icmpYes X178.here hx rfl (pc0 := 276) (pc' := 285) rfl (hb hby at_276) rfl (tlt hc276_202).1 (by decide) (by decide) kq) ?_
              refine own_Go.by (fun tq kq => XS.iload X178.here hx rfl (hb hby at_285) rfl kq) ?_
              refine own_Go.by (fun tq kq => XS.iconst X178.here hx rfl (hb hby at_287) kq) ?_
              show own_Go _ _ _ _ (T178.setTop (mkF m 288 #[sI p1, sI p2, sI p3, sI c0x, sI c1x, sI la, sI (p3 &&& (3 : Int32)), sI d0x, sI d1x, sI lb, sR x_1, sR x_4, sR sa108, sI (1 : Int32), sR ob170, sR ob175, .unset, .unset] [(Value.int (2 : Int32)), (Value.int la)]))
              by_cases hc288_203 : la < (2 : Int32)
              ·
                refine own_Go.by (fun tq kq => XS.icmpYes X178.here hx rfl (pc0 := 288) (pc' := 298) rfl (hb hby at_288) rfl (tlt hc288_203).1 (by decide) (by decide) kq) ?_
                refine own_Go.by (fun tq kq => XS.iconst X178.here hx rfl (hb hby at_298) kq) ?_
                refine own_Go.by (fun tq kq => XS.goto X178.here hx rfl (pc0 := 299) (pc' := 303) rfl (hb hby at_299) (by decide) (by decide) kq) ?_
                refine own_Go.by (fun tq kq => XS.istore X178.here hx rfl (hb hby at_303) rfl (l' := #[sI p1, sI p2, sI p3, sI c0x, sI c1x, sI la, sI (p3 &&& (3 : Int32)), sI d0x, sI d1x, sI lb, sR x_1, sR x_4, sR sa108, sI (1 : Int32), sR ob170, sR ob175, sI (1 : Int32), .unset]) rfl kq) ?_
                exact g_ex _ (Or.inl ⟨rfl, (own_exp (own_r3p hv_la) h_d0x_d1x_lb.2.2).mpr ⟨hc270_201, Or.inl hc276_202, Or.inl hc288_203⟩⟩)
              ·
                refine own_Go.by (fun tq kq => XS.icmpNo X178.here hx rfl (hb hby at_288) rfl (flt hc288_203).1 kq) ?_
                refine own_Go.by (fun tq kq => XS.iload X178.here hx rfl (hb hby at_291) rfl kq) ?_
                refine own_Go.by (fun tq kq => XS.iload X178.here hx rfl (hb hby at_293) rfl kq) ?_
                show own_Go _ _ _ _ (T178.setTop (mkF m 295 #[sI p1, sI p2, sI p3, sI c0x, sI c1x, sI la, sI (p3 &&& (3 : Int32)), sI d0x, sI d1x, sI lb, sR x_1, sR x_4, sR sa108, sI (1 : Int32), sR ob170, sR ob175, .unset, .unset] [(Value.int d1x), (Value.int c1x)]))
                by_cases hc295_204 : c1x = d1x
                ·
                  refine own_Go.by (fun tq kq => XS.icmpNo X178.here hx rfl (hb hby at_295) rfl (teq hc295_204).2 kq) ?_
                  refine own_Go.by (fun tq kq => XS.iconst X178.here hx rfl (hb hby at_298) kq) ?_
                  refine own_Go.by (fun tq kq => XS.goto X178.here hx rfl (pc0 := 299) (pc' := 303) rfl (hb hby at_299) (by decide) (by decide) kq) ?_
                  refine own_Go.by (fun tq kq => XS.istore X178.here hx rfl (hb hby at_303) rfl (l' := #[sI p1, sI p2, sI p3, sI c0x, sI c1x, sI la, sI (p3 &&& (3 : Int32)), sI d0x, sI d1x, sI lb, sR x_1, sR x_4, sR sa108, sI (1 : Int32), sR ob170, sR ob175, sI (1 : Int32), .unset]) rfl kq) ?_
                  exact g_ex _ (Or.inl ⟨rfl, (own_exp (own_r3p hv_la) h_d0x_d1x_lb.2.2).mpr ⟨hc270_201, Or.inl hc276_202, Or.inr hc295_204⟩⟩)
                ·
                  refine own_Go.by (fun tq kq => XS.icmpYes X178.here hx rfl (pc0 := 295) (pc' := 302) rfl (hb hby at_295) rfl (feq hc295_204).2 (by decide) (by decide) kq) ?_
                  refine own_Go.by (fun tq kq => XS.iconst X178.here hx rfl (hb hby at_302) kq) ?_
                  refine own_Go.by (fun tq kq => XS.istore X178.here hx rfl (hb hby at_303) rfl (l' := #[sI p1, sI p2, sI p3, sI c0x, sI c1x, sI la, sI (p3 &&& (3 : Int32)), sI d0x, sI d1x, sI lb, sR x_1, sR x_4, sR sa108, sI (1 : Int32), sR ob170, sR ob175, sI (0 : Int32), .unset]) rfl kq) ?_
                  exact g_ex _ (Or.inr ⟨rfl, fun q => (fun z => z.2.2.elim hc288_203 hc295_204) ((own_exp (own_r3p hv_la) h_d0x_d1x_lb.2.2).mp q)⟩)
            ·
              refine own_Go.by (fun tq kq => XS.icmpNo X178.here hx rfl (hb hby at_276) rfl (flt hc276_202).1 kq) ?_
              refine own_Go.by (fun tq kq => XS.iloadN X178.here hx rfl (hb hby at_279) rfl kq) ?_
              refine own_Go.by (fun tq kq => XS.iload X178.here hx rfl (hb hby at_280) rfl kq) ?_
              show own_Go _ _ _ _ (T178.setTop (mkF m 282 #[sI p1, sI p2, sI p3, sI c0x, sI c1x, sI la, sI (p3 &&& (3 : Int32)), sI d0x, sI d1x, sI lb, sR x_1, sR x_4, sR sa108, sI (1 : Int32), sR ob170, sR ob175, .unset, .unset] [(Value.int d0x), (Value.int c0x)]))
              by_cases hc282_205 : c0x = d0x
              ·
                refine own_Go.by (fun tq kq => XS.icmpNo X178.here hx rfl (hb hby at_282) rfl (teq hc282_205).2 kq) ?_
                refine own_Go.by (fun tq kq => XS.iload X178.here hx rfl (hb hby at_285) rfl kq) ?_
                refine own_Go.by (fun tq kq => XS.iconst X178.here hx rfl (hb hby at_287) kq) ?_
                show own_Go _ _ _ _ (T178.setTop (mkF m 288 #[sI p1, sI p2, sI p3, sI c0x, sI c1x, sI la, sI (p3 &&& (3 : Int32)), sI d0x, sI d1x, sI lb, sR x_1, sR x_4, sR sa108, sI (1 : Int32), sR ob170, sR ob175, .unset, .unset] [(Value.int (2 : Int32)), (Value.int la)]))
                by_cases hc288_206 : la < (2 : Int32)
                ·
                  refine own_Go.by (fun tq kq => XS.icmpYes X178.here hx rfl (pc0 := 288) (pc' := 298) rfl (hb hby at_288) rfl (tlt hc288_206).1 (by decide) (by decide) kq) ?_
                  refine own_Go.by (fun tq kq => XS.iconst X178.here hx rfl (hb hby at_298) kq) ?_
                  refine own_Go.by (fun tq kq => XS.goto X178.here hx rfl (pc0 := 299) (pc' := 303) rfl (hb hby at_299) (by decide) (by decide) kq) ?_
                  refine own_Go.by (fun tq kq => XS.istore X178.here hx rfl (hb hby at_303) rfl (l' := #[sI p1, sI p2, sI p3, sI c0x, sI c1x, sI la, sI (p3 &&& (3 : Int32)), sI d0x, sI d1x, sI lb, sR x_1, sR x_4, sR sa108, sI (1 : Int32), sR ob170, sR ob175, sI (1 : Int32), .unset]) rfl kq) ?_
                  exact g_ex _ (Or.inl ⟨rfl, (own_exp (own_r3p hv_la) h_d0x_d1x_lb.2.2).mpr ⟨hc270_201, Or.inr hc282_205, Or.inl hc288_206⟩⟩)
                ·
                  refine own_Go.by (fun tq kq => XS.icmpNo X178.here hx rfl (hb hby at_288) rfl (flt hc288_206).1 kq) ?_
                  refine own_Go.by (fun tq kq => XS.iload X178.here hx rfl (hb hby at_291) rfl kq) ?_
                  refine own_Go.by (fun tq kq => XS.iload X178.here hx rfl (hb hby at_293) rfl kq) ?_
                  show own_Go _ _ _ _ (T178.setTop (mkF m 295 #[sI p1, sI p2, sI p3, sI c0x, sI c1x, sI la, sI (p3 &&& (3 : Int32)), sI d0x, sI d1x, sI lb, sR x_1, sR x_4, sR sa108, sI (1 : Int32), sR ob170, sR ob175, .unset, .unset] [(Value.int d1x), (Value.int c1x)]))
                  by_cases hc295_207 : c1x = d1x
                  ·
                    refine own_Go.by (fun tq kq => XS.icmpNo X178.here hx rfl (hb hby at_295) rfl (teq hc295_207).2 kq) ?_
                    refine own_Go.by (fun tq kq => XS.iconst X178.here hx rfl (hb hby at_298) kq) ?_
                    refine own_Go.by (fun tq kq => XS.goto X178.here hx rfl (pc0 := 299) (pc' := 303) rfl (hb hby at_299) (by decide) (by decide) kq) ?_
                    refine own_Go.by (fun tq kq => XS.istore X178.here hx rfl (hb hby at_303) rfl (l' := #[sI p1, sI p2, sI p3, sI c0x, sI c1x, sI la, sI (p3 &&& (3 : Int32)), sI d0x, sI d1x, sI lb, sR x_1, sR x_4, sR sa108, sI (1 : Int32), sR ob170, sR ob175, sI (1 : Int32), .unset]) rfl kq) ?_
                    exact g_ex _ (Or.inl ⟨rfl, (own_exp (own_r3p hv_la) h_d0x_d1x_lb.2.2).mpr ⟨hc270_201, Or.inr hc282_205, Or.inr hc295_207⟩⟩)
                  ·
                    refine own_Go.by (fun tq kq => XS.icmpYes X178.here hx rfl (pc0 := 295) (pc' := 302) rfl (hb hby at_295) rfl (feq hc295_207).2 (by decide) (by decide) kq) ?_
                    refine own_Go.by (fun tq kq => XS.iconst X178.here hx rfl (hb hby at_302) kq) ?_
                    refine own_Go.by (fun tq kq => XS.istore X178.here hx rfl (hb hby at_303) rfl (l' := #[sI p1, sI p2, sI p3, sI c0x, sI c1x, sI la, sI (p3 &&& (3 : Int32)), sI d0x, sI d1x, sI lb, sR x_1, sR x_4, sR sa108, sI (1 : Int32), sR ob170, sR ob175, sI (0 : Int32), .unset]) rfl kq) ?_
                    exact g_ex _ (Or.inr ⟨rfl, fun q => (fun z => z.2.2.elim hc288_206 hc295_207) ((own_exp (own_r3p hv_la) h_d0x_d1x_lb.2.2).mp q)⟩)
              ·
                refine own_Go.by (fun tq kq => XS.icmpYes X178.here hx rfl (pc0 := 282) (pc' := 302) rfl (hb hby at_282) rfl (feq hc282_205).2 (by decide) (by decide) kq) ?_
                refine own_Go.by (fun tq kq => XS.iconst X178.here hx rfl (hb hby at_302) kq) ?_
                refine own_Go.by (fun tq kq => XS.istore X178.here hx rfl (hb hby at_303) rfl (l' := #[sI p1, sI p2, sI p3, sI c0x, sI c1x, sI la, sI (p3 &&& (3 : Int32)), sI d0x, sI d1x, sI lb, sR x_1, sR x_4, sR sa108, sI (1 : Int32), sR ob170, sR ob175, sI (0 : Int32), .unset]) rfl kq) ?_
                exact g_ex _ (Or.inr ⟨rfl, fun q => (fun z => z.2.1.elim hc276_202 hc282_205) ((own_exp (own_r3p hv_la) h_d0x_d1x_lb.2.2).mp q)⟩)
          ·
            refine own_Go.by (fun tq kq => XS.icmpYes X178.here hx rfl (pc0 := 270) (pc' := 302) rfl (hb hby at_270) rfl (feq hc270_201).2 (by decide) (by decide) kq) ?_
            refine own_Go.by (fun tq kq => XS.iconst X178.here hx rfl (hb hby at_302) kq) ?_
            refine own_Go.by (fun tq kq => XS.istore X178.here hx rfl (hb hby at_303) rfl (l' := #[sI p1, sI p2, sI p3, sI c0x, sI c1x, sI la, sI (p3 &&& (3 : Int32)), sI d0x, sI d1x, sI lb, sR x_1, sR x_4, sR sa108, sI (1 : Int32), sR ob170, sR ob175, sI (0 : Int32), .unset]) rfl kq) ?_
            exact g_ex _ (Or.inr ⟨rfl, fun q => (fun z => hc270_201 z.1) ((own_exp (own_r3p hv_la) h_d0x_d1x_lb.2.2).mp q)⟩)
  ·
    intro g_d0x_d1x_lb
    refine own_Go.by (fun tq kq => XS.iload X0.here hx rfl (hb hby at_34) rfl kq) ?_
    show own_Go _ _ _ _ (s₁.setTop (mkF m 36 #[sI p1, sI p2, sI p3, sI c0x, sI c1x, sI la, sI (p3 &&& (3 : Int32)), .unset, .unset, .unset, .unset, .unset, .unset, .unset, .unset, .unset, .unset, .unset] [(Value.int (p3 &&& (3 : Int32)))]))
    by_cases hc36_208 : (p3 &&& (3 : Int32)) = (0 : Int32)
    ·
      refine own_Go.by (fun tq kq => XS.ifNo X0.here hx rfl (hb hby at_36) rfl ((if0 _ _).trans (teq hc36_208).2) kq) ?_
      refine own_Go.by (fun tq kq => XS.iloadN X0.here hx rfl (hb hby at_39) rfl kq) ?_
      refine own_Go.by (fun tq kq => XS.istore X0.here hx rfl (hb hby at_40) rfl (l' := #[sI p1, sI p2, sI p3, sI c0x, sI c1x, sI la, sI (p3 &&& (3 : Int32)), sI c0x, .unset, .unset, .unset, .unset, .unset, .unset, .unset, .unset, .unset, .unset]) rfl kq) ?_
      refine own_Go.by (fun tq kq => XS.iload X0.here hx rfl (hb hby at_42) rfl kq) ?_
      show own_Go _ _ _ _ (s₁.setTop (mkF m 44 #[sI p1, sI p2, sI p3, sI c0x, sI c1x, sI la, sI (p3 &&& (3 : Int32)), sI c0x, .unset, .unset, .unset, .unset, .unset, .unset, .unset, .unset, .unset, .unset] [(Value.int c1x)]))
      refine own_Go.by (fun tq kq => XS.istore X0.here hx rfl (hb hby at_44) rfl (l' := #[sI p1, sI p2, sI p3, sI c0x, sI c1x, sI la, sI (p3 &&& (3 : Int32)), sI c0x, sI c1x, .unset, .unset, .unset, .unset, .unset, .unset, .unset, .unset, .unset]) rfl kq) ?_
      refine own_Go.by (fun tq kq => XS.iload X0.here hx rfl (hb hby at_46) rfl kq) ?_
      refine own_Go.by (fun tq kq => XS.istore X0.here hx rfl (hb hby at_48) rfl (l' := #[sI p1, sI p2, sI p3, sI c0x, sI c1x, sI la, sI (p3 &&& (3 : Int32)), sI c0x, sI c1x, sI la, .unset, .unset, .unset, .unset, .unset, .unset, .unset, .unset]) rfl kq) ?_
      refine own_Go.by (fun tq kq => XS.goto X0.here hx rfl (pc0 := 50) (pc' := 134) rfl (hb hby at_50) (by decide) (by decide) kq) ?_
      exact g_d0x_d1x_lb (c0x, c1x, la) ⟨(own_b255 hv_c0x).1, (own_b255 hv_c1x).1, own_r3p hv_la⟩
    ·
      refine own_Go.by (fun tq kq => XS.ifYes X0.here hx rfl (pc0 := 36) (pc' := 53) rfl (hb hby at_36) rfl ((if0 _ _).trans (feq hc36_208).2) (by decide) (by decide) kq) ?_
      refine own_Go.by (fun tq kq => XS.iload X0.here hx rfl (hb hby at_53) rfl kq) ?_
      refine own_Go.by (fun tq kq => XS.iconst X0.here hx rfl (hb hby at_55) kq) ?_
      show own_Go _ _ _ _ (s₁.setTop (mkF m 56 #[sI p1, sI p2, sI p3, sI c0x, sI c1x, sI la, sI (p3 &&& (3 : Int32)), .unset, .unset, .unset, .unset, .unset, .unset, .unset, .unset, .unset, .unset, .unset] [(Value.int (1 : Int32)), (Value.int (p3 &&& (3 : Int32)))]))
      by_cases hc56_209 : (p3 &&& (3 : Int32)) = (1 : Int32)
      ·
        refine own_Go.by (fun tq kq => XS.icmpNo X0.here hx rfl (hb hby at_56) rfl (teq hc56_209).2 kq) ?_
        refine own_Go.by (fun tq kq => XS.iloadN X0.here hx rfl (hb hby at_59) rfl kq) ?_
        refine own_Go.by (fun tq kq => XS.istore X0.here hx rfl (hb hby at_60) rfl (l' := #[sI p1, sI p2, sI p3, sI c0x, sI c1x, sI la, sI (p3 &&& (3 : Int32)), sI c0x, .unset, .unset, .unset, .unset, .unset, .unset, .unset, .unset, .unset, .unset]) rfl kq) ?_
        refine own_Go.by (fun tq kq => XS.iloadN X0.here hx rfl (hb hby at_62) rfl kq) ?_
        show own_Go _ _ _ _ (s₁.setTop (mkF m 63 #[sI p1, sI p2, sI p3, sI c0x, sI c1x, sI la, sI (p3 &&& (3 : Int32)), sI c0x, .unset, .unset, .unset, .unset, .unset, .unset, .unset, .unset, .unset, .unset] [(Value.int p2)]))
        refine own_Go.by (fun tq kq => XS.sipush X0.here hx rfl (hb hby at_63) kq) ?_
        refine own_Go.by (fun tq kq => XS.iand X0.here hx rfl (hb hby at_66) rfl kq) ?_
        refine own_Go.by (fun tq kq => XS.i2c X0.here hx rfl (hb hby at_67) rfl kq) ?_
        refine own_Go.by (fun tq kq => XS.istore X0.here hx rfl (hb hby at_68) rfl (l' := #[sI p1, sI p2, sI p3, sI c0x, sI c1x, sI la, sI (p3 &&& (3 : Int32)), sI c0x, sI ((p2 &&& (255 : Int32)).toUInt32.toUInt16.toUInt32.toInt32), .unset, .unset, .unset, .unset, .unset, .unset, .unset, .unset, .unset]) rfl kq) ?_
        show own_Go _ _ _ _ (s₁.setTop (mkF m 70 #[sI p1, sI p2, sI p3, sI c0x, sI c1x, sI la, sI (p3 &&& (3 : Int32)), sI c0x, sI ((p2 &&& (255 : Int32)).toUInt32.toUInt16.toUInt32.toInt32), .unset, .unset, .unset, .unset, .unset, .unset, .unset, .unset, .unset] []))
        refine own_Go.by (fun tq kq => XS.iload X0.here hx rfl (hb hby at_70) rfl kq) ?_
        refine own_Go.by (fun tq kq => XS.istore X0.here hx rfl (hb hby at_72) rfl (l' := #[sI p1, sI p2, sI p3, sI c0x, sI c1x, sI la, sI (p3 &&& (3 : Int32)), sI c0x, sI ((p2 &&& (255 : Int32)).toUInt32.toUInt16.toUInt32.toInt32), sI la, .unset, .unset, .unset, .unset, .unset, .unset, .unset, .unset]) rfl kq) ?_
        refine own_Go.by (fun tq kq => XS.goto X0.here hx rfl (pc0 := 74) (pc' := 134) rfl (hb hby at_74) (by decide) (by decide) kq) ?_
        exact g_d0x_d1x_lb (c0x, ((p2 &&& (255 : Int32)).toUInt32.toUInt16.toUInt32.toInt32), la) ⟨(own_b255 hv_c0x).1, (own_b255 rfl).1, own_r3p hv_la⟩
      ·
        refine own_Go.by (fun tq kq => XS.icmpYes X0.here hx rfl (pc0 := 56) (pc' := 77) rfl (hb hby at_56) rfl (feq hc56_209).2 (by decide) (by decide) kq) ?_
        refine own_Go.by (fun tq kq => XS.iload X0.here hx rfl (hb hby at_77) rfl kq) ?_
        refine own_Go.by (fun tq kq => XS.iconst X0.here hx rfl (hb hby at_79) kq) ?_
        show own_Go _ _ _ _ (s₁.setTop (mkF m 80 #[sI p1, sI p2, sI p3, sI c0x, sI c1x, sI la, sI (p3 &&& (3 : Int32)), .unset, .unset, .unset, .unset, .unset, .unset, .unset, .unset, .unset, .unset, .unset] [(Value.int (2 : Int32)), (Value.int (p3 &&& (3 : Int32)))]))
        by_cases hc80_210 : (p3 &&& (3 : Int32)) = (2 : Int32)
        ·
          refine own_Go.by (fun tq kq => XS.icmpNo X0.here hx rfl (hb hby at_80) rfl (teq hc80_210).2 kq) ?_
          refine own_Go.by (fun tq kq => XS.iloadN X0.here hx rfl (hb hby at_83) rfl kq) ?_
          refine own_Go.by (fun tq kq => XS.sipush X0.here hx rfl (hb hby at_84) kq) ?_
          refine own_Go.by (fun tq kq => XS.iand X0.here hx rfl (hb hby at_87) rfl kq) ?_
          show own_Go _ _ _ _ (s₁.setTop (mkF m 88 #[sI p1, sI p2, sI p3, sI c0x, sI c1x, sI la, sI (p3 &&& (3 : Int32)), .unset, .unset, .unset, .unset, .unset, .unset, .unset, .unset, .unset, .unset, .unset] [(Value.int (p2 &&& (255 : Int32)))]))
          refine own_Go.by (fun tq kq => XS.i2c X0.here hx rfl (hb hby at_88) rfl kq) ?_
          refine own_Go.by (fun tq kq => XS.istore X0.here hx rfl (hb hby at_89) rfl (l' := #[sI p1, sI p2, sI p3, sI c0x, sI c1x, sI la, sI (p3 &&& (3 : Int32)), sI ((p2 &&& (255 : Int32)).toUInt32.toUInt16.toUInt32.toInt32), .unset, .unset, .unset, .unset, .unset, .unset, .unset, .unset, .unset, .unset]) rfl kq) ?_
          refine own_Go.by (fun tq kq => XS.iloadN X0.here hx rfl (hb hby at_91) rfl kq) ?_
          refine own_Go.by (fun tq kq => XS.bipush X0.here hx rfl (hb hby at_92) kq) ?_
          show own_Go _ _ _ _ (s₁.setTop (mkF m 94 #[sI p1, sI p2, sI p3, sI c0x, sI c1x, sI la, sI (p3 &&& (3 : Int32)), sI ((p2 &&& (255 : Int32)).toUInt32.toUInt16.toUInt32.toInt32), .unset, .unset, .unset, .unset, .unset, .unset, .unset, .unset, .unset, .unset] [(Value.int (8 : Int32)), (Value.int p2)]))
          refine own_Go.by (fun tq kq => XS.iushr X0.here hx rfl (hb hby at_94) rfl kq) ?_
          refine own_Go.by (fun tq kq => XS.sipush X0.here hx rfl (hb hby at_95) kq) ?_
          refine own_Go.by (fun tq kq => XS.iand X0.here hx rfl (hb hby at_98) rfl kq) ?_
          refine own_Go.by (fun tq kq => XS.i2c X0.here hx rfl (hb hby at_99) rfl kq) ?_
          show own_Go _ _ _ _ (s₁.setTop (mkF m 100 #[sI p1, sI p2, sI p3, sI c0x, sI c1x, sI la, sI (p3 &&& (3 : Int32)), sI ((p2 &&& (255 : Int32)).toUInt32.toUInt16.toUInt32.toInt32), .unset, .unset, .unset, .unset, .unset, .unset, .unset, .unset, .unset, .unset] [(Value.int ((((p2.toUInt32 >>> ((8 : Int32) &&& 31).toUInt32).toInt32) &&& (255 : Int32)).toUInt32.toUInt16.toUInt32.toInt32))]))
          refine own_Go.by (fun tq kq => XS.istore X0.here hx rfl (hb hby at_100) rfl (l' := #[sI p1, sI p2, sI p3, sI c0x, sI c1x, sI la, sI (p3 &&& (3 : Int32)), sI ((p2 &&& (255 : Int32)).toUInt32.toUInt16.toUInt32.toInt32), .val (Value.int ((((p2.toUInt32 >>> ((8 : Int32) &&& 31).toUInt32).toInt32) &&& (255 : Int32)).toUInt32.toUInt16.toUInt32.toInt32)), .unset, .unset, .unset, .unset, .unset, .unset, .unset, .unset, .unset]) rfl kq) ?_
          refine own_Go.by (fun tq kq => XS.iloadN X0.here hx rfl (hb hby at_102) rfl kq) ?_
          refine own_Go.by (fun tq kq => XS.bipush X0.here hx rfl (hb hby at_103) kq) ?_
          refine own_Go.by (fun tq kq => XS.iushr X0.here hx rfl (hb hby at_105) rfl kq) ?_
          show own_Go _ _ _ _ (s₁.setTop (mkF m 106 #[sI p1, sI p2, sI p3, sI c0x, sI c1x, sI la, sI (p3 &&& (3 : Int32)), sI ((p2 &&& (255 : Int32)).toUInt32.toUInt16.toUInt32.toInt32), .val (Value.int ((((p2.toUInt32 >>> ((8 : Int32) &&& 31).toUInt32).toInt32) &&& (255 : Int32)).toUInt32.toUInt16.toUInt32.toInt32)), .unset, .unset, .unset, .unset, .unset, .unset, .unset, .unset, .unset] [(Value.int ((p2.toUInt32 >>> ((16 : Int32) &&& 31).toUInt32).toInt32))]))
          refine own_Go.by (fun tq kq => X0.ldcInt hx hown (mvT hZ (hw _ (List.mem_of_getElem? (i := 0) rfl))) (g := (mkF m 106 #[sI p1, sI p2, sI p3, sI c0x, sI c1x, sI la, sI (p3 &&& (3 : Int32)), sI ((p2 &&& (255 : Int32)).toUInt32.toUInt16.toUInt32.toInt32), .val (Value.int ((((p2.toUInt32 >>> ((8 : Int32) &&& 31).toUInt32).toInt32) &&& (255 : Int32)).toUInt32.toUInt16.toUInt32.toInt32)), .unset, .unset, .unset, .unset, .unset, .unset, .unset, .unset, .unset] [(Value.int ((p2.toUInt32 >>> ((16 : Int32) &&& 31).toUInt32).toInt32))])) rfl (hb hby at_106) _ kq) ?_
          refine own_Go.by (fun tq kq => XS.iand X0.here hx rfl (hb hby at_108) rfl kq) ?_
          refine own_Go.by (fun tq kq => XS.iconst X0.here hx rfl (hb hby at_109) kq) ?_
          show own_Go _ _ _ _ (s₁.setTop (mkF m 110 #[sI p1, sI p2, sI p3, sI c0x, sI c1x, sI la, sI (p3 &&& (3 : Int32)), sI ((p2 &&& (255 : Int32)).toUInt32.toUInt16.toUInt32.toInt32), .val (Value.int ((((p2.toUInt32 >>> ((8 : Int32) &&& 31).toUInt32).toInt32) &&& (255 : Int32)).toUInt32.toUInt16.toUInt32.toInt32)), .unset, .unset, .unset, .unset, .unset, .unset, .unset, .unset, .unset] [(Value.int (3 : Int32)), (Value.int (((p2.toUInt32 >>> ((16 : Int32) &&& 31).toUInt32).toInt32) &&& (65535 : Int32)))]))
          refine own_Go.by (fun tq kq => iremM (g := (mkF m 110 #[sI p1, sI p2, sI p3, sI c0x, sI c1x, sI la, sI (p3 &&& (3 : Int32)), sI ((p2 &&& (255 : Int32)).toUInt32.toUInt16.toUInt32.toInt32), .val (Value.int ((((p2.toUInt32 >>> ((8 : Int32) &&& 31).toUInt32).toInt32) &&& (255 : Int32)).toUInt32.toUInt16.toUInt32.toInt32)), .unset, .unset, .unset, .unset, .unset, .unset, .unset, .unset, .unset] [(Value.int (3 : Int32)), (Value.int (((p2.toUInt32 >>> ((16 : Int32) &&& 31).toUInt32).toInt32) &&& (65535 : Int32)))])) X0 hx rfl (hb hby at_110) rfl (by decide) kq) ?_
          refine own_Go.by (fun tq kq => XS.istore X0.here hx rfl (hb hby at_111) rfl (l' := #[sI p1, sI p2, sI p3, sI c0x, sI c1x, sI la, sI (p3 &&& (3 : Int32)), sI ((p2 &&& (255 : Int32)).toUInt32.toUInt16.toUInt32.toInt32), .val (Value.int ((((p2.toUInt32 >>> ((8 : Int32) &&& 31).toUInt32).toInt32) &&& (255 : Int32)).toUInt32.toUInt16.toUInt32.toInt32)), .val (Value.int ((((p2.toUInt32 >>> ((16 : Int32) &&& 31).toUInt32).toInt32) &&& (65535 : Int32)) % (3 : Int32))), .unset, .unset, .unset, .unset, .unset, .unset, .unset, .unset]) rfl kq) ?_
          refine own_Go.by (fun tq kq => XS.goto X0.here hx rfl (pc0 := 113) (pc' := 134) rfl (hb hby at_113) (by decide) (by decide) kq) ?_
          exact g_d0x_d1x_lb (((p2 &&& (255 : Int32)).toUInt32.toUInt16.toUInt32.toInt32), ((((p2.toUInt32 >>> ((8 : Int32) &&& 31).toUInt32).toInt32) &&& (255 : Int32)).toUInt32.toUInt16.toUInt32.toInt32), ((((p2.toUInt32 >>> ((16 : Int32) &&& 31).toUInt32).toInt32) &&& (65535 : Int32)) % (3 : Int32))) ⟨(own_b255 rfl).1, (own_b255 rfl).1, own_r3p rfl⟩
        ·
          refine own_Go.by (fun tq kq => XS.icmpYes X0.here hx rfl (pc0 := 80) (pc' := 116) rfl (hb hby at_80) rfl (feq hc80_210).2 (by decide) (by decide) kq) ?_
          refine own_Go.by (fun tq kq => XS.iloadN X0.here hx rfl (hb hby at_116) rfl kq) ?_
          refine own_Go.by (fun tq kq => XS.istore X0.here hx rfl (hb hby at_117) rfl (l' := #[sI p1, sI p2, sI p3, sI c0x, sI c1x, sI la, sI (p3 &&& (3 : Int32)), sI c0x, .unset, .unset, .unset, .unset, .unset, .unset, .unset, .unset, .unset, .unset]) rfl kq) ?_
          refine own_Go.by (fun tq kq => XS.iload X0.here hx rfl (hb hby at_119) rfl kq) ?_
          show own_Go _ _ _ _ (s₁.setTop (mkF m 121 #[sI p1, sI p2, sI p3, sI c0x, sI c1x, sI la, sI (p3 &&& (3 : Int32)), sI c0x, .unset, .unset, .unset, .unset, .unset, .unset, .unset, .unset, .unset, .unset] [(Value.int c1x)]))
          refine own_Go.by (fun tq kq => XS.istore X0.here hx rfl (hb hby at_121) rfl (l' := #[sI p1, sI p2, sI p3, sI c0x, sI c1x, sI la, sI (p3 &&& (3 : Int32)), sI c0x, sI c1x, .unset, .unset, .unset, .unset, .unset, .unset, .unset, .unset, .unset]) rfl kq) ?_
          refine own_Go.by (fun tq kq => XS.iloadN X0.here hx rfl (hb hby at_123) rfl kq) ?_
          refine own_Go.by (fun tq kq => XS.bipush X0.here hx rfl (hb hby at_124) kq) ?_
          refine own_Go.by (fun tq kq => XS.iushr X0.here hx rfl (hb hby at_126) rfl kq) ?_
          show own_Go _ _ _ _ (s₁.setTop (mkF m 127 #[sI p1, sI p2, sI p3, sI c0x, sI c1x, sI la, sI (p3 &&& (3 : Int32)), sI c0x, sI c1x, .unset, .unset, .unset, .unset, .unset, .unset, .unset, .unset, .unset] [(Value.int ((p2.toUInt32 >>> ((16 : Int32) &&& 31).toUInt32).toInt32))]))
          refine own_Go.by (fun tq kq => X0.ldcInt hx hown (mvT hZ (hw _ (List.mem_of_getElem? (i := 0) rfl))) (g := (mkF m 127 #[sI p1, sI p2, sI p3, sI c0x, sI c1x, sI la, sI (p3 &&& (3 : Int32)), sI c0x, sI c1x, .unset, .unset, .unset, .unset, .unset, .unset, .unset, .unset, .unset] [(Value.int ((p2.toUInt32 >>> ((16 : Int32) &&& 31).toUInt32).toInt32))])) rfl (hb hby at_127) _ kq) ?_
          refine own_Go.by (fun tq kq => XS.iand X0.here hx rfl (hb hby at_129) rfl kq) ?_
          refine own_Go.by (fun tq kq => XS.iconst X0.here hx rfl (hb hby at_130) kq) ?_
          show own_Go _ _ _ _ (s₁.setTop (mkF m 131 #[sI p1, sI p2, sI p3, sI c0x, sI c1x, sI la, sI (p3 &&& (3 : Int32)), sI c0x, sI c1x, .unset, .unset, .unset, .unset, .unset, .unset, .unset, .unset, .unset] [(Value.int (3 : Int32)), (Value.int (((p2.toUInt32 >>> ((16 : Int32) &&& 31).toUInt32).toInt32) &&& (65535 : Int32)))]))
          refine own_Go.by (fun tq kq => iremM (g := (mkF m 131 #[sI p1, sI p2, sI p3, sI c0x, sI c1x, sI la, sI (p3 &&& (3 : Int32)), sI c0x, sI c1x, .unset, .unset, .unset, .unset, .unset, .unset, .unset, .unset, .unset] [(Value.int (3 : Int32)), (Value.int (((p2.toUInt32 >>> ((16 : Int32) &&& 31).toUInt32).toInt32) &&& (65535 : Int32)))])) X0 hx rfl (hb hby at_131) rfl (by decide) kq) ?_
          refine own_Go.by (fun tq kq => XS.istore X0.here hx rfl (hb hby at_132) rfl (l' := #[sI p1, sI p2, sI p3, sI c0x, sI c1x, sI la, sI (p3 &&& (3 : Int32)), sI c0x, sI c1x, .val (Value.int ((((p2.toUInt32 >>> ((16 : Int32) &&& 31).toUInt32).toInt32) &&& (65535 : Int32)) % (3 : Int32))), .unset, .unset, .unset, .unset, .unset, .unset, .unset, .unset]) rfl kq) ?_
          exact g_d0x_d1x_lb (c0x, c1x, ((((p2.toUInt32 >>> ((16 : Int32) &&& 31).toUInt32).toInt32) &&& (65535 : Int32)) % (3 : Int32))) ⟨(own_b255 hv_c0x).1, (own_b255 hv_c1x).1, own_r3p rfl⟩

set_option maxRecDepth 65536 in
set_option maxHeartbeats 40000000 in
theorem comes_1 {Post : Tables → Env → Array Value → State → Outcome → State → Prop} (hpost : ∀ tb e args s v u, (limb_1_1.after args s (.returned v) u = true ∧ limb_1_2.after args s (.returned v) u = true ∧ True) → ReturnedEndW s (.returned v) u (Jvm.fieldLocs frame_1_writes args s ++ Jvm.arrayLocs frame_1_arrays args s ++ Jvm.staticLocs frame_1_statics s) 48 9408 → Post tb e args s (.returned v) u) :
    ArmFor flags0 classFile x code maxLocals ret World_1 tables_1 room_1 Calls_1 rest_1 Pre_1 Post := by
  intro l hfl _ _ p e ha hc hk s m args below hf hA hF happ hP
  obtain ⟨hcalls, hrest, hpre⟩ := hP
  obtain ⟨-, -, -, hnamed, -, -, -, hat⟩ := (Spec.applies_iff hf).mp happ
  obtain ⟨hg, hn⟩ := and_e (Cond.before_iff.mp (show (Jvm.Cond.and given_1 narrow_1).before args s = true from hpre))
  obtain ⟨hcount, hg⟩ := and_e hg
  obtain ⟨hg0, hg⟩ := and_e hg
  obtain ⟨hg1, hg⟩ := and_e hg
  have hg2 := hg
  obtain ⟨w0, w1, w2, rfl⟩ : ∃ w0 w1 w2 : Value, args = #[w0, w1, w2] := by
    have hs : args.size = 3 := by simpa [Cond.value, given_1] using hcount
    obtain ⟨L⟩ := args
    match L, hs with
    | [w0, w1, w2], _ => exact ⟨w0, w1, w2, rfl⟩
  have hw := fun d (hd : d ∈ tables_1) => atoms_spec (ws := Jvm.Cond.code x code maxLocals ret :: tables_1) hat d (List.mem_cons_of_mem _ hd)
  have hfit : Fit s := fun {y c} hc i hi => by
    obtain ⟨ha, rfl⟩ := Array.getElem?_eq_some_iff.mp hc
    have q := List.all_eq_true.mp ((Array.all_eq_true_iff_forall_mem.mp hF) _ (Array.getElem_mem ha)) i (List.mem_range.mpr hi)
    simpa [Array.getElem?_eq_getElem hi] using q
  obtain ⟨i0, ei0⟩ := is_v hg0
  obtain rfl : w0 = (.int i0) := Option.some.inj ei0
  obtain ⟨i1, ei1⟩ := is_v hg1
  obtain rfl : w1 = (.int i1) := Option.some.inj ei1
  obtain ⟨i2, ei2⟩ := is_v hg2
  obtain rfl : w2 = (.int i2) := Option.some.inj ei2
  obtain ⟨hsets, hown0⟩ := atoms_of _ (rest_1_c_eq ▸ (show rest_1_c.before _ s = true from hrest))
  have hcs0 := not_v (Cond.before_iff.mp (hsets _ (List.mem_of_getElem? (i := 2) rfl)))
  obtain ⟨zc, ezc⟩ := is_v (Cond.before_iff.mp (hsets _ (List.mem_of_getElem? (i := 1) rfl)))
  have SC : Sta s s.heap "java/lang/String" "COMPACT_STRINGS" "Z" (.int zc) := Sta.start ezc (Or.inl (hsets _ (List.mem_of_getElem? (i := 0) rfl)))
  have hzc : ¬ (zc = (0 : Int32)) := gotF (Cond.eq_ints ezc (Term.int_eval (0))) hcs0
  have hCH : CHv s consts_1 s.vm s.heap := CHv.start (own_hEL hw) (fun q hq => hcalls.1 q hq) (show Jvm.Lit.compactW.before _ s = true from hsets _ (List.mem_of_getElem? (i := 2) rfl)) (hw _ (List.mem_of_getElem? (i := 20) rfl)) (hw _ (List.mem_of_getElem? (i := 6) rfl))
  obtain ⟨n, o, h1, h2, h3, _, L, rfl, ⟨rfl, N, -⟩, -, hq⟩ := rm0 l s _ hw tables_1 i0 i1 i2 zc s.heap s.heap.size (Old.start s) SC hzc p e ha hc hk s m _ below hf ((Spec.applies_iff_loose hf).mp happ).1 ⟨rfl, State.Warmed39.refl s, rfl, hCH⟩ trivial
  refine ⟨n, _, h1, h2, h3, hpost _ _ _ _ _ _ ⟨Cond.after_iff.mpr rfl, Cond.after_iff.mpr (eq_i res_at (Term.int_eval (1)) rfl), trivial⟩ ⟨hq.1, hq.2.1, hq.2.2.1, (hq.2.2.2.sift fun y hy => Or.inr (N y hy)).mono (by decide) (by decide)⟩⟩
theorem main_1_1 : Claimed_1_1 := comes_1 fun _ _ _ _ _ _ h hF => ⟨h.1, hF⟩
theorem main_1_2 : Claimed_1_2 := comes_1 fun _ _ _ _ _ _ h hF => ⟨h.2.1, hF⟩
end Jvm.Pilot.@@N@@
namespace Jvm.Pilot.@@N@@
open Jvm Jvm.ClassFile Sem Op Lib Jvm.Free Jvm.Stand Jvm.Pilot.@@N@@.Jvm.D
/-! MADE BY PROGRAM (witnessworld.py) out of the Statement's table words and the real class files: 20 classes; the members and pool entries that the words name. The judged class is class 1, her method 2. -/
namespace start1
open Jvm.ClassFile
def u (s : String) : CpInfo := .utf8 (stringToUtf16 s)
/-- a pool by its gaps: so many unusable entries, then the entry; so many at the end -/
def gap : Nat → List CpInfo → List CpInfo
  | 0, r => r
  | n + 1, r => .unusable :: gap n r
def poolList (es : List (Nat × CpInfo)) (last : Nat) : List CpInfo := es.foldr (fun e r => gap e.1 (e.2 :: r)) (gap last [])
def pool (es : List (Nat × CpInfo)) (last : Nat) : Array CpInfo := ⟨poolList es last⟩
def fileOf (pool : Array CpInfo) (this : Nat) (attrs : Array Attribute := #[]) (ms : Array MethodInfo := #[]) (fl : Nat := 33) (sup : Nat := 0) (ifs : Array Nat := #[]) (fds : Array FieldInfo := #[]) : ClassFile where
  minorVersion := 0
  majorVersion := 65
  constantPool := pool
  accessFlags := fl
  thisClass := this
  superClass := sup
  interfaces := ifs
  fields := fds
  methods := ms
  attributes := attrs
def plain (name : String) (sup : Option ClassId) : Class where
  name := name
  kind := .ordinary
  loader := none
  accessFlags := 33
  super := sup
  interfaces := #[]
  cf := none
  fields := #[]
  methods := #[]
  instanceTypes := #[]
  staticTypes := #[]
  resolved := #[]
  callSites := []
  init := .initialized
  statics := none
  mirror := none

def pool0 : Array CpInfo := pool [(5, u "<init>"), (0, u "()V"), (1, .class_ 10), (1, u "java/lang/Object")] 113

def k0c0 : Code := { maxStack := 0, maxLocals := 1, code := object_method_1_code, exceptionTable := #[], attributes := #[] }
def k0m0 : Method := { name := "<init>", desc := "()V", sig := { parameters := [], returnType := none }, accessFlags := 1, code := some k0c0 }
/-- java/lang/Object -/
def k0 : Class := { plain "java/lang/Object" none with
  accessFlags := 33
  interfaces := #[]
  cf := some (fileOf pool0 8 #[] #[{ accessFlags := 1, nameIndex := 5, descriptorIndex := 6, attributes := #[] }] 33 0 #[] #[])
  fields := #[]
  methods := #[k0m0]
  instanceTypes := #[]
  staticTypes := #[]
  resolved := Array.replicate 124 none
  statics := none }

def pool1 : Array CpInfo := pool [(2, .class_ 4), (1, u "java/lang/Object"), (0, u "<init>"), (0, u "()V"), (0, .class_ 8), (0, u "java/lang/String"), (0, .methodref 7 10), (0, .nameAndType 5 11), (0, u "([C)V"), (0, .integer 65535), (0, .methodref 14 15), (0, .class_ 16), (0, .nameAndType 17 18), (0, u "com/example/enlace/enlace/UriReferenceEqualsPinLaw"), (0, u "text"), (0, u "(ICC)Ljava/lang/String;"), (0, .string 20), (0, u "http"), (0, .class_ 22), (0, u "com/example/enlace/enlace/UriReference"), (0, .methodref 21 24), (0, .nameAndType 5 25), (0, u "(Ljava/lang/String;Ljava/lang/String;Ljava/lang/String;Ljava/lang/String;Ljava/lang/String;Ljava/lang/String;Ljava/lang/String;Ljava/lang/String;)V"), (0, .string 27), (0, u "ftp"), (0, .string 29), (0, u "u"), (0, .string 31), (0, u "h"), (0, .string 33), (0, u "8"), (0, .string 35), (0, u "/p"), (0, .string 37), (0, u "q"), (0, .string 39), (0, u "f"), (0, .methodref 21 41), (0, .nameAndType 42 43), (0, u "equals"), (0, u "(Ljava/lang/Object;)Z"), (3, u "law"), (0, u "(III)Z")] 2

def k1m0 : Method := { name := "<init>", desc := "()V", sig := { parameters := [], returnType := none }, accessFlags := 1, code := none }
def k1c1 : Code := { maxStack := 6, maxLocals := 3, code := method_2_code, exceptionTable := #[], attributes := #[] }
def k1m1 : Method := { name := "text", desc := "(ICC)Ljava/lang/String;", sig := { parameters := [.int, .char, .char], returnType := some (.object "java/lang/String") }, accessFlags := 10, code := some k1c1 }
def k1c2 : Code := { maxStack := 10, maxLocals := 18, code := code, exceptionTable := #[], attributes := #[] }
def k1m2 : Method := { name := "law", desc := "(III)Z", sig := { parameters := [.int, .int, .int], returnType := some .boolean }, accessFlags := 9, code := some k1c2 }
/-- com/example/enlace/enlace/UriReferenceEqualsPinLaw -/
def k1 : Class := { plain "com/example/enlace/enlace/UriReferenceEqualsPinLaw" (some 0) with
  accessFlags := 49
  interfaces := #[]
  cf := some (fileOf pool1 14 #[] #[{ accessFlags := 1, nameIndex := 5, descriptorIndex := 6, attributes := #[] }, { accessFlags := 10, nameIndex := 17, descriptorIndex := 18, attributes := #[] }, { accessFlags := 9, nameIndex := 47, descriptorIndex := 48, attributes := #[] }] 49 2 #[] #[])
  fields := #[]
  methods := #[k1m0, k1m1, k1m2]
  instanceTypes := #[]
  staticTypes := #[]
  resolved := Array.replicate 51 none
  statics := none }

def pool2 : Array CpInfo := pool [(1, .class_ 2), (0, u "java/io/Serializable"), (0, .class_ 4), (0, u "java/lang/Object")] 2

/-- java/io/Serializable -/
def k2 : Class := { plain "java/io/Serializable" (some 0) with
  accessFlags := 1537
  interfaces := #[]
  cf := some (fileOf pool2 1 #[] #[] 1537 3 #[] #[])
  fields := #[]
  methods := #[]
  instanceTypes := #[]
  staticTypes := #[]
  resolved := Array.replicate 7 none
  statics := none }

def pool3 : Array CpInfo := pool [(1, .class_ 2), (0, u "java/lang/Comparable"), (0, .class_ 4), (0, u "java/lang/Object")] 7

/-- java/lang/Comparable -/
def k3 : Class := { plain "java/lang/Comparable" (some 0) with
  accessFlags := 1537
  interfaces := #[]
  cf := some (fileOf pool3 1 #[] #[] 1537 3 #[] #[])
  fields := #[]
  methods := #[]
  instanceTypes := #[]
  staticTypes := #[]
  resolved := Array.replicate 12 none
  statics := none }

def pool4 : Array CpInfo := pool [(2, .class_ 4), (1, u "java/lang/CharSequence"), (42, .class_ 48), (0, u "java/lang/CharSequence$1CodePointIterator"), (10, .class_ 60), (0, u "java/lang/CharSequence$1CharIterator"), (5, .class_ 67), (0, u "java/lang/Object")] 63

/-- java/lang/CharSequence -/
def k4 : Class := { plain "java/lang/CharSequence" (some 0) with
  accessFlags := 1537
  interfaces := #[]
  cf := some (fileOf pool4 2 #[.nestMembers #[47, 59]] #[] 1537 66 #[] #[])
  fields := #[]
  methods := #[]
  instanceTypes := #[]
  staticTypes := #[]
  resolved := Array.replicate 131 none
  statics := none }

def pool5 : Array CpInfo := pool [(1, .class_ 2), (0, u "java/lang/constant/Constable"), (0, .class_ 4), (0, u "java/lang/Object")] 6

/-- java/lang/constant/Constable -/
def k5 : Class := { plain "java/lang/constant/Constable" (some 0) with
  accessFlags := 1537
  interfaces := #[]
  cf := some (fileOf pool5 1 #[] #[] 1537 3 #[] #[])
  fields := #[]
  methods := #[]
  instanceTypes := #[]
  staticTypes := #[]
  resolved := Array.replicate 11 none
  statics := none }

def pool6 : Array CpInfo := pool [(1, .class_ 2), (0, u "java/lang/constant/ConstantDesc"), (0, .class_ 4), (0, u "java/lang/Object")] 32

/-- java/lang/constant/ConstantDesc -/
def k6 : Class := { plain "java/lang/constant/ConstantDesc" (some 0) with
  accessFlags := 1537
  interfaces := #[]
  cf := some (fileOf pool6 1 #[] #[] 1537 3 #[] #[])
  fields := #[]
  methods := #[]
  instanceTypes := #[]
  staticTypes := #[]
  resolved := Array.replicate 37 none
  statics := none }

def pool7 : Array CpInfo := pool [(1, .methodref 2 3), (0, .class_ 4), (0, .nameAndType 5 6), (0, u "java/lang/Object"), (0, u "<init>"), (0, u "()V"), (0, .string 8), (0, u ""), (0, .fieldref 10 11), (0, .class_ 12), (0, .nameAndType 13 14), (0, u "java/lang/String"), (0, u "value"), (0, u "[B"), (0, .fieldref 10 16), (0, .nameAndType 17 18), (0, u "coder"), (0, u "B"), (2, u "hash"), (0, u "I"), (2, u "hashIsZero"), (0, u "Z"), (0, .methodref 10 28), (0, .nameAndType 5 29), (0, u "([CIILjava/lang/Void;)V"), (8, .fieldref 10 39), (0, .nameAndType 40 26), (0, u "COMPACT_STRINGS"), (1, .class_ 44), (1, u "java/lang/StringUTF16"), (0, u "compress"), (1, .methodref 42 48), (0, .nameAndType 49 50), (0, u "coderFromArrayLen"), (0, u "([BI)B"), (56, .class_ 109), (1, u "java/lang/StringLatin1"), (67, .methodref 42 178), (0, .nameAndType 45 179), (0, u "([CII)[B"), (361, .methodref 107 542), (0, .nameAndType 543 544), (0, u "equals"), (0, u "([B[B)Z"), (28, u "(Ljava/lang/Object;)Z"), (1, .class_ 576), (0, u "java/lang/CharSequence"), (22, u "CASE_INSENSITIVE_ORDER"), (0, u "Ljava/util/Comparator;"), (409, u "([C)V"), (90, u "serialPersistentFields"), (0, u "[Ljava/io/ObjectStreamField;"), (0, .class_ 1104), (0, u "java/lang/String$CaseInsensitiveComparator"), (1, .class_ 1107), (0, u "java/io/Serializable"), (0, .class_ 1109), (0, u "java/lang/Comparable"), (0, .class_ 1111), (0, u "java/lang/constant/Constable"), (0, .class_ 1113), (0, u "java/lang/constant/ConstantDesc"), (2, u "serialVersionUID"), (0, u "J"), (3, u "REPL"), (0, u "C"), (2, u "LATIN1"), (1, u "UTF16")] 323

def k7m0 : Method := { name := "<init>", desc := "()V", sig := { parameters := [], returnType := none }, accessFlags := 1, code := none }
def k7c1 : Code := { maxStack := 5, maxLocals := 2, code := jdk_42_method_3_code, exceptionTable := #[], attributes := #[] }
def k7m1 : Method := { name := "<init>", desc := "([C)V", sig := { parameters := [(.array .char)], returnType := none }, accessFlags := 1, code := some k7c1 }
def k7c2 : Code := { maxStack := 2, maxLocals := 3, code := jdk_42_method_66_code, exceptionTable := #[], attributes := #[] }
def k7m2 : Method := { name := "equals", desc := "(Ljava/lang/Object;)Z", sig := { parameters := [(.object "java/lang/Object")], returnType := some .boolean }, accessFlags := 1, code := some k7c2 }
def k7c3 : Code := { maxStack := 4, maxLocals := 6, code := jdk_42_method_149_code, exceptionTable := #[], attributes := #[] }
def k7m3 : Method := { name := "<init>", desc := "([CIILjava/lang/Void;)V", sig := { parameters := [(.array .char), .int, .int, (.object "java/lang/Void")], returnType := none }, accessFlags := 2, code := some k7c3 }
/-- java/lang/String -/
def k7 : Class := { plain "java/lang/String" (some 0) with
  accessFlags := 49
  interfaces := #[2, 3, 4, 5, 6]
  cf := some (fileOf pool7 10 #[.nestMembers #[1103]] #[{ accessFlags := 1, nameIndex := 5, descriptorIndex := 6, attributes := #[] }, { accessFlags := 1, nameIndex := 5, descriptorIndex := 1010, attributes := #[] }, { accessFlags := 1, nameIndex := 543, descriptorIndex := 573, attributes := #[] }, { accessFlags := 2, nameIndex := 5, descriptorIndex := 29, attributes := #[] }] 49 2 #[1106, 1108, 575, 1110, 1112] #[{ accessFlags := 18, nameIndex := 13, descriptorIndex := 14, attributes := #[] }, { accessFlags := 18, nameIndex := 17, descriptorIndex := 18, attributes := #[] }, { accessFlags := 2, nameIndex := 21, descriptorIndex := 22, attributes := #[] }, { accessFlags := 2, nameIndex := 25, descriptorIndex := 26, attributes := #[] }, { accessFlags := 26, nameIndex := 1116, descriptorIndex := 1117, attributes := #[] }, { accessFlags := 24, nameIndex := 40, descriptorIndex := 26, attributes := #[] }, { accessFlags := 26, nameIndex := 1101, descriptorIndex := 1102, attributes := #[] }, { accessFlags := 26, nameIndex := 1121, descriptorIndex := 1122, attributes := #[] }, { accessFlags := 25, nameIndex := 599, descriptorIndex := 600, attributes := #[] }, { accessFlags := 24, nameIndex := 1125, descriptorIndex := 18, attributes := #[] }, { accessFlags := 24, nameIndex := 1127, descriptorIndex := 18, attributes := #[] }])
  fields := #[{ name := "value", type := (.array .byte), accessFlags := 18, slot := 0, constantValue := 0 }, { name := "coder", type := .byte, accessFlags := 18, slot := 1, constantValue := 0 }, { name := "hash", type := .int, accessFlags := 2, slot := 2, constantValue := 0 }, { name := "hashIsZero", type := .boolean, accessFlags := 2, slot := 3, constantValue := 0 }, { name := "serialVersionUID", type := .long, accessFlags := 26, slot := 0, constantValue := 0 }, { name := "COMPACT_STRINGS", type := .boolean, accessFlags := 24, slot := 1, constantValue := 0 }, { name := "serialPersistentFields", type := (.array (.object "java/io/ObjectStreamField")), accessFlags := 26, slot := 2, constantValue := 0 }, { name := "REPL", type := .char, accessFlags := 26, slot := 3, constantValue := 0 }, { name := "CASE_INSENSITIVE_ORDER", type := (.object "java/util/Comparator"), accessFlags := 25, slot := 4, constantValue := 0 }, { name := "LATIN1", type := .byte, accessFlags := 24, slot := 5, constantValue := 0 }, { name := "UTF16", type := .byte, accessFlags := 24, slot := 6, constantValue := 0 }]
  methods := #[k7m0, k7m1, k7m2, k7m3]
  instanceTypes := #[(.array .byte), .byte, .int, .boolean]
  staticTypes := #[.long, .boolean, (.array (.object "java/io/ObjectStreamField")), .char, (.object "java/util/Comparator"), .byte, .byte]
  resolved := Array.replicate 1451 none
  statics := some 0 }

def pool8 : Array CpInfo := pool [(1, .methodref 2 3), (0, .class_ 4), (0, .nameAndType 5 6), (0, u "java/lang/Object"), (0, u "<init>"), (0, u "()V"), (0, .fieldref 8 9), (0, .class_ 10), (0, .nameAndType 11 12), (0, u "com/example/enlace/enlace/UriReference"), (0, u "text"), (0, u "Ljava/lang/String;"), (0, .fieldref 8 14), (0, .nameAndType 15 12), (0, u "scheme"), (0, .fieldref 8 17), (0, .nameAndType 18 12), (0, u "userinfo"), (0, .fieldref 8 20), (0, .nameAndType 21 12), (0, u "host"), (0, .fieldref 8 23), (0, .nameAndType 24 12), (0, u "port"), (0, .fieldref 8 26), (0, .nameAndType 27 12), (0, u "path"), (0, .fieldref 8 29), (0, .nameAndType 30 12), (0, u "query"), (0, .fieldref 8 32), (0, .nameAndType 33 12), (0, u "fragment"), (8, .class_ 43), (0, u "java/lang/String"), (50, u "(Ljava/lang/String;Ljava/lang/String;Ljava/lang/String;Ljava/lang/String;Ljava/lang/String;Ljava/lang/String;Ljava/lang/String;Ljava/lang/String;)V"), (26, .nameAndType 122 123), (0, u "equals"), (0, u "(Ljava/lang/Object;)Z"), (20, .methodref 42 121)] 52

def k8c0 : Code := { maxStack := 2, maxLocals := 9, code := prog_18_method_1_code, exceptionTable := #[], attributes := #[] }
def k8m0 : Method := { name := "<init>", desc := "(Ljava/lang/String;Ljava/lang/String;Ljava/lang/String;Ljava/lang/String;Ljava/lang/String;Ljava/lang/String;Ljava/lang/String;Ljava/lang/String;)V", sig := { parameters := [(.object "java/lang/String"), (.object "java/lang/String"), (.object "java/lang/String"), (.object "java/lang/String"), (.object "java/lang/String"), (.object "java/lang/String"), (.object "java/lang/String"), (.object "java/lang/String")], returnType := none }, accessFlags := 0, code := some k8c0 }
def k8c1 : Code := { maxStack := 2, maxLocals := 2, code := prog_18_method_19_code, exceptionTable := #[], attributes := #[] }
def k8m1 : Method := { name := "equals", desc := "(Ljava/lang/Object;)Z", sig := { parameters := [(.object "java/lang/Object")], returnType := some .boolean }, accessFlags := 1, code := some k8c1 }
/-- com/example/enlace/enlace/UriReference -/
def k8 : Class := { plain "com/example/enlace/enlace/UriReference" (some 0) with
  accessFlags := 49
  interfaces := #[]
  cf := some (fileOf pool8 8 #[] #[{ accessFlags := 0, nameIndex := 5, descriptorIndex := 94, attributes := #[] }, { accessFlags := 1, nameIndex := 122, descriptorIndex := 123, attributes := #[] }] 49 2 #[] #[{ accessFlags := 18, nameIndex := 11, descriptorIndex := 12, attributes := #[] }, { accessFlags := 18, nameIndex := 15, descriptorIndex := 12, attributes := #[] }, { accessFlags := 18, nameIndex := 18, descriptorIndex := 12, attributes := #[] }, { accessFlags := 18, nameIndex := 21, descriptorIndex := 12, attributes := #[] }, { accessFlags := 18, nameIndex := 24, descriptorIndex := 12, attributes := #[] }, { accessFlags := 18, nameIndex := 27, descriptorIndex := 12, attributes := #[] }, { accessFlags := 18, nameIndex := 30, descriptorIndex := 12, attributes := #[] }, { accessFlags := 18, nameIndex := 33, descriptorIndex := 12, attributes := #[] }])
  fields := #[{ name := "text", type := (.object "java/lang/String"), accessFlags := 18, slot := 0, constantValue := 0 }, { name := "scheme", type := (.object "java/lang/String"), accessFlags := 18, slot := 1, constantValue := 0 }, { name := "userinfo", type := (.object "java/lang/String"), accessFlags := 18, slot := 2, constantValue := 0 }, { name := "host", type := (.object "java/lang/String"), accessFlags := 18, slot := 3, constantValue := 0 }, { name := "port", type := (.object "java/lang/String"), accessFlags := 18, slot := 4, constantValue := 0 }, { name := "path", type := (.object "java/lang/String"), accessFlags := 18, slot := 5, constantValue := 0 }, { name := "query", type := (.object "java/lang/String"), accessFlags := 18, slot := 6, constantValue := 0 }, { name := "fragment", type := (.object "java/lang/String"), accessFlags := 18, slot := 7, constantValue := 0 }]
  methods := #[k8m0, k8m1]
  instanceTypes := #[(.object "java/lang/String"), (.object "java/lang/String"), (.object "java/lang/String"), (.object "java/lang/String"), (.object "java/lang/String"), (.object "java/lang/String"), (.object "java/lang/String"), (.object "java/lang/String")]
  staticTypes := #[]
  resolved := Array.replicate 197 none
  statics := none }

def pool9 : Array CpInfo := pool [(4, .class_ 6), (1, u "java/lang/Object"), (0, u "<init>"), (0, u "()V"), (5, .class_ 16), (1, u "java/lang/StringLatin1"), (104, u "$assertionsDisabled"), (0, u "Z"), (98, .class_ 223), (1, u "java/lang/StringLatin1$LinesSpliterator"), (57, u "equals"), (0, u "([B[B)Z"), (107, .class_ 391), (0, u "java/lang/StringLatin1$CharsSpliterator")] 3

def k9m0 : Method := { name := "<init>", desc := "()V", sig := { parameters := [], returnType := none }, accessFlags := 0, code := none }
def k9c1 : Code := { maxStack := 3, maxLocals := 3, code := jdk_43_method_13_code, exceptionTable := #[], attributes := #[] }
def k9m1 : Method := { name := "equals", desc := "([B[B)Z", sig := { parameters := [(.array .byte), (.array .byte)], returnType := some .boolean }, accessFlags := 9, code := some k9c1 }
/-- java/lang/StringLatin1 -/
def k9 : Class := { plain "java/lang/StringLatin1" (some 0) with
  accessFlags := 48
  interfaces := #[]
  cf := some (fileOf pool9 14 #[.nestMembers #[390, 221]] #[{ accessFlags := 0, nameIndex := 7, descriptorIndex := 8, attributes := #[] }, { accessFlags := 9, nameIndex := 281, descriptorIndex := 282, attributes := #[] }] 48 4 #[] #[{ accessFlags := 4120, nameIndex := 121, descriptorIndex := 122, attributes := #[] }])
  fields := #[{ name := "$assertionsDisabled", type := .boolean, accessFlags := 4120, slot := 0, constantValue := 0 }]
  methods := #[k9m0, k9m1]
  instanceTypes := #[]
  staticTypes := #[.boolean]
  resolved := Array.replicate 395 none
  statics := none }

def pool10 : Array CpInfo := pool [(6, .class_ 8), (1, u "java/lang/Object"), (0, u "<init>"), (0, u "()V"), (1, .class_ 14), (1, u "java/lang/StringUTF16"), (31, u "$assertionsDisabled"), (0, u "Z"), (13, u "HI_BYTE_SHIFT"), (0, u "I"), (2, u "LO_BYTE_SHIFT"), (49, .methodref 12 116), (0, .nameAndType 117 118), (0, u "compress"), (0, u "([CI[BII)I"), (3, u "([CII)[B"), (138, u "coderFromArrayLen"), (0, u "([BI)B"), (106, .class_ 371), (1, u "java/lang/StringUTF16$LinesSpliterator"), (58, u "MAX_LENGTH"), (196, .class_ 628), (0, u "java/lang/StringUTF16$CodePointsSpliterator"), (0, .class_ 630), (0, u "java/lang/StringUTF16$CharsSpliterator")] 4

def k10m0 : Method := { name := "<init>", desc := "()V", sig := { parameters := [], returnType := none }, accessFlags := 0, code := none }
def k10c1 : Code := { maxStack := 2, maxLocals := 2, code := jdk_52_method_15_code, exceptionTable := #[], attributes := #[] }
def k10m1 : Method := { name := "coderFromArrayLen", desc := "([BI)B", sig := { parameters := [(.array .byte), .int], returnType := some .byte }, accessFlags := 8, code := some k10c1 }
def k10c2 : Code := { maxStack := 5, maxLocals := 6, code := jdk_52_method_16_code, exceptionTable := #[], attributes := #[] }
def k10m2 : Method := { name := "compress", desc := "([CII)[B", sig := { parameters := [(.array .char), .int, .int], returnType := some (.array .byte) }, accessFlags := 9, code := some k10c2 }
def k10c3 : Code := { maxStack := 3, maxLocals := 7, code := jdk_52_method_21_code, exceptionTable := #[], attributes := #[] }
def k10m3 : Method := { name := "compress", desc := "([CI[BII)I", sig := { parameters := [(.array .char), .int, (.array .byte), .int, .int], returnType := some .int }, accessFlags := 9, code := some k10c3 }
/-- java/lang/StringUTF16 -/
def k10 : Class := { plain "java/lang/StringUTF16" (some 0) with
  accessFlags := 48
  interfaces := #[]
  cf := some (fileOf pool10 12 #[.nestMembers #[627, 629, 369]] #[{ accessFlags := 0, nameIndex := 9, descriptorIndex := 10, attributes := #[] }, { accessFlags := 8, nameIndex := 261, descriptorIndex := 262, attributes := #[] }, { accessFlags := 9, nameIndex := 117, descriptorIndex := 122, attributes := #[] }, { accessFlags := 9, nameIndex := 117, descriptorIndex := 118, attributes := #[] }] 48 6 #[] #[{ accessFlags := 26, nameIndex := 61, descriptorIndex := 62, attributes := #[] }, { accessFlags := 26, nameIndex := 65, descriptorIndex := 62, attributes := #[] }, { accessFlags := 24, nameIndex := 430, descriptorIndex := 62, attributes := #[] }, { accessFlags := 4120, nameIndex := 46, descriptorIndex := 47, attributes := #[] }])
  fields := #[{ name := "HI_BYTE_SHIFT", type := .int, accessFlags := 26, slot := 0, constantValue := 0 }, { name := "LO_BYTE_SHIFT", type := .int, accessFlags := 26, slot := 1, constantValue := 0 }, { name := "MAX_LENGTH", type := .int, accessFlags := 24, slot := 2, constantValue := 0 }, { name := "$assertionsDisabled", type := .boolean, accessFlags := 4120, slot := 3, constantValue := 0 }]
  methods := #[k10m0, k10m1, k10m2, k10m3]
  instanceTypes := #[]
  staticTypes := #[.int, .int, .int, .boolean]
  resolved := Array.replicate 635 none
  statics := none }

def pool11 : Array CpInfo := pool [(2, .class_ 4), (1, u "java/lang/Object"), (0, u "<init>"), (0, u "()V"), (17, .class_ 26), (1, u "jdk/internal/util/Preconditions"), (28, .class_ 56), (0, u "jdk/internal/util/Preconditions$4"), (57, .class_ 115), (0, u "jdk/internal/util/Preconditions$1"), (7, u "SIOOBE_FORMATTER"), (0, u "Ljava/util/function/BiFunction;"), (0, .class_ 126), (0, u "jdk/internal/util/Preconditions$2"), (3, u "AIOOBE_FORMATTER"), (0, .class_ 132), (0, u "jdk/internal/util/Preconditions$3"), (3, u "IOOBE_FORMATTER")] 57

def k11m0 : Method := { name := "<init>", desc := "()V", sig := { parameters := [], returnType := none }, accessFlags := 1, code := none }
/-- jdk/internal/util/Preconditions -/
def k11 : Class := { plain "jdk/internal/util/Preconditions" (some 0) with
  accessFlags := 33
  interfaces := #[]
  cf := some (fileOf pool11 24 #[.nestMembers #[55, 131, 125, 114]] #[{ accessFlags := 1, nameIndex := 5, descriptorIndex := 6, attributes := #[] }] 33 2 #[] #[{ accessFlags := 25, nameIndex := 123, descriptorIndex := 124, attributes := #[] }, { accessFlags := 25, nameIndex := 130, descriptorIndex := 124, attributes := #[] }, { accessFlags := 25, nameIndex := 136, descriptorIndex := 124, attributes := #[] }])
  fields := #[{ name := "SIOOBE_FORMATTER", type := (.object "java/util/function/BiFunction"), accessFlags := 25, slot := 0, constantValue := 0 }, { name := "AIOOBE_FORMATTER", type := (.object "java/util/function/BiFunction"), accessFlags := 25, slot := 1, constantValue := 0 }, { name := "IOOBE_FORMATTER", type := (.object "java/util/function/BiFunction"), accessFlags := 25, slot := 2, constantValue := 0 }]
  methods := #[k11m0]
  instanceTypes := #[]
  staticTypes := #[(.object "java/util/function/BiFunction"), (.object "java/util/function/BiFunction"), (.object "java/util/function/BiFunction")]
  resolved := Array.replicate 194 none
  statics := some 1 }

def pool12 : Array CpInfo := pool [(9, u "<init>"), (6, .class_ 18), (1, u "java/lang/Object"), (0, u "()V"), (1, .class_ 23), (1, u "jdk/internal/util/ArraysSupport"), (0, u "LOG2_ARRAY_LONG_INDEX_SCALE"), (0, u "I"), (2, u "U"), (0, u "Ljdk/internal/misc/Unsafe;"), (8, u "BIG_ENDIAN"), (0, u "Z"), (8, u "LOG2_BYTE_BIT_SIZE"), (4, u "LOG2_ARRAY_INT_INDEX_SCALE"), (54, u "JLA"), (0, u "Ljdk/internal/access/JavaLangAccess;"), (11, u "LOG2_ARRAY_BOOLEAN_INDEX_SCALE"), (9, u "LOG2_ARRAY_BYTE_INDEX_SCALE"), (5, u "LOG2_ARRAY_CHAR_INDEX_SCALE"), (5, u "LOG2_ARRAY_SHORT_INDEX_SCALE"), (18, u "LOG2_ARRAY_FLOAT_INDEX_SCALE"), (24, u "LOG2_ARRAY_DOUBLE_INDEX_SCALE"), (89, u "T_BOOLEAN"), (2, u "T_CHAR"), (1, u "T_FLOAT"), (1, u "T_DOUBLE"), (1, u "T_BYTE"), (1, u "T_SHORT"), (1, u "T_INT"), (1, u "T_LONG"), (1, u "SOFT_MAX_ARRAY_LENGTH")] 83

def k12m0 : Method := { name := "<init>", desc := "()V", sig := { parameters := [], returnType := none }, accessFlags := 2, code := none }
/-- jdk/internal/util/ArraysSupport -/
def k12 : Class := { plain "jdk/internal/util/ArraysSupport" (some 0) with
  accessFlags := 33
  interfaces := #[]
  cf := some (fileOf pool12 21 #[] #[{ accessFlags := 2, nameIndex := 9, descriptorIndex := 19, attributes := #[] }] 33 16 #[] #[{ accessFlags := 24, nameIndex := 28, descriptorIndex := 29, attributes := #[] }, { accessFlags := 26, nameIndex := 38, descriptorIndex := 39, attributes := #[] }, { accessFlags := 25, nameIndex := 121, descriptorIndex := 25, attributes := #[] }, { accessFlags := 25, nameIndex := 131, descriptorIndex := 25, attributes := #[] }, { accessFlags := 25, nameIndex := 137, descriptorIndex := 25, attributes := #[] }, { accessFlags := 25, nameIndex := 143, descriptorIndex := 25, attributes := #[] }, { accessFlags := 25, nameIndex := 53, descriptorIndex := 25, attributes := #[] }, { accessFlags := 25, nameIndex := 24, descriptorIndex := 25, attributes := #[] }, { accessFlags := 25, nameIndex := 162, descriptorIndex := 25, attributes := #[] }, { accessFlags := 25, nameIndex := 187, descriptorIndex := 25, attributes := #[] }, { accessFlags := 26, nameIndex := 48, descriptorIndex := 25, attributes := #[] }, { accessFlags := 25, nameIndex := 277, descriptorIndex := 25, attributes := #[] }, { accessFlags := 25, nameIndex := 280, descriptorIndex := 25, attributes := #[] }, { accessFlags := 25, nameIndex := 282, descriptorIndex := 25, attributes := #[] }, { accessFlags := 25, nameIndex := 284, descriptorIndex := 25, attributes := #[] }, { accessFlags := 25, nameIndex := 286, descriptorIndex := 25, attributes := #[] }, { accessFlags := 25, nameIndex := 288, descriptorIndex := 25, attributes := #[] }, { accessFlags := 25, nameIndex := 290, descriptorIndex := 25, attributes := #[] }, { accessFlags := 25, nameIndex := 292, descriptorIndex := 25, attributes := #[] }, { accessFlags := 26, nameIndex := 108, descriptorIndex := 109, attributes := #[] }, { accessFlags := 25, nameIndex := 294, descriptorIndex := 25, attributes := #[] }])
  fields := #[{ name := "U", type := (.object "jdk/internal/misc/Unsafe"), accessFlags := 24, slot := 0, constantValue := 0 }, { name := "BIG_ENDIAN", type := .boolean, accessFlags := 26, slot := 1, constantValue := 0 }, { name := "LOG2_ARRAY_BOOLEAN_INDEX_SCALE", type := .int, accessFlags := 25, slot := 2, constantValue := 0 }, { name := "LOG2_ARRAY_BYTE_INDEX_SCALE", type := .int, accessFlags := 25, slot := 3, constantValue := 0 }, { name := "LOG2_ARRAY_CHAR_INDEX_SCALE", type := .int, accessFlags := 25, slot := 4, constantValue := 0 }, { name := "LOG2_ARRAY_SHORT_INDEX_SCALE", type := .int, accessFlags := 25, slot := 5, constantValue := 0 }, { name := "LOG2_ARRAY_INT_INDEX_SCALE", type := .int, accessFlags := 25, slot := 6, constantValue := 0 }, { name := "LOG2_ARRAY_LONG_INDEX_SCALE", type := .int, accessFlags := 25, slot := 7, constantValue := 0 }, { name := "LOG2_ARRAY_FLOAT_INDEX_SCALE", type := .int, accessFlags := 25, slot := 8, constantValue := 0 }, { name := "LOG2_ARRAY_DOUBLE_INDEX_SCALE", type := .int, accessFlags := 25, slot := 9, constantValue := 0 }, { name := "LOG2_BYTE_BIT_SIZE", type := .int, accessFlags := 26, slot := 10, constantValue := 0 }, { name := "T_BOOLEAN", type := .int, accessFlags := 25, slot := 11, constantValue := 0 }, { name := "T_CHAR", type := .int, accessFlags := 25, slot := 12, constantValue := 0 }, { name := "T_FLOAT", type := .int, accessFlags := 25, slot := 13, constantValue := 0 }, { name := "T_DOUBLE", type := .int, accessFlags := 25, slot := 14, constantValue := 0 }, { name := "T_BYTE", type := .int, accessFlags := 25, slot := 15, constantValue := 0 }, { name := "T_SHORT", type := .int, accessFlags := 25, slot := 16, constantValue := 0 }, { name := "T_INT", type := .int, accessFlags := 25, slot := 17, constantValue := 0 }, { name := "T_LONG", type := .int, accessFlags := 25, slot := 18, constantValue := 0 }, { name := "JLA", type := (.object "jdk/internal/access/JavaLangAccess"), accessFlags := 26, slot := 19, constantValue := 0 }, { name := "SOFT_MAX_ARRAY_LENGTH", type := .int, accessFlags := 25, slot := 20, constantValue := 0 }]
  methods := #[k12m0]
  instanceTypes := #[]
  staticTypes := #[(.object "jdk/internal/misc/Unsafe"), .boolean, .int, .int, .int, .int, .int, .int, .int, .int, .int, .int, .int, .int, .int, .int, .int, .int, .int, (.object "jdk/internal/access/JavaLangAccess"), .int]
  resolved := Array.replicate 378 none
  statics := none }

def pool13 : Array CpInfo := pool [(1, u "java/lang/Cloneable"), (0, .class_ 1), (0, u "java/lang/Object"), (0, .class_ 3)] 3

/-- java/lang/Cloneable -/
def k13 : Class := { plain "java/lang/Cloneable" (some 0) with
  accessFlags := 1537
  interfaces := #[]
  cf := some (fileOf pool13 2 #[] #[] 1537 4 #[] #[])
  fields := #[]
  methods := #[]
  instanceTypes := #[]
  staticTypes := #[]
  resolved := Array.replicate 8 none
  statics := none }

/-- the primitive byte -/
def k14 : Class := { plain "byte" none with kind := .primitive 'B', accessFlags := 0x411 }
/-- [B -/
def k15 : Class := { plain "[B" (some 0) with kind := .array 14 .byte, interfaces := #[13, 2], accessFlags := 1041 }

/-- the primitive char -/
def k16 : Class := { plain "char" none with kind := .primitive 'C', accessFlags := 0x411 }
/-- [C -/
def k17 : Class := { plain "[C" (some 0) with kind := .array 16 .char, interfaces := #[13, 2], accessFlags := 1041 }

/-- the primitive int -/
def k18 : Class := { plain "int" none with kind := .primitive 'I', accessFlags := 0x411 }
/-- [I -/
def k19 : Class := { plain "[I" (some 0) with kind := .array 18 .int, interfaces := #[13, 2], accessFlags := 1041 }

def heap : Heap := #[{ cls := 7, slots := #[.long 0, .int 1, .null, .int 0, .null, .int 0, .int 0], vm := .statics 7 },
  { cls := 11, slots := #[.null, .null, .null], vm := .statics 11 }]
def classes : Array Class := #[k0, k1, k2, k3, k4, k5, k6, k7, k8, k9, k10, k11, k12, k13, k14, k15, k16, k17, k18, k19]
def interned : List (Array UInt16 × Addr) := []
def slotsUsed : Nat := 10
def theMethod : MethodId := ⟨1, 2⟩
def args0 : Array Value := #[.int 5, .int 5, .int 5]
def aboutOver (below : List Frame) : State where
  vm := { classes := classes, interned := interned.toArray }
  heap := heap
  slotsUsed := slotsUsed
  threads := #[{ frames := .invoking theMethod args0 :: below }]
def below0 : List Frame := [.native { method := ⟨0, 0⟩, args := #[] }]
def about1 : State := aboutOver below0
def p0 : Program := .bare "" "" ""
def e0 : Env := launch0.env 0 0 0
theorem w_frames : about1.frames = Frame.invoking theMethod args0 :: below0 := rfl
set_option maxRecDepth 65536 in
theorem w_args : argsFit about1.vm theMethod args0 = true := by decide +kernel
set_option maxRecDepth 65536 in
theorem w_heap : heapFits about1 = true := by decide +kernel
set_option maxRecDepth 65536 in
theorem w_runnable : about1.curStatus? = some .runnable := by decide +kernel
set_option maxRecDepth 65536 in
theorem w_alone : about1.alone = true := by decide +kernel
set_option maxRecDepth 65536 in
theorem w_named : about1.methodNamed? x = some theMethod := by decide +kernel
set_option maxRecDepth 65536 in
theorem w_hears : about1.hears theMethod below0 = true := by decide +kernel
set_option maxRecDepth 65536 in
theorem w_ripe : about1.ripe theMethod args0 below0 = true := by decide +kernel
theorem w_running : about1.status = .running := rfl
set_option maxRecDepth 65536 in
theorem w_room : about1.hasRoom e0.platform room_1 = true :=
  launch0.hasRoom_least _ room_1 (by decide +kernel) (by decide +kernel) (by decide +kernel) (by decide +kernel) (by decide +kernel) (by decide +kernel)
theorem allAtoms_all (ts : List Jvm.Cond) (a : Array Jvm.Value) (st : Jvm.State) : (allAtoms ts).before a st = ts.all (fun c => c.before a st) := by
  induction ts with
  | nil => rfl
  | cons c t ih =>
    show (Jvm.Cond.and c (allAtoms t)).before a st = _
    rw [Jvm.Cond.before_and, ih, List.all_cons]
def words1 : List Jvm.Cond := Jvm.Cond.code x code maxLocals ret :: tables_1
/-- a 'code' word, met by the world's own term for the bytes: nothing is compared byte by byte -/
theorem code_word {y : MethodName} {bytes : ByteArray} {mx : Nat} {rt : Option FieldType} {a : Array Value} {s : State} {m : MethodId} {meth : Method} {c : Code} (h1 : s.methodNamed? y = some m) (h2 : s.vm.method? m = some meth) (h3 : meth.code = some c) (h4 : c.code = bytes)
    (h5 : (c.maxLocals == mx && c.exceptionTable.isEmpty && decide (c.maxStack ≤ mostOperands) && decide (meth.sig.returnType = rt) && !meth.locks && decide (parseMethodDescriptor y.desc = some meth.sig)) = true) : (Jvm.Cond.code y bytes mx rt).before a s = true := by
  simp only [Bool.and_eq_true, beq_iff_eq, Bool.not_eq_true', decide_eq_true_eq] at h5
  obtain ⟨⟨⟨⟨⟨g1, g2⟩, g3⟩, g4⟩, g5⟩, g6⟩ := h5
  simp [Cond.before, Cond.holds, Cond.value, h1, h2, h3, h4, g1, g2, g3, g4, g5, g6]
def isCode : Jvm.Cond → Bool
  | .code _ _ _ _ => true
  | _ => false
theorem all_split {L : List Jvm.Cond} {P : Jvm.Cond → Bool} (h1 : L.all (fun c => isCode c || P c) = true) (h2 : ∀ c ∈ L.filter isCode, P c = true) : L.all P = true := by
  refine List.all_eq_true.mpr fun c hc => ?_
  have h := List.all_eq_true.mp h1 c hc
  rcases Bool.eq_false_or_eq_true (isCode c) with hi | hi
  · exact h2 c (List.mem_filter.mpr ⟨hc, hi⟩)
  · simpa [hi] using h
set_option maxRecDepth 65536 in
theorem w_c0 : (Jvm.Cond.code x code maxLocals ret).before args0 about1 = true := code_word (m := ⟨1, 2⟩) (meth := k1m2) (c := k1c2) (by decide +kernel) rfl rfl rfl (by decide +kernel)
set_option maxRecDepth 65536 in
theorem w_c1 : (Jvm.Cond.code ({ cls := "com/example/enlace/enlace/UriReferenceEqualsPinLaw", name := "text", desc := "(ICC)Ljava/lang/String;" } : Jvm.MethodName) method_2_code (3 : Nat) (Option.some (Jvm.ClassFile.FieldType.object "java/lang/String"))).before args0 about1 = true := code_word (m := ⟨1, 1⟩) (meth := k1m1) (c := k1c1) (by decide +kernel) rfl rfl rfl (by decide +kernel)
set_option maxRecDepth 65536 in
theorem w_c2 : (Jvm.Cond.code ({ cls := "java/lang/String", name := "<init>", desc := "([C)V" } : Jvm.MethodName) jdk_42_method_3_code (2 : Nat) (Option.none : Option Jvm.ClassFile.FieldType)).before args0 about1 = true := code_word (m := ⟨7, 1⟩) (meth := k7m1) (c := k7c1) (by decide +kernel) rfl rfl rfl (by decide +kernel)
set_option maxRecDepth 65536 in
theorem w_c3 : (Jvm.Cond.code ({ cls := "java/lang/String", name := "<init>", desc := "([CIILjava/lang/Void;)V" } : Jvm.MethodName) jdk_42_method_149_code (6 : Nat) (Option.none : Option Jvm.ClassFile.FieldType)).before args0 about1 = true := code_word (m := ⟨7, 3⟩) (meth := k7m3) (c := k7c3) (by decide +kernel) rfl rfl rfl (by decide +kernel)
set_option maxRecDepth 65536 in
theorem w_c4 : (Jvm.Cond.code ({ cls := "java/lang/Object", name := "<init>", desc := "()V" } : Jvm.MethodName) object_method_1_code (1 : Nat) (Option.none : Option Jvm.ClassFile.FieldType)).before args0 about1 = true := code_word (m := ⟨0, 0⟩) (meth := k0m0) (c := k0c0) (by decide +kernel) rfl rfl rfl (by decide +kernel)
set_option maxRecDepth 65536 in
theorem w_c5 : (Jvm.Cond.code ({ cls := "com/example/enlace/enlace/UriReference", name := "<init>", desc := "(Ljava/lang/String;Ljava/lang/String;Ljava/lang/String;Ljava/lang/String;Ljava/lang/String;Ljava/lang/String;Ljava/lang/String;Ljava/lang/String;)V" } : Jvm.MethodName) prog_18_method_1_code (9 : Nat) (Option.none : Option Jvm.ClassFile.FieldType)).before args0 about1 = true := code_word (m := ⟨8, 0⟩) (meth := k8m0) (c := k8c0) (by decide +kernel) rfl rfl rfl (by decide +kernel)
set_option maxRecDepth 65536 in
theorem w_c6 : (Jvm.Cond.code ({ cls := "com/example/enlace/enlace/UriReference", name := "equals", desc := "(Ljava/lang/Object;)Z" } : Jvm.MethodName) prog_18_method_19_code (2 : Nat) (Option.some Jvm.ClassFile.FieldType.boolean)).before args0 about1 = true := code_word (m := ⟨8, 1⟩) (meth := k8m1) (c := k8c1) (by decide +kernel) rfl rfl rfl (by decide +kernel)
set_option maxRecDepth 65536 in
theorem w_c7 : (Jvm.Cond.code ({ cls := "java/lang/String", name := "equals", desc := "(Ljava/lang/Object;)Z" } : Jvm.MethodName) jdk_42_method_66_code (3 : Nat) (Option.some Jvm.ClassFile.FieldType.boolean)).before args0 about1 = true := code_word (m := ⟨7, 2⟩) (meth := k7m2) (c := k7c2) (by decide +kernel) rfl rfl rfl (by decide +kernel)
set_option maxRecDepth 65536 in
theorem w_c8 : (Jvm.Cond.code ({ cls := "java/lang/StringLatin1", name := "equals", desc := "([B[B)Z" } : Jvm.MethodName) jdk_43_method_13_code (3 : Nat) (Option.some Jvm.ClassFile.FieldType.boolean)).before args0 about1 = true := code_word (m := ⟨9, 1⟩) (meth := k9m1) (c := k9c1) (by decide +kernel) rfl rfl rfl (by decide +kernel)
set_option maxRecDepth 65536 in
theorem w_c9 : (Jvm.Cond.code ({ cls := "java/lang/StringUTF16", name := "compress", desc := "([CII)[B" } : Jvm.MethodName) jdk_52_method_16_code (6 : Nat) (Option.some (Jvm.ClassFile.FieldType.array Jvm.ClassFile.FieldType.byte))).before args0 about1 = true := code_word (m := ⟨10, 2⟩) (meth := k10m2) (c := k10c2) (by decide +kernel) rfl rfl rfl (by decide +kernel)
set_option maxRecDepth 65536 in
theorem w_c10 : (Jvm.Cond.code ({ cls := "java/lang/StringUTF16", name := "compress", desc := "([CI[BII)I" } : Jvm.MethodName) jdk_52_method_21_code (7 : Nat) (Option.some Jvm.ClassFile.FieldType.int)).before args0 about1 = true := code_word (m := ⟨10, 3⟩) (meth := k10m3) (c := k10c3) (by decide +kernel) rfl rfl rfl (by decide +kernel)
set_option maxRecDepth 65536 in
theorem w_c11 : (Jvm.Cond.code ({ cls := "java/lang/StringUTF16", name := "coderFromArrayLen", desc := "([BI)B" } : Jvm.MethodName) jdk_52_method_15_code (2 : Nat) (Option.some Jvm.ClassFile.FieldType.byte)).before args0 about1 = true := code_word (m := ⟨10, 1⟩) (meth := k10m1) (c := k10c1) (by decide +kernel) rfl rfl rfl (by decide +kernel)
def codes1 : List Jvm.Cond := [Jvm.Cond.code x code maxLocals ret, Jvm.Cond.code ({ cls := "com/example/enlace/enlace/UriReferenceEqualsPinLaw", name := "text", desc := "(ICC)Ljava/lang/String;" } : Jvm.MethodName) method_2_code (3 : Nat) (Option.some (Jvm.ClassFile.FieldType.object "java/lang/String")), Jvm.Cond.code ({ cls := "java/lang/String", name := "<init>", desc := "([C)V" } : Jvm.MethodName) jdk_42_method_3_code (2 : Nat) (Option.none : Option Jvm.ClassFile.FieldType), Jvm.Cond.code ({ cls := "java/lang/String", name := "<init>", desc := "([CIILjava/lang/Void;)V" } : Jvm.MethodName) jdk_42_method_149_code (6 : Nat) (Option.none : Option Jvm.ClassFile.FieldType), Jvm.Cond.code ({ cls := "java/lang/Object", name := "<init>", desc := "()V" } : Jvm.MethodName) object_method_1_code (1 : Nat) (Option.none : Option Jvm.ClassFile.FieldType), Jvm.Cond.code ({ cls := "com/example/enlace/enlace/UriReference", name := "<init>", desc := "(Ljava/lang/String;Ljava/lang/String;Ljava/lang/String;Ljava/lang/String;Ljava/lang/String;Ljava/lang/String;Ljava/lang/String;Ljava/lang/String;)V" } : Jvm.MethodName) prog_18_method_1_code (9 : Nat) (Option.none : Option Jvm.ClassFile.FieldType), Jvm.Cond.code ({ cls := "com/example/enlace/enlace/UriReference", name := "equals", desc := "(Ljava/lang/Object;)Z" } : Jvm.MethodName) prog_18_method_19_code (2 : Nat) (Option.some Jvm.ClassFile.FieldType.boolean), Jvm.Cond.code ({ cls := "java/lang/String", name := "equals", desc := "(Ljava/lang/Object;)Z" } : Jvm.MethodName) jdk_42_method_66_code (3 : Nat) (Option.some Jvm.ClassFile.FieldType.boolean), Jvm.Cond.code ({ cls := "java/lang/StringLatin1", name := "equals", desc := "([B[B)Z" } : Jvm.MethodName) jdk_43_method_13_code (3 : Nat) (Option.some Jvm.ClassFile.FieldType.boolean), Jvm.Cond.code ({ cls := "java/lang/StringUTF16", name := "compress", desc := "([CII)[B" } : Jvm.MethodName) jdk_52_method_16_code (6 : Nat) (Option.some (Jvm.ClassFile.FieldType.array Jvm.ClassFile.FieldType.byte)), Jvm.Cond.code ({ cls := "java/lang/StringUTF16", name := "compress", desc := "([CI[BII)I" } : Jvm.MethodName) jdk_52_method_21_code (7 : Nat) (Option.some Jvm.ClassFile.FieldType.int), Jvm.Cond.code ({ cls := "java/lang/StringUTF16", name := "coderFromArrayLen", desc := "([BI)B" } : Jvm.MethodName) jdk_52_method_15_code (2 : Nat) (Option.some Jvm.ClassFile.FieldType.byte)]
set_option maxRecDepth 65536 in
theorem codes_eq : words1.filter isCode = codes1 := rfl
theorem w_codes : ∀ c ∈ words1.filter isCode, c.before args0 about1 = true := by
  rw [codes_eq]
  intro c hc
  simp only [codes1, List.mem_cons, List.not_mem_nil, or_false] at hc
  rcases hc with rfl | rfl | rfl | rfl | rfl | rfl | rfl | rfl | rfl | rfl | rfl | rfl
  · exact w_c0
  · exact w_c1
  · exact w_c2
  · exact w_c3
  · exact w_c4
  · exact w_c5
  · exact w_c6
  · exact w_c7
  · exact w_c8
  · exact w_c9
  · exact w_c10
  · exact w_c11
set_option maxRecDepth 65536 in
theorem w_t1 : (words1.take 24).all (fun c => isCode c || c.before args0 about1) = true := by decide +kernel
set_option maxRecDepth 65536 in
theorem w_t2 : ((words1.drop 24).take 24).all (fun c => isCode c || c.before args0 about1) = true := by decide +kernel
set_option maxRecDepth 65536 in
theorem w_t3 : (((words1.drop 24).drop 24).take 24).all (fun c => isCode c || c.before args0 about1) = true := by decide +kernel
set_option maxRecDepth 65536 in
theorem w_t4 : (((words1.drop 24).drop 24).drop 24).all (fun c => isCode c || c.before args0 about1) = true := by decide +kernel
theorem w_tables : (allAtoms (Jvm.Cond.code x code maxLocals ret :: tables_1)).before args0 about1 = true := by
  rw [allAtoms_all]
  show words1.all (fun c => c.before args0 about1) = true
  refine all_split ?_ w_codes
  rw [← List.take_append_drop 24 words1, List.all_append, w_t1, ← List.take_append_drop 24 (words1.drop 24), List.all_append, w_t2, ← List.take_append_drop 24 ((words1.drop 24).drop 24), List.all_append, w_t3, w_t4]
  rfl
set_option maxRecDepth 65536 in
theorem w_rest : rest_1_c.before args0 about1 = true := by decide +kernel
set_option maxRecDepth 65536 in
theorem w_case : (Jvm.Cond.and given_1 narrow_1).before args0 about1 = true := by decide +kernel
set_option maxRecDepth 65536 in
theorem w_consts : constsHeld consts_1 about1 := Jvm.Lit.constsHeldB_iff.mp (by decide +kernel)
theorem w_applies : (headSpec (Jvm.Cond.code x code maxLocals ret :: tables_1) room_1).applies x e0.platform about1 = true :=
  (Spec.applies_iff w_frames).mpr ⟨w_running, w_runnable, w_alone, w_named, w_hears, w_ripe, w_room, w_tables⟩
theorem atStart : AtStart classFile x code maxLocals ret World_1 tables_1 room_1 Calls_1 rest_1 Pre_1 launch0 p0 e0 about1 theMethod args0 below0 :=
  ⟨lists_1, trivial, launch0.admits_env _ _ _, launch0.least_env, fairChoices_fair.cas, fairChoices_fair.clock, w_frames, w_args, w_heap, w_applies, ⟨w_consts, trivial⟩, w_rest, w_case⟩
end start1
theorem witness_1 : WitnessClaimed_1 := ⟨start1.p0, start1.e0, start1.about1, start1.theMethod, start1.args0, start1.below0, start1.atStart⟩
end Jvm.Pilot.@@N@@
